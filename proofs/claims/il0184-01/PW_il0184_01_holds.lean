import PyProof.Rows.All
import Wide.All
import OpenK.AllK
import Wide.FinOn
import PySem.Challenge.RW_il0184_01
open PySem PySem.W PySem.Calls PyProof.Rows
set_option Elab.async false
set_option maxRecDepth 1000000
set_option maxHeartbeats 0
namespace Mine
/-- lay the objects of a list, one by one, into a tree -/
noncomputable def treeOf : List Obj → Nat → BT → Option BT
  | [], _, T => some T
  | o :: l, n, T => match ((T.ins n o).get n).isSome with
    | true => treeOf l (n + 1) (T.ins n o)
    | false => none
theorem treeOf_abs {life : Life} : ∀ {l : List Obj} {n : Nat} {T T' : BT}, treeOf l n T = some T' → absHeap T' (n + l.length) life = ⟨(absHeap T n life).objs ++ l.toArray, life⟩
  | [], n, T, T', h => by cases h; simp [absHeap]
  | o :: l, n, T, T', h => by
    unfold treeOf at h
    cases e : ((T.ins n o).get n).isSome with
    | false => rw [e] at h; cases h
    | true =>
      rw [e] at h
      have q := treeOf_abs (life := life) h
      have : n + (o :: l).length = n + 1 + l.length := by simp [Nat.add_assoc, Nat.add_comm 1]
      rw [this, q, absHeap_ins e]
      show Heap.mk _ _ = Heap.mk _ _
      congr 1
      apply Array.ext'
      simp [Heap.push]
theorem tree_abs {l : List Obj} {life : Life} {T : BT} (h : treeOf l 0 .nil = some T) : absHeap T l.length life = ⟨l.toArray, life⟩ := by
  have := treeOf_abs (life := life) h
  rw [Nat.zero_add] at this
  rw [this]
  show Heap.mk _ _ = Heap.mk _ _
  congr 1
  apply Array.ext'
  simp [absHeap, BT.list]

/-- the tree's first objects as a list -/
noncomputable def lst {α : Type} (T : BT) : Nat → List Obj → (List Obj → Option α) → Option α
  | 0, acc, k => k acc
  | n + 1, acc, k => match T.get n with
    | some o => lst T n (o :: acc) k
    | none => none
theorem lst_of {α : Type} {T : BT} {k : List Obj → Option α} {x : α} : ∀ {n : Nat} {acc : List Obj}, lst T n acc k = some x → k (T.list n ++ acc) = some x
  | 0, acc, h => by simpa [lst, BT.list] using h
  | n + 1, acc, h => by
    unfold lst at h
    cases e : T.get n with
    | none => rw [e] at h; cases h
    | some o =>
      rw [e] at h
      have := lst_of h
      simpa [BT.list, List.range_succ, e] using this

/-- a number whose term is free of letters: its predecessor stands as a literal -/
noncomputable def clo {α : Type} (n : Nat) (k : Nat → α) : α := match n with
  | 0 => k 0
  | m + 1 => k (Nat.succ m)
theorem clo_eq {α : Type} (n : Nat) (k : Nat → α) : clo n k = k n := by cases n <;> rfl
noncomputable def cnt {α : Type} : Nat → Nat → (Nat → α) → α
  | 0, a, k => k a
  | m + 1, a, k => cnt m (Nat.succ a) k
theorem cnt_eq {α : Type} : ∀ (n a : Nat) (k : Nat → α), cnt n a k = k (a + n)
  | 0, a, k => rfl
  | m + 1, a, k => by
    show cnt m (Nat.succ a) k = _
    rw [cnt_eq m]
    congr 1
    omega
noncomputable def doneC : Sem Fin → Bool
  | .pure (.done _) => true
  | _ => false
theorem turn_ok {tb : String → Option Builtin} {p : Program} {w : World} {n₀ n : Nat} {ann : Option Value} {s s' : SharedT} {t t' : Thread} {x : Option Shared} (hc : through t = false) (hk : stepOk n₀ ann t = true)
    (hs : stepT (denote tb) p w s t = some (s', t')) (h : topRun tb p w n₀ ann n s'.abs t' = x) : topRun tb p w n₀ ann (n + 1) s.abs t = x := by
  unfold topRun
  rw [hc, hk, stepT_spec hs]
  exact h
noncomputable abbrev GoT := BT → Nat → Life → Array GenState → Drawn → Nat → OsState → Sem Fin → Code → Pos → List Frame → Option SharedT
noncomputable def slowF (stp : SharedT → Thread → Option (SharedT × Thread)) (ok : Thread → Bool) (go : GoT) (s : SharedT) (t : Thread) : Option SharedT :=
  match through t with
  | true => some s
  | false => match ok t with
    | false => none
    | true => match stp s t with
      | some (⟨T, n, life, gens, drawn, toks, os⟩, ⟨cur, code, pos, stack⟩) => clo n fun n => clo toks fun toks => go T n life gens drawn toks os cur code pos stack
      | none => none
noncomputable def turnF (set : Setting) (may : Nat → Bool) (stp : SharedT → Thread → Option (SharedT × Thread)) (ok : Thread → Bool) (go : GoT) : GoT :=
  fun T n life gens drawn toks os cur code pos stack => match cur with
  | .rule _ k => go T n life gens drawn toks os (k ()) code pos stack
  | .at q k => go T n life gens drawn toks os (k ()) code q stack
  | .point _ k => go T n life gens drawn toks os (k ()) code pos stack
  | .ask k => go T n life gens drawn toks os (k set) code pos stack
  | .fresh k => go T n life gens drawn (Nat.succ toks) os (k toks) code pos stack
  | .load a _ k => match Nat.blt a n with
    | true => match T.get a with
      | some o => match alive o with
        | some o' => go T n life gens drawn toks os (k o') code pos stack
        | none => none
      | none => none
    | false => none
  | .update a _ f k => match may a with
    | true => match Nat.blt a n with
      | true => match T.get a with
        | some o => match alive o with
          | some _ => go (T.set a f) n life gens drawn toks os (k ()) code pos stack
          | none => none
        | none => none
      | false => none
    | false => none
  | .alloc o k => match ((T.ins n o).get n).isSome with
    | true => go (T.ins n o) (Nat.succ n) life gens drawn toks os (k n) code pos stack
    | false => none
  | .loadIfAlive a k => match Nat.blt a n with
    | true => match T.get a with
      | some o => go T n life gens drawn toks os (k (alive o)) code pos stack
      | none => none
    | false => go T n life gens drawn toks os (k none) code pos stack
  | .pure (.done f) => match stack with
    | .ret k _ _ _ c q _ :: rest => go T n life gens drawn toks os (k (.ok f)) c q rest
    | l => slowF stp ok go ⟨T, n, life, gens, drawn, toks, os⟩ ⟨.pure (.done f), code, pos, l⟩
  | c => slowF stp ok go ⟨T, n, life, gens, drawn, toks, os⟩ ⟨c, code, pos, stack⟩
noncomputable def runF (set : Setting) (may : Nat → Bool) (stp : SharedT → Thread → Option (SharedT × Thread)) (ok : Thread → Bool) (n : Nat) : GoT :=
  @Nat.rec (fun _ => GoT) (fun _ _ _ _ _ _ _ _ _ _ _ => none) (fun _ go => turnF set may stp ok go) n
theorem slowF_of {tb : String → Option Builtin} {p : Program} {w : World} {n₀ : Nat} {ann : Option Value} {n : Nat} {go : GoT} {s' : SharedT}
    (ih : ∀ {T m life gens drawn toks os cur code pos stack}, go T m life gens drawn toks os cur code pos stack = some s' → topRun tb p w n₀ ann n (SharedT.mk T m life gens drawn toks os).abs ⟨cur, code, pos, stack⟩ = some s'.abs)
    {s : SharedT} {t : Thread} (h : slowF (stepT (denote tb) p w) (stepOk n₀ ann) go s t = some s') : topRun tb p w n₀ ann (n + 1) s.abs t = some s'.abs := by
  unfold slowF at h
  cases ht : through t with
  | true => rw [ht] at h; cases h; unfold topRun; rw [ht]
  | false =>
    rw [ht] at h
    cases hk : stepOk n₀ ann t with
    | false => rw [hk] at h; cases h
    | true =>
      rw [hk] at h
      cases hs : stepT (denote tb) p w s t with
      | none => rw [hs] at h; cases h
      | some r =>
        obtain ⟨⟨T, m, life, gens, drawn, toks, os⟩, ⟨cur, code, pos, stack⟩⟩ := r
        rw [hs] at h
        dsimp only at h
        rw [clo_eq, clo_eq] at h
        exact turn_ok ht hk hs (ih h)
theorem runF_of {tb : String → Option Builtin} {p : Program} {w : World} {n₀ : Nat} {ann : Option Value} {s' : SharedT} : ∀ {n : Nat} {T m life gens drawn toks os cur code pos stack},
    runF ⟨p, w.params⟩ (fun a => Nat.ble n₀ a || a == mainNs || a == cStatics || ann == some (.ref a)) (stepT (denote tb) p w) (stepOk n₀ ann) n T m life gens drawn toks os cur code pos stack = some s' →
      topRun tb p w n₀ ann n (SharedT.mk T m life gens drawn toks os).abs ⟨cur, code, pos, stack⟩ = some s'.abs
  | 0, _, _, _, _, _, _, _, _, _, _, _, h => by cases h
  | n + 1, T, m, life, gens, drawn, toks, os, cur, code, pos, stack, h => by
    have ih := @runF_of tb p w n₀ ann s' n
    change turnF _ _ _ _ (runF _ _ _ _ n) T m life gens drawn toks os cur code pos stack = some s' at h
    have off : ∀ c : Sem Fin, doneC c = false → through ⟨c, code, pos, stack⟩ = false := fun c e => by
      unfold through
      rw [Bool.and_eq_false_iff]
      exact .inr e
    unfold turnF at h
    cases cur with
    | rule t k => exact turn_ok (off _ rfl) rfl rfl (ih h)
    | «at» q k => exact turn_ok (off _ rfl) rfl rfl (ih h)
    | point l k => exact turn_ok (off _ rfl) rfl rfl (ih h)
    | ask k => exact turn_ok (off _ rfl) rfl rfl (ih h)
    | fresh k => exact turn_ok (off _ rfl) rfl rfl (ih h)
    | load a q k =>
      dsimp only at h
      cases e1 : Nat.blt a m with
      | false => rw [e1] at h; cases h
      | true =>
        rw [e1] at h
        cases e2 : T.get a with
        | none => rw [e2] at h; cases h
        | some o =>
          rw [e2] at h
          cases e3 : alive o with
          | none => simp only [e3] at h; cases h
          | some o' =>
            simp only [e3] at h
            exact turn_ok (off _ rfl) rfl (by simp only [stepT, e1, e2, e3]) (ih h)
    | update a q f k =>
      dsimp only at h
      cases e0 : (Nat.ble n₀ a || a == mainNs || a == cStatics || ann == some (.ref a)) with
      | false => rw [e0] at h; cases h
      | true =>
        rw [e0] at h
        cases e1 : Nat.blt a m with
        | false => rw [e1] at h; cases h
        | true =>
          rw [e1] at h
          cases e2 : T.get a with
          | none => rw [e2] at h; cases h
          | some o =>
            rw [e2] at h
            cases e3 : alive o with
            | none => simp only [e3] at h; cases h
            | some o' =>
              simp only [e3] at h
              exact turn_ok (off _ rfl) e0 (by simp only [stepT, e1, e2, e3]) (ih h)
    | alloc o k =>
      dsimp only at h
      cases e1 : ((T.ins m o).get m).isSome with
      | false => rw [e1] at h; cases h
      | true =>
        rw [e1] at h
        exact turn_ok (off _ rfl) rfl (by simp only [stepT, e1]) (ih h)
    | loadIfAlive a k =>
      dsimp only at h
      cases e1 : Nat.blt a m with
      | false =>
        rw [e1] at h
        exact turn_ok (off _ rfl) rfl (by simp only [stepT, e1]) (ih h)
      | true =>
        rw [e1] at h
        cases e2 : T.get a with
        | none => rw [e2] at h; cases h
        | some o =>
          rw [e2] at h
          exact turn_ok (off _ rfl) rfl (by simp only [stepT, e1, e2]) (ih h)
    | pure f =>
      cases f with
      | again c => exact slowF_of ih h
      | done f =>
        cases stack with
        | nil => exact slowF_of ih h
        | cons fr rest => cases fr <;> first | exact slowF_of ih h | exact turn_ok rfl rfl rfl (ih h)
    | _ => exact slowF_of ih h

/-- lay the objects of a list, one by one, into a tree, and count them -/
noncomputable def treeOf2 {α : Type} : List Obj → Nat → BT → (BT → Nat → Option α) → Option α
  | [], n, T, k => k T n
  | o :: l, n, T, k => match ((T.ins n o).get n).isSome with
    | true => treeOf2 l (Nat.succ n) (T.ins n o) k
    | false => none
theorem treeOf2_of {α : Type} {k : BT → Nat → Option α} {x : α} : ∀ {l : List Obj} {n : Nat} {T : BT}, treeOf2 l n T k = some x → ∃ T', treeOf l n T = some T' ∧ k T' (n + l.length) = some x
  | [], n, T, h => ⟨T, rfl, h⟩
  | o :: l, n, T, h => by
    unfold treeOf2 at h
    unfold treeOf
    cases e : ((T.ins n o).get n).isSome with
    | false => rw [e] at h; cases h
    | true =>
      rw [e] at h
      obtain ⟨T', a, b⟩ := treeOf2_of h
      refine ⟨T', a, ?_⟩
      rw [← b]
      congr 1
      simp only [List.length_cons]
      omega
noncomputable def runAll2 {β γ : Type} (set : Setting) (fen : Option Shared) (stp : SharedT → Thread → Option (SharedT × Thread)) (ok : Nat → Option Value → Thread → Bool) (stub : Thread) (N : Nat) (fin : Shared → Shared → Option β) (Y : SharedT → γ) : Option (β × γ) :=
  fen.bind fun s₀ => match s₀.heap.isNs mainGlobals && s₀.gens.size == 0 with
    | true => treeOf2 s₀.heap.objs.toList 0 .nil fun T n => cnt s₀.toks 0 fun toks => cnt s₀.drawn.order 0 fun d1 => cnt s₀.drawn.schedule 0 fun d2 => cnt s₀.drawn.lifetime 0 fun d3 => cnt s₀.drawn.other 0 fun d4 =>
      (runF set (fun a => Nat.ble n a || a == mainNs || a == cStatics || s₀.heap.nsMap mainGlobals "__annotations__" == some (.ref a)) stp (ok n (s₀.heap.nsMap mainGlobals "__annotations__")) N T n s₀.heap.life #[] ⟨d1, d2, d3, d4⟩ toks s₀.os stub.cur stub.code stub.pos stub.stack).bind fun s =>
        lst s.tree s.n [] fun l => (fin s₀ ⟨⟨l.toArray, s.life⟩, s.gens, s.drawn, s.toks, s.os⟩).map fun x => (x, Y s)
    | false => none
/-- an object of the tree -/
noncomputable def getT (s : SharedT) (a : Nat) : Option Obj := match Nat.blt a s.n with
  | true => match s.tree.get a with
    | some o => alive o
    | none => alive default
  | false => none
theorem getT_eq (s : SharedT) (a : Nat) : s.abs.heap.get? a = getT s a := by
  obtain ⟨T, n, life, gens, drawn, toks, os⟩ := s
  unfold getT SharedT.abs
  dsimp only
  rw [PySem.W.S.blt_dec]
  by_cases h : a < n
  · rw [decide_eq_true h]
    unfold Heap.get?
    rw [absHeap_at, if_pos h]
    cases T.get a with
    | none => rfl
    | some o =>
      obtain ⟨c, d, dt, sl⟩ := o
      cases dt <;> rfl
  · rw [decide_eq_false h, abs_get_none h]
noncomputable def obsT (as ts : List Nat) (s : SharedT) : List (Option Obj) × List (Option Obj) := (as.map (getT s), ts.map (getT s))
theorem obsT_eq (as ts : List Nat) (s : SharedT) : (as.map s.abs.heap.get?, ts.map s.abs.heap.get?) = obsT as ts s := by
  unfold obsT
  rw [show s.abs.heap.get? = getT s from funext (getT_eq s)]
theorem openSeen_g {q : Program} {loose mods : List Str} {Xt : Shared → Bool} : ∀ {s : Shared}, s.gens = #[] → openSeen q loose mods Xt true s =
    (seen ((recsOf q).map (·.name)) (ownsOf q) [] s, s.heap.bltView,
     s.heap.keysOk (looseW q loose) ((recsOf q).map (·.name)) ((litsOf q).map (·.1)) ((clssOf q (looseW q loose)).map (·.name)) && s.heap.accountedOkI mods && s.heap.isNs mainGlobals && s.heap.isNs builtinsNs && tablesOk q s.heap && Xt s && s.gens.size == 0,
     tabsOk q s, pinSeenD q (drecsOf q) s, plainSeenE q (looseW q loose) s, plainSeenD q loose s, wideSeen q s, clsSeenW q loose s)
  | ⟨_, _, _, _, _⟩, h => by cases h; rfl
noncomputable def seenEnd {β : Type} (p : Program) (sn : Shared → β) (s₀ s₁ : Shared) : Option β :=
  match staticsOk (importedModules p.main.body) s₀.heap s₁.heap && namesBound p s₁.heap && gensDone s₁ && laidKept s₀.heap s₁.heap && s₁.gens.size == 0 with
  | true => some (sn s₁)
  | false => none

theorem leftO_of2 {p q : Program} {loose : List Str} {Xt : Shared → Bool} {α : Type} {Yf : Shared → α} {Ya : World → α} {N : Nat} {sn : Shared → _} (hsn : ∀ s : Shared, s.gens = #[] → openSeen q loose (importedModules p.main.body) Xt true s = sn s) (Y : SharedT → α) (hY : ∀ s : SharedT, Yf s.abs = Y s)
    (h : ∀ w, runAll2 ⟨p, w.params⟩ (fencedOpening treeTable p w N) (stepT (denote treeTable) p w) stepOk (topStub p) N (seenEnd p sn) Y = some (openGood q loose, Ya w)) :
    LeftO p q loose Xt Yf Ya N := fun w => by
  have h := h w
  unfold runAll2 at h
  obtain ⟨s₀, h0, h⟩ := Option.bind_eq_some_iff.mp h
  unfold openEnds
  rw [h0]
  show (topFrom treeTable p w N s₀).map _ = _
  unfold topFrom
  cases hg : (s₀.heap.isNs mainGlobals && s₀.gens.size == 0) with
  | false => rw [hg] at h; cases h
  | true =>
    rw [hg] at h
    obtain ⟨T, hT, h⟩ := treeOf2_of h
    simp only [cnt_eq, Nat.zero_add] at h
    have eg : s₀.gens = #[] := Array.eq_empty_of_size_eq_zero (beq_iff_eq.mp (Bool.and_eq_true_iff.mp hg).2)
    obtain ⟨s, hs, h⟩ := Option.bind_eq_some_iff.mp h
    have a := runF_of hs
    have b := tree_abs (life := s₀.heap.life) hT
    have c := lst_of h
    rw [List.append_nil] at c
    have e0 : (SharedT.mk T s₀.heap.objs.toList.length s₀.heap.life #[] s₀.drawn s₀.toks s₀.os).abs = s₀ := by
      unfold SharedT.abs
      dsimp only
      rw [b, ← eg]
    have a' : topRun treeTable p w s₀.heap.objs.toList.length (s₀.heap.nsMap mainGlobals "__annotations__") N (SharedT.mk T s₀.heap.objs.toList.length s₀.heap.life #[] s₀.drawn s₀.toks s₀.os).abs (topStub p) = some s.abs := a
    rw [e0] at a'
    dsimp only
    have e2 : s₀.heap.objs.toList.length = s₀.heap.objs.size := Array.length_toList
    rw [e2] at a'
    rw [a']
    have e1 : (⟨⟨(s.tree.list s.n).toArray, s.life⟩, s.gens, s.drawn, s.toks, s.os⟩ : Shared) = s.abs := rfl
    rw [e1] at c
    unfold seenEnd at c
    show ((match staticsOk (importedModules p.main.body) s₀.heap s.abs.heap && namesBound p s.abs.heap && gensDone s.abs && laidKept s₀.heap s.abs.heap with
      | true => some s.abs
      | false => none) : Option Shared).map _ = _
    cases hc : (staticsOk (importedModules p.main.body) s₀.heap s.abs.heap && namesBound p s.abs.heap && gensDone s.abs && laidKept s₀.heap s.abs.heap) with
    | false => rw [hc] at c; cases c
    | true =>
      rw [hc] at c
      cases hz : (s.abs.gens.size == 0) with
      | false => rw [hz] at c; cases c
      | true =>
        rw [hz] at c
        rw [← hY s, ← hsn s.abs (Array.eq_empty_of_size_eq_zero (beq_iff_eq.mp hz))] at c
        exact c
/-- the parts of a def of the text, by its place -/
noncomputable def hd.defIn (l : List Stmt) : List Nat → Arguments × List Stmt × Scope
  | [] => default
  | i :: r => match l[i]? with
    | some (.FunctionDef _ p b _ _ _ c ..) => (p, b, c)
    | some (.ClassDef _ _ _ b ..) => hd.defIn b r
    | _ => default
noncomputable def hd.defAt (r : List Nat) : Arguments × List Stmt × Scope := hd.defIn PySem.Challenge.pw_il0184_01.main.body r
/-- a value, as it is written behind its reduction -/
noncomputable abbrev hd.litOf {α : Type} {x l : α} (_ : x = l) : α := l
noncomputable abbrev f44.b : List Stmt := by
  refine (?f : (hd.defAt [2]).2.1 = ?l → List Stmt) ?p
  case p => conv => lhs; whnf
  case f => intro _; exact ?l
noncomputable abbrev f44.p : Arguments := by
  refine (?f : (hd.defAt [2]).1 = ?l → Arguments) ?p
  case p => conv => lhs; whnf
  case f => intro _; exact ?l
noncomputable abbrev f44.c : Scope := by
  refine (?f : (hd.defAt [2]).2.2 = ?l → Scope) ?p
  case p => conv => lhs; whnf
  case f => intro _; exact ?l
noncomputable abbrev f56.b : List Stmt := by
  refine (?f : (hd.defAt [5]).2.1 = ?l → List Stmt) ?p
  case p => conv => lhs; whnf
  case f => intro _; exact ?l
noncomputable abbrev f56.p : Arguments := by
  refine (?f : (hd.defAt [5]).1 = ?l → Arguments) ?p
  case p => conv => lhs; whnf
  case f => intro _; exact ?l
noncomputable abbrev f56.c : Scope := by
  refine (?f : (hd.defAt [5]).2.2 = ?l → Scope) ?p
  case p => conv => lhs; whnf
  case f => intro _; exact ?l
noncomputable abbrev f63.b : List Stmt := by
  refine (?f : (hd.defAt [6]).2.1 = ?l → List Stmt) ?p
  case p => conv => lhs; whnf
  case f => intro _; exact ?l
noncomputable abbrev f63.p : Arguments := by
  refine (?f : (hd.defAt [6]).1 = ?l → Arguments) ?p
  case p => conv => lhs; whnf
  case f => intro _; exact ?l
noncomputable abbrev f63.c : Scope := by
  refine (?f : (hd.defAt [6]).2.2 = ?l → Scope) ?p
  case p => conv => lhs; whnf
  case f => intro _; exact ?l
noncomputable abbrev f90.b : List Stmt := by
  refine (?f : (hd.defAt [8, 1]).2.1 = ?l → List Stmt) ?p
  case p => conv => lhs; whnf
  case f => intro _; exact ?l
noncomputable abbrev f90.p : Arguments := by
  refine (?f : (hd.defAt [8, 1]).1 = ?l → Arguments) ?p
  case p => conv => lhs; whnf
  case f => intro _; exact ?l
noncomputable abbrev f90.c : Scope := by
  refine (?f : (hd.defAt [8, 1]).2.2 = ?l → Scope) ?p
  case p => conv => lhs; whnf
  case f => intro _; exact ?l
noncomputable abbrev f367.b : List Stmt := by
  refine (?f : (hd.defAt [12, 1]).2.1 = ?l → List Stmt) ?p
  case p => conv => lhs; whnf
  case f => intro _; exact ?l
noncomputable abbrev f367.p : Arguments := by
  refine (?f : (hd.defAt [12, 1]).1 = ?l → Arguments) ?p
  case p => conv => lhs; whnf
  case f => intro _; exact ?l
noncomputable abbrev f367.c : Scope := by
  refine (?f : (hd.defAt [12, 1]).2.2 = ?l → Scope) ?p
  case p => conv => lhs; whnf
  case f => intro _; exact ?l
noncomputable abbrev f374.b : List Stmt := by
  refine (?f : (hd.defAt [12, 2]).2.1 = ?l → List Stmt) ?p
  case p => conv => lhs; whnf
  case f => intro _; exact ?l
noncomputable abbrev f374.p : Arguments := by
  refine (?f : (hd.defAt [12, 2]).1 = ?l → Arguments) ?p
  case p => conv => lhs; whnf
  case f => intro _; exact ?l
noncomputable abbrev f374.c : Scope := by
  refine (?f : (hd.defAt [12, 2]).2.2 = ?l → Scope) ?p
  case p => conv => lhs; whnf
  case f => intro _; exact ?l
noncomputable abbrev f381.b : List Stmt := by
  refine (?f : (hd.defAt [12, 3]).2.1 = ?l → List Stmt) ?p
  case p => conv => lhs; whnf
  case f => intro _; exact ?l
noncomputable abbrev f381.p : Arguments := by
  refine (?f : (hd.defAt [12, 3]).1 = ?l → Arguments) ?p
  case p => conv => lhs; whnf
  case f => intro _; exact ?l
noncomputable abbrev f381.c : Scope := by
  refine (?f : (hd.defAt [12, 3]).2.2 = ?l → Scope) ?p
  case p => conv => lhs; whnf
  case f => intro _; exact ?l
noncomputable abbrev f388.b : List Stmt := by
  refine (?f : (hd.defAt [12, 4]).2.1 = ?l → List Stmt) ?p
  case p => conv => lhs; whnf
  case f => intro _; exact ?l
noncomputable abbrev f388.p : Arguments := by
  refine (?f : (hd.defAt [12, 4]).1 = ?l → Arguments) ?p
  case p => conv => lhs; whnf
  case f => intro _; exact ?l
noncomputable abbrev f388.c : Scope := by
  refine (?f : (hd.defAt [12, 4]).2.2 = ?l → Scope) ?p
  case p => conv => lhs; whnf
  case f => intro _; exact ?l
noncomputable abbrev f402.b : List Stmt := by
  refine (?f : (hd.defAt [12, 6]).2.1 = ?l → List Stmt) ?p
  case p => conv => lhs; whnf
  case f => intro _; exact ?l
noncomputable abbrev f402.p : Arguments := by
  refine (?f : (hd.defAt [12, 6]).1 = ?l → Arguments) ?p
  case p => conv => lhs; whnf
  case f => intro _; exact ?l
noncomputable abbrev f402.c : Scope := by
  refine (?f : (hd.defAt [12, 6]).2.2 = ?l → Scope) ?p
  case p => conv => lhs; whnf
  case f => intro _; exact ?l
noncomputable abbrev f442.b : List Stmt := by
  refine (?f : (hd.defAt [12, 11]).2.1 = ?l → List Stmt) ?p
  case p => conv => lhs; whnf
  case f => intro _; exact ?l
noncomputable abbrev f442.p : Arguments := by
  refine (?f : (hd.defAt [12, 11]).1 = ?l → Arguments) ?p
  case p => conv => lhs; whnf
  case f => intro _; exact ?l
noncomputable abbrev f442.c : Scope := by
  refine (?f : (hd.defAt [12, 11]).2.2 = ?l → Scope) ?p
  case p => conv => lhs; whnf
  case f => intro _; exact ?l
noncomputable abbrev f543.b : List Stmt := by
  refine (?f : (hd.defAt [12, 25]).2.1 = ?l → List Stmt) ?p
  case p => conv => lhs; whnf
  case f => intro _; exact ?l
noncomputable abbrev f543.p : Arguments := by
  refine (?f : (hd.defAt [12, 25]).1 = ?l → Arguments) ?p
  case p => conv => lhs; whnf
  case f => intro _; exact ?l
noncomputable abbrev f543.c : Scope := by
  refine (?f : (hd.defAt [12, 25]).2.2 = ?l → Scope) ?p
  case p => conv => lhs; whnf
  case f => intro _; exact ?l
noncomputable abbrev f656.b : List Stmt := by
  refine (?f : (hd.defAt [21, 0]).2.1 = ?l → List Stmt) ?p
  case p => conv => lhs; whnf
  case f => intro _; exact ?l
noncomputable abbrev f656.p : Arguments := by
  refine (?f : (hd.defAt [21, 0]).1 = ?l → Arguments) ?p
  case p => conv => lhs; whnf
  case f => intro _; exact ?l
noncomputable abbrev f656.c : Scope := by
  refine (?f : (hd.defAt [21, 0]).2.2 = ?l → Scope) ?p
  case p => conv => lhs; whnf
  case f => intro _; exact ?l
noncomputable abbrev f663.b : List Stmt := by
  refine (?f : (hd.defAt [21, 1]).2.1 = ?l → List Stmt) ?p
  case p => conv => lhs; whnf
  case f => intro _; exact ?l
noncomputable abbrev f663.p : Arguments := by
  refine (?f : (hd.defAt [21, 1]).1 = ?l → Arguments) ?p
  case p => conv => lhs; whnf
  case f => intro _; exact ?l
noncomputable abbrev f663.c : Scope := by
  refine (?f : (hd.defAt [21, 1]).2.2 = ?l → Scope) ?p
  case p => conv => lhs; whnf
  case f => intro _; exact ?l
noncomputable abbrev f671.b : List Stmt := by
  refine (?f : (hd.defAt [21, 2]).2.1 = ?l → List Stmt) ?p
  case p => conv => lhs; whnf
  case f => intro _; exact ?l
noncomputable abbrev f671.p : Arguments := by
  refine (?f : (hd.defAt [21, 2]).1 = ?l → Arguments) ?p
  case p => conv => lhs; whnf
  case f => intro _; exact ?l
noncomputable abbrev f671.c : Scope := by
  refine (?f : (hd.defAt [21, 2]).2.2 = ?l → Scope) ?p
  case p => conv => lhs; whnf
  case f => intro _; exact ?l
noncomputable abbrev f679.b : List Stmt := by
  refine (?f : (hd.defAt [21, 3]).2.1 = ?l → List Stmt) ?p
  case p => conv => lhs; whnf
  case f => intro _; exact ?l
noncomputable abbrev f679.p : Arguments := by
  refine (?f : (hd.defAt [21, 3]).1 = ?l → Arguments) ?p
  case p => conv => lhs; whnf
  case f => intro _; exact ?l
noncomputable abbrev f679.c : Scope := by
  refine (?f : (hd.defAt [21, 3]).2.2 = ?l → Scope) ?p
  case p => conv => lhs; whnf
  case f => intro _; exact ?l
noncomputable abbrev f686.b : List Stmt := by
  refine (?f : (hd.defAt [21, 4]).2.1 = ?l → List Stmt) ?p
  case p => conv => lhs; whnf
  case f => intro _; exact ?l
noncomputable abbrev f686.p : Arguments := by
  refine (?f : (hd.defAt [21, 4]).1 = ?l → Arguments) ?p
  case p => conv => lhs; whnf
  case f => intro _; exact ?l
noncomputable abbrev f686.c : Scope := by
  refine (?f : (hd.defAt [21, 4]).2.2 = ?l → Scope) ?p
  case p => conv => lhs; whnf
  case f => intro _; exact ?l
noncomputable abbrev f693.b : List Stmt := by
  refine (?f : (hd.defAt [21, 5]).2.1 = ?l → List Stmt) ?p
  case p => conv => lhs; whnf
  case f => intro _; exact ?l
noncomputable abbrev f693.p : Arguments := by
  refine (?f : (hd.defAt [21, 5]).1 = ?l → Arguments) ?p
  case p => conv => lhs; whnf
  case f => intro _; exact ?l
noncomputable abbrev f693.c : Scope := by
  refine (?f : (hd.defAt [21, 5]).2.2 = ?l → Scope) ?p
  case p => conv => lhs; whnf
  case f => intro _; exact ?l
noncomputable abbrev f700.b : List Stmt := by
  refine (?f : (hd.defAt [21, 6]).2.1 = ?l → List Stmt) ?p
  case p => conv => lhs; whnf
  case f => intro _; exact ?l
noncomputable abbrev f700.p : Arguments := by
  refine (?f : (hd.defAt [21, 6]).1 = ?l → Arguments) ?p
  case p => conv => lhs; whnf
  case f => intro _; exact ?l
noncomputable abbrev f700.c : Scope := by
  refine (?f : (hd.defAt [21, 6]).2.2 = ?l → Scope) ?p
  case p => conv => lhs; whnf
  case f => intro _; exact ?l
noncomputable abbrev f722.b : List Stmt := by
  refine (?f : (hd.defAt [21, 9]).2.1 = ?l → List Stmt) ?p
  case p => conv => lhs; whnf
  case f => intro _; exact ?l
noncomputable abbrev f722.p : Arguments := by
  refine (?f : (hd.defAt [21, 9]).1 = ?l → Arguments) ?p
  case p => conv => lhs; whnf
  case f => intro _; exact ?l
noncomputable abbrev f722.c : Scope := by
  refine (?f : (hd.defAt [21, 9]).2.2 = ?l → Scope) ?p
  case p => conv => lhs; whnf
  case f => intro _; exact ?l
noncomputable abbrev f729.b : List Stmt := by
  refine (?f : (hd.defAt [21, 10]).2.1 = ?l → List Stmt) ?p
  case p => conv => lhs; whnf
  case f => intro _; exact ?l
noncomputable abbrev f729.p : Arguments := by
  refine (?f : (hd.defAt [21, 10]).1 = ?l → Arguments) ?p
  case p => conv => lhs; whnf
  case f => intro _; exact ?l
noncomputable abbrev f729.c : Scope := by
  refine (?f : (hd.defAt [21, 10]).2.2 = ?l → Scope) ?p
  case p => conv => lhs; whnf
  case f => intro _; exact ?l
noncomputable abbrev f744.b : List Stmt := by
  refine (?f : (hd.defAt [23]).2.1 = ?l → List Stmt) ?p
  case p => conv => lhs; whnf
  case f => intro _; exact ?l
noncomputable abbrev f744.p : Arguments := by
  refine (?f : (hd.defAt [23]).1 = ?l → Arguments) ?p
  case p => conv => lhs; whnf
  case f => intro _; exact ?l
noncomputable abbrev f744.c : Scope := by
  refine (?f : (hd.defAt [23]).2.2 = ?l → Scope) ?p
  case p => conv => lhs; whnf
  case f => intro _; exact ?l
noncomputable abbrev f753.b : List Stmt := by
  refine (?f : (hd.defAt [26]).2.1 = ?l → List Stmt) ?p
  case p => conv => lhs; whnf
  case f => intro _; exact ?l
noncomputable abbrev f753.p : Arguments := by
  refine (?f : (hd.defAt [26]).1 = ?l → Arguments) ?p
  case p => conv => lhs; whnf
  case f => intro _; exact ?l
noncomputable abbrev f753.c : Scope := by
  refine (?f : (hd.defAt [26]).2.2 = ?l → Scope) ?p
  case p => conv => lhs; whnf
  case f => intro _; exact ?l
noncomputable abbrev f760.b : List Stmt := by
  refine (?f : (hd.defAt [28]).2.1 = ?l → List Stmt) ?p
  case p => conv => lhs; whnf
  case f => intro _; exact ?l
noncomputable abbrev f760.p : Arguments := by
  refine (?f : (hd.defAt [28]).1 = ?l → Arguments) ?p
  case p => conv => lhs; whnf
  case f => intro _; exact ?l
noncomputable abbrev f760.c : Scope := by
  refine (?f : (hd.defAt [28]).2.2 = ?l → Scope) ?p
  case p => conv => lhs; whnf
  case f => intro _; exact ?l
noncomputable abbrev f767.b : List Stmt := by
  refine (?f : (hd.defAt [29]).2.1 = ?l → List Stmt) ?p
  case p => conv => lhs; whnf
  case f => intro _; exact ?l
noncomputable abbrev f767.p : Arguments := by
  refine (?f : (hd.defAt [29]).1 = ?l → Arguments) ?p
  case p => conv => lhs; whnf
  case f => intro _; exact ?l
noncomputable abbrev f767.c : Scope := by
  refine (?f : (hd.defAt [29]).2.2 = ?l → Scope) ?p
  case p => conv => lhs; whnf
  case f => intro _; exact ?l
noncomputable abbrev f781.b : List Stmt := by
  refine (?f : (hd.defAt [30, 0]).2.1 = ?l → List Stmt) ?p
  case p => conv => lhs; whnf
  case f => intro _; exact ?l
noncomputable abbrev f781.p : Arguments := by
  refine (?f : (hd.defAt [30, 0]).1 = ?l → Arguments) ?p
  case p => conv => lhs; whnf
  case f => intro _; exact ?l
noncomputable abbrev f781.c : Scope := by
  refine (?f : (hd.defAt [30, 0]).2.2 = ?l → Scope) ?p
  case p => conv => lhs; whnf
  case f => intro _; exact ?l
noncomputable abbrev f795.b : List Stmt := by
  refine (?f : (hd.defAt [32]).2.1 = ?l → List Stmt) ?p
  case p => conv => lhs; whnf
  case f => intro _; exact ?l
noncomputable abbrev f795.p : Arguments := by
  refine (?f : (hd.defAt [32]).1 = ?l → Arguments) ?p
  case p => conv => lhs; whnf
  case f => intro _; exact ?l
noncomputable abbrev f795.c : Scope := by
  refine (?f : (hd.defAt [32]).2.2 = ?l → Scope) ?p
  case p => conv => lhs; whnf
  case f => intro _; exact ?l
noncomputable abbrev f802.b : List Stmt := by
  refine (?f : (hd.defAt [33]).2.1 = ?l → List Stmt) ?p
  case p => conv => lhs; whnf
  case f => intro _; exact ?l
noncomputable abbrev f802.p : Arguments := by
  refine (?f : (hd.defAt [33]).1 = ?l → Arguments) ?p
  case p => conv => lhs; whnf
  case f => intro _; exact ?l
noncomputable abbrev f802.c : Scope := by
  refine (?f : (hd.defAt [33]).2.2 = ?l → Scope) ?p
  case p => conv => lhs; whnf
  case f => intro _; exact ?l
noncomputable abbrev f807.b : List Stmt := by
  refine (?f : (hd.defAt [34]).2.1 = ?l → List Stmt) ?p
  case p => conv => lhs; whnf
  case f => intro _; exact ?l
noncomputable abbrev f807.p : Arguments := by
  refine (?f : (hd.defAt [34]).1 = ?l → Arguments) ?p
  case p => conv => lhs; whnf
  case f => intro _; exact ?l
noncomputable abbrev f807.c : Scope := by
  refine (?f : (hd.defAt [34]).2.2 = ?l → Scope) ?p
  case p => conv => lhs; whnf
  case f => intro _; exact ?l
noncomputable abbrev f814.b : List Stmt := by
  refine (?f : (hd.defAt [35]).2.1 = ?l → List Stmt) ?p
  case p => conv => lhs; whnf
  case f => intro _; exact ?l
noncomputable abbrev f814.p : Arguments := by
  refine (?f : (hd.defAt [35]).1 = ?l → Arguments) ?p
  case p => conv => lhs; whnf
  case f => intro _; exact ?l
noncomputable abbrev f814.c : Scope := by
  refine (?f : (hd.defAt [35]).2.2 = ?l → Scope) ?p
  case p => conv => lhs; whnf
  case f => intro _; exact ?l
noncomputable abbrev f821.b : List Stmt := by
  refine (?f : (hd.defAt [36]).2.1 = ?l → List Stmt) ?p
  case p => conv => lhs; whnf
  case f => intro _; exact ?l
noncomputable abbrev f821.p : Arguments := by
  refine (?f : (hd.defAt [36]).1 = ?l → Arguments) ?p
  case p => conv => lhs; whnf
  case f => intro _; exact ?l
noncomputable abbrev f821.c : Scope := by
  refine (?f : (hd.defAt [36]).2.2 = ?l → Scope) ?p
  case p => conv => lhs; whnf
  case f => intro _; exact ?l
noncomputable abbrev f828.b : List Stmt := by
  refine (?f : (hd.defAt [37]).2.1 = ?l → List Stmt) ?p
  case p => conv => lhs; whnf
  case f => intro _; exact ?l
noncomputable abbrev f828.p : Arguments := by
  refine (?f : (hd.defAt [37]).1 = ?l → Arguments) ?p
  case p => conv => lhs; whnf
  case f => intro _; exact ?l
noncomputable abbrev f828.c : Scope := by
  refine (?f : (hd.defAt [37]).2.2 = ?l → Scope) ?p
  case p => conv => lhs; whnf
  case f => intro _; exact ?l
noncomputable abbrev f833.b : List Stmt := by
  refine (?f : (hd.defAt [38]).2.1 = ?l → List Stmt) ?p
  case p => conv => lhs; whnf
  case f => intro _; exact ?l
noncomputable abbrev f833.p : Arguments := by
  refine (?f : (hd.defAt [38]).1 = ?l → Arguments) ?p
  case p => conv => lhs; whnf
  case f => intro _; exact ?l
noncomputable abbrev f833.c : Scope := by
  refine (?f : (hd.defAt [38]).2.2 = ?l → Scope) ?p
  case p => conv => lhs; whnf
  case f => intro _; exact ?l
noncomputable def hd.heap_39 (P : Params) : Frag :=
(nat_lit 2, { cls := Value.none, data := Data.dict #[{ hash := PyData.keyHash P (.ofString "\x69mport.loaded._sre"), key := Value.str (.ofString "\x69mport.loaded._sre") 183, val := Value.bool true }, { hash := PyData.keyHash P (.ofString "class._frozen_importlib.BuiltinImporter"), key := Value.str (.ofString "class._frozen_importlib.BuiltinImporter") 185, val := Value.ref 14 }, { hash := PyData.keyHash P (.ofString "watched.\x69mport"), key := Value.str (.ofString "watched.\x69mport") 206, val := Value.ref 18 }, { hash := PyData.keyHash P (.ofString "class._frozen_importlib.ModuleSpec"), key := Value.str (.ofString "class._frozen_importlib.ModuleSpec") 216, val := Value.ref 22 }, { hash := PyData.keyHash P (.ofString "sys.modules.booked-epoch"), key := Value.str (.ofString "sys.modules.booked-epoch") 245, val := Value.int 4 0 }, { hash := PyData.keyHash P (.ofString "\x69mport.later-laid._sre"), key := Value.str (.ofString "\x69mport.later-laid._sre") 270, val := Value.bool true }, { hash := PyData.keyHash P (.ofString "watched.library"), key := Value.str (.ofString "watched.library") 272, val := Value.ref 27 }, { hash := PyData.keyHash P (.ofString "watched.library-objects"), key := Value.str (.ofString "watched.library-objects") 0, val := Value.str (.ofString "\x0c\x1e") 0 }, { hash := PyData.keyHash P (.ofString "watched.library-deep._sre"), key := Value.str (.ofString "watched.library-deep._sre") 273, val := Value.str (.ofString "\x04\x00\x00\x0b\x04\x00\x00\x0b\x04\x00\x00\x03\x04\x00\x00\x0b\x08\x04dict\x02") 0 }, { hash := PyData.keyHash P (.ofString "\x69mport.loaded._collections"), key := Value.str (.ofString "\x69mport.loaded._collections") 280, val := Value.bool true }, { hash := PyData.keyHash P (.ofString "sys.modules.landed._collections"), key := Value.str (.ofString "sys.modules.landed._collections") 294, val := Value.bool true }, { hash := PyData.keyHash P (.ofString "\x69mport.later-laid._collections"), key := Value.str (.ofString "\x69mport.later-laid._collections") 309, val := Value.bool true }, { hash := PyData.keyHash P (.ofString "watched.library-deep._collections"), key := Value.str (.ofString "watched.library-deep._collections") 311, val := Value.str (.ofString "\x04\x00\x00\x1d\x04\x00\x00\x1d\x04\x00\x00\x03\x04\x00\x00\x1d\x08\x04dict\x02") 0 }, { hash := PyData.keyHash P (.ofString "type.__subclasses__.OSError.0"), key := Value.str (.ofString "type.__subclasses__.OSError.0") 407, val := Value.int 73 0 }, { hash := PyData.keyHash P (.ofString "type.__subclasses__.OSError.n"), key := Value.str (.ofString "type.__subclasses__.OSError.n") 408, val := Value.int 1 0 }] 15 }) ::
(nat_lit 3, { cls := .type "dict", data := Data.dict #[{ hash := PyData.keyHash P (.ofString "__name__"), key := Value.str (.ofString "__name__") 165, val := Value.str (.ofString "law_il0184_01") 1299 }, { hash := PyData.keyHash P (.ofString "__doc__"), key := Value.str (.ofString "__doc__") 166, val := Value.none }, { hash := PyData.keyHash P (.ofString "__package__"), key := Value.str (.ofString "__package__") 167, val := Value.none }, { hash := PyData.keyHash P (.ofString "__loader__"), key := Value.str (.ofString "__loader__") 168, val := Value.builtin "__main__.__loader__#opaque" }, { hash := PyData.keyHash P (.ofString "__spec__"), key := Value.str (.ofString "__spec__") 169, val := Value.none }, { hash := PyData.keyHash P (.ofString "__annotations__"), key := Value.str (.ofString "__annotations__") 170, val := Value.ref 6 }, { hash := PyData.keyHash P (.ofString "__builtins__"), key := Value.str (.ofString "__builtins__") 171, val := Value.ref 4 }, { hash := PyData.keyHash P (.ofString "__file__"), key := Value.str (.ofString "__file__") 173, val := Value.str (.ofString "/claim/cut.py") 172 }, { hash := PyData.keyHash P (.ofString "__cached__"), key := Value.str (.ofString "__cached__") 174, val := Value.none }, { hash := PyData.keyHash P (.ofString "_sre"), key := Value.str (.ofString "_sre") 275, val := Value.ref 12 }, { hash := PyData.keyHash P (.ofString "deque"), key := Value.str (.ofString "deque") 317, val := Value.type "collections.deque" }, { hash := PyData.keyHash P (.ofString "_wall"), key := Value.str (.ofString "_wall") 330, val := Value.ref 44 }, { hash := PyData.keyHash P (.ofString "_twin_re_1"), key := Value.str (.ofString "_twin_re_1") 370, val := Value.ref 49 }, { hash := PyData.keyHash P (.ofString "_whence"), key := Value.str (.ofString "_whence") 380, val := Value.ref 56 }, { hash := PyData.keyHash P (.ofString "_index"), key := Value.str (.ofString "_index") 388, val := Value.ref 63 }, { hash := PyData.keyHash P (.ofString "UnsupportedOperation"), key := Value.str (.ofString "UnsupportedOperation") 410, val := Value.ref 73 }, { hash := PyData.keyHash P (.ofString "IOBase"), key := Value.str (.ofString "IOBase") 442, val := Value.ref 93 }, { hash := PyData.keyHash P (.ofString "BufferedIOBase"), key := Value.str (.ofString "BufferedIOBase") 460, val := Value.ref 108 }, { hash := PyData.keyHash P (.ofString "TextIOBase"), key := Value.str (.ofString "TextIOBase") 478, val := Value.ref 120 }, { hash := PyData.keyHash P (.ofString "BytesIO"), key := Value.str (.ofString "BytesIO") 740, val := Value.ref 350 }, { hash := PyData.keyHash P (.ofString "StringIO"), key := Value.str (.ofString "StringIO") 1027, val := Value.ref 597 }, { hash := PyData.keyHash P (.ofString "_kind"), key := Value.str (.ofString "_kind") 1038, val := Value.ref 606 }, { hash := PyData.keyHash P (.ofString "_fspath"), key := Value.str (.ofString "_fspath") 1047, val := Value.ref 613 }, { hash := PyData.keyHash P (.ofString "_check_arg_types"), key := Value.str (.ofString "_check_arg_types") 1057, val := Value.ref 620 }, { hash := PyData.keyHash P (.ofString "isabs"), key := Value.str (.ofString "isabs") 1064, val := Value.ref 627 }, { hash := PyData.keyHash P (.ofString "join"), key := Value.str (.ofString "join") 1075, val := Value.ref 634 }, { hash := PyData.keyHash P (.ofString "dirname"), key := Value.str (.ofString "dirname") 1085, val := Value.ref 641 }, { hash := PyData.keyHash P (.ofString "shlex"), key := Value.str (.ofString "shlex") 1226, val := Value.ref 732 }, { hash := PyData.keyHash P (.ofString "_find_unsafe"), key := Value.str (.ofString "_find_unsafe") 1228, val := Value.ref 737 }, { hash := PyData.keyHash P (.ofString "quote"), key := Value.str (.ofString "quote") 1235, val := Value.ref 744 }, { hash := PyData.keyHash P (.ofString "_initial_missing"), key := Value.str (.ofString "_initial_missing") 1238, val := Value.ref 745 }, { hash := PyData.keyHash P (.ofString "reduce"), key := Value.str (.ofString "reduce") 1250, val := Value.ref 753 }, { hash := PyData.keyHash P (.ofString "read_uint1"), key := Value.str (.ofString "read_uint1") 1260, val := Value.ref 760 }, { hash := PyData.keyHash P (.ofString "read_string1"), key := Value.str (.ofString "read_string1") 1269, val := Value.ref 767 }, { hash := PyData.keyHash P (.ofString "_Example"), key := Value.str (.ofString "_Example") 1298, val := Value.ref 784 }, { hash := PyData.keyHash P (.ofString "_law_stream"), key := Value.str (.ofString "_law_stream") 1310, val := Value.ref 795 }, { hash := PyData.keyHash P (.ofString "_law_read"), key := Value.str (.ofString "_law_read") 1319, val := Value.ref 802 }, { hash := PyData.keyHash P (.ofString "_law_sizes"), key := Value.str (.ofString "_law_sizes") 1325, val := Value.ref 807 }, { hash := PyData.keyHash P (.ofString "_law_texts"), key := Value.str (.ofString "_law_texts") 1338, val := Value.ref 814 }, { hash := PyData.keyHash P (.ofString "_law_spelled"), key := Value.str (.ofString "_law_spelled") 1349, val := Value.ref 821 }, { hash := PyData.keyHash P (.ofString "_law_found"), key := Value.str (.ofString "_law_found") 1361, val := Value.ref 828 }, { hash := PyData.keyHash P (.ofString "law"), key := Value.str (.ofString "law") 1367, val := Value.ref 833 }] 42 }) ::
(nat_lit 43, { cls := .type "code", data := Data.fields #[Value.str (.ofString "_wall") 324, Value.str (.ofString "_wall") 325, Value.str (.ofString "/claim/cut.py") 326, Value.int 3 0, Value.int 1 0, Value.int 0 0, Value.int 0 0, Value.int 3 0, Value.ref 38, Value.bool true, Value.int 318 0, Value.ref 39, Value.none, Value.ref 40, Value.ref 41, Value.ref 42, Value.int 328 0, Value.int 3 0, Value.str (.ofString "/claim/cut.py") 329] }) ::
(nat_lit 44, { cls := .type "function", data := .func { name := .ofString "_wall", qualname := .ofString "_wall", params := f44.p, body := .stmts f44.b, scope := f44.c, globals := 3, closure := [], defaults := Value.none, kwdefaults := Value.none, pyModule := Value.str (.ofString "__main__") 164, code := Value.ref 43 } }) ::
(nat_lit 48, { cls := .type "tuple", data := Data.seq #[Value.int 14 0, Value.int 17 0, Value.int 4 0, Value.int 1 0, Value.int 1 0, Value.int 21 0, Value.int 9 0, Value.int 0 0, Value.int 604043296 0, Value.int 1 0, Value.int 0 0, Value.int 0 0, Value.int 0 0, Value.int 0 0, Value.int 0 0, Value.int 8 0, Value.int 4 0, Value.int 0 0, Value.int 13 0, Value.int 14 0, Value.int 21 0, Value.int 9 0, Value.int 0 0, Value.int 604043296 0, Value.int 1 0, Value.int 0 0, Value.int 0 0, Value.int 0 0, Value.int 0 0, Value.int 0 0, Value.int 8 0, Value.int 4 0, Value.int 0 0, Value.int 1 0] }) ::
(nat_lit 49, { cls := .type "re.Pattern", data := Data.fields #[Value.str (.ofString "[^\\w@%+=:,./-]") 332, Value.int 256 369, Value.int 0 0, Value.none, Value.none, Value.ref 48, Value.int 0 0] }) ::
(nat_lit 55, { cls := .type "code", data := Data.fields #[Value.str (.ofString "_whence") 373, Value.str (.ofString "_whence") 374, Value.str (.ofString "/claim/cut.py") 375, Value.int 8 0, Value.int 2 0, Value.int 0 0, Value.int 0 0, Value.int 3 0, Value.ref 50, Value.bool true, Value.int 318 0, Value.ref 51, Value.none, Value.ref 52, Value.ref 53, Value.ref 54, Value.int 378 0, Value.int 8 0, Value.str (.ofString "/claim/cut.py") 379] }) ::
(nat_lit 56, { cls := .type "function", data := .func { name := .ofString "_whence", qualname := .ofString "_whence", params := f56.p, body := .stmts f56.b, scope := f56.c, globals := 3, closure := [], defaults := Value.none, kwdefaults := Value.none, pyModule := Value.str (.ofString "io") 371, code := Value.ref 55 } }) ::
(nat_lit 62, { cls := .type "code", data := Data.fields #[Value.str (.ofString "_index") 381, Value.str (.ofString "_index") 382, Value.str (.ofString "/claim/cut.py") 383, Value.int 13 0, Value.int 2 0, Value.int 0 0, Value.int 0 0, Value.int 3 0, Value.ref 57, Value.bool true, Value.int 318 0, Value.ref 58, Value.none, Value.ref 59, Value.ref 60, Value.ref 61, Value.int 386 0, Value.int 13 0, Value.str (.ofString "/claim/cut.py") 387] }) ::
(nat_lit 63, { cls := .type "function", data := .func { name := .ofString "_index", qualname := .ofString "_index", params := f63.p, body := .stmts f63.b, scope := f63.c, globals := 3, closure := [], defaults := Value.none, kwdefaults := Value.none, pyModule := Value.str (.ofString "io") 371, code := Value.ref 62 } }) ::
(nat_lit 64, { cls := .type "tuple", data := Data.seq #[Value.type "OSError", Value.type "ValueError"] }) ::
(nat_lit 71, { cls := .type "tuple", data := Data.seq #[] }) ::
(nat_lit 72, { cls := .type "dict", data := Data.dict #[{ hash := PyData.keyHash P (.ofString "__module__"), key := Value.str (.ofString "__module__") 396, val := Value.str (.ofString "io") 401 }, { hash := PyData.keyHash P (.ofString "__firstlineno__"), key := Value.str (.ofString "__firstlineno__") 400, val := Value.int 20 399 }, { hash := PyData.keyHash P (.ofString "__static_attributes__"), key := Value.str (.ofString "__static_attributes__") 403, val := Value.ref 71 }, { hash := PyData.keyHash P (.ofString "__weakref__"), key := Value.str (.ofString "__weakref__") 405, val := Value.ref 74 }, { hash := PyData.keyHash P (.ofString "__doc__"), key := Value.str (.ofString "__doc__") 406, val := Value.none }] 3 }) ::
(nat_lit 73, { cls := .type "type", data := Data.cls { name := .ofString "UnsupportedOperation", bases := [Value.type "OSError", Value.type "ValueError"], mro := [Value.ref 73, Value.type "OSError", Value.type "ValueError", Value.type "Exception", Value.type "BaseException", Value.type "object"], ns := 72, qualname := .ofString "UnsupportedOperation" }, slots := #[some (Value.ref 64), none, some (Value.str (.ofString "UnsupportedOperation") 389), some (Value.str (.ofString "UnsupportedOperation") 397), some (Value.builtin "OSError.__new__"), some (Value.bool true)] }) ::
(nat_lit 74, { cls := .type "getset_descriptor", data := Data.fields #[Value.str (.ofString "__weakref__") 404, Value.ref 73, Value.builtin "ExceptionGroup.__weakref__", Value.none] }) ::
(nat_lit 89, { cls := .type "code", data := Data.fields #[Value.str (.ofString "__new__") 425, Value.str (.ofString "IOBase.__new__") 426, Value.str (.ofString "/claim/cut.py") 427, Value.int 25 0, Value.int 1 0, Value.int 1 0, Value.int 0 0, Value.int 15 0, Value.ref 84, Value.bool true, Value.int 318 0, Value.ref 85, Value.none, Value.ref 86, Value.ref 87, Value.ref 88, Value.int 431 0, Value.int 25 0, Value.str (.ofString "/claim/cut.py") 432] }) ::
(nat_lit 90, { cls := .type "function", data := .func { name := .ofString "__new__", qualname := .ofString "IOBase.__new__", params := f90.p, body := .stmts f90.b, scope := f90.c, globals := 3, closure := [], defaults := Value.none, kwdefaults := Value.none, pyModule := Value.str (.ofString "io") 371, code := Value.ref 89 } }) ::
(nat_lit 91, { cls := .type "tuple", data := Data.seq #[] }) ::
(nat_lit 92, { cls := .type "dict", data := Data.dict #[{ hash := PyData.keyHash P (.ofString "__module__"), key := Value.str (.ofString "__module__") 418, val := Value.str (.ofString "io") 423 }, { hash := PyData.keyHash P (.ofString "__firstlineno__"), key := Value.str (.ofString "__firstlineno__") 422, val := Value.int 22 421 }, { hash := PyData.keyHash P (.ofString "__new__"), key := Value.str (.ofString "__new__") 433, val := Value.ref 94 }, { hash := PyData.keyHash P (.ofString "__static_attributes__"), key := Value.str (.ofString "__static_attributes__") 434, val := Value.ref 91 }, { hash := PyData.keyHash P (.ofString "__dict__"), key := Value.str (.ofString "__dict__") 437, val := Value.ref 95 }, { hash := PyData.keyHash P (.ofString "__weakref__"), key := Value.str (.ofString "__weakref__") 439, val := Value.ref 96 }, { hash := PyData.keyHash P (.ofString "__doc__"), key := Value.str (.ofString "__doc__") 440, val := Value.none }] 4 }) ::
(nat_lit 93, { cls := .type "type", data := Data.cls { name := .ofString "IOBase", bases := [Value.type "object"], mro := [Value.ref 93, Value.type "object"], ns := 92, qualname := .ofString "IOBase", subclasses := [Value.ref 108, Value.ref 120] }, slots := #[none, none, some (Value.str (.ofString "IOBase") 411), some (Value.str (.ofString "IOBase") 419), some Value.none, some (Value.bool true)] }) ::
(nat_lit 94, { cls := .type "staticmethod", data := Data.fields #[Value.ref 90] }) ::
(nat_lit 95, { cls := .type "getset_descriptor", data := Data.fields #[Value.str (.ofString "__dict__") 436, Value.ref 93, Value.builtin "function.__dict__", Value.builtin "function.__dict__#set"] }) ::
(nat_lit 96, { cls := .type "getset_descriptor", data := Data.fields #[Value.str (.ofString "__weakref__") 438, Value.ref 93, Value.builtin "ExceptionGroup.__weakref__", Value.none] }) ::
(nat_lit 99, { cls := .type "tuple", data := Data.seq #[Value.ref 93] }) ::
(nat_lit 106, { cls := .type "tuple", data := Data.seq #[] }) ::
(nat_lit 107, { cls := .type "dict", data := Data.dict #[{ hash := PyData.keyHash P (.ofString "__module__"), key := Value.str (.ofString "__module__") 450, val := Value.str (.ofString "io") 455 }, { hash := PyData.keyHash P (.ofString "__firstlineno__"), key := Value.str (.ofString "__firstlineno__") 454, val := Value.int 29 453 }, { hash := PyData.keyHash P (.ofString "__static_attributes__"), key := Value.str (.ofString "__static_attributes__") 457, val := Value.ref 106 }, { hash := PyData.keyHash P (.ofString "__doc__"), key := Value.str (.ofString "__doc__") 458, val := Value.none }] 2 }) ::
(nat_lit 108, { cls := .type "type", data := Data.cls { name := .ofString "BufferedIOBase", bases := [Value.ref 93], mro := [Value.ref 108, Value.ref 93, Value.type "object"], ns := 107, qualname := .ofString "BufferedIOBase", subclasses := [Value.ref 350] }, slots := #[some (Value.ref 99), none, some (Value.str (.ofString "BufferedIOBase") 443), some (Value.str (.ofString "BufferedIOBase") 451), some Value.none, some (Value.bool true)] }) ::
(nat_lit 111, { cls := .type "tuple", data := Data.seq #[Value.ref 93] }) ::
(nat_lit 118, { cls := .type "tuple", data := Data.seq #[] }) ::
(nat_lit 119, { cls := .type "dict", data := Data.dict #[{ hash := PyData.keyHash P (.ofString "__module__"), key := Value.str (.ofString "__module__") 468, val := Value.str (.ofString "io") 473 }, { hash := PyData.keyHash P (.ofString "__firstlineno__"), key := Value.str (.ofString "__firstlineno__") 472, val := Value.int 31 471 }, { hash := PyData.keyHash P (.ofString "__static_attributes__"), key := Value.str (.ofString "__static_attributes__") 475, val := Value.ref 118 }, { hash := PyData.keyHash P (.ofString "__doc__"), key := Value.str (.ofString "__doc__") 476, val := Value.none }] 2 }) ::
(nat_lit 120, { cls := .type "type", data := Data.cls { name := .ofString "TextIOBase", bases := [Value.ref 93], mro := [Value.ref 120, Value.ref 93, Value.type "object"], ns := 119, qualname := .ofString "TextIOBase", subclasses := [Value.ref 597] }, slots := #[some (Value.ref 111), none, some (Value.str (.ofString "TextIOBase") 461), some (Value.str (.ofString "TextIOBase") 469), some Value.none, some (Value.bool true)] }) ::
(nat_lit 123, { cls := .type "tuple", data := Data.seq #[Value.ref 108] }) ::
(nat_lit 159, { cls := .type "property", data := Data.fields #[Value.ref 158, Value.none, Value.none, Value.none, Value.str (.ofString "closed") 526, Value.bool false] }) ::
(nat_lit 348, { cls := .type "tuple", data := Data.seq #[Value.str (.ofString "__buf") 735, Value.str (.ofString "__pos") 736] }) ::
(nat_lit 349, { cls := .type "dict", data := Data.dict #[{ hash := PyData.keyHash P (.ofString "__module__"), key := Value.str (.ofString "__module__") 486, val := Value.str (.ofString "_io") 491 }, { hash := PyData.keyHash P (.ofString "__firstlineno__"), key := Value.str (.ofString "__firstlineno__") 490, val := Value.int 33 489 }, { hash := PyData.keyHash P (.ofString "__init__"), key := Value.str (.ofString "__init__") 500, val := Value.ref 137 }, { hash := PyData.keyHash P (.ofString "_BytesIO__check"), key := Value.str (.ofString "_BytesIO__check") 507, val := Value.ref 144 }, { hash := PyData.keyHash P (.ofString "_BytesIO__line"), key := Value.str (.ofString "_BytesIO__line") 518, val := Value.ref 151 }, { hash := PyData.keyHash P (.ofString "closed"), key := Value.str (.ofString "closed") 526, val := Value.ref 159 }, { hash := PyData.keyHash P (.ofString "close"), key := Value.str (.ofString "close") 533, val := Value.ref 166 }, { hash := PyData.keyHash P (.ofString "__enter__"), key := Value.str (.ofString "__enter__") 540, val := Value.ref 173 }, { hash := PyData.keyHash P (.ofString "__exit__"), key := Value.str (.ofString "__exit__") 548, val := Value.ref 180 }, { hash := PyData.keyHash P (.ofString "readable"), key := Value.str (.ofString "readable") 555, val := Value.ref 187 }, { hash := PyData.keyHash P (.ofString "writable"), key := Value.str (.ofString "writable") 562, val := Value.ref 194 }, { hash := PyData.keyHash P (.ofString "seekable"), key := Value.str (.ofString "seekable") 569, val := Value.ref 201 }, { hash := PyData.keyHash P (.ofString "isatty"), key := Value.str (.ofString "isatty") 576, val := Value.ref 208 }, { hash := PyData.keyHash P (.ofString "flush"), key := Value.str (.ofString "flush") 583, val := Value.ref 215 }, { hash := PyData.keyHash P (.ofString "fileno"), key := Value.str (.ofString "fileno") 590, val := Value.ref 222 }, { hash := PyData.keyHash P (.ofString "detach"), key := Value.str (.ofString "detach") 597, val := Value.ref 229 }, { hash := PyData.keyHash P (.ofString "getvalue"), key := Value.str (.ofString "getvalue") 604, val := Value.ref 236 }, { hash := PyData.keyHash P (.ofString "getbuffer"), key := Value.str (.ofString "getbuffer") 611, val := Value.ref 243 }, { hash := PyData.keyHash P (.ofString "tell"), key := Value.str (.ofString "tell") 618, val := Value.ref 250 }, { hash := PyData.keyHash P (.ofString "seek"), key := Value.str (.ofString "seek") 628, val := Value.ref 258 }, { hash := PyData.keyHash P (.ofString "truncate"), key := Value.str (.ofString "truncate") 636, val := Value.ref 266 }, { hash := PyData.keyHash P (.ofString "read"), key := Value.str (.ofString "read") 648, val := Value.ref 274 }, { hash := PyData.keyHash P (.ofString "read1"), key := Value.str (.ofString "read1") 658, val := Value.ref 282 }, { hash := PyData.keyHash P (.ofString "readinto"), key := Value.str (.ofString "readinto") 668, val := Value.ref 289 }, { hash := PyData.keyHash P (.ofString "readinto1"), key := Value.str (.ofString "readinto1") 676, val := Value.ref 296 }, { hash := PyData.keyHash P (.ofString "readline"), key := Value.str (.ofString "readline") 686, val := Value.ref 304 }, { hash := PyData.keyHash P (.ofString "readlines"), key := Value.str (.ofString "readlines") 694, val := Value.ref 312 }, { hash := PyData.keyHash P (.ofString "__iter__"), key := Value.str (.ofString "__iter__") 701, val := Value.ref 319 }, { hash := PyData.keyHash P (.ofString "__next__"), key := Value.str (.ofString "__next__") 709, val := Value.ref 326 }, { hash := PyData.keyHash P (.ofString "write"), key := Value.str (.ofString "write") 719, val := Value.ref 333 }, { hash := PyData.keyHash P (.ofString "writelines"), key := Value.str (.ofString "writelines") 727, val := Value.ref 340 }, { hash := PyData.keyHash P (.ofString "__repr__"), key := Value.str (.ofString "__repr__") 734, val := Value.ref 347 }, { hash := PyData.keyHash P (.ofString "__static_attributes__"), key := Value.str (.ofString "__static_attributes__") 737, val := Value.ref 348 }, { hash := PyData.keyHash P (.ofString "__doc__"), key := Value.str (.ofString "__doc__") 738, val := Value.none }] 2 }) ::
(nat_lit 350, { cls := .type "type", data := Data.cls { name := .ofString "BytesIO", bases := [Value.ref 108], mro := [Value.ref 350, Value.ref 108, Value.ref 93, Value.type "object"], ns := 349, qualname := .ofString "BytesIO" }, slots := #[some (Value.ref 123), none, some (Value.str (.ofString "BytesIO") 479), some (Value.str (.ofString "BytesIO") 487), some Value.none, some (Value.bool true)] }) ::
(nat_lit 353, { cls := .type "tuple", data := Data.seq #[Value.ref 120] }) ::
(nat_lit 360, { cls := .type "tuple", data := Data.seq #[Value.str (.ofString "") 755, Value.str (.ofString "\n") 756] }) ::
(nat_lit 366, { cls := .type "code", data := Data.fields #[Value.str (.ofString "__init__") 757, Value.str (.ofString "StringIO.__init__") 758, Value.str (.ofString "/claim/cut.py") 759, Value.int 206 0, Value.int 3 0, Value.int 0 0, Value.int 0 0, Value.int 3 0, Value.ref 361, Value.bool true, Value.int 318 0, Value.ref 362, Value.none, Value.ref 363, Value.ref 364, Value.ref 365, Value.int 763 0, Value.int 206 0, Value.str (.ofString "/claim/cut.py") 764] }) ::
(nat_lit 367, { cls := .type "function", data := .func { name := .ofString "__init__", qualname := .ofString "StringIO.__init__", params := f367.p, body := .stmts f367.b, scope := f367.c, globals := 3, closure := [], defaults := Value.ref 360, kwdefaults := Value.none, pyModule := Value.str (.ofString "io") 371, code := Value.ref 366 } }) ::
(nat_lit 373, { cls := .type "code", data := Data.fields #[Value.str (.ofString "__translated") 766, Value.str (.ofString "StringIO.__translated") 767, Value.str (.ofString "/claim/cut.py") 768, Value.int 219 0, Value.int 2 0, Value.int 0 0, Value.int 0 0, Value.int 3 0, Value.ref 368, Value.bool true, Value.int 318 0, Value.ref 369, Value.none, Value.ref 370, Value.ref 371, Value.ref 372, Value.int 772 0, Value.int 219 0, Value.str (.ofString "/claim/cut.py") 773] }) ::
(nat_lit 374, { cls := .type "function", data := .func { name := .ofString "__translated", qualname := .ofString "StringIO.__translated", params := f374.p, body := .stmts f374.b, scope := f374.c, globals := 3, closure := [], defaults := Value.none, kwdefaults := Value.none, pyModule := Value.str (.ofString "io") 371, code := Value.ref 373 } }) ::
(nat_lit 380, { cls := .type "code", data := Data.fields #[Value.str (.ofString "__check") 775, Value.str (.ofString "StringIO.__check") 776, Value.str (.ofString "/claim/cut.py") 777, Value.int 227 0, Value.int 1 0, Value.int 0 0, Value.int 0 0, Value.int 3 0, Value.ref 375, Value.bool true, Value.int 318 0, Value.ref 376, Value.none, Value.ref 377, Value.ref 378, Value.ref 379, Value.int 779 0, Value.int 227 0, Value.str (.ofString "/claim/cut.py") 780] }) ::
(nat_lit 381, { cls := .type "function", data := .func { name := .ofString "__check", qualname := .ofString "StringIO.__check", params := f381.p, body := .stmts f381.b, scope := f381.c, globals := 3, closure := [], defaults := Value.none, kwdefaults := Value.none, pyModule := Value.str (.ofString "io") 371, code := Value.ref 380 } }) ::
(nat_lit 387, { cls := .type "code", data := Data.fields #[Value.str (.ofString "__check_dot") 782, Value.str (.ofString "StringIO.__check_dot") 783, Value.str (.ofString "/claim/cut.py") 784, Value.int 231 0, Value.int 1 0, Value.int 0 0, Value.int 0 0, Value.int 3 0, Value.ref 382, Value.bool true, Value.int 318 0, Value.ref 383, Value.none, Value.ref 384, Value.ref 385, Value.ref 386, Value.int 786 0, Value.int 231 0, Value.str (.ofString "/claim/cut.py") 787] }) ::
(nat_lit 388, { cls := .type "function", data := .func { name := .ofString "__check_dot", qualname := .ofString "StringIO.__check_dot", params := f388.p, body := .stmts f388.b, scope := f388.c, globals := 3, closure := [], defaults := Value.none, kwdefaults := Value.none, pyModule := Value.str (.ofString "io") 371, code := Value.ref 387 } }) ::
(nat_lit 401, { cls := .type "code", data := Data.fields #[Value.str (.ofString "closed") 804, Value.str (.ofString "StringIO.closed") 805, Value.str (.ofString "/claim/cut.py") 806, Value.int 267 0, Value.int 1 0, Value.int 0 0, Value.int 0 0, Value.int 3 0, Value.ref 396, Value.bool true, Value.int 318 0, Value.ref 397, Value.none, Value.ref 398, Value.ref 399, Value.ref 400, Value.int 808 0, Value.int 267 0, Value.str (.ofString "/claim/cut.py") 809] }) ::
(nat_lit 402, { cls := .type "function", data := .func { name := .ofString "closed", qualname := .ofString "StringIO.closed", params := f402.p, body := .stmts f402.b, scope := f402.c, globals := 3, closure := [], defaults := Value.none, kwdefaults := Value.none, pyModule := Value.str (.ofString "io") 371, code := Value.ref 401 } }) ::
(nat_lit 403, { cls := .type "property", data := Data.fields #[Value.ref 402, Value.none, Value.none, Value.none, Value.str (.ofString "closed") 811, Value.bool false] }) ::
(nat_lit 411, { cls := .type "property", data := Data.fields #[Value.ref 410, Value.none, Value.none, Value.none, Value.str (.ofString "line_buffering") 819, Value.bool false] }) ::
(nat_lit 419, { cls := .type "property", data := Data.fields #[Value.ref 418, Value.none, Value.none, Value.none, Value.str (.ofString "newlines") 827, Value.bool false] }) ::
(nat_lit 427, { cls := .type "property", data := Data.fields #[Value.ref 426, Value.none, Value.none, Value.none, Value.str (.ofString "encoding") 835, Value.bool false] }) ::
(nat_lit 435, { cls := .type "property", data := Data.fields #[Value.ref 434, Value.none, Value.none, Value.none, Value.str (.ofString "errors") 843, Value.bool false] }) ::
(nat_lit 441, { cls := .type "code", data := Data.fields #[Value.str (.ofString "close") 844, Value.str (.ofString "StringIO.close") 845, Value.str (.ofString "/claim/cut.py") 846, Value.int 287 0, Value.int 1 0, Value.int 0 0, Value.int 0 0, Value.int 3 0, Value.ref 436, Value.bool true, Value.int 318 0, Value.ref 437, Value.none, Value.ref 438, Value.ref 439, Value.ref 440, Value.int 848 0, Value.int 287 0, Value.str (.ofString "/claim/cut.py") 849] }) ::
(nat_lit 442, { cls := .type "function", data := .func { name := .ofString "close", qualname := .ofString "StringIO.close", params := f442.p, body := .stmts f442.b, scope := f442.c, globals := 3, closure := [], defaults := Value.none, kwdefaults := Value.none, pyModule := Value.str (.ofString "io") 371, code := Value.ref 441 } }) ::
(nat_lit 536, { cls := .type "tuple", data := Data.seq #[Value.int (-1) 948] }) ::
(nat_lit 542, { cls := .type "code", data := Data.fields #[Value.str (.ofString "read") 949, Value.str (.ofString "StringIO.read") 950, Value.str (.ofString "/claim/cut.py") 951, Value.int 349 0, Value.int 2 0, Value.int 2 0, Value.int 0 0, Value.int 3 0, Value.ref 537, Value.bool true, Value.int 318 0, Value.ref 538, Value.none, Value.ref 539, Value.ref 540, Value.ref 541, Value.int 956 0, Value.int 349 0, Value.str (.ofString "/claim/cut.py") 957] }) ::
(nat_lit 543, { cls := .type "function", data := .func { name := .ofString "read", qualname := .ofString "StringIO.read", params := f543.p, body := .stmts f543.b, scope := f543.c, globals := 3, closure := [], defaults := Value.ref 536, kwdefaults := Value.none, pyModule := Value.str (.ofString "io") 371, code := Value.ref 542 } }) ::
(nat_lit 595, { cls := .type "tuple", data := Data.seq #[Value.str (.ofString "__buf") 1021, Value.str (.ofString "__newline") 1022, Value.str (.ofString "__pos") 1023] }) ::
(nat_lit 596, { cls := .type "dict", data := Data.dict #[{ hash := PyData.keyHash P (.ofString "__module__"), key := Value.str (.ofString "__module__") 748, val := Value.str (.ofString "_io") 753 }, { hash := PyData.keyHash P (.ofString "__firstlineno__"), key := Value.str (.ofString "__firstlineno__") 752, val := Value.int 203 751 }, { hash := PyData.keyHash P (.ofString "__init__"), key := Value.str (.ofString "__init__") 765, val := Value.ref 367 }, { hash := PyData.keyHash P (.ofString "_StringIO__translated"), key := Value.str (.ofString "_StringIO__translated") 774, val := Value.ref 374 }, { hash := PyData.keyHash P (.ofString "_StringIO__check"), key := Value.str (.ofString "_StringIO__check") 781, val := Value.ref 381 }, { hash := PyData.keyHash P (.ofString "_StringIO__check_dot"), key := Value.str (.ofString "_StringIO__check_dot") 788, val := Value.ref 388 }, { hash := PyData.keyHash P (.ofString "_StringIO__line"), key := Value.str (.ofString "_StringIO__line") 803, val := Value.ref 395 }, { hash := PyData.keyHash P (.ofString "closed"), key := Value.str (.ofString "closed") 811, val := Value.ref 403 }, { hash := PyData.keyHash P (.ofString "line_buffering"), key := Value.str (.ofString "line_buffering") 819, val := Value.ref 411 }, { hash := PyData.keyHash P (.ofString "newlines"), key := Value.str (.ofString "newlines") 827, val := Value.ref 419 }, { hash := PyData.keyHash P (.ofString "encoding"), key := Value.str (.ofString "encoding") 835, val := Value.ref 427 }, { hash := PyData.keyHash P (.ofString "errors"), key := Value.str (.ofString "errors") 843, val := Value.ref 435 }, { hash := PyData.keyHash P (.ofString "close"), key := Value.str (.ofString "close") 850, val := Value.ref 442 }, { hash := PyData.keyHash P (.ofString "__enter__"), key := Value.str (.ofString "__enter__") 857, val := Value.ref 449 }, { hash := PyData.keyHash P (.ofString "__exit__"), key := Value.str (.ofString "__exit__") 865, val := Value.ref 456 }, { hash := PyData.keyHash P (.ofString "readable"), key := Value.str (.ofString "readable") 872, val := Value.ref 463 }, { hash := PyData.keyHash P (.ofString "writable"), key := Value.str (.ofString "writable") 879, val := Value.ref 470 }, { hash := PyData.keyHash P (.ofString "seekable"), key := Value.str (.ofString "seekable") 886, val := Value.ref 477 }, { hash := PyData.keyHash P (.ofString "isatty"), key := Value.str (.ofString "isatty") 893, val := Value.ref 484 }, { hash := PyData.keyHash P (.ofString "flush"), key := Value.str (.ofString "flush") 900, val := Value.ref 491 }, { hash := PyData.keyHash P (.ofString "fileno"), key := Value.str (.ofString "fileno") 907, val := Value.ref 498 }, { hash := PyData.keyHash P (.ofString "detach"), key := Value.str (.ofString "detach") 914, val := Value.ref 505 }, { hash := PyData.keyHash P (.ofString "getvalue"), key := Value.str (.ofString "getvalue") 921, val := Value.ref 512 }, { hash := PyData.keyHash P (.ofString "tell"), key := Value.str (.ofString "tell") 928, val := Value.ref 519 }, { hash := PyData.keyHash P (.ofString "seek"), key := Value.str (.ofString "seek") 938, val := Value.ref 527 }, { hash := PyData.keyHash P (.ofString "truncate"), key := Value.str (.ofString "truncate") 946, val := Value.ref 535 }, { hash := PyData.keyHash P (.ofString "read"), key := Value.str (.ofString "read") 958, val := Value.ref 543 }, { hash := PyData.keyHash P (.ofString "readline"), key := Value.str (.ofString "readline") 968, val := Value.ref 551 }, { hash := PyData.keyHash P (.ofString "readlines"), key := Value.str (.ofString "readlines") 978, val := Value.ref 559 }, { hash := PyData.keyHash P (.ofString "__iter__"), key := Value.str (.ofString "__iter__") 985, val := Value.ref 566 }, { hash := PyData.keyHash P (.ofString "__next__"), key := Value.str (.ofString "__next__") 993, val := Value.ref 573 }, { hash := PyData.keyHash P (.ofString "write"), key := Value.str (.ofString "write") 1005, val := Value.ref 580 }, { hash := PyData.keyHash P (.ofString "writelines"), key := Value.str (.ofString "writelines") 1013, val := Value.ref 587 }, { hash := PyData.keyHash P (.ofString "__repr__"), key := Value.str (.ofString "__repr__") 1020, val := Value.ref 594 }, { hash := PyData.keyHash P (.ofString "__static_attributes__"), key := Value.str (.ofString "__static_attributes__") 1024, val := Value.ref 595 }, { hash := PyData.keyHash P (.ofString "__doc__"), key := Value.str (.ofString "__doc__") 1025, val := Value.none }] 2 }) ::
(nat_lit 597, { cls := .type "type", data := Data.cls { name := .ofString "StringIO", bases := [Value.ref 120], mro := [Value.ref 597, Value.ref 120, Value.ref 93, Value.type "object"], ns := 596, qualname := .ofString "StringIO" }, slots := #[some (Value.ref 353), none, some (Value.str (.ofString "StringIO") 741), some (Value.str (.ofString "StringIO") 749), some Value.none, some (Value.bool true)] }) ::
(nat_lit 649, { cls := .type "tuple", data := Data.seq #[Value.none, Value.none, Value.bool false, Value.bool false] }) ::
(nat_lit 655, { cls := .type "code", data := Data.fields #[Value.str (.ofString "__init__") 1100, Value.str (.ofString "shlex.__init__") 1101, Value.str (.ofString "/claim/cut.py") 1102, Value.int 474 0, Value.int 5 0, Value.int 0 0, Value.int 0 0, Value.int 3 0, Value.ref 650, Value.bool true, Value.int 318 0, Value.ref 651, Value.none, Value.ref 652, Value.ref 653, Value.ref 654, Value.int 1109 0, Value.int 474 0, Value.str (.ofString "/claim/cut.py") 1110] }) ::
(nat_lit 656, { cls := .type "function", data := .func { name := .ofString "__init__", qualname := .ofString "shlex.__init__", params := f656.p, body := .stmts f656.b, scope := f656.c, globals := 3, closure := [], defaults := Value.ref 649, kwdefaults := Value.none, pyModule := Value.str (.ofString "cpy313.shlex") 1086, code := Value.ref 655 } }) ::
(nat_lit 662, { cls := .type "code", data := Data.fields #[Value.str (.ofString "punctuation_chars") 1112, Value.str (.ofString "shlex.punctuation_chars") 1113, Value.str (.ofString "/claim/cut.py") 1114, Value.int 515 0, Value.int 1 0, Value.int 0 0, Value.int 0 0, Value.int 3 0, Value.ref 657, Value.bool true, Value.int 318 0, Value.ref 658, Value.none, Value.ref 659, Value.ref 660, Value.ref 661, Value.int 1116 0, Value.int 515 0, Value.str (.ofString "/claim/cut.py") 1117] }) ::
(nat_lit 663, { cls := .type "function", data := .func { name := .ofString "punctuation_chars", qualname := .ofString "shlex.punctuation_chars", params := f663.p, body := .stmts f663.b, scope := f663.c, globals := 3, closure := [], defaults := Value.none, kwdefaults := Value.none, pyModule := Value.str (.ofString "cpy313.shlex") 1086, code := Value.ref 662 } }) ::
(nat_lit 664, { cls := .type "property", data := Data.fields #[Value.ref 663, Value.none, Value.none, Value.none, Value.str (.ofString "punctuation_chars") 1119, Value.bool false] }) ::
(nat_lit 670, { cls := .type "code", data := Data.fields #[Value.str (.ofString "push_token") 1120, Value.str (.ofString "shlex.push_token") 1121, Value.str (.ofString "/claim/cut.py") 1122, Value.int 519 0, Value.int 2 0, Value.int 0 0, Value.int 0 0, Value.int 3 0, Value.ref 665, Value.bool true, Value.int 318 0, Value.ref 666, Value.none, Value.ref 667, Value.ref 668, Value.ref 669, Value.int 1125 0, Value.int 519 0, Value.str (.ofString "/claim/cut.py") 1126] }) ::
(nat_lit 671, { cls := .type "function", data := .func { name := .ofString "push_token", qualname := .ofString "shlex.push_token", params := f671.p, body := .stmts f671.b, scope := f671.c, globals := 3, closure := [], defaults := Value.none, kwdefaults := Value.none, pyModule := Value.str (.ofString "cpy313.shlex") 1086, code := Value.ref 670 } }) ::
(nat_lit 672, { cls := .type "tuple", data := Data.seq #[Value.none] }) ::
(nat_lit 678, { cls := .type "code", data := Data.fields #[Value.str (.ofString "push_source") 1128, Value.str (.ofString "shlex.push_source") 1129, Value.str (.ofString "/claim/cut.py") 1130, Value.int 522 0, Value.int 3 0, Value.int 0 0, Value.int 0 0, Value.int 3 0, Value.ref 673, Value.bool true, Value.int 318 0, Value.ref 674, Value.none, Value.ref 675, Value.ref 676, Value.ref 677, Value.int 1134 0, Value.int 522 0, Value.str (.ofString "/claim/cut.py") 1135] }) ::
(nat_lit 679, { cls := .type "function", data := .func { name := .ofString "push_source", qualname := .ofString "shlex.push_source", params := f679.p, body := .stmts f679.b, scope := f679.c, globals := 3, closure := [], defaults := Value.ref 672, kwdefaults := Value.none, pyModule := Value.str (.ofString "cpy313.shlex") 1086, code := Value.ref 678 } }) ::
(nat_lit 685, { cls := .type "code", data := Data.fields #[Value.str (.ofString "pop_source") 1137, Value.str (.ofString "shlex.pop_source") 1138, Value.str (.ofString "/claim/cut.py") 1139, Value.int 535 0, Value.int 1 0, Value.int 0 0, Value.int 0 0, Value.int 3 0, Value.ref 680, Value.bool true, Value.int 318 0, Value.ref 681, Value.none, Value.ref 682, Value.ref 683, Value.ref 684, Value.int 1141 0, Value.int 535 0, Value.str (.ofString "/claim/cut.py") 1142] }) ::
(nat_lit 686, { cls := .type "function", data := .func { name := .ofString "pop_source", qualname := .ofString "shlex.pop_source", params := f686.p, body := .stmts f686.b, scope := f686.c, globals := 3, closure := [], defaults := Value.none, kwdefaults := Value.none, pyModule := Value.str (.ofString "cpy313.shlex") 1086, code := Value.ref 685 } }) ::
(nat_lit 692, { cls := .type "code", data := Data.fields #[Value.str (.ofString "get_token") 1144, Value.str (.ofString "shlex.get_token") 1145, Value.str (.ofString "/claim/cut.py") 1146, Value.int 542 0, Value.int 1 0, Value.int 0 0, Value.int 0 0, Value.int 3 0, Value.ref 687, Value.bool true, Value.int 318 0, Value.ref 688, Value.none, Value.ref 689, Value.ref 690, Value.ref 691, Value.int 1153 0, Value.int 542 0, Value.str (.ofString "/claim/cut.py") 1154] }) ::
(nat_lit 693, { cls := .type "function", data := .func { name := .ofString "get_token", qualname := .ofString "shlex.get_token", params := f693.p, body := .stmts f693.b, scope := f693.c, globals := 3, closure := [], defaults := Value.none, kwdefaults := Value.none, pyModule := Value.str (.ofString "cpy313.shlex") 1086, code := Value.ref 692 } }) ::
(nat_lit 699, { cls := .type "code", data := Data.fields #[Value.str (.ofString "read_token") 1156, Value.str (.ofString "shlex.read_token") 1157, Value.str (.ofString "/claim/cut.py") 1158, Value.int 569 0, Value.int 1 0, Value.int 0 0, Value.int 0 0, Value.int 3 0, Value.ref 694, Value.bool true, Value.int 318 0, Value.ref 695, Value.none, Value.ref 696, Value.ref 697, Value.ref 698, Value.int 1164 0, Value.int 569 0, Value.str (.ofString "/claim/cut.py") 1165] }) ::
(nat_lit 700, { cls := .type "function", data := .func { name := .ofString "read_token", qualname := .ofString "shlex.read_token", params := f700.p, body := .stmts f700.b, scope := f700.c, globals := 3, closure := [], defaults := Value.none, kwdefaults := Value.none, pyModule := Value.str (.ofString "cpy313.shlex") 1086, code := Value.ref 699 } }) ::
(nat_lit 721, { cls := .type "code", data := Data.fields #[Value.str (.ofString "__iter__") 1184, Value.str (.ofString "shlex.__iter__") 1185, Value.str (.ofString "/claim/cut.py") 1186, Value.int 716 0, Value.int 1 0, Value.int 0 0, Value.int 0 0, Value.int 3 0, Value.ref 716, Value.bool true, Value.int 318 0, Value.ref 717, Value.none, Value.ref 718, Value.ref 719, Value.ref 720, Value.int 1188 0, Value.int 716 0, Value.str (.ofString "/claim/cut.py") 1189] }) ::
(nat_lit 722, { cls := .type "function", data := .func { name := .ofString "__iter__", qualname := .ofString "shlex.__iter__", params := f722.p, body := .stmts f722.b, scope := f722.c, globals := 3, closure := [], defaults := Value.none, kwdefaults := Value.none, pyModule := Value.str (.ofString "cpy313.shlex") 1086, code := Value.ref 721 } }) ::
(nat_lit 728, { cls := .type "code", data := Data.fields #[Value.str (.ofString "__next__") 1191, Value.str (.ofString "shlex.__next__") 1192, Value.str (.ofString "/claim/cut.py") 1193, Value.int 719 0, Value.int 1 0, Value.int 0 0, Value.int 0 0, Value.int 3 0, Value.ref 723, Value.bool true, Value.int 318 0, Value.ref 724, Value.none, Value.ref 725, Value.ref 726, Value.ref 727, Value.int 1196 0, Value.int 719 0, Value.str (.ofString "/claim/cut.py") 1197] }) ::
(nat_lit 729, { cls := .type "function", data := .func { name := .ofString "__next__", qualname := .ofString "shlex.__next__", params := f729.p, body := .stmts f729.b, scope := f729.c, globals := 3, closure := [], defaults := Value.none, kwdefaults := Value.none, pyModule := Value.str (.ofString "cpy313.shlex") 1086, code := Value.ref 728 } }) ::
(nat_lit 730, { cls := .type "tuple", data := Data.seq #[Value.str (.ofString "_punctuation_chars") 1199, Value.str (.ofString "_pushback_chars") 1200, Value.str (.ofString "commenters") 1201, Value.str (.ofString "debug") 1202, Value.str (.ofString "eof") 1203, Value.str (.ofString "escape") 1204, Value.str (.ofString "escapedquotes") 1205, Value.str (.ofString "filestack") 1206, Value.str (.ofString "infile") 1207, Value.str (.ofString "instream") 1208, Value.str (.ofString "lineno") 1209, Value.str (.ofString "posix") 1210, Value.str (.ofString "pushback") 1211, Value.str (.ofString "quotes") 1212, Value.str (.ofString "source") 1213, Value.str (.ofString "state") 1214, Value.str (.ofString "token") 1215, Value.str (.ofString "whitespace") 1216, Value.str (.ofString "whitespace_split") 1217, Value.str (.ofString "wordchars") 1218] }) ::
(nat_lit 731, { cls := .type "dict", data := Data.dict #[{ hash := PyData.keyHash P (.ofString "__module__"), key := Value.str (.ofString "__module__") 1095, val := Value.str (.ofString "cpy313.shlex") 1086 }, { hash := PyData.keyHash P (.ofString "__firstlineno__"), key := Value.str (.ofString "__firstlineno__") 1099, val := Value.int 472 1098 }, { hash := PyData.keyHash P (.ofString "__init__"), key := Value.str (.ofString "__init__") 1111, val := Value.ref 656 }, { hash := PyData.keyHash P (.ofString "punctuation_chars"), key := Value.str (.ofString "punctuation_chars") 1119, val := Value.ref 664 }, { hash := PyData.keyHash P (.ofString "push_token"), key := Value.str (.ofString "push_token") 1127, val := Value.ref 671 }, { hash := PyData.keyHash P (.ofString "push_source"), key := Value.str (.ofString "push_source") 1136, val := Value.ref 679 }, { hash := PyData.keyHash P (.ofString "pop_source"), key := Value.str (.ofString "pop_source") 1143, val := Value.ref 686 }, { hash := PyData.keyHash P (.ofString "get_token"), key := Value.str (.ofString "get_token") 1155, val := Value.ref 693 }, { hash := PyData.keyHash P (.ofString "read_token"), key := Value.str (.ofString "read_token") 1166, val := Value.ref 700 }, { hash := PyData.keyHash P (.ofString "sourcehook"), key := Value.str (.ofString "sourcehook") 1174, val := Value.ref 707 }, { hash := PyData.keyHash P (.ofString "error_leader"), key := Value.str (.ofString "error_leader") 1183, val := Value.ref 715 }, { hash := PyData.keyHash P (.ofString "__iter__"), key := Value.str (.ofString "__iter__") 1190, val := Value.ref 722 }, { hash := PyData.keyHash P (.ofString "__next__"), key := Value.str (.ofString "__next__") 1198, val := Value.ref 729 }, { hash := PyData.keyHash P (.ofString "__static_attributes__"), key := Value.str (.ofString "__static_attributes__") 1219, val := Value.ref 730 }, { hash := PyData.keyHash P (.ofString "__dict__"), key := Value.str (.ofString "__dict__") 1221, val := Value.ref 733 }, { hash := PyData.keyHash P (.ofString "__weakref__"), key := Value.str (.ofString "__weakref__") 1223, val := Value.ref 734 }, { hash := PyData.keyHash P (.ofString "__doc__"), key := Value.str (.ofString "__doc__") 1224, val := Value.none }] 4 }) ::
(nat_lit 732, { cls := .type "type", data := Data.cls { name := .ofString "shlex", bases := [Value.type "object"], mro := [Value.ref 732, Value.type "object"], ns := 731, qualname := .ofString "shlex" }, slots := #[none, none, some (Value.str (.ofString "shlex") 1088), some (Value.str (.ofString "shlex") 1096), some (Value.builtin "object.__new__"), some (Value.bool true)] }) ::
(nat_lit 733, { cls := .type "getset_descriptor", data := Data.fields #[Value.str (.ofString "__dict__") 1220, Value.ref 732, Value.builtin "function.__dict__", Value.builtin "function.__dict__#set"] }) ::
(nat_lit 734, { cls := .type "getset_descriptor", data := Data.fields #[Value.str (.ofString "__weakref__") 1222, Value.ref 732, Value.builtin "ExceptionGroup.__weakref__", Value.none] }) ::
(nat_lit 737, { cls := .type "builtin_function_or_method", data := Data.fields #[Value.builtin "re.Pattern.search", Value.ref 49] }) ::
(nat_lit 743, { cls := .type "code", data := Data.fields #[Value.str (.ofString "quote") 1229, Value.str (.ofString "quote") 1230, Value.str (.ofString "/claim/cut.py") 1231, Value.int 725 0, Value.int 1 0, Value.int 0 0, Value.int 0 0, Value.int 3 0, Value.ref 738, Value.bool true, Value.int 318 0, Value.ref 739, Value.none, Value.ref 740, Value.ref 741, Value.ref 742, Value.int 1233 0, Value.int 725 0, Value.str (.ofString "/claim/cut.py") 1234] }) ::
(nat_lit 744, { cls := .type "function", data := .func { name := .ofString "quote", qualname := .ofString "quote", params := f744.p, body := .stmts f744.b, scope := f744.c, globals := 3, closure := [], defaults := Value.none, kwdefaults := Value.none, pyModule := Value.str (.ofString "cpy313.shlex") 1086, code := Value.ref 743 } }) ::
(nat_lit 745, { cls := .type "object" }) ::
(nat_lit 746, { cls := .type "tuple", data := Data.seq #[Value.ref 745] }) ::
(nat_lit 752, { cls := .type "code", data := Data.fields #[Value.str (.ofString "reduce") 1239, Value.str (.ofString "reduce") 1240, Value.str (.ofString "/claim/cut.py") 1241, Value.int 733 0, Value.int 3 0, Value.int 0 0, Value.int 0 0, Value.int 3 0, Value.ref 747, Value.bool true, Value.int 318 0, Value.ref 748, Value.none, Value.ref 749, Value.ref 750, Value.ref 751, Value.int 1248 0, Value.int 733 0, Value.str (.ofString "/claim/cut.py") 1249] }) ::
(nat_lit 753, { cls := .type "function", data := .func { name := .ofString "reduce", qualname := .ofString "reduce", params := f753.p, body := .stmts f753.b, scope := f753.c, globals := 3, closure := [], defaults := Value.ref 746, kwdefaults := Value.none, pyModule := Value.str (.ofString "cpy313.functools") 1236, code := Value.ref 752 } }) ::
(nat_lit 759, { cls := .type "code", data := Data.fields #[Value.str (.ofString "read_uint1") 1253, Value.str (.ofString "read_uint1") 1254, Value.str (.ofString "/claim/cut.py") 1255, Value.int 746 0, Value.int 1 0, Value.int 0 0, Value.int 0 0, Value.int 3 0, Value.ref 754, Value.bool true, Value.int 318 0, Value.ref 755, Value.none, Value.ref 756, Value.ref 757, Value.ref 758, Value.int 1258 0, Value.int 746 0, Value.str (.ofString "/claim/cut.py") 1259] }) ::
(nat_lit 760, { cls := .type "function", data := .func { name := .ofString "read_uint1", qualname := .ofString "read_uint1", params := f760.p, body := .stmts f760.b, scope := f760.c, globals := 3, closure := [], defaults := Value.none, kwdefaults := Value.none, pyModule := Value.str (.ofString "cpy313.pickletools") 1251, code := Value.ref 759 } }) ::
(nat_lit 766, { cls := .type "code", data := Data.fields #[Value.str (.ofString "read_string1") 1261, Value.str (.ofString "read_string1") 1262, Value.str (.ofString "/claim/cut.py") 1263, Value.int 751 0, Value.int 1 0, Value.int 0 0, Value.int 0 0, Value.int 3 0, Value.ref 761, Value.bool true, Value.int 318 0, Value.ref 762, Value.none, Value.ref 763, Value.ref 764, Value.ref 765, Value.int 1267 0, Value.int 751 0, Value.str (.ofString "/claim/cut.py") 1268] }) ::
(nat_lit 767, { cls := .type "function", data := .func { name := .ofString "read_string1", qualname := .ofString "read_string1", params := f767.p, body := .stmts f767.b, scope := f767.c, globals := 3, closure := [], defaults := Value.none, kwdefaults := Value.none, pyModule := Value.str (.ofString "cpy313.pickletools") 1251, code := Value.ref 766 } }) ::
(nat_lit 780, { cls := .type "code", data := Data.fields #[Value.str (.ofString "__init__") 1282, Value.str (.ofString "_Example.__init__") 1283, Value.str (.ofString "/claim/cut.py") 1284, Value.int 760 0, Value.int 2 0, Value.int 0 0, Value.int 0 0, Value.int 3 0, Value.ref 775, Value.bool true, Value.int 318 0, Value.ref 776, Value.none, Value.ref 777, Value.ref 778, Value.ref 779, Value.int 1287 0, Value.int 760 0, Value.str (.ofString "/claim/cut.py") 1288] }) ::
(nat_lit 781, { cls := .type "function", data := .func { name := .ofString "__init__", qualname := .ofString "_Example.__init__", params := f781.p, body := .stmts f781.b, scope := f781.c, globals := 3, closure := [], defaults := Value.none, kwdefaults := Value.none, pyModule := Value.str (.ofString "cpy313.pickletools") 1251, code := Value.ref 780 } }) ::
(nat_lit 782, { cls := .type "tuple", data := Data.seq #[Value.str (.ofString "value") 1290] }) ::
(nat_lit 783, { cls := .type "dict", data := Data.dict #[{ hash := PyData.keyHash P (.ofString "__module__"), key := Value.str (.ofString "__module__") 1277, val := Value.str (.ofString "cpy313.pickletools") 1251 }, { hash := PyData.keyHash P (.ofString "__firstlineno__"), key := Value.str (.ofString "__firstlineno__") 1281, val := Value.int 758 1280 }, { hash := PyData.keyHash P (.ofString "__init__"), key := Value.str (.ofString "__init__") 1289, val := Value.ref 781 }, { hash := PyData.keyHash P (.ofString "__static_attributes__"), key := Value.str (.ofString "__static_attributes__") 1291, val := Value.ref 782 }, { hash := PyData.keyHash P (.ofString "__dict__"), key := Value.str (.ofString "__dict__") 1293, val := Value.ref 785 }, { hash := PyData.keyHash P (.ofString "__weakref__"), key := Value.str (.ofString "__weakref__") 1295, val := Value.ref 786 }, { hash := PyData.keyHash P (.ofString "__doc__"), key := Value.str (.ofString "__doc__") 1296, val := Value.none }] 4 }) ::
(nat_lit 784, { cls := .type "type", data := Data.cls { name := .ofString "_Example", bases := [Value.type "object"], mro := [Value.ref 784, Value.type "object"], ns := 783, qualname := .ofString "_Example" }, slots := #[none, none, some (Value.str (.ofString "_Example") 1270), some (Value.str (.ofString "_Example") 1278), some (Value.builtin "object.__new__"), some (Value.bool true)] }) ::
(nat_lit 785, { cls := .type "getset_descriptor", data := Data.fields #[Value.str (.ofString "__dict__") 1292, Value.ref 784, Value.builtin "function.__dict__", Value.builtin "function.__dict__#set"] }) ::
(nat_lit 786, { cls := .type "getset_descriptor", data := Data.fields #[Value.str (.ofString "__weakref__") 1294, Value.ref 784, Value.builtin "ExceptionGroup.__weakref__", Value.none] }) ::
(nat_lit 794, { cls := .type "code", data := Data.fields #[Value.str (.ofString "_law_stream") 1301, Value.str (.ofString "_law_stream") 1302, Value.str (.ofString "/claim/cut.py") 1303, Value.int 763 0, Value.int 1 0, Value.int 0 0, Value.int 0 0, Value.int 3 0, Value.ref 789, Value.bool true, Value.int 318 0, Value.ref 790, Value.none, Value.ref 791, Value.ref 792, Value.ref 793, Value.int 1308 0, Value.int 763 0, Value.str (.ofString "/claim/cut.py") 1309] }) ::
(nat_lit 795, { cls := .type "function", data := .func { name := .ofString "_law_stream", qualname := .ofString "_law_stream", params := f795.p, body := .stmts f795.b, scope := f795.c, globals := 3, closure := [], defaults := Value.none, kwdefaults := Value.none, pyModule := Value.str (.ofString "law_il0184_01") 1299, code := Value.ref 794 } }) ::
(nat_lit 801, { cls := .type "code", data := Data.fields #[Value.str (.ofString "_law_read") 1311, Value.str (.ofString "_law_read") 1312, Value.str (.ofString "/claim/cut.py") 1313, Value.int 772 0, Value.int 1 0, Value.int 0 0, Value.int 0 0, Value.int 3 0, Value.ref 796, Value.bool true, Value.int 318 0, Value.ref 797, Value.none, Value.ref 798, Value.ref 799, Value.ref 800, Value.int 1317 0, Value.int 772 0, Value.str (.ofString "/claim/cut.py") 1318] }) ::
(nat_lit 802, { cls := .type "function", data := .func { name := .ofString "_law_read", qualname := .ofString "_law_read", params := f802.p, body := .stmts f802.b, scope := f802.c, globals := 3, closure := [], defaults := Value.none, kwdefaults := Value.none, pyModule := Value.str (.ofString "law_il0184_01") 1299, code := Value.ref 801 } }) ::
(nat_lit 806, { cls := .type "code", data := Data.fields #[Value.str (.ofString "_law_sizes") 1320, Value.str (.ofString "_law_sizes") 1321, Value.str (.ofString "/claim/cut.py") 1322, Value.int 779 0, Value.int 1 0, Value.int 0 0, Value.int 0 0, Value.int 3 0, Value.ref 803, Value.bool true, Value.int 318 0, Value.ref 804, Value.none, Value.none, Value.none, Value.ref 805, Value.int 1323 0, Value.int 779 0, Value.str (.ofString "/claim/cut.py") 1324] }) ::
(nat_lit 807, { cls := .type "function", data := .func { name := .ofString "_law_sizes", qualname := .ofString "_law_sizes", params := f807.p, body := .stmts f807.b, scope := f807.c, globals := 3, closure := [], defaults := Value.none, kwdefaults := Value.none, pyModule := Value.str (.ofString "law_il0184_01") 1299, code := Value.ref 806 } }) ::
(nat_lit 813, { cls := .type "code", data := Data.fields #[Value.str (.ofString "_law_texts") 1326, Value.str (.ofString "_law_texts") 1327, Value.str (.ofString "/claim/cut.py") 1328, Value.int 785 0, Value.int 1 0, Value.int 0 0, Value.int 0 0, Value.int 3 0, Value.ref 808, Value.bool true, Value.int 318 0, Value.ref 809, Value.none, Value.ref 810, Value.ref 811, Value.ref 812, Value.int 1336 0, Value.int 785 0, Value.str (.ofString "/claim/cut.py") 1337] }) ::
(nat_lit 814, { cls := .type "function", data := .func { name := .ofString "_law_texts", qualname := .ofString "_law_texts", params := f814.p, body := .stmts f814.b, scope := f814.c, globals := 3, closure := [], defaults := Value.none, kwdefaults := Value.none, pyModule := Value.str (.ofString "law_il0184_01") 1299, code := Value.ref 813 } }) ::
(nat_lit 820, { cls := .type "code", data := Data.fields #[Value.str (.ofString "_law_spelled") 1339, Value.str (.ofString "_law_spelled") 1340, Value.str (.ofString "/claim/cut.py") 1341, Value.int 797 0, Value.int 1 0, Value.int 0 0, Value.int 0 0, Value.int 3 0, Value.ref 815, Value.bool true, Value.int 318 0, Value.ref 816, Value.none, Value.ref 817, Value.ref 818, Value.ref 819, Value.int 1347 0, Value.int 797 0, Value.str (.ofString "/claim/cut.py") 1348] }) ::
(nat_lit 821, { cls := .type "function", data := .func { name := .ofString "_law_spelled", qualname := .ofString "_law_spelled", params := f821.p, body := .stmts f821.b, scope := f821.c, globals := 3, closure := [], defaults := Value.none, kwdefaults := Value.none, pyModule := Value.str (.ofString "law_il0184_01") 1299, code := Value.ref 820 } }) ::
(nat_lit 827, { cls := .type "code", data := Data.fields #[Value.str (.ofString "_law_found") 1350, Value.str (.ofString "_law_found") 1351, Value.str (.ofString "/claim/cut.py") 1352, Value.int 809 0, Value.int 4 0, Value.int 0 0, Value.int 0 0, Value.int 3 0, Value.ref 822, Value.bool true, Value.int 318 0, Value.ref 823, Value.none, Value.ref 824, Value.ref 825, Value.ref 826, Value.int 1359 0, Value.int 809 0, Value.str (.ofString "/claim/cut.py") 1360] }) ::
(nat_lit 828, { cls := .type "function", data := .func { name := .ofString "_law_found", qualname := .ofString "_law_found", params := f828.p, body := .stmts f828.b, scope := f828.c, globals := 3, closure := [], defaults := Value.none, kwdefaults := Value.none, pyModule := Value.str (.ofString "law_il0184_01") 1299, code := Value.ref 827 } }) ::
(nat_lit 832, { cls := .type "code", data := Data.fields #[Value.str (.ofString "law") 1362, Value.str (.ofString "law") 1363, Value.str (.ofString "/claim/cut.py") 1364, Value.int 820 0, Value.int 1 0, Value.int 0 0, Value.int 0 0, Value.int 3 0, Value.ref 829, Value.bool true, Value.int 318 0, Value.ref 830, Value.none, Value.none, Value.none, Value.ref 831, Value.int 1365 0, Value.int 820 0, Value.str (.ofString "/claim/cut.py") 1366] }) ::
(nat_lit 833, { cls := .type "function", data := .func { name := .ofString "law", qualname := .ofString "law", params := f833.p, body := .stmts f833.b, scope := f833.c, globals := 3, closure := [], defaults := Value.none, kwdefaults := Value.none, pyModule := Value.str (.ofString "law_il0184_01") 1299, code := Value.ref 832 } }) :: []
noncomputable def hd.addrs : List Nat := [2, 3, 43, 44, 48, 49, 55, 56, 62, 63, 64, 71, 72, 73, 74, 89, 90, 91, 92, 93, 94, 95, 96, 99, 106, 107, 108, 111, 118, 119, 120, 123, 159, 348, 349, 350, 353, 360, 366, 367, 373, 374, 380, 381, 387, 388, 401, 402, 403, 411, 419, 427, 435, 441, 442, 536, 542, 543, 595, 596, 597, 649, 655, 656, 662, 663, 664, 670, 671, 672, 678, 679, 685, 686, 692, 693, 699, 700, 721, 722, 728, 729, 730, 731, 732, 733, 734, 737, 743, 744, 745, 746, 752, 753, 759, 760, 766, 767, 780, 781, 782, 783, 784, 785, 786, 794, 795, 801, 802, 806, 807, 813, 814, 820, 821, 827, 828, 832, 833]
noncomputable def hd.view_39 : Program := view PySem.Challenge.pw_il0184_01 [0, 1, 2, 3, 5, 6, 7, 8, 9, 10, 11, 12, 14, 15, 16, 17, 18, 19, 21, 22, 23, 25, 28, 29, 30, 32, 33, 34, 35, 36, 37, 38]
noncomputable abbrev hd.loose : List Str := [Str.ofString "_twin_re_1", Str.ofString "UnsupportedOperation", Str.ofString "IOBase", Str.ofString "BufferedIOBase", Str.ofString "TextIOBase", Str.ofString "BytesIO", Str.ofString "StringIO", Str.ofString "shlex", Str.ofString "_find_unsafe", Str.ofString "_initial_missing", Str.ofString "reduce"]
theorem hd.keys (P : Params) : hd.addrs = (hd.heap_39 P).map (·.1) := by kernel_rfl
noncomputable abbrev hd.hook : Hook := kmHook hd.heap_39 hd.addrs hd.keys [816, 790]
theorem hd.left : LeftO PySem.Challenge.pw_il0184_01 hd.view_39 hd.loose (fun s => xlAt hd.view_39 [] s && recOk [] s) (Hook.obs hd.hook) (Hook.val hd.hook) 10950 :=
  leftO_of2 (fun _ hg => openSeen_g hg) (obsT hd.addrs [816, 790]) (obsT_eq hd.addrs [816, 790]) (by
    intro w
    unfold fencedOpening
    rw [Fast.te10274390034422433532, Fast.te14289696077712309145, Fast.te10156331382660048174, Fast.te11892475500146522536, Fast.te14364793385576792824, Fast.te5160383126252970620, Fast.te5991557255702980513, Fast.te3399658132070893891, Fast.te7409074990110511671, Fast.te13664370479719496447, Fast.te10994771534591457954, Fast.te479339242167458305, Fast.te2386780881361962483, Fast.te11698064438423848299, Fast.te3247288618530077131, Fast.te16090120013241838585, Fast.te10880121769531294198, Fast.te14722251495701143533, Fast.te7317090234206586261, Fast.te7369524293546568484, Fast.te821141287760084731, Fast.te1435165496053646825, Fast.te6613529449190102663]
    kernel_rfl)
noncomputable abbrev hd.d : DefRec := { name := Str.ofString "law", params := f833.p, body := f833.b, scope := f833.c, pos := { line := 820, col := 0, endLine := 831, endCol := 79 } }
theorem hd.wit : PySem.Challenge.rw_il0184_01.row.toRowW.promised := by w_witness2
section
open PySem.TablesWhole
/-- two readings of a text's names that go hand in hand -/
structure Hand {α β : Type} (A : Alg α) (B : Alg β) (R : α → β → Prop) : Prop where
  ask : ∀ sc n p, R (A.ask sc n p) (B.ask sc n p)
  check : ∀ w sc n ok, R (A.check w sc n ok) (B.check w sc n ok)
  enter : ∀ sc, R (A.enter sc) (B.enter sc)
  unit : R A.unit B.unit
  bad : R A.bad B.bad
  both : ∀ {a b a' b'}, R a b → R a' b' → R (A.both a a') (B.both b b')

section
variable {α β : Type} {A : Alg α} {B : Alg β} {R : α → β → Prop} (H : Hand A B R)
include H
omit H in
theorem Hand.ite (H : Hand A B R) {c : Prop} [Decidable c] {a b a' b'} (x : R a b) (y : R a' b') : R (if c then a else a') (if c then b else b') := by
  split
  · exact x
  · exact y
theorem Hand.nil : R (A.all []) (B.all []) := H.unit
theorem Hand.cons {a b l m} (x : R a b) (y : R (A.all l) (B.all m)) : R (A.all (a :: l)) (B.all (b :: m)) := H.both x y
theorem Hand.map {γ : Type} {f : γ → α} {g : γ → β} : ∀ (l : List γ), (∀ x, R (f x) (g x)) → R (A.all (l.map f)) (B.all (l.map g))
  | [], _ => H.unit
  | x :: l, h => H.both (h x) (Hand.map l h)
theorem Hand.bind (cx sc n p) : R (A.bind cx sc n p) (B.bind cx sc n p) := H.both (H.ask _ _ _) (H.check _ _ _ _)
theorem Hand.optName (cx sc n p) : R (A.optName cx sc n p) (B.optName cx sc n p) := by
  cases n with
  | none => exact H.unit
  | some n => exact H.bind _ _ _ _
theorem Hand.inlined (fr own) : R (A.inlined fr own) (B.inlined fr own) := by
  unfold Alg.inlined
  split
  · exact H.unit
  · exact H.map _ fun _ => H.check _ _ _ _
theorem Hand.names (sc ns p) : R (A.names sc ns p) (B.names sc ns p) := H.map _ fun _ => H.ask _ _ _
theorem Hand.enterFrom (ch cls gl parent own) : R (A.enterFrom ch cls gl parent own) (B.enterFrom ch cls gl parent own) := by
  unfold Alg.enterFrom
  refine H.cons (H.enter _) (H.cons (H.check _ _ _ _) (H.cons (H.map _ fun _ => H.both (H.ask _ _ _) (H.check _ _ _ _)) (H.cons (H.map _ fun _ => H.check _ _ _ _) (H.cons ?_ (H.cons ?_ (H.cons ?_ H.nil))))))
  · split
    · exact H.map _ fun _ => H.check _ _ _ _
    · exact H.unit
  · split
    · exact H.unit
    · exact H.map _ fun _ => H.check _ _ _ _
  · split
    · exact H.both (H.ask _ _ _) (H.check _ _ _ _)
    · exact H.unit
theorem Hand.params (own p) : R (A.params own p) (B.params own p) := H.map _ fun _ => H.bind _ _ _ _
end

section
variable {α β : Type} {A : Alg α} {B : Alg β} {R : α → β → Prop}
mutual
theorem hwE (H : Hand A B R) (cx : TablesWhole.Ctx) (sc : Scope) (hold : Option Scope) : ∀ e : PySem.Expr, R (wE A cx sc hold e) (wE B cx sc hold e)
  | .Constant .. => H.unit
  | .Name id pos => H.ite (H.both (H.ask _ _ _) (H.ask _ _ _)) (H.ask _ _ _)
  | .BoolOp _ vs _ => hwEs H _ _ _ vs
  | .JoinedStr vs _ => hwEs H _ _ _ vs
  | .List vs _ => hwEs H _ _ _ vs
  | .Tuple vs _ _ => hwEs H _ _ _ vs
  | .Set vs _ _ => hwEs H _ _ _ vs
  | .NamedExpr t v _ => by
    refine H.both (hwE H _ _ _ v) ?_
    cases hold with
    | none => exact hwT H _ _ _ t
    | some h => cases t <;> first | exact H.bad | exact H.cons (H.ask _ _ _) (H.cons (H.ask _ _ _) (H.cons (H.check _ _ _ _) H.nil))
  | .BinOp a _ b _ => H.both (hwE H _ _ _ a) (hwE H _ _ _ b)
  | .Subscript a b _ => H.both (hwE H _ _ _ a) (hwE H _ _ _ b)
  | .UnaryOp _ a _ => hwE H _ _ _ a
  | .Attribute a _ _ => hwE H _ _ _ a
  | .Starred a _ => hwE H _ _ _ a
  | .Await a _ => hwE H _ _ _ a
  | .YieldFrom a _ => hwE H _ _ _ a
  | .Yield v _ => hwEo H _ _ _ v
  | .FormattedValue a _ s _ => H.both (hwE H _ _ _ a) (hwEo H _ _ _ s)
  | .IfExp a b c _ => H.cons (hwE H _ _ _ a) (H.cons (hwE H _ _ _ b) (H.cons (hwE H _ _ _ c) H.nil))
  | .Compare a _ bs _ => H.both (hwE H _ _ _ a) (hwEs H _ _ _ bs)
  | .Call f as ks _ => H.cons (hwE H _ _ _ f) (H.cons (hwEs H _ _ _ as) (H.cons (hwKs H _ _ _ ks) H.nil))
  | .Dict ks vs _ => H.both (hwEos H _ _ _ ks) (hwEs H _ _ _ vs)
  | .Slice a b c _ => H.cons (hwEo H _ _ _ a) (H.cons (hwEo H _ _ _ b) (H.cons (hwEo H _ _ _ c) H.nil))
  | .Lambda args body own _ => H.cons (hwDefaults H _ _ _ args) (H.cons (H.enterFrom _ _ _ _ _) (H.cons (H.params _ _) (H.cons (hwE H _ _ _ body) H.nil)))
  | .ListComp e gs own _ => H.cons (H.enterFrom _ _ _ _ _) (H.cons (H.inlined _ _) (H.cons (H.bind _ _ _ _) (H.cons (hwGens H _ _ _ _ _ _ _ gs) (H.cons (hwE H _ _ _ e) H.nil))))
  | .SetComp e gs own _ => H.cons (H.enterFrom _ _ _ _ _) (H.cons (H.inlined _ _) (H.cons (H.bind _ _ _ _) (H.cons (hwGens H _ _ _ _ _ _ _ gs) (H.cons (hwE H _ _ _ e) H.nil))))
  | .GeneratorExp e gs own _ => H.cons (H.enterFrom _ _ _ _ _) (H.cons (H.bind _ _ _ _) (H.cons (hwGens H _ _ _ _ _ _ _ gs) (H.cons (hwE H _ _ _ e) H.nil)))
  | .DictComp k v gs own _ => H.cons (H.enterFrom _ _ _ _ _) (H.cons (H.inlined _ _) (H.cons (H.bind _ _ _ _) (H.cons (hwGens H _ _ _ _ _ _ _ gs) (H.cons (hwE H _ _ _ k) (H.cons (hwE H _ _ _ v) H.nil)))))
theorem hwT (H : Hand A B R) (cx : TablesWhole.Ctx) (sc : Scope) (hold : Option Scope) : ∀ e : PySem.Expr, R (wT A cx sc hold e) (wT B cx sc hold e)
  | .Name id pos => H.bind _ _ _ _
  | .Tuple es _ _ => hwTs H _ _ _ es
  | .List es _ => hwTs H _ _ _ es
  | .Starred e _ => hwT H _ _ _ e
  | .Attribute o _ _ => hwE H _ _ _ o
  | .Subscript o i _ => H.both (hwE H _ _ _ o) (hwE H _ _ _ i)
  | .Constant .. => H.bad
  | .BoolOp .. => H.bad
  | .JoinedStr .. => H.bad
  | .Set .. => H.bad
  | .NamedExpr .. => H.bad
  | .BinOp .. => H.bad
  | .UnaryOp .. => H.bad
  | .Await .. => H.bad
  | .YieldFrom .. => H.bad
  | .Yield .. => H.bad
  | .FormattedValue .. => H.bad
  | .IfExp .. => H.bad
  | .Compare .. => H.bad
  | .Call .. => H.bad
  | .Dict .. => H.bad
  | .Slice .. => H.bad
  | .Lambda .. => H.bad
  | .ListComp .. => H.bad
  | .SetComp .. => H.bad
  | .GeneratorExp .. => H.bad
  | .DictComp .. => H.bad
theorem hwEs (H : Hand A B R) (cx : TablesWhole.Ctx) (sc : Scope) (hold : Option Scope) : ∀ l : List PySem.Expr, R (wEs A cx sc hold l) (wEs B cx sc hold l)
  | [] => H.unit
  | e :: l => H.both (hwE H _ _ _ e) (hwEs H _ _ _ l)
theorem hwTs (H : Hand A B R) (cx : TablesWhole.Ctx) (sc : Scope) (hold : Option Scope) : ∀ l : List PySem.Expr, R (wTs A cx sc hold l) (wTs B cx sc hold l)
  | [] => H.unit
  | e :: l => H.both (hwT H _ _ _ e) (hwTs H _ _ _ l)
theorem hwEo (H : Hand A B R) (cx : TablesWhole.Ctx) (sc : Scope) (hold : Option Scope) : ∀ l : Option PySem.Expr, R (wEo A cx sc hold l) (wEo B cx sc hold l)
  | none => H.unit
  | some e => hwE H _ _ _ e
theorem hwEos (H : Hand A B R) (cx : TablesWhole.Ctx) (sc : Scope) (hold : Option Scope) : ∀ l : List (Option PySem.Expr), R (wEos A cx sc hold l) (wEos B cx sc hold l)
  | [] => H.unit
  | e :: l => H.both (hwEo H _ _ _ e) (hwEos H _ _ _ l)
theorem hwKs (H : Hand A B R) (cx : TablesWhole.Ctx) (sc : Scope) (hold : Option Scope) : ∀ l : List Keyword, R (wKs A cx sc hold l) (wKs B cx sc hold l)
  | [] => H.unit
  | ⟨_, v, _⟩ :: l => H.both (hwE H _ _ _ v) (hwKs H _ _ _ l)
theorem hwGens (H : Hand A B R) (cx cxOwn : TablesWhole.Ctx) (around own : Scope) (outer hold : Option Scope) (first : Bool) : ∀ l : List Comprehension, R (wGens A cx cxOwn around own outer hold first l) (wGens B cx cxOwn around own outer hold first l)
  | [] => H.unit
  | ⟨t, it, ifs, _⟩ :: l => by
    refine H.cons ?_ (H.cons (hwT H _ _ _ t) (H.cons (hwEs H _ _ _ ifs) (H.cons (hwGens H _ _ _ _ _ _ _ l) H.nil)))
    split
    · exact hwE H _ _ _ it
    · exact hwE H _ _ _ it
theorem hwDefaults (H : Hand A B R) (cx : TablesWhole.Ctx) (sc : Scope) (hold : Option Scope) : ∀ a : Arguments, R (wDefaults A cx sc hold a) (wDefaults B cx sc hold a)
  | ⟨_, _, _, _, kd, _, d⟩ => H.both (hwEs H _ _ _ d) (hwEos H _ _ _ kd)
end
theorem hwArgAnnO (H : Hand A B R) (cx : TablesWhole.Ctx) (sc : Scope) (hold : Option Scope) : ∀ a : Option Arg, R (wArgAnnO A cx sc hold a) (wArgAnnO B cx sc hold a)
  | none => H.unit
  | some ⟨_, ann, _⟩ => hwEo H _ _ _ ann
theorem hwArgAnns (H : Hand A B R) (cx : TablesWhole.Ctx) (sc : Scope) (hold : Option Scope) : ∀ a : List Arg, R (wArgAnns A cx sc hold a) (wArgAnns B cx sc hold a)
  | [] => H.unit
  | ⟨_, ann, _⟩ :: l => H.both (hwEo H _ _ _ ann) (hwArgAnns H _ _ _ l)
theorem hwAnns (H : Hand A B R) (cx : TablesWhole.Ctx) (sc : Scope) (hold : Option Scope) : ∀ a : Arguments, R (wAnns A cx sc hold a) (wAnns B cx sc hold a)
  | ⟨po, a, va, ko, _, kw, _⟩ => by
    exact H.cons (hwArgAnns H _ _ _ _) (H.cons (hwArgAnns H _ _ _ _) (H.cons (hwArgAnnO H _ _ _ _) (H.cons (hwArgAnns H _ _ _ _) (H.cons (hwArgAnnO H _ _ _ _) H.nil))))
mutual
theorem hwP (H : Hand A B R) (cx : TablesWhole.Ctx) (sc : Scope) : ∀ p : PySem.Pattern, R (wP A cx sc p) (wP B cx sc p)
  | .MatchValue e _ => hwE H _ _ _ e
  | .MatchSingleton .. => H.unit
  | .MatchSequence ps _ => hwPs H _ _ ps
  | .MatchOr ps _ => hwPs H _ _ ps
  | .MatchMapping ks ps rest pos => H.cons (hwEs H _ _ _ ks) (H.cons (hwPs H _ _ ps) (H.cons (H.optName _ _ _ _) H.nil))
  | .MatchClass c ps _ kps _ => H.cons (hwE H _ _ _ c) (H.cons (hwPs H _ _ ps) (H.cons (hwPs H _ _ kps) H.nil))
  | .MatchStar n pos => H.optName _ _ _ _
  | .MatchAs p n pos => H.both (hwPo H _ _ p) (H.optName _ _ _ _)
theorem hwPs (H : Hand A B R) (cx : TablesWhole.Ctx) (sc : Scope) : ∀ p : List PySem.Pattern, R (wPs A cx sc p) (wPs B cx sc p)
  | [] => H.unit
  | p :: l => H.both (hwP H _ _ p) (hwPs H _ _ l)
theorem hwPo (H : Hand A B R) (cx : TablesWhole.Ctx) (sc : Scope) : ∀ p : Option PySem.Pattern, R (wPo A cx sc p) (wPo B cx sc p)
  | none => H.unit
  | some p => hwP H _ _ p
end
theorem hwLazy (H : Hand A B R) (ch cls parent) : ∀ (e : Option PySem.Expr) (o : Option Scope), R (wLazy A ch cls parent e o) (wLazy B ch cls parent e o)
  | none, _ => H.unit
  | some e, some own => H.both (H.enterFrom _ _ _ _ _) (hwE H _ _ _ e)
  | some _, none => H.bad
theorem hwTP (H : Hand A B R) (ch cls ts) : ∀ t : TypeParam, R (wTP A ch cls ts t) (wTP B ch cls ts t)
  | .TypeVar .. => H.cons (H.bind _ _ _ _) (H.cons (hwLazy H _ _ _ _ _) (H.cons (hwLazy H _ _ _ _ _) H.nil))
  | .ParamSpec .. => H.both (H.bind _ _ _ _) (hwLazy H _ _ _ _ _)
  | .TypeVarTuple .. => H.both (H.bind _ _ _ _) (hwLazy H _ _ _ _ _)
theorem hwTPs (H : Hand A B R) (ch cls ts l) : R (wTPs A ch cls ts l) (wTPs B ch cls ts l) := H.map _ fun _ => hwTP H _ _ _ _
theorem hwItems (H : Hand A B R) (cx sc l) : R (wItems A cx sc l) (wItems B cx sc l) := H.map _ fun i => H.both (hwE H _ _ _ _) (by
  split
  · exact hwT H _ _ _ _
  · exact H.unit)
theorem hwDefHead (H : Hand A B R) (cx sc args ds ret tps own ts bind pos gl) : R (wDefHead A cx sc args ds ret tps own ts bind pos gl) (wDefHead B cx sc args ds ret tps own ts bind pos gl) := by
  unfold wDefHead
  refine H.cons (hwEs H _ _ _ _) (H.cons (hwDefaults H _ _ _ _) (H.cons (H.bind _ _ _ _) (H.cons (H.params _ _) (H.cons ?_ H.nil))))
  cases tps with
  | nil => exact H.cons (H.enterFrom _ _ _ _ _) (H.cons (hwAnns H _ _ _ _) (H.cons (hwEo H _ _ _ _) H.nil))
  | cons t tps =>
    cases ts with
    | none => exact H.bad
    | some ts =>
      refine H.cons (H.enterFrom _ _ _ _ _) (H.cons (H.enterFrom _ _ _ _ _) (H.cons (hwTPs H _ _ _ _) (H.cons (hwAnns H _ _ _ _) (H.cons (hwEo H _ _ _ _) ?_))))
      repeat refine H.cons (by first | exact H.bind _ _ _ _ | exact H.ask _ _ _ | (split <;> first | exact H.unit | exact H.bind _ _ _ _)) ?_
      exact H.nil
theorem hwClassHead (H : Hand A B R) (cx sc bases kws ds tps own ts bind pos gl) : R (wClassHead A cx sc bases kws ds tps own ts bind pos gl) (wClassHead B cx sc bases kws ds tps own ts bind pos gl) := by
  unfold wClassHead
  refine H.cons (hwEs H _ _ _ _) (H.cons (H.bind _ _ _ _) (H.cons ?_ H.nil))
  cases tps with
  | nil => exact H.cons (H.enterFrom _ _ _ _ _) (H.cons (hwEs H _ _ _ _) (H.cons (hwKs H _ _ _ _) H.nil))
  | cons t tps =>
    cases ts with
    | none => exact H.bad
    | some ts =>
      refine H.cons (H.enterFrom _ _ _ _ _) (H.cons (H.enterFrom _ _ _ _ _) (H.cons (hwTPs H _ _ _ _) ?_))
      repeat refine H.cons (by first | exact H.bind _ _ _ _ | exact H.ask _ _ _ | exact hwEs H _ _ _ _ | exact hwKs H _ _ _ _) ?_
      exact H.nil
mutual
theorem hwS (H : Hand A B R) (top : Scope) (cx : TablesWhole.Ctx) (sc : Scope) : ∀ s : PySem.Stmt, R (wS A top cx sc s) (wS B top cx sc s)
  | .Pass _ => H.unit
  | .Break _ => H.unit
  | .Continue _ => H.unit
  | .Global ns pos => H.cons (H.names _ _ _) (H.cons (H.map _ fun _ => H.check _ _ _ _) (H.cons (H.map _ fun _ => H.ask _ _ _) H.nil))
  | .Nonlocal ns pos => H.both (H.names _ _ _) (H.map _ fun _ => H.check _ _ _ _)
  | .Import as _ => H.map _ fun _ => H.bind _ _ _ _
  | .ImportFrom _ as _ _ => by
    exact H.map _ fun a => by split <;> first | exact H.unit | exact H.bind _ _ _ _
  | .Return v _ => hwEo H _ _ _ v
  | .Expr e _ => hwE H _ _ _ e
  | .Raise a b _ => H.both (hwEo H _ _ _ a) (hwEo H _ _ _ b)
  | .Assert a b _ => H.both (hwE H _ _ _ a) (hwEo H _ _ _ b)
  | .Assign ts v _ => H.both (hwE H _ _ _ v) (hwTs H _ _ _ ts)
  | .AugAssign t _ v _ => H.both (hwT H _ _ _ t) (hwE H _ _ _ v)
  | .Delete ts _ => hwTs H _ _ _ ts
  | .AnnAssign t a v simple _ => by
    refine H.cons ?_ (H.cons (hwE H _ _ _ a) H.nil)
    cases v with
    | some e => exact H.both (hwE H _ _ _ e) (hwT H _ _ _ t)
    | none => cases t <;> first | exact hwT H _ _ _ _ | (dsimp only; split <;> first | exact H.unit | exact H.bind _ _ _ _)
  | .If t b o _ => H.cons (hwE H _ _ _ t) (H.cons (hwSs H _ _ _ b) (H.cons (hwSs H _ _ _ o) H.nil))
  | .While t b o _ => H.cons (hwE H _ _ _ t) (H.cons (hwSs H _ _ _ b) (H.cons (hwSs H _ _ _ o) H.nil))
  | .For t i b o _ => H.cons (hwE H _ _ _ i) (H.cons (hwT H _ _ _ t) (H.cons (hwSs H _ _ _ b) (H.cons (hwSs H _ _ _ o) H.nil)))
  | .AsyncFor t i b o _ => H.cons (hwE H _ _ _ i) (H.cons (hwT H _ _ _ t) (H.cons (hwSs H _ _ _ b) (H.cons (hwSs H _ _ _ o) H.nil)))
  | .With items b _ => H.both (hwItems H _ _ _) (hwSs H _ _ _ b)
  | .AsyncWith items b _ => H.both (hwItems H _ _ _) (hwSs H _ _ _ b)
  | .Match subject cases _ => H.both (hwE H _ _ _ subject) (hwCs H _ _ _ cases)
  | .Try b hs o f _ => H.cons (hwSs H _ _ _ b) (H.cons (hwHs H _ _ _ hs) (H.cons (hwSs H _ _ _ o) (H.cons (hwSs H _ _ _ f) H.nil)))
  | .TryStar b hs o f _ => H.cons (hwSs H _ _ _ b) (H.cons (hwHs H _ _ _ hs) (H.cons (hwSs H _ _ _ o) (H.cons (hwSs H _ _ _ f) H.nil)))
  | .FunctionDef _ args body ds ret tps own ts bind pos => H.both (hwDefHead H _ _ _ _ _ _ _ _ _ _ _) (hwSs H _ _ _ body)
  | .AsyncFunctionDef _ args body ds ret tps own ts bind pos => H.both (hwDefHead H _ _ _ _ _ _ _ _ _ _ _) (hwSs H _ _ _ body)
  | .ClassDef _ bases kws body ds tps own ts bind _ pos => H.both (hwClassHead H _ _ _ _ _ _ _ _ _ _ _) (hwSs H _ _ _ body)
  | .TypeAlias _ tps value own ts bind pos => by
    refine H.cons (H.bind _ _ _ _) (H.cons (hwE H _ _ _ value) (H.cons ?_ H.nil))
    cases tps with
    | nil => exact H.enterFrom _ _ _ _ _
    | cons t tps =>
      cases ts with
      | none => exact H.bad
      | some ts => exact H.cons (H.enterFrom _ _ _ _ _) (H.cons (H.enterFrom _ _ _ _ _) (H.cons (hwTPs H _ _ _ _) H.nil))
theorem hwSs (H : Hand A B R) (top : Scope) (cx : TablesWhole.Ctx) (sc : Scope) : ∀ l : List PySem.Stmt, R (wSs A top cx sc l) (wSs B top cx sc l)
  | [] => H.unit
  | s :: l => H.both (hwS H _ _ _ s) (hwSs H _ _ _ l)
theorem hwHs (H : Hand A B R) (top : Scope) (cx : TablesWhole.Ctx) (sc : Scope) : ∀ l : List ExceptHandler, R (wHs A top cx sc l) (wHs B top cx sc l)
  | [] => H.unit
  | .ExceptHandler t n b pos :: l => H.cons (hwEo H _ _ _ t) (H.cons (H.optName _ _ _ _) (H.cons (hwSs H _ _ _ b) (H.cons (hwHs H _ _ _ l) H.nil)))
theorem hwCs (H : Hand A B R) (top : Scope) (cx : TablesWhole.Ctx) (sc : Scope) : ∀ l : List MatchCase, R (wCs A top cx sc l) (wCs B top cx sc l)
  | [] => H.unit
  | ⟨p, g, b⟩ :: l => H.cons (hwP H _ _ p) (H.cons (hwEo H _ _ _ g) (H.cons (hwSs H _ _ _ b) (H.cons (hwCs H _ _ _ l) H.nil)))
end
theorem hwModule (H : Hand A B R) (m : Module) : R (wModule A m) (wModule B m) := H.cons (H.enter _) (H.cons (H.check _ _ _ _) (H.cons (hwSs H _ _ _ _) H.nil))
end
/-- what a reading of the names meets, in a row -/
noncomputable def dl : Alg (List Ev → List Ev) :=
  ⟨fun sc n p l => .ask sc n p :: l, fun w sc n ok l => match ok with | true => l | false => .check w sc n false :: l, fun sc l => .enter sc :: l, fun l => l, fun l => .bad :: l, fun a b l => a (b l)⟩
noncomputable def evP (B : Alg Bool) : Ev → Bool
  | .ask sc n p => B.ask sc n p
  | .check w sc n _ => B.check w sc n false
  | .enter sc => B.enter sc
  | .bad => B.bad
noncomputable def evs (m : Module) : List Ev := wModule dl m []
theorem walk_ev (B : Alg Bool) (u : B.unit = true) (b : ∀ x y, B.both x y = (x && y)) (c : ∀ w sc n, B.check w sc n true = true) (m : Module) : wModule B m = (evs m).all (evP B) := by
  have H : Hand dl B (fun d x => ∀ l, (d l).all (evP B) = (x && l.all (evP B))) := by
    refine ⟨fun sc n p l => rfl, fun w sc n ok l => ?_, fun sc l => rfl, fun l => ?_, fun l => rfl, fun {x y x' y'} h h' l => ?_⟩
    · cases ok with
      | true => rw [c]; rfl
      | false => rfl
    · rw [u]; rfl
    · show (x (x' l)).all (evP B) = _
      rw [h, h', b, Bool.and_assoc]
  have := hwModule H m []
  rw [List.all_nil, Bool.and_true] at this
  exact this.symm
noncomputable abbrev P0 := PySem.Challenge.rw_il0184_01.row.prog
theorem meet_ev (p : Program) (body : List Stmt) (ok : Scope → Str → Bool) : namesMeet p body ok = (evs { p.main with body := body }).all (evP ⟨fun sc n _ => ok sc n, fun _ _ _ _ => true, fun _ => true, true, false, fun a b => a && b⟩) :=
  walk_ev _ rfl (fun _ _ => rfl) (fun _ _ _ => rfl) _
noncomputable abbrev okB (ok : Scope → Str → Bool) : Alg Bool := ⟨fun sc n _ => ok sc n, fun _ _ _ _ => true, fun _ => true, true, false, fun a b => a && b⟩
theorem meet_main (p : Program) (ok : Scope → Str → Bool) : namesMeet p p.main.body ok = (evs p.main).all (evP (okB ok)) := walk_ev _ rfl (fun _ _ => rfl) (fun _ _ _ => rfl) _
theorem readsOut_main {p : Program} {n : Str} (h : (evs p.main).all (evP (okB fun sc x => x != n || !(sc.names.lookup x == some .globalImplicit || sc.names.lookup x == some .globalExplicit))) = true) : readsOut p p.main.body n = false := by
  unfold readsOut
  rw [meet_main, h]
  rfl
theorem hd.met : ((evs P0.main).all (evP holds) &&
    ((evs P0.main).all (evP (atTopAlone (sreNames P0.main.body))) &&
    ((evs P0.main).all (evP (okB fun sc n => match sc.names.lookup n with
      | some .globalImplicit | some .globalExplicit => P0.boundNames.contains n || n == ("__name__" : Str) || n == ("__debug__" : Str) || (builtinNamed n && !worldNames.contains n && !n.opensWith "__")
      | _ => true)) &&
    ((evs P0.main).all (evP (okB fun _ n => attrL n)) &&
    ((evs P0.main).all (evP (okB fun sc x => x != Str.ofString "vars" || !(sc.names.lookup x == some .globalImplicit || sc.names.lookup x == some .globalExplicit))) &&
    ((evs P0.main).all (evP (okB fun sc x => x != Str.ofString "dir" || !(sc.names.lookup x == some .globalImplicit || sc.names.lookup x == some .globalExplicit))) &&
    (evs P0.main).all (evP (okB fun sc x => x != Str.ofString "locals" || !(sc.names.lookup x == some .globalImplicit || sc.names.lookup x == some .globalExplicit))))))))) = true := by
  unfold evs
  rw [Fast.te6116379765354995101, Fast.te17868728402115742887, Fast.named_eq, Fast.te18344453789297297638, Fast.te14412699480532031325, Fast.te4857012375875476094, Fast.te7971404603224598414, Fast.te17293470865625172087, Fast.sDec_eq]
  kernel_rfl
theorem tables_of {p : Program} (h1 : p.modules = []) (h2 : p.parses = []) (h3 : p.harvested = []) (h : wModule holds p.main = true) : p.tablesWhole = true := by
  unfold Program.tablesWhole wProgram
  rw [h1, h2, h3]
  show (wModule holds p.main && (true && (true && (true && true)))) = true
  rw [h]
  rfl
theorem hd.bare : PySem.Challenge.rw_il0184_01.row.prog.bare := ⟨rfl, rfl, rfl, rfl, rfl, tables_of rfl rfl rfl ((walk_ev holds rfl (fun _ _ => rfl) (fun _ _ _ => rfl) _).trans (Bool.and_eq_true_iff.mp hd.met).1)⟩
theorem hd.roads : noRoadLSs { strict := !(importedModules P0.main.body).all cThrough.contains, foot := none, bare := [] } P0.main.body = true := by
  rw [Fast.te8326940854005059898, Fast.te17691160309236699985]
  kernel_rfl
theorem hd.into : ((moduleNames P0.main.body).isEmpty || lookedIntoSs (moduleNames P0.main.body) P0.main.body) = true := by
  kernel_rfl
theorem hd.opens : looksOpen P0 = true := by
  have m := hd.met
  simp only [Bool.and_eq_true_iff] at m
  obtain ⟨_, m2, m3, m4, m5, m6, m7⟩ := m
  unfold looksOpen
  refine look_both (look_both (look_both (look_both (look_both ?_ hd.into) ?_) ?_) ?_) ?_
  · unfold sreFenced
    refine look_both (by kernel_rfl) ?_
    rw [walk_ev (atTopAlone (sreNames P0.main.body)) rfl (fun _ _ => rfl) (fun _ _ _ => rfl), m2]
    exact Bool.or_true _
  · unfold namesResolve
    rw [walk_ev _ rfl (fun _ _ => rfl) (fun _ _ _ => rfl)]
    exact m3
  · rw [Fast.te18344453789297297638, Fast.te14412699480532031325]
    kernel_rfl
  · have e : (["vars", "dir", "locals"] : List Str).filter (readsOut P0 P0.main.body) = [] := by
      simp only [List.filter_cons, readsOut_main m5, readsOut_main m6, readsOut_main m7, List.filter_nil]
      rfl
    rw [e]
    exact hd.roads
  · rw [meet_main]
    exact m4
theorem hd.rowSaid : PySem.Challenge.rw_il0184_01.row.wellSaid = true := by
  unfold OpenRow.wellSaid OpenRow.partSaid
  rw [hd.opens]
  kernel_rfl
theorem hd.said : PySem.Challenge.rw_il0184_01.wellSaid = true := by
  unfold OpenLaw.wellSaid
  rw [hd.rowSaid]
  rw [Fast.te8326940854005059898, Fast.te17119622794617984870, Fast.te16286561074155671207, Fast.te8179353310426384613, Fast.te10501279942588096481, Fast.te9558739934217749035, Fast.named_eq]
  kernel_rfl
end
theorem hd.def_ : defOf hd.view_39 PySem.Challenge.rw_il0184_01.row.name = some (hd.d, []) := by kernel_rfl!
theorem hd.the : PySem.Challenge.rw_il0184_01.row.prog.theDef PySem.Challenge.rw_il0184_01.row.name = some (hd.d.params, hd.d.body, hd.d.scope) := by kernel_rfl!
theorem hd.kw : kwWritten? hd.d.params.kwonlyargs hd.d.params.kw_defaults = some ([] : List (Str × Expr)) := by kernel_rfl!
theorem hd.ok : (chainsOk hd.view_39 && opensWell PySem.Challenge.rw_il0184_01.row.prog && (frees PySem.Challenge.rw_il0184_01.row.toRowW && PySem.Challenge.rw_il0184_01.row.within.isEmpty)) = true := by decide +kernel
theorem hd (walk : WalkO hd.view_39 hd.loose (XL hd.view_39 []) (Hook.says (kmHook hd.heap_39 hd.addrs hd.keys [816, 790])) PySem.Challenge.rw_il0184_01.row.toRowW hd.d [] (fun f vs => PySem.call f vs)) : PySem.Challenge.rw_il0184_01.Holds :=
  holds_law hd.said fun said =>
    holds_open (q := hd.view_39) (loose := hd.loose) (Xt := fun s => xlAt hd.view_39 [] s && recOk [] s) (XP := XL hd.view_39 []) (Yf := Hook.obs hd.hook) (Ya := Hook.val hd.hook) (YP := Hook.says hd.hook) (N := 10950) (d := hd.d) (kwd := [])
      hd.left (Hook.of hd.hook) (Hook.keeps hd.hook) (fun s e => xl_of s (Bool.and_eq_true_iff.mp e).1) XL.keeps hd.def_ hd.the hd.kw (fun _ e => recFacts_of (Bool.and_eq_true_iff.mp e).2) rfl said hd.ok hd.bare hd.wit walk
set_option maxRecDepth 100000
set_option maxHeartbeats 200000
local macro_rules | `(tactic| k_ne) => `(tactic| k_extra "k_ne")
local macro_rules | `(tactic| k_room) => `(tactic| k_extra "k_room")
local macro_rules | `(tactic| k_all) => `(tactic| k_extra "k_all")
local macro_rules | `(tactic| walk_at $s:str) => `(tactic| k_extra $s)
section
noncomputable abbrev PR : Program := PySem.Challenge.rw_il0184_01.row.prog
theorem hideAll_iff {l : List Addr} {h : Heap} {b : Addr} {o : Obj} : (hideAll h l).get? b = some o ↔ h.get? b = some o ∧ b ∉ l := by
  constructor
  · intro e
    refine ⟨of_hideAll l e, fun hm => ?_⟩
    rw [hideAll_none l hm] at e
    cases e
  · rintro ⟨e, hn⟩
    exact hideAll_get l e hn

/-- the caller's ground, with the footprint hidden -/
structure Gd (K : Frag) (A : Around) (base : Heap) (outer : List Env) (p : Program) (loose : List Str) (mean : ExcName → Option Value) (mg mb : Str → Option Value) (g : Heap) : Prop where
  below : Below A base outer g
  kin : K.In g
  top : Top p loose mean mg mb g
theorem Gd.of {K : Frag} {A₀ A : Around} {base h₀ : Heap} {outer : List Env} {env : Env} {p : Program} {loose : List Str} {mean : ExcName → Option Value} {mg mb : Str → Option Value} {L : Addr} {m : Str → Option Value} {s : Shared} {news : List (Addr × Obj)}
    (B : Below A₀ base outer h₀) (F : Fr h₀ L s.heap m) (X : K.In h₀) (N : News h₀ L s.heap news) (T : Top p loose mean mg mb h₀) (hA : A.frames = some (env :: outer)) (hf : env.frame = some L) (hke : env.scope.kind = .function)
    (foot : List Addr) (hs : ∀ a ∈ foot, a ∈ news.map (·.1)) : Gd K A base (env :: outer) p loose mean mg mb (hideAll s.heap foot) := by
  obtain ⟨FG, BG, st, -⟩ := groundX (R := fun _ _ => True) B F N hA hf hke
  have sub : ∀ b o, (hideAll s.heap (news.map (·.1))).get? b = some o → (hideAll s.heap foot).get? b = some o := fun b o e => by
    rw [hideAll_iff] at e ⊢
    exact ⟨e.1, fun q => e.2 (hs b q)⟩
  exact ⟨⟨BG.stack, fun b o e => sub b o (BG.stays b o e), BG.frames.of_keeps fun b o e _ => ⟨o, sub b o e, rfl⟩⟩, (X.keeps st).keeps sub, (T.keeps st).keeps sub⟩

section
variable {w : World} {A : Around} {s : Shared} {base : Heap} {outer : List Env} {K : Frag} {p : Program} {loose : List Str} {mean : ExcName → Option Value} {mg mb : Str → Option Value}
  {R : Result → Shared → Prop} {name qual : Str} {params : Arguments} {body : List Stmt} {scope : Scope} {dV kV doc pm cdv ct oc : Value} {an od : Option Addr} {osl : Array (Option Value)} {f : Addr} {args : Args} {binds : List (Str × Value)} {foot : List (Addr × Obj)}

/-- what a body leaves: all of the ground, the ledger's new state -/
noncomputable def LeaveF (g : Heap) (k : Value → (news : List (Addr × Obj)) → Shared → Prop) (v : Value) (s' : Shared) : Prop :=
  ∃ L' m' news', Fr g L' s'.heap m' ∧ News g L' s'.heap news' ∧ k v news' s'
theorem code_foot (G : Gd K A base outer p loose mean mg mb (hideAll s.heap (foot.map (·.1)))) (N : ∀ q ∈ foot, s.heap.get? q.1 = some q.2)
    (ho : K.lookup f = some ⟨oc, od, .func (fnOf name qual params body scope dV kV doc pm an cdv ct), osl⟩) (hcd : codeIn K cdv qual = true) (hroom : A.depth < recursionLimit)
    (hbind : BindsTo s (fnOf name qual params body scope dV kV doc pm an cdv ct) args binds) (hloc : ∀ y ∈ binds, scope.names.lookup y.1 = some .local)
    (h : ∀ g L' h₁, g = hideAll s.heap (foot.map (·.1)) → Fr g L' h₁ (fun y => binds.reverse.lookup y) → News g L' h₁ foot → Below A base outer g → K.In g → Top p loose mean mg mb g → (∀ q ∈ foot, q.1 < L') →
      wpAny (model PR w) (A.deeper (envOf qual scope L' f cdv)) (execs body (envOf qual scope L' f cdv))
        (fun fl s' => R (.ok (.ret (match fl with | .ret v => v | _ => .none))) s')
        (fun e s' => wpAny (model PR w) (A.deeper (envOf qual scope L' f cdv)) (leaving (envOf qual scope L' f cdv) e) (fun _ s'' => R (.error e) s'') (fun e' s'' => R (.error e') s'') s')
        { s with heap := h₁, toks := s.toks + binds.length })
    (hco : scope.isCoroutine = false) (hgen : scope.isGenerator = false) (hk : scope.kind = .function)
    (hcell : ∀ x ∈ scope.names, x.2 ≠ .cell) : codeAny (model PR w) A (.call (.ref f) args) R s := by
  have up : ∀ b o, (hideAll s.heap (foot.map (·.1))).get? b = some o → s.heap.get? b = some o := fun b o e => of_hideAll _ e
  refine codeAny_call_def (fd := fnOf name qual params body scope dV kV doc pm an cdv ct) (body := body) (binds := binds) hroom (up _ _ (G.kin _ _ ho)) rfl (G.top.nolimit.keeps up) (codeRec_of (G.kin.keeps up) hcd) rfl hbind hcell hloc (fun h₁ hns hk₁ => ?_) hco hgen hk
  exact h _ s.heap.objs.size h₁ rfl ⟨hns, fun b o e => hk₁ b o (of_hideAll _ e), Nat.le_of_eq (hideAll_size _ _)⟩
    (fun q hq => ⟨hk₁ _ _ (N q hq), Nat.ne_of_lt (Heap.lt_size (N q hq)), hideAll_none _ (List.mem_map_of_mem hq)⟩) G.below G.kin G.top fun q hq => Heap.lt_size (N q hq)
end

noncomputable abbrev AA (hd : Option Value) (dep : Nat) (outer : List Env) (gs : Option (List Code)) (un : Nat) : Around := { handled := hd, depth := dep, frames := some outer, guards := gs, units := un }
/-- hidden from (first | lia | omega) -/
noncomputable def NeN (a b : Nat) : Prop := @Ne Nat a b
theorem NeN.ne {a b : Nat} (h : NeN a b) : @Ne Nat a b := h
noncomputable def AllNe (a : Nat) : List Nat → Prop
  | [] => True
  | b :: r => NeN a b ∧ AllNe a r
noncomputable def Apart : List Nat → Prop
  | [] => True
  | a :: r => AllNe a r ∧ Apart r
/-- the ground at a call, over a footprint -/
structure On (w : World) (A : Around) (outer : List Env) (s : Shared) (foot : List (Addr × Obj)) : Prop where
  gd : ∃ base p loose mean mg mb, Gd (hd.heap_39 w.params) A base outer p loose mean mg mb (hideAll s.heap (foot.map (·.1)))
  at_ : ∀ q ∈ foot, s.heap.get? q.1 = some q.2
  apart : Apart (foot.map (·.1))
noncomputable def Kept (s : Shared) (foot : List (Addr × Obj)) (h' : Heap) : Prop := ∀ b o, (hideAll s.heap (foot.map (·.1))).get? b = some o → h'.get? b = some o
theorem On.k {w : World} {A : Around} {outer : List Env} {s : Shared} {foot : List (Addr × Obj)} (a : On w A outer s foot) : (hd.heap_39 w.params).In s.heap :=
  let ⟨_, _, _, _, _, _, G⟩ := a.gd; G.kin.keeps (fun _ _ e => of_hideAll _ e)

/-- the i-th of a list of addresses -/
noncomputable def nthO : List Nat → Nat → Option Nat
  | [], _ => none
  | a :: _, 0 => some a
  | _ :: l, i + 1 => nthO l i
theorem nthO_mem : ∀ {l : List Nat} {i a : Nat}, nthO l i = some a → a ∈ l
  | [], _, _, h => nomatch h
  | _ :: _, 0, _, h => by rw [← Option.some.inj h]; exact .head _
  | _ :: _, _ + 1, _, h => .tail _ (nthO_mem (i := _) h)
/-- all of a list of addresses lie below -/
noncomputable def LtA (d : Nat) (l : List Nat) : Prop := ∀ a ∈ l, a < d
theorem ltA_of {d : Nat} {l : List (Addr × Obj)} (h : ∀ p ∈ l, p.1 < d) : LtA d (l.map (·.1)) := fun a ha => by
  obtain ⟨q, hq, rfl⟩ := List.mem_map.mp ha
  exact h q hq
section
variable {d x a : Nat} {l : List Nat}
theorem LtA.lt (h : LtA d l) {i : Nat} (e : nthO l i = some a) : @LT.lt Nat _ a d := h a (nthO_mem e)
theorem LtA.ne (h : LtA d l) {i : Nat} (e : nthO l i = some a) : @Ne Nat a d := Nat.ne_of_lt (h.lt e)
theorem LtA.ne' (h : LtA d l) {i : Nat} (e : nthO l i = some a) : @Ne Nat d a := Nat.ne_of_gt (h.lt e)
theorem LtA.neS (h : LtA d l) {i : Nat} (e : nthO l i = some a) : @Ne Nat a (d + 1) := Nat.ne_of_lt (Nat.lt_succ_of_lt (h.lt e))
theorem LtA.neS' (h : LtA d l) {i : Nat} (e : nthO l i = some a) : @Ne Nat (d + 1) a := Ne.symm (h.neS e)
theorem LtA.neT (h : LtA d l) {i : Nat} (e : nthO l i = some a) : @Ne Nat a (d + 1 + 1) := Nat.ne_of_lt (Nat.lt_succ_of_lt (Nat.lt_succ_of_lt (h.lt e)))
theorem LtA.neT' (h : LtA d l) {i : Nat} (e : nthO l i = some a) : @Ne Nat (d + 1 + 1) a := Ne.symm (h.neT e)
theorem LtA.up (h : LtA d l) (h2 : d < x) : LtA x (d :: l) := fun b hb => by
  rcases List.mem_cons.mp hb with rfl | hb
  · exact h2
  · exact Nat.lt_trans (h b hb) h2
theorem AllNe.at : ∀ {l : List Nat} {j b : Nat}, AllNe a l → nthO l j = some b → @Ne Nat a b
  | [], _, _, _, h => nomatch h
  | _ :: _, 0, _, h, e => by rw [← Option.some.inj e]; exact h.1
  | _ :: _, _ + 1, _, h, e => AllNe.at (j := _) h.2 e
theorem Apart.at : ∀ {l : List Nat} {a b : Nat}, Apart l → {i j : Nat} → nthO l i = some a → nthO l j = some b → Nat.beq i j = false → @Ne Nat a b
  | [], _, _, _, _, _, h, _, _ => nomatch h
  | _ :: _, _, _, _, 0, 0, _, _, h => nomatch h
  | _ :: _, _, _, h, 0, j + 1, ei, ej, _ => by rw [← Option.some.inj ei]; exact h.1.at (j := j) ej
  | _ :: _, _, _, h, i + 1, 0, ei, ej, _ => by rw [← Option.some.inj ej]; exact Ne.symm (h.1.at (j := i) ei)
  | _ :: _, _, _, h, i + 1, j + 1, ei, ej, n => Apart.at (l := _) h.2 (i := i) (j := j) ei ej n
end
theorem lt_le {a b c : Nat} (h : a < b) (e : Nat.ble b c = true) : a < c := Nat.lt_of_lt_of_le h (Nat.le_of_ble_eq_true e)
theorem lt_p {a b c k : Nat} (h : a < b) (e : Nat.ble (b + k) c = true) : a + k < c := Nat.lt_of_lt_of_le (Nat.add_lt_add_right h k) (Nat.le_of_ble_eq_true e)
theorem lt_pp {a b c k j : Nat} (h : a < b) (e : Nat.ble (b + k + j) c = true) : a + k + j < c := lt_p (lt_p (c := b + k) h (Nat.ble_self_eq_true _)) e
theorem lt_ppp {a b c k j i : Nat} (h : a < b) (e : Nat.ble (b + k + j + i) c = true) : a + k + j + i < c := lt_p (lt_pp (c := b + k + j) h (Nat.ble_self_eq_true _)) e
theorem le_le {a b c : Nat} (h : a ≤ b) (e : Nat.ble b c = true) : a ≤ c := Nat.le_trans h (Nat.le_of_ble_eq_true e)
/-- a call over a footprint, in one -/
theorem on_foot {w : World} {A : Around} {s : Shared} {outer : List Env} {R : Result → Shared → Prop} {name qual : Str} {params : Arguments} {body : List Stmt} {scope : Scope} {dV kV doc pm cdv ct oc : Value} {an od : Option Addr} {osl : Array (Option Value)} {f : Addr} {args : Args} {binds : List (Str × Value)} {foot : List (Addr × Obj)}
    (a : On w A outer s foot)
    (ho : (hd.heap_39 w.params).lookup f = some ⟨oc, od, .func (fnOf name qual params body scope dV kV doc pm an cdv ct), osl⟩) (hcd : codeIn (hd.heap_39 w.params) cdv qual = true) (hroom : A.depth < recursionLimit)
    (hbind : BindsTo s (fnOf name qual params body scope dV kV doc pm an cdv ct) args binds) (hloc : ∀ y ∈ binds, scope.names.lookup y.1 = some .local)
    (h : ∀ base p loose mean mg mb g L' h₁, g = hideAll s.heap (foot.map (·.1)) → Fr g L' h₁ (fun y => binds.reverse.lookup y) → News g L' h₁ foot → Below A base outer g → (hd.heap_39 w.params).In g → Top p loose mean mg mb g → (∀ q ∈ foot, q.1 < L') →
      wpAny (model PR w) (A.deeper (envOf qual scope L' f cdv)) (execs body (envOf qual scope L' f cdv))
        (fun fl s' => R (.ok (.ret (match fl with | .ret v => v | _ => .none))) s')
        (fun e s' => wpAny (model PR w) (A.deeper (envOf qual scope L' f cdv)) (leaving (envOf qual scope L' f cdv) e) (fun _ s'' => R (.error e) s'') (fun e' s'' => R (.error e') s'') s')
        { s with heap := h₁, toks := s.toks + binds.length })
    (hco : scope.isCoroutine = false) (hgen : scope.isGenerator = false) (hk : scope.kind = .function)
    (hcell : ∀ x ∈ scope.names, x.2 ≠ .cell) : codeAny (model PR w) A (.call (.ref f) args) R s := by
  obtain ⟨⟨base, p, loose, mean, mg, mb, G⟩, N, -⟩ := a
  exact code_foot G N ho hcd hroom hbind hloc (h base p loose mean mg mb) hco hgen hk hcell
theorem gen_toks {M : Model} {A : Around} {α : Type} {t : Sem α} {Q : α → Shared → Prop} {E : Value → Shared → Prop} {h : Heap} {a : Array GenState} {b : Drawn} {T n : Nat} {c : OsState} (H : ∀ tk, wpAny M A t Q E ⟨h, a, b, tk, c⟩) : wpAny M A t Q E ⟨h, a, b, T + n, c⟩ := H _
noncomputable def dropO : Nat → List Nat → List Nat
  | 0, l => l
  | i + 1, l => dropO i l.tail
theorem dropO_mem : ∀ (i : Nat) {l : List Nat} {a : Nat}, a ∈ dropO i l → a ∈ l
  | 0, _, _, h => h
  | i + 1, [], _, h => dropO_mem i (l := []) h
  | i + 1, _ :: _, _, h => .tail _ (dropO_mem i h)
theorem ltA_off {d : Nat} {l : List Nat} {news : List (Addr × Obj)} {i : Nat} (h : LtA d l) (e : dropO i l = news.map (·.1)) : ∀ p ∈ news, @Ne Nat p.1 d := fun p hp =>
  Nat.ne_of_lt (h _ (dropO_mem i (e ▸ List.mem_map_of_mem (f := (·.1)) hp)))
theorem ltA_lts {d : Nat} {l : List Nat} {news : List (Addr × Obj)} {i : Nat} (h : LtA d l) (e : dropO i l = news.map (·.1)) : ∀ p ∈ news, p.1 < d := fun p hp =>
  h _ (dropO_mem i (e ▸ List.mem_map_of_mem (f := (·.1)) hp))
noncomputable def OffA (d : Nat) (l : List Nat) : Prop := ∀ a ∈ l, @Ne Nat a d
noncomputable def FarA (l k : List Nat) : Prop := ∀ a ∈ l, ∀ b ∈ k, @Ne Nat a b
section
variable {d a b : Nat} {l k : List Nat} {i j : Nat}
theorem OffA.ne (h : OffA d l) (e : nthO l i = some a) : @Ne Nat a d := h a (nthO_mem e)
theorem OffA.ne' (h : OffA d l) (e : nthO l i = some a) : @Ne Nat d a := Ne.symm (h a (nthO_mem e))
theorem FarA.ne (h : FarA l k) (e : nthO l i = some a) (f : nthO k j = some b) : @Ne Nat a b := h a (nthO_mem e) b (nthO_mem f)
theorem FarA.ne' (h : FarA l k) (e : nthO l i = some a) (f : nthO k j = some b) : @Ne Nat b a := Ne.symm (h.ne e f)
end
theorem farA_of {l : List Nat} {news : List (Addr × Obj)} (h : ∀ q ∈ news, ∀ b ∈ l, q.1 ≠ b) : FarA (news.map (·.1)) l := fun a ha b hb => by
  obtain ⟨q, hq, rfl⟩ := List.mem_map.mp ha
  exact h q hq b hb
theorem iteT {P Q : Prop} (h : P) : if true = true then P else Q := h
theorem iteF {P Q : Prop} (h : Q) : if false = true then P else Q := h


end
local macro_rules | `(tactic| k_lt $h:ident) => `(tactic| (replace $h := ltA_of $h; (try dsimp only [List.map] at $h:ident)))
local macro_rules | `(tactic| k_lt2 $h:ident) => `(tactic| (replace $h := LtA.up (by with_reducible assumption) $h))
local macro_rules | `(tactic| k_in) => `(tactic| first | with_reducible assumption | exact Frag.In.keeps (by k_asm) (Fr.keep (by k_asm)))
theorem warm : (fun (_ : OpenLaw) (_ : Params → Frag) => True) PySem.Challenge.rw_il0184_01 hd.heap_39 := by
  k_fill
  trivial
section
theorem lines_1 : True := by
  k_with_none
  k_with "execs cons" => (first | (k_fold; (try dsimp only); (try (with_reducible refine gen_toks ?_; intro tk9))) | (with_reducible refine gen_toks ?_; intro tk9))
  k_with "MY nth" => (k_dflt (first | exact @rfl _ (nthO _ 0) | exact @rfl _ (nthO _ 1) | exact @rfl _ (nthO _ 2) | exact @rfl _ (nthO _ 3) | exact @rfl _ (nthO _ 4) | exact @rfl _ (nthO _ 5) | exact @rfl _ (nthO _ 6) | exact @rfl _ (nthO _ 7) | exact @rfl _ (nthO _ 8) | exact @rfl _ (nthO _ 9) | exact @rfl _ (nthO _ 10) | exact @rfl _ (nthO _ 11) | exact @rfl _ (nthO _ 12) | exact @rfl _ (nthO _ 13) | exact @rfl _ (nthO _ 14) | exact @rfl _ (nthO _ 15) | exact @rfl _ (nthO _ 16) | exact @rfl _ (nthO _ 17) | exact @rfl _ (nthO _ 18) | exact @rfl _ (nthO _ 19) | exact @rfl _ (nthO _ 20) | exact @rfl _ (nthO _ 21) | exact @rfl _ (nthO _ 22) | exact @rfl _ (nthO _ 23) | exact @rfl _ (nthO _ 24) | exact @rfl _ (nthO _ 25)))
  k_with "MY nlt" => (first
      | exact NeN.ne (by with_reducible assumption)
      | exact Ne.symm (NeN.ne (by with_reducible assumption))
      | exact Nat.ne_of_gt (by with_reducible assumption)
      | exact Nat.ne_of_lt (by with_reducible assumption)
      | (refine' LtA.ne ?qh ?qe; (case qh => with_reducible assumption); (case qe => k_extra "MY nth"))
      | (refine' LtA.ne' ?qh ?qe; (case qh => with_reducible assumption); (case qe => k_extra "MY nth"))
      | (refine' LtA.neS ?qh ?qe; (case qh => with_reducible assumption); (case qe => k_extra "MY nth"))
      | (refine' LtA.neS' ?qh ?qe; (case qh => with_reducible assumption); (case qe => k_extra "MY nth"))
      | (refine' LtA.neT ?qh ?qe; (case qh => with_reducible assumption); (case qe => k_extra "MY nth"))
      | (refine' LtA.neT' ?qh ?qe; (case qh => with_reducible assumption); (case qe => k_extra "MY nth"))
      | (refine' OffA.ne ?qh ?qe; (case qh => with_reducible assumption); (case qe => k_extra "MY nth"))
      | (refine' OffA.ne' ?qh ?qe; (case qh => with_reducible assumption); (case qe => k_extra "MY nth"))
      | (refine' Apart.at ?qh ?qe ?qf ?qn; (case qh => with_reducible assumption); (case qe => k_extra "MY nth"); (case qf => k_extra "MY nth"); (case qn => exact rfl)))
  k_with "k_all" => ((k_dflt (refine' ltA_off ?qh ?qe; (case qh => with_reducible assumption); (case qe => first | exact @rfl _ (dropO 0 _) | exact @rfl _ (dropO 1 _) | exact @rfl _ (dropO 2 _) | exact @rfl _ (dropO 3 _) | exact @rfl _ (dropO 4 _) | exact @rfl _ (dropO 5 _) | exact @rfl _ (dropO 6 _) | exact @rfl _ (dropO 7 _) | exact @rfl _ (dropO 8 _) | exact @rfl _ (dropO 9 _) | exact @rfl _ (dropO 10 _) | exact @rfl _ (dropO 11 _)))))
  k_with "MY lts" => ((k_dflt (refine' ltA_lts ?qh ?qe; (case qh => with_reducible assumption); (case qe => first | exact @rfl _ (dropO 0 _) | exact @rfl _ (dropO 1 _) | exact @rfl _ (dropO 2 _) | exact @rfl _ (dropO 3 _) | exact @rfl _ (dropO 4 _) | exact @rfl _ (dropO 5 _) | exact @rfl _ (dropO 6 _) | exact @rfl _ (dropO 7 _) | exact @rfl _ (dropO 8 _) | exact @rfl _ (dropO 9 _) | exact @rfl _ (dropO 10 _) | exact @rfl _ (dropO 11 _)))))
  k_with "MY pick" => (first | (refine' LtA.lt ?qh ?qe; (case qh => with_reducible assumption); (case qe => k_extra "MY nth")) | (refine Nat.lt_succ_of_lt ?_; (refine' LtA.lt ?qh ?qe; (case qh => with_reducible assumption); (case qe => k_extra "MY nth"))) | (refine Nat.lt_succ_of_lt (Nat.lt_succ_of_lt ?_); (refine' LtA.lt ?qh ?qe; (case qh => with_reducible assumption); (case qe => k_extra "MY nth"))))
  k_with "MY lt" => (first
      | (refine' lt_le ?qh ?qe; (case qh => assumption); (case qe => exact rfl))
      | (refine' lt_p ?qh ?qe; (case qh => assumption); (case qe => exact rfl))
      | (refine' lt_pp ?qh ?qe; (case qh => assumption); (case qe => exact rfl))
      | (refine' lt_ppp ?qh ?qe; (case qh => assumption); (case qe => exact rfl))
      | (refine' le_le ?qh ?qe; (case qh => assumption); (case qe => exact rfl))
      | decide
      | ((try simp only [LtA] at *); omega))
  k_with "k_ne" => ((refine neN ?_; (try dsimp only); first | k_extra "MY nlt" | omega | ((try simp only [LtA, List.forall_mem_cons] at *); omega)))
  k_with "k_room" => (((try simp only [depth_under_make, depth_under_kw, depth_in1, depth_deeper, depth_caller]); (show _ < 1000); k_dflt (k_extra "MY lt")))
  k_with "MY enterB" => ((refine' code_foot ?k1 ?k2 ?k3 ?k4 ?k5 ?k6 ?k7 ?_ ?c1 ?c2 ?c3 ?c4; (case k1 => assumption); (case k2 => assumption); (case k3 => k_is); (case k4 => k_is); (case k5 => k_room); (case k6 => first | exact BindsTo.of_eq rfl | exact binds_K (by k_in) rfl (by k_is) rfl rfl rfl); (case k7 => exact locs rfl); (case c1 => exact rfl); (case c2 => exact rfl); (case c3 => exact rfl); (case c4 => decide)))
  k_with "MY enter" => ((refine' on_foot ?k1 ?k3 ?k4 ?k5 ?k6 ?k7 ?_ ?c1 ?c2 ?c3 ?c4; (case k1 => assumption); (case k3 => k_is); (case k4 => k_is); (case k5 => k_room); (case k6 => first | exact BindsTo.of_eq rfl | exact binds_K (by k_in) rfl (by k_is) rfl rfl rfl); (case k7 => exact locs rfl); (case c1 => exact rfl); (case c2 => exact rfl); (case c3 => exact rfl); (case c4 => decide); intro bx9 px9 lx9 mx9 gx9 hx9))
  k_with "setAttr ref" => ((k_here; first | ((with_reducible refine' lex_set_state ?k1 ?k2 ?k3 ?k4 ?U ?_); k_dflt ((case k1 => k_asm); (case k2 => k_asm); (case k3 => k_asm); (case k4 => k_mem); (case U => k_upd)); k_whole; intro h' F' N'; (try k_sweep)) | ((with_reducible refine' lex_set_token ?k1 ?k2 ?k3 ?k4 ?U ?_); k_dflt ((case k1 => k_asm); (case k2 => k_asm); (case k3 => k_asm); (case k4 => k_mem); (case U => k_upd)); k_whole; intro h' F' N'; (try k_sweep)) | ((with_reducible refine' lex_set_lineno ?k1 ?k2 ?k3 ?k4 ?U ?_); k_dflt ((case k1 => k_asm); (case k2 => k_asm); (case k3 => k_asm); (case k4 => k_mem); (case U => k_upd)); k_whole; intro h' F' N'; (try k_sweep)) | ((with_reducible refine' lex_set_infile ?k1 ?k2 ?k3 ?k4 ?U ?_); k_dflt ((case k1 => k_asm); (case k2 => k_asm); (case k3 => k_asm); (case k4 => k_mem); (case U => k_upd)); k_whole; intro h' F' N'; (try k_sweep)) | ((with_reducible refine' lex_set_instream ?k1 ?k2 ?k3 ?k4 ?U ?_); k_dflt ((case k1 => k_asm); (case k2 => k_asm); (case k3 => k_asm); (case k4 => k_mem); (case U => k_upd)); k_whole; intro h' F' N'; (try k_sweep))))
  k_with "eval Attribute Name" => ((k_here; k_dflt (refine' self_own ?F ?X ?N ?hv ?h1 ?h2 ?hK ?hl ?hh ?_; (case F => k_asm); (case hv => exact rfl); (case X => k_asm); (case N => k_asm); (case h1 => k_mem); (case hK => first | (with_reducible exact own732_state _) | (with_reducible exact own732_debug _) | (with_reducible exact own732_whitespace _) | (with_reducible exact own732_posix _) | (with_reducible exact own732_token _) | (with_reducible exact own732_quotes _) | (with_reducible exact own732_escape _) | (with_reducible exact own732_wordchars _) | (with_reducible exact own732_commenters _) | (with_reducible exact own732_instream _) | (with_reducible exact own732_lineno _) | (with_reducible exact own732__punctuation_chars _) | (with_reducible exact own732_infile _) | (with_reducible exact own732_eof _) | (with_reducible exact own732_escapedquotes _) | (with_reducible exact own732_whitespace_split _) | (with_reducible exact own732_pushback _) | (with_reducible exact own732_filestack _) | (with_reducible exact own732_source _) | (with_reducible exact own597_buf _) | (with_reducible exact own597_pos _) | (with_reducible exact own597_newline _)); (case h2 => k_mem); (case hl => k_get); (case hh => k_handed); k_whole)))
  k_with "ite" => (first | with_reducible (refine iteT ?_) | with_reducible (refine iteF ?_))
  k_with "CompEnd" => (refine stopMark ?_)
  k_with "eval Name" => ((k_here; (with_reducible show wpAny _ _ (eval (Expr.Name _ _) (compEnvC _ _ _ _)) _ _ _); k_dflt (first
      | refine LCgL.ld_own (by k_asm) (by k_mem) (by assumption) (by assumption) ?_
      | refine LCgL.ld_global (by k_asm) (by k_asm) (by k_asm) (by k_is) ?_
      | refine LCgL.ld_built (by k_asm) (by k_asm) (by k_asm) (by k_is) (by boot_by_name) (by decide) ?_)))
  k_with "eval Name" => ((k_here; (fail_if_success (with_reducible show wpAny _ _ (eval (Expr.Name _ _) (compEnvC _ _ _ _)) _ _ _)); k_dflt (refine' nameX_L ?F ?hv ?_; (case F => k_asm); (case hv => exact rfl); k_whole)))
  k_with "callWith ref" => ((k_here; k_dflt (refine' callWith_K ?k1 ?k2 ?_; (case k1 => k_asm); (case k2 => k_is); k_whole)))
  k_with "exec While" => (refine stopMark ?_)
  k_with "Exists" => (refine stopMark ?_)
  k_with "exec If" => (refine wpAny_If ?_)
  k_with "compareOp In str str" => (first | refine in_yes (by first | assumption | decide +kernel) ?_ | refine in_no (by first | assumption | decide +kernel) ?_)
  k_with "compareOp Eq str str" => (first | refine eq_yes (by first | assumption | rfl) ?_ | refine eq_no (by first | assumption | decide +kernel) ?_ | refine stopMark ?_)
  k_with "truthy str" => (first | refine truthy_sgn ?_ | refine truthy_yes (by assumption) (by first | assumption | omega) ?_ | refine truthy_no (by assumption) ?_)
  k_with "MY steps" => (repeat' (first | (k_unfold; (try dsimp only)) | (k_end; wrow_close) | walk1 | (dsimp only; walk1) | (leave1; try dsimp only) | fail "no step"))
  k_with "MY fin" => (repeat (first | dsimp only | (k_unfold; (try dsimp only))))
  k_with "MY open" => ((
      rename On _ _ _ _ _ => aOn9
      have Gk9 := aOn9.k
      have hap9 := aOn9.apart
      dsimp only [List.map] at hap9
      refine wpAny_call ?_
      k_dflt (k_extra "MY enter")))
  k_with "MY ret" => ((
      rename _ = hideAll _ _ => hgX
      rename Fr _ _ _ _ => kF
      rename News _ _ _ _ => kN
      rename (∀ _ _ _, Kept _ _ _ → _) => retX
      refine' retX _ _ _ (fun b o e => kF.keep b o (hgX ▸ e)) ?_
      (first | exact (fun q hq => (kN q hq).1) | exact ⟨_, fun q hq => (kN q hq).1⟩)))
  trivial
noncomputable def OwnAttr (K : Frag) (C : Addr) (attr : PySem.Str) : Prop := ∃ av, plainGet K C attr = true ∧ hasDictIn K C = true ∧ findIn K (.ref C) attr = some av ∧ noGet K av = true
section
variable {prog : Program} {w : World} {A : Around} {E : Value → Shared → Prop} {s : Shared} {K : Frag} {h₀ : Heap} {L a : Addr} {m : PySem.Str → Option Value} {cn : PySem.Str} {cs : Scope} {ccd : Value} {cl : List (PySem.Str × Addr)} {x attr : PySem.Str} {xp pos : Pos} {v : Value} {Q : Value → Shared → Prop} {news : List (Addr × Obj)} {C r d : Addr} {es : List DictEntry} {n : Nat}
theorem self_own (F : Fr h₀ L s.heap m) (X₀ : K.In h₀) (N : News h₀ L s.heap news) (hv : m x = some (.ref r)) (h1 : (r, instObj C d) ∈ news) (h2 : (d, dictOf es n) ∈ news) (hK : OwnAttr K C attr) (hl : getL attr es = some (some v)) (hh : handedIn v = true)
    (h : Q v { s with toks := s.toks + 1 })
    (hk : cs.kind = .function := by rfl) (hx : (envX cn cs L a ccd cl).kindOf x = some .local := by rfl) (hd : (x == ("__debug__" : PySem.Str)) = false := by decide)
    (he : eval (.Attribute (.Name x xp) attr pos) (envX cn cs L a ccd cl) = (do
      let o ← eval (.Name x xp) (envX cn cs L a ccd cl)
      standAt pos.atName
      let r ← holding [o] (getAttr o attr true)
      letTemporaryGo (.Name x xp) o r
      pure r) := by with_unfolding_all rfl) :
    wpAny (model prog w) A (eval (.Attribute (.Name x xp) attr pos) (envX cn cs L a ccd cl)) Q E s := by
  obtain ⟨av, hg, hh', ha, hn⟩ := hK
  exact Attribute_Name_ (nameX_L F hv (get_own F X₀ (InstAt.of_news N h1 h2) hg hh' ha hn hl hh h) hk hx hd) he
end
theorem own732_instream (w : World) : OwnAttr (hd.heap_39 w.params) 732 (PySem.Str.ofString "instream") := ⟨_, by k_is, by k_is, by k_is, by k_is⟩
theorem own732_infile (w : World) : OwnAttr (hd.heap_39 w.params) 732 (PySem.Str.ofString "infile") := ⟨_, by k_is, by k_is, by k_is, by k_is⟩
theorem own732_posix (w : World) : OwnAttr (hd.heap_39 w.params) 732 (PySem.Str.ofString "posix") := ⟨_, by k_is, by k_is, by k_is, by k_is⟩
theorem own732_eof (w : World) : OwnAttr (hd.heap_39 w.params) 732 (PySem.Str.ofString "eof") := ⟨_, by k_is, by k_is, by k_is, by k_is⟩
theorem own732_commenters (w : World) : OwnAttr (hd.heap_39 w.params) 732 (PySem.Str.ofString "commenters") := ⟨_, by k_is, by k_is, by k_is, by k_is⟩
theorem own732_wordchars (w : World) : OwnAttr (hd.heap_39 w.params) 732 (PySem.Str.ofString "wordchars") := ⟨_, by k_is, by k_is, by k_is, by k_is⟩
theorem own732_whitespace (w : World) : OwnAttr (hd.heap_39 w.params) 732 (PySem.Str.ofString "whitespace") := ⟨_, by k_is, by k_is, by k_is, by k_is⟩
theorem own732_whitespace_split (w : World) : OwnAttr (hd.heap_39 w.params) 732 (PySem.Str.ofString "whitespace_split") := ⟨_, by k_is, by k_is, by k_is, by k_is⟩
theorem own732_quotes (w : World) : OwnAttr (hd.heap_39 w.params) 732 (PySem.Str.ofString "quotes") := ⟨_, by k_is, by k_is, by k_is, by k_is⟩
theorem own732_escape (w : World) : OwnAttr (hd.heap_39 w.params) 732 (PySem.Str.ofString "escape") := ⟨_, by k_is, by k_is, by k_is, by k_is⟩
theorem own732_escapedquotes (w : World) : OwnAttr (hd.heap_39 w.params) 732 (PySem.Str.ofString "escapedquotes") := ⟨_, by k_is, by k_is, by k_is, by k_is⟩
theorem own732_state (w : World) : OwnAttr (hd.heap_39 w.params) 732 (PySem.Str.ofString "state") := ⟨_, by k_is, by k_is, by k_is, by k_is⟩
theorem own732_pushback (w : World) : OwnAttr (hd.heap_39 w.params) 732 (PySem.Str.ofString "pushback") := ⟨_, by k_is, by k_is, by k_is, by k_is⟩
theorem own732_lineno (w : World) : OwnAttr (hd.heap_39 w.params) 732 (PySem.Str.ofString "lineno") := ⟨_, by k_is, by k_is, by k_is, by k_is⟩
theorem own732_debug (w : World) : OwnAttr (hd.heap_39 w.params) 732 (PySem.Str.ofString "debug") := ⟨_, by k_is, by k_is, by k_is, by k_is⟩
theorem own732_token (w : World) : OwnAttr (hd.heap_39 w.params) 732 (PySem.Str.ofString "token") := ⟨_, by k_is, by k_is, by k_is, by k_is⟩
theorem own732_filestack (w : World) : OwnAttr (hd.heap_39 w.params) 732 (PySem.Str.ofString "filestack") := ⟨_, by k_is, by k_is, by k_is, by k_is⟩
theorem own732_source (w : World) : OwnAttr (hd.heap_39 w.params) 732 (PySem.Str.ofString "source") := ⟨_, by k_is, by k_is, by k_is, by k_is⟩
theorem own732__punctuation_chars (w : World) : OwnAttr (hd.heap_39 w.params) 732 (PySem.Str.ofString "_punctuation_chars") := ⟨_, by k_is, by k_is, by k_is, by k_is⟩
theorem own597_buf (w : World) : OwnAttr (hd.heap_39 w.params) 597 (PySem.Str.ofString "_StringIO__buf") := ⟨_, by k_is, by k_is, by k_is, by k_is⟩
theorem own597_pos (w : World) : OwnAttr (hd.heap_39 w.params) 597 (PySem.Str.ofString "_StringIO__pos") := ⟨_, by k_is, by k_is, by k_is, by k_is⟩
theorem own597_newline (w : World) : OwnAttr (hd.heap_39 w.params) 597 (PySem.Str.ofString "_StringIO__newline") := ⟨_, by k_is, by k_is, by k_is, by k_is⟩

end
section

theorem sliceRange_up (a b : Nat) : sliceRange (a : Int) (b : Int) 1 = List.range' a (b - a) := by
  unfold sliceRange
  simp only [show (1 : Int) > 0 by decide, if_true, Int.ediv_one, Int.add_sub_cancel]
  have hc : (if (a : Int) < b then ((b : Int) - a) else 0).toNat = b - a := by split <;> (first | lia | omega)
  rw [hc]
  apply List.ext_getElem
  · simp
  · intro i h1 h2
    simp
    (first | lia | omega)
theorem pick_list {α : Type} (xs : Array α) : ∀ (l : List Nat), (∀ i ∈ l, i < xs.size) → ∀ k : Nat, (l.filterMap (fun i => xs[i]?))[k]? = l[k]?.bind (fun i => xs[i]?)
  | [], _, k => by simp
  | b :: r, hl, k => by
    have hb := hl b (.head _)
    rw [List.filterMap_cons_some (b := xs[b]) (by simp [hb])]
    cases k with
    | zero => simp [hb]
    | succ k => simpa using pick_list xs r (fun i hi => hl i (.tail _ hi)) k
theorem pick_take {α : Type} (xs : Array α) (a n : Nat) (h : a + n ≤ xs.size) : (List.range' a n).filterMap (fun i => xs[i]?) = (xs.toList.drop a).take n := by
  apply List.ext_getElem?
  intro i
  rw [pick_list xs _ (by intro i hi; rw [List.mem_range'_1] at hi; (first | lia | omega))]
  by_cases hi : i < n
  · rw [List.getElem?_take_of_lt hi, List.getElem?_drop]
    simp [List.getElem?_range', hi]
  · rw [List.getElem?_eq_none (by simp; (first | lia | omega)), List.getElem?_eq_none (by simp; (first | lia | omega))]
    rfl
theorem slice_some (x : PySem.Str) (i j : Nat) (hij : i ≤ j) (hj : j ≤ x.length) : (Txt.slice x (some (i : Int)) (some (j : Int))) = ⟨((x.cps.toList.drop i).take (j - i)).toArray⟩ := by
  have hi : Builtin.Str.strSliceIndices (some (i : Int)) (some (j : Int)) 1 x.length = List.range' i (j - i) := by
    unfold Builtin.Str.strSliceIndices
    simp only [show (1 : Int) > 0 by decide, if_true]
    rw [if_neg (by (first | lia | omega)), if_neg (by (first | lia | omega)), ← sliceRange_up]
    congr 1 <;> (first | lia | omega)
  have hs : x.length = x.cps.size := rfl
  unfold Txt.slice
  rw [hi]
  split
  · rename_i hc
    simp at hc
    have : i = 0 ∧ j = x.length := by (first | lia | omega)
    obtain ⟨rfl, rfl⟩ := this
    obtain ⟨c⟩ := x
    simp only [PySem.Str.length, Nat.sub_zero, List.drop_zero]
    rw [← Array.length_toList, List.take_length]
  · rw [show (fun x_1 => x.cps[x_1]?) = (fun k => x.cps[k]?) from rfl, pick_take _ _ _ (by (first | lia | omega))]
theorem slice_init (y : PySem.Str) : Txt.slice (y ++ PySem.Str.ofString " ") none (some (-1)) = y := by
  have hl : (y ++ PySem.Str.ofString " ").length = y.length + 1 := by rw [PySem.Str.length_append]; rfl
  have hc : (y ++ PySem.Str.ofString " ").cps = y.cps ++ #[32] := rfl
  have hi : Builtin.Str.strSliceIndices none (some (-1)) 1 (y ++ PySem.Str.ofString " ").length = List.range' 0 y.length := by
    unfold Builtin.Str.strSliceIndices
    simp only [show (1 : Int) > 0 by decide, if_true]
    rw [hl, if_pos (by (first | lia | omega)), show ((0:Int)) = ((0:Nat):Int) from rfl, show (max ((0:Nat):Int) (min (-1 + ((y.length + 1 : Nat):Int)) ((y.length + 1 : Nat):Int))) = ((y.length : Nat) : Int) by (first | lia | omega), sliceRange_up]
    rfl
  unfold Txt.slice
  rw [hi]
  have hs : y.length = y.cps.size := rfl
  rw [if_neg (by rw [hl]; simp)]
  rw [hc, pick_take _ _ _ (by simp [hs])]
  obtain ⟨c⟩ := y
  simp [PySem.Str.length]
theorem read_one (x : PySem.Str) (pre post : List Nat) (c : Nat) (h : x.cps.toList = pre ++ c :: post) (j : Int) (hj : j = (pre.length : Int) + 1) :
    Txt.slice (Txt.slice x (some (pre.length : Int)) (some j) ++ PySem.Str.ofString " ") none (some (-1)) = ⟨#[c]⟩ := by
  have hs : x.length = x.cps.toList.length := by simp [PySem.Str.length]
  rw [slice_init, hj, show ((pre.length : Int) + 1) = ((pre.length + 1 : Nat) : Int) by (first | lia | omega), slice_some _ _ _ (by (first | lia | omega)) (by rw [hs, h]; simp)]
  rw [h]
  simp

theorem in_yes {prog : Program} {w : World} {A : Around} {s : Shared} {E Q : Value → Shared → Prop} {x y : PySem.Str} {t u : Tok} (e : Txt.contains x y = true) (h : Q (.bool true) s) : wpAny (model prog w) A (compareOp .In (.str y u) (.str x t)) Q E s :=
  SB.contains (by rw [e]; exact h)
theorem in_no {prog : Program} {w : World} {A : Around} {s : Shared} {E Q : Value → Shared → Prop} {x y : PySem.Str} {t u : Tok} (e : Txt.contains x y = false) (h : Q (.bool false) s) : wpAny (model prog w) A (compareOp .In (.str y u) (.str x t)) Q E s :=
  SB.contains (by rw [e]; exact h)

/-- a mark at which the walk stands still -/
noncomputable def StopMark (P : Prop) : Prop := P
theorem stopMark {P : Prop} (h : StopMark P) : P := h
theorem stopGo {P : Prop} (h : P) : StopMark P := h

theorem eq_yes {prog : Program} {w : World} {A : Around} {s : Shared} {E Q : Value → Shared → Prop} {x y : PySem.Str} {t u : Tok} (e : x = y) (h : Q (.bool true) s) : wpAny (model prog w) A (compareOp .Eq (.str x t) (.str y u)) Q E s := by
  subst e
  exact PyProof.Rows.eq_str (by rw [beq_self_eq_true]; exact h)
theorem eq_no {prog : Program} {w : World} {A : Around} {s : Shared} {E Q : Value → Shared → Prop} {x y : PySem.Str} {t u : Tok} (e : x ≠ y) (h : Q (.bool false) s) : wpAny (model prog w) A (compareOp .Eq (.str x t) (.str y u)) Q E s :=
  PyProof.Rows.eq_str (by rw [beq_eq_false_iff_ne.mpr e]; exact h)

end
section
/-- the lexer's four states, as plain data -/
inductive St where
  | s | q1 | q2 | a
  deriving DecidableEq
noncomputable def St.str : St → PySem.Str
  | .s => PySem.Str.ofString " "
  | .q1 => PySem.Str.ofString "'"
  | .q2 => PySem.Str.ofString "\""
  | .a => PySem.Str.ofString "a"
/-- the signs of plain words that this law's texts hold -/
noncomputable def wordSigns : List Nat := [48, 49, 50, 51, 97]
/-- one turn: the new state, whether it is quoted, the token -/
noncomputable def turn : St → Nat → Bool → List Nat → Option (St × Bool × List Nat)
  | .s, c, q, tok => if c = 39 then some (.q1, q, tok) else if c ∈ wordSigns then some (.a, q, [c]) else none
  | .q1, c, _, tok => if c = 39 then some (.a, true, tok) else if c = 10 then none else some (.q1, true, tok ++ [c])
  | .q2, c, _, tok => if c = 34 then some (.a, true, tok) else if c = 39 then some (.q2, true, tok ++ [39]) else none
  | .a, c, q, tok => if c = 39 then some (.q1, q, tok) else if c = 34 then some (.q2, q, tok) else if c ∈ wordSigns then some (.a, q, tok ++ [c]) else none
noncomputable def scan : List Nat → St → Bool → List Nat → Option (List Nat)
  | [], st, q, tok => if st = .a ∧ (tok ≠ [] ∨ q = true) then some tok else none
  | c :: r, st, q, tok => match turn st c q tok with
    | some (st', q', tok') => scan r st' q' tok'
    | none => none

noncomputable abbrev sgn (c : Nat) : PySem.Str := ⟨#[c]⟩
theorem sgn_ne {c d : Nat} (h : c ≠ d) : sgn c ≠ sgn d := fun e => h (by injection e with e; simpa using e)
noncomputable def wcs : PySem.Str := PySem.Str.ofString "abcdfeghijklmnopqrstuvwxyzABCDEFGHIJKLMNOPQRSTUVWXYZ0123456789_" ++ PySem.Str.ofString "ßàáâãäåæçèéêëìíîïðñòóôõöøùúûüýþÿÀÁÂÃÄÅÆÇÈÉÊËÌÍÎÏÐÑÒÓÔÕÖØÙÚÛÜÝÞ"
theorem word_facts {c : Nat} (h : c ∈ wordSigns) : Txt.contains (PySem.Str.ofString " \t\r\n") (sgn c) = false ∧ Txt.contains (PySem.Str.ofString "") (sgn c) = false ∧ Txt.contains (PySem.Str.ofString "\\") (sgn c) = false ∧
    Txt.contains wcs (sgn c) = true ∧ Txt.contains (PySem.Str.ofString "'\"") (sgn c) = false := by
  simp only [wordSigns, List.mem_cons, List.not_mem_nil, or_false] at h
  rcases h with rfl | rfl | rfl | rfl | rfl <;> decide +kernel
theorem sgn_app (tok : List Nat) (c : Nat) : (⟨tok.toArray⟩ : PySem.Str) ++ sgn c = ⟨(tok ++ [c]).toArray⟩ := by
  show PySem.Str.mk _ = _
  simp [PySem.Str.append]

section
variable {prog : Program} {w : World} {A : Around} {s : Shared} {E : Value → Shared → Prop} {Q : Bool → Shared → Prop} {x : PySem.Str} {t : Tok}
theorem truthy_yes (h0 : x.length ≠ 0) (hle : x.length ≤ 100000) (h : Q true { s with toks := s.toks + 1 + 1 }) : wpAny (model prog w) A (truthy (.str x t)) Q E s :=
  P.truthy_str (by (first | lia | omega)) (by rw [show ((x.length : Int) != 0) = true by simpa using h0]; exact h)
theorem truthy_no (h0 : x.length = 0) (h : Q false { s with toks := s.toks + 1 + 1 }) : wpAny (model prog w) A (truthy (.str x t)) Q E s :=
  P.truthy_str (by (first | lia | omega)) (by rw [show ((x.length : Int) != 0) = false by simpa using h0]; exact h)
theorem truthy_sgn {c : Nat} (h : Q true { s with toks := s.toks + 1 + 1 }) : wpAny (model prog w) A (truthy (.str (sgn c) t)) Q E s :=
  truthy_yes (by show (1 : Nat) ≠ 0; decide) (by show (1 : Nat) ≤ 100000; decide) h
end

theorem lookup_one {y k : PySem.Str} {v : Value} (h : ¬ y = k) : List.lookup y [(k, v)] = none := by
  simp [List.lookup, beq_eq_false_iff_ne.mpr h]

end
section
theorem lines_2 : True := by
  k_with_none
  k_with "execs cons" => (first | (k_fold; (try dsimp only); (try (with_reducible refine gen_toks ?_; intro tk9))) | (with_reducible refine gen_toks ?_; intro tk9))
  k_with "MY nth" => (k_dflt (first | exact @rfl _ (nthO _ 0) | exact @rfl _ (nthO _ 1) | exact @rfl _ (nthO _ 2) | exact @rfl _ (nthO _ 3) | exact @rfl _ (nthO _ 4) | exact @rfl _ (nthO _ 5) | exact @rfl _ (nthO _ 6) | exact @rfl _ (nthO _ 7) | exact @rfl _ (nthO _ 8) | exact @rfl _ (nthO _ 9) | exact @rfl _ (nthO _ 10) | exact @rfl _ (nthO _ 11) | exact @rfl _ (nthO _ 12) | exact @rfl _ (nthO _ 13) | exact @rfl _ (nthO _ 14) | exact @rfl _ (nthO _ 15) | exact @rfl _ (nthO _ 16) | exact @rfl _ (nthO _ 17) | exact @rfl _ (nthO _ 18) | exact @rfl _ (nthO _ 19) | exact @rfl _ (nthO _ 20) | exact @rfl _ (nthO _ 21) | exact @rfl _ (nthO _ 22) | exact @rfl _ (nthO _ 23) | exact @rfl _ (nthO _ 24) | exact @rfl _ (nthO _ 25)))
  k_with "MY nlt" => (first
      | exact NeN.ne (by with_reducible assumption)
      | exact Ne.symm (NeN.ne (by with_reducible assumption))
      | exact Nat.ne_of_gt (by with_reducible assumption)
      | exact Nat.ne_of_lt (by with_reducible assumption)
      | (refine' LtA.ne ?qh ?qe; (case qh => with_reducible assumption); (case qe => k_extra "MY nth"))
      | (refine' LtA.ne' ?qh ?qe; (case qh => with_reducible assumption); (case qe => k_extra "MY nth"))
      | (refine' LtA.neS ?qh ?qe; (case qh => with_reducible assumption); (case qe => k_extra "MY nth"))
      | (refine' LtA.neS' ?qh ?qe; (case qh => with_reducible assumption); (case qe => k_extra "MY nth"))
      | (refine' LtA.neT ?qh ?qe; (case qh => with_reducible assumption); (case qe => k_extra "MY nth"))
      | (refine' LtA.neT' ?qh ?qe; (case qh => with_reducible assumption); (case qe => k_extra "MY nth"))
      | (refine' OffA.ne ?qh ?qe; (case qh => with_reducible assumption); (case qe => k_extra "MY nth"))
      | (refine' OffA.ne' ?qh ?qe; (case qh => with_reducible assumption); (case qe => k_extra "MY nth"))
      | (refine' Apart.at ?qh ?qe ?qf ?qn; (case qh => with_reducible assumption); (case qe => k_extra "MY nth"); (case qf => k_extra "MY nth"); (case qn => exact rfl)))
  k_with "k_all" => ((k_dflt (refine' ltA_off ?qh ?qe; (case qh => with_reducible assumption); (case qe => first | exact @rfl _ (dropO 0 _) | exact @rfl _ (dropO 1 _) | exact @rfl _ (dropO 2 _) | exact @rfl _ (dropO 3 _) | exact @rfl _ (dropO 4 _) | exact @rfl _ (dropO 5 _) | exact @rfl _ (dropO 6 _) | exact @rfl _ (dropO 7 _) | exact @rfl _ (dropO 8 _) | exact @rfl _ (dropO 9 _) | exact @rfl _ (dropO 10 _) | exact @rfl _ (dropO 11 _)))))
  k_with "MY lts" => ((k_dflt (refine' ltA_lts ?qh ?qe; (case qh => with_reducible assumption); (case qe => first | exact @rfl _ (dropO 0 _) | exact @rfl _ (dropO 1 _) | exact @rfl _ (dropO 2 _) | exact @rfl _ (dropO 3 _) | exact @rfl _ (dropO 4 _) | exact @rfl _ (dropO 5 _) | exact @rfl _ (dropO 6 _) | exact @rfl _ (dropO 7 _) | exact @rfl _ (dropO 8 _) | exact @rfl _ (dropO 9 _) | exact @rfl _ (dropO 10 _) | exact @rfl _ (dropO 11 _)))))
  k_with "MY pick" => (first | (refine' LtA.lt ?qh ?qe; (case qh => with_reducible assumption); (case qe => k_extra "MY nth")) | (refine Nat.lt_succ_of_lt ?_; (refine' LtA.lt ?qh ?qe; (case qh => with_reducible assumption); (case qe => k_extra "MY nth"))) | (refine Nat.lt_succ_of_lt (Nat.lt_succ_of_lt ?_); (refine' LtA.lt ?qh ?qe; (case qh => with_reducible assumption); (case qe => k_extra "MY nth"))))
  k_with "MY lt" => (first
      | (refine' lt_le ?qh ?qe; (case qh => assumption); (case qe => exact rfl))
      | (refine' lt_p ?qh ?qe; (case qh => assumption); (case qe => exact rfl))
      | (refine' lt_pp ?qh ?qe; (case qh => assumption); (case qe => exact rfl))
      | (refine' lt_ppp ?qh ?qe; (case qh => assumption); (case qe => exact rfl))
      | (refine' le_le ?qh ?qe; (case qh => assumption); (case qe => exact rfl))
      | decide
      | ((try simp only [LtA] at *); omega))
  k_with "k_ne" => ((refine neN ?_; (try dsimp only); first | k_extra "MY nlt" | omega | ((try simp only [LtA, List.forall_mem_cons] at *); omega)))
  k_with "k_room" => (((try simp only [depth_under_make, depth_under_kw, depth_in1, depth_deeper, depth_caller]); (show _ < 1000); k_dflt (k_extra "MY lt")))
  k_with "MY enterB" => ((refine' code_foot ?k1 ?k2 ?k3 ?k4 ?k5 ?k6 ?k7 ?_ ?c1 ?c2 ?c3 ?c4; (case k1 => assumption); (case k2 => assumption); (case k3 => k_is); (case k4 => k_is); (case k5 => k_room); (case k6 => first | exact BindsTo.of_eq rfl | exact binds_K (by k_in) rfl (by k_is) rfl rfl rfl); (case k7 => exact locs rfl); (case c1 => exact rfl); (case c2 => exact rfl); (case c3 => exact rfl); (case c4 => decide)))
  k_with "MY enter" => ((refine' on_foot ?k1 ?k3 ?k4 ?k5 ?k6 ?k7 ?_ ?c1 ?c2 ?c3 ?c4; (case k1 => assumption); (case k3 => k_is); (case k4 => k_is); (case k5 => k_room); (case k6 => first | exact BindsTo.of_eq rfl | exact binds_K (by k_in) rfl (by k_is) rfl rfl rfl); (case k7 => exact locs rfl); (case c1 => exact rfl); (case c2 => exact rfl); (case c3 => exact rfl); (case c4 => decide); intro bx9 px9 lx9 mx9 gx9 hx9))
  k_with "setAttr ref" => ((k_here; first | ((with_reducible refine' lex_set_state ?k1 ?k2 ?k3 ?k4 ?U ?_); k_dflt ((case k1 => k_asm); (case k2 => k_asm); (case k3 => k_asm); (case k4 => k_mem); (case U => k_upd)); k_whole; intro h' F' N'; (try k_sweep)) | ((with_reducible refine' lex_set_token ?k1 ?k2 ?k3 ?k4 ?U ?_); k_dflt ((case k1 => k_asm); (case k2 => k_asm); (case k3 => k_asm); (case k4 => k_mem); (case U => k_upd)); k_whole; intro h' F' N'; (try k_sweep)) | ((with_reducible refine' lex_set_lineno ?k1 ?k2 ?k3 ?k4 ?U ?_); k_dflt ((case k1 => k_asm); (case k2 => k_asm); (case k3 => k_asm); (case k4 => k_mem); (case U => k_upd)); k_whole; intro h' F' N'; (try k_sweep)) | ((with_reducible refine' lex_set_infile ?k1 ?k2 ?k3 ?k4 ?U ?_); k_dflt ((case k1 => k_asm); (case k2 => k_asm); (case k3 => k_asm); (case k4 => k_mem); (case U => k_upd)); k_whole; intro h' F' N'; (try k_sweep)) | ((with_reducible refine' lex_set_instream ?k1 ?k2 ?k3 ?k4 ?U ?_); k_dflt ((case k1 => k_asm); (case k2 => k_asm); (case k3 => k_asm); (case k4 => k_mem); (case U => k_upd)); k_whole; intro h' F' N'; (try k_sweep))))
  k_with "eval Attribute Name" => ((k_here; k_dflt (refine' self_own ?F ?X ?N ?hv ?h1 ?h2 ?hK ?hl ?hh ?_; (case F => k_asm); (case hv => exact rfl); (case X => k_asm); (case N => k_asm); (case h1 => k_mem); (case hK => first | (with_reducible exact own732_state _) | (with_reducible exact own732_debug _) | (with_reducible exact own732_whitespace _) | (with_reducible exact own732_posix _) | (with_reducible exact own732_token _) | (with_reducible exact own732_quotes _) | (with_reducible exact own732_escape _) | (with_reducible exact own732_wordchars _) | (with_reducible exact own732_commenters _) | (with_reducible exact own732_instream _) | (with_reducible exact own732_lineno _) | (with_reducible exact own732__punctuation_chars _) | (with_reducible exact own732_infile _) | (with_reducible exact own732_eof _) | (with_reducible exact own732_escapedquotes _) | (with_reducible exact own732_whitespace_split _) | (with_reducible exact own732_pushback _) | (with_reducible exact own732_filestack _) | (with_reducible exact own732_source _) | (with_reducible exact own597_buf _) | (with_reducible exact own597_pos _) | (with_reducible exact own597_newline _)); (case h2 => k_mem); (case hl => k_get); (case hh => k_handed); k_whole)))
  k_with "ite" => (first | with_reducible (refine iteT ?_) | with_reducible (refine iteF ?_))
  k_with "CompEnd" => (refine stopMark ?_)
  k_with "eval Name" => ((k_here; (with_reducible show wpAny _ _ (eval (Expr.Name _ _) (compEnvC _ _ _ _)) _ _ _); k_dflt (first
      | refine LCgL.ld_own (by k_asm) (by k_mem) (by assumption) (by assumption) ?_
      | refine LCgL.ld_global (by k_asm) (by k_asm) (by k_asm) (by k_is) ?_
      | refine LCgL.ld_built (by k_asm) (by k_asm) (by k_asm) (by k_is) (by boot_by_name) (by decide) ?_)))
  k_with "eval Name" => ((k_here; (fail_if_success (with_reducible show wpAny _ _ (eval (Expr.Name _ _) (compEnvC _ _ _ _)) _ _ _)); k_dflt (refine' nameX_L ?F ?hv ?_; (case F => k_asm); (case hv => exact rfl); k_whole)))
  k_with "callWith ref" => ((k_here; k_dflt (refine' callWith_K ?k1 ?k2 ?_; (case k1 => k_asm); (case k2 => k_is); k_whole)))
  k_with "exec While" => (refine stopMark ?_)
  k_with "Exists" => (refine stopMark ?_)
  k_with "exec If" => (refine wpAny_If ?_)
  k_with "compareOp In str str" => (first | refine in_yes (by first | assumption | decide +kernel) ?_ | refine in_no (by first | assumption | decide +kernel) ?_)
  k_with "compareOp Eq str str" => (first | refine eq_yes (by first | assumption | rfl) ?_ | refine eq_no (by first | assumption | decide +kernel) ?_ | refine stopMark ?_)
  k_with "truthy str" => (first | refine truthy_sgn ?_ | refine truthy_yes (by assumption) (by first | assumption | omega) ?_ | refine truthy_no (by assumption) ?_)
  k_with "MY steps" => (repeat' (first | (k_unfold; (try dsimp only)) | (k_end; wrow_close) | walk1 | (dsimp only; walk1) | (leave1; try dsimp only) | fail "no step"))
  k_with "MY fin" => (repeat (first | dsimp only | (k_unfold; (try dsimp only))))
  k_with "MY open" => ((
      rename On _ _ _ _ _ => aOn9
      have Gk9 := aOn9.k
      have hap9 := aOn9.apart
      dsimp only [List.map] at hap9
      refine wpAny_call ?_
      k_dflt (k_extra "MY enter")))
  k_with "MY ret" => ((
      rename _ = hideAll _ _ => hgX
      rename Fr _ _ _ _ => kF
      rename News _ _ _ _ => kN
      rename (∀ _ _ _, Kept _ _ _ → _) => retX
      refine' retX _ _ _ (fun b o e => kF.keep b o (hgX ▸ e)) ?_
      (first | exact (fun q hq => (kN q hq).1) | exact ⟨_, fun q hq => (kN q hq).1⟩)))
  k_with "subscriptTail" => ((k_here; (fail_if_success (with_reducible show wpAny _ _ (subscriptTail (PySem.Expr.Name _ _) _ _ _) _ _ _)); k_dflt (refine kba_turn (value' := PySem.Expr.Name (PySem.Str.ofString "_") ⟨0, 0, 0, 0⟩) (fun _ => rfl) ?_)))
  trivial
noncomputable abbrev sioD (hs : Nat → Int) (ts : Nat → Tok) (buf : PySem.Str) (pos : Int) (tp : Tok) : List DictEntry :=
  [⟨hs 0, .str (PySem.Str.ofString "_StringIO__newline") (ts 0), .str (PySem.Str.ofString "\n") (ts 1)⟩, ⟨hs 1, .str (PySem.Str.ofString "_StringIO__buf") (ts 2), .str buf (ts 3)⟩, ⟨hs 2, .str (PySem.Str.ofString "_StringIO__pos") (ts 4), .int pos tp⟩]
set_option maxHeartbeats 8000000 in
theorem sio_read {w : World} {dep un : Nat} {gs : Option (List Code)} {s : Shared} {outer : List Env} {x d : Addr} {hs : Nat → Int} {ts : Nat → Tok} {buf : PySem.Str} {tk tp : Tok} {E Q : Value → Shared → Prop}
    {pre post : List Nat} {c : Nat} (hbuf : buf.cps.toList = pre ++ c :: post) (hb : buf.length ≤ 4000) (hD : dep < 690) (hU : un < 5000)
    (a : On w (AA none dep outer gs un) outer s [(x, instObj 597 d), (d, dictOf (sioD hs ts buf (pre.length : Int) tp) 3)])
    (ret : ∀ h' tk' t', Kept s [(x, instObj 597 d), (d, dictOf (sioD hs ts buf (pre.length : Int) tp) 3)] h' → (∃ tp', ∀ q ∈ [(x, instObj 597 d), (d, dictOf (sioD hs ts buf ((pre.length : Int) + 1) tp') 3)], h'.get? q.1 = some q.2) →
      Q (.str ⟨#[c]⟩ t') { s with heap := h', toks := tk' }) :
    wpAny (model PR w) (AA none dep outer gs un) (call (.ref 543) [.ref x, .int 1 tk]) Q E s := by
  have hl : buf.length = pre.length + post.length + 1 := by
    have : buf.length = buf.cps.toList.length := by simp [PySem.Str.length]
    rw [this, hbuf]; simp; (first | lia | omega)
  k_extra "MY open"
  intro g L' h₁ hg F' N' B' X' T' hlt
  (try dsimp only)
  k_fold
  k_extra "MY steps"
  all_goals (k_extra "MY fin")
  all_goals (rw [read_one buf pre post c hbuf _ (by (first | lia | omega))])
  · k_extra "MY ret"
  · rename _ = hideAll _ _ => hgX
    rename Fr _ _ _ _ => kF
    rename News _ _ _ _ => kN
    refine' ret _ _ _ (fun b o e => kF.keep b o (by rw [hgX]; exact e)) ?_
    have e : (buf.length : Int) = (pre.length : Int) + 1 := by (first | lia | omega)
    rw [e] at kN
    exact ⟨_, fun q hq => (kN q hq).1⟩

set_option maxHeartbeats 8000000 in
theorem sio_eof {w : World} {dep un : Nat} {gs : Option (List Code)} {s : Shared} {outer : List Env} {x d : Addr} {hs : Nat → Int} {ts : Nat → Tok} {buf : PySem.Str} {tk tp : Tok} {E Q : Value → Shared → Prop}
    (hb : buf.length ≤ 4000) (hD : dep < 690) (hU : un < 5000)
    (a : On w (AA none dep outer gs un) outer s [(x, instObj 597 d), (d, dictOf (sioD hs ts buf (buf.length : Int) tp) 3)])
    (ret : ∀ h' tk' t', Kept s [(x, instObj 597 d), (d, dictOf (sioD hs ts buf (buf.length : Int) tp) 3)] h' → (∀ q ∈ [(x, instObj 597 d), (d, dictOf (sioD hs ts buf (buf.length : Int) tp) 3)], h'.get? q.1 = some q.2) →
      Q (.str (PySem.Str.ofString "") t') { s with heap := h', toks := tk' }) :
    wpAny (model PR w) (AA none dep outer gs un) (call (.ref 543) [.ref x, .int 1 tk]) Q E s := by
  k_extra "MY open"
  intro g L' h₁ hg F' N' B' X' T' hlt
  (try dsimp only)
  k_fold
  k_extra "MY steps"
  all_goals (k_extra "MY fin")
  all_goals (k_extra "MY ret")

end
section
section
variable {w : World} {A₀ A : Around} {s : Shared} {base h₀ : Heap} {outer : List Env} {env : Env} {L : Addr} {m : PySem.Str → Option Value} {news news' : List (Addr × Obj)} {p : Program} {loose : List PySem.Str} {mean : ExcName → Option Value} {mg mb : PySem.Str → Option Value} {foot foot' : List (Addr × Obj)} {h' : Heap}
theorem On.of (B : Below A₀ base outer h₀) (F : Fr h₀ L s.heap m) (X : (hd.heap_39 w.params).In h₀) (N : News h₀ L s.heap news) (T : Top p loose mean mg mb h₀) (hA : A.frames = some (env :: outer)) (hf : env.frame = some L) (hke : env.scope.kind = .function)
    (hs : ∀ q ∈ foot, q ∈ news) (hap : Apart (foot.map (·.1))) : On w A (env :: outer) s foot :=
  ⟨⟨_, _, _, _, _, _, Gd.of B F X N T hA hf hke (foot.map (·.1)) (fun a ha => by obtain ⟨q, hq, rfl⟩ := List.mem_map.mp ha; exact List.mem_map_of_mem (hs q hq))⟩, fun q hq => (N q (hs q hq)).1, hap⟩
theorem back_fr (F : Fr h₀ L s.heap m) (N : News h₀ L s.heap news) (hs : ∀ q ∈ foot, q ∈ news) (hk : Kept s foot h') : Fr h₀ L h' m := by
  have ok : ∀ b o, s.heap.get? b = some o → b ∉ foot.map (·.1) → h'.get? b = some o := fun b o e n => hk b o (hideAll_iff.mpr ⟨e, n⟩)
  have sub : ∀ b, b ∈ foot.map (·.1) → b ≠ L ∧ h₀.get? b = none := fun b hb => by
    obtain ⟨q, hq, rfl⟩ := List.mem_map.mp hb
    exact (N q (hs q hq)).2
  obtain ⟨oL, es, ep, hL, r⟩ := F.ns
  exact ⟨⟨oL, es, ep, ok _ _ hL (fun q => (sub L q).1 rfl), r⟩, fun b o e => ok _ _ (F.keep b o e) (fun q => by rw [(sub b q).2] at e; cases e), F.above⟩
theorem back_new (F : Fr h₀ L s.heap m) (N : News h₀ L s.heap news) (hk : Kept s foot h') {a : Addr} {o : Obj} (ha : h'.get? a = some o) (hn : a ∈ news.map (·.1) ∨ s.heap.objs.size ≤ a) : h'.get? a = some o ∧ a ≠ L ∧ h₀.get? a = none := by
  refine ⟨ha, ?_⟩
  rcases hn with hn | hn
  · obtain ⟨q, hq, rfl⟩ := List.mem_map.mp hn
    exact (N q hq).2
  · obtain ⟨oL, es, ep, hL, r⟩ := F.ns
    refine ⟨Nat.ne_of_gt (Nat.lt_of_lt_of_le (Heap.lt_size hL) hn), ?_⟩
    cases e : h₀.get? a with
    | none => rfl
    | some o => exact absurd (Nat.lt_of_lt_of_le (Heap.lt_size (F.keep _ _ e)) hn) (Nat.lt_irrefl _)
theorem back_old (N : News h₀ L s.heap news) (hk : Kept s foot h') {q : Addr × Obj} (hq : q ∈ news) (hn : q.1 ∉ foot.map (·.1)) : h'.get? q.1 = some q.2 ∧ q.1 ≠ L ∧ h₀.get? q.1 = none :=
  ⟨hk _ _ (hideAll_iff.mpr ⟨(N q hq).1, hn⟩), (N q hq).2⟩
/-- one object of the footprint changes (d), the others stay -/
theorem back_upd {d : Addr} {o o' : Obj} (F : Fr h₀ L s.heap m) (N : News h₀ L s.heap news) (hs : ∀ q ∈ foot, q ∈ news) (hk : Kept s foot h') (U : Upd d o o' news news') (hd : h'.get? d = some o') (hst : ∀ q ∈ foot, q.1 ≠ d → h'.get? q.1 = some q.2) : News h₀ L h' news' := by
  obtain ⟨pre, post, rfl, rfl, a, b⟩ := U.split
  have go : ∀ q ∈ pre ++ (d, o) :: post, q.1 ≠ d → h'.get? q.1 = some q.2 ∧ q.1 ≠ L ∧ h₀.get? q.1 = none := fun q hq hne => by
    by_cases hf : q.1 ∈ foot.map (·.1)
    · obtain ⟨q', hq', e⟩ := List.mem_map.mp hf
      have e1 := (N q hq).1
      have e2 := (N q' (hs q' hq')).1
      rw [e, e1] at e2
      have e3 := hst q' hq' (e ▸ hne)
      rw [e, ← Option.some.inj e2] at e3
      exact ⟨e3, (N q hq).2⟩
    · exact back_old N hk hq hf
  intro q hq
  rcases List.mem_append.mp hq with hq | hq
  · exact go q (List.mem_append_left _ hq) (a q hq)
  · rcases List.mem_cons.mp hq with rfl | hq
    · exact ⟨hd, (N (d, o) (List.mem_append_right _ (.head _))).2⟩
    · exact go q (List.mem_append_right _ (.tail _ hq)) (b q hq)
/-- nothing of the footprint changes -/
theorem back_same (N : News h₀ L s.heap news) (hs : ∀ q ∈ foot, q ∈ news) (hk : Kept s foot h') (hst : ∀ q ∈ foot, h'.get? q.1 = some q.2) : News h₀ L h' news := by
  intro q hq
  by_cases hf : q.1 ∈ foot.map (·.1)
  · obtain ⟨q', hq', e⟩ := List.mem_map.mp hf
    have e1 := (N q hq).1
    have e2 := (N q' (hs q' hq')).1
    rw [e, e1] at e2
    have e3 := hst q' hq'
    rw [e, ← Option.some.inj e2] at e3
    exact ⟨e3, (N q hq).2⟩
  · exact back_old N hk hq hf
end
section
variable {w : World} {A₀ : Around} {s : Shared} {base h₀ : Heap} {outer : List Env} {env : Env} {L : Addr} {m : PySem.Str → Option Value} {news : List (Addr × Obj)} {nw : Tok → List (Addr × Obj)} {p : Program} {loose : List PySem.Str} {mean : ExcName → Option Value} {mg mb : PySem.Str → Option Value}
  {dep un : Nat} {gs : Option (List Code)} {E Q : Value → Shared → Prop}
theorem read_use {x d : Addr} {hs : Nat → Int} {ts : Nat → Tok} {buf z : PySem.Str} {pos : Int} {tk tp : Tok} {pre post : List Nat} {c : Nat}
    (B : Below A₀ base outer h₀) (F : Fr h₀ L s.heap m) (X : (hd.heap_39 w.params).In h₀) (N : News h₀ L s.heap news) (T : Top p loose mean mg mb h₀) (hf : env.frame = some L) (hke : env.scope.kind = .function)
    (hx : (x, instObj 597 d) ∈ news) (U : ∀ tp', Upd d (dictOf (sioD hs ts buf pos tp) 3) (dictOf (sioD hs ts buf (pos + 1) tp') 3) news (nw tp')) (hne : @Ne Nat x d)
    (hbuf : buf.cps.toList = pre ++ c :: post) (hp : pos = (pre.length : Int)) (hz : (⟨#[c]⟩ : PySem.Str) = z) (hb : buf.length ≤ 4000) (hD : dep < 690) (hU : un < 5000)
    (h : ∀ h' tk' t' tp', Fr h₀ L h' m → News h₀ L h' (nw tp') → Q (.str z t') { s with heap := h', toks := tk' }) :
    wpAny (model PR w) (AA none dep (env :: outer) gs un) (call (.ref 543) [.ref x, .int 1 tk]) Q E s := by
  subst hp hz
  have hdm : (d, dictOf (sioD hs ts buf (pre.length : Int) tp) 3) ∈ news := by
    obtain ⟨a, b, rfl, -⟩ := (U 0).split
    simp
  have hs' : ∀ q ∈ [(x, instObj 597 d), (d, dictOf (sioD hs ts buf (pre.length : Int) tp) 3)], q ∈ news := by
    intro q hq
    rcases List.mem_cons.mp hq with rfl | hq
    · exact hx
    · exact (List.mem_singleton.mp hq) ▸ hdm
  refine sio_read (pre := pre) (post := post) (c := c) hbuf hb hD hU (On.of B F X N T rfl hf hke hs' ⟨⟨hne, trivial⟩, trivial, trivial⟩) fun h' tk' t' hk ⟨tp', hq⟩ => ?_
  refine h h' tk' t' tp' (back_fr F N hs' hk) (back_upd F N hs' hk (U tp') (hq _ (.tail _ (.head _))) fun q hq' hn => ?_)
  rcases List.mem_cons.mp hq' with rfl | hq'
  · exact hq _ (.head _)
  · exact absurd ((List.mem_singleton.mp hq') ▸ rfl) hn
theorem eof_use {x d : Addr} {hs : Nat → Int} {ts : Nat → Tok} {buf : PySem.Str} {pos : Int} {tk tp : Tok}
    (B : Below A₀ base outer h₀) (F : Fr h₀ L s.heap m) (X : (hd.heap_39 w.params).In h₀) (N : News h₀ L s.heap news) (T : Top p loose mean mg mb h₀) (hf : env.frame = some L) (hke : env.scope.kind = .function)
    (hx : (x, instObj 597 d) ∈ news) (hdm : (d, dictOf (sioD hs ts buf pos tp) 3) ∈ news) (hne : @Ne Nat x d)
    (hp : pos = (buf.length : Int)) (hb : buf.length ≤ 4000) (hD : dep < 690) (hU : un < 5000)
    (h : ∀ h' tk' t', Fr h₀ L h' m → News h₀ L h' news → Q (.str (PySem.Str.ofString "") t') { s with heap := h', toks := tk' }) :
    wpAny (model PR w) (AA none dep (env :: outer) gs un) (call (.ref 543) [.ref x, .int 1 tk]) Q E s := by
  subst hp
  have hs' : ∀ q ∈ [(x, instObj 597 d), (d, dictOf (sioD hs ts buf (buf.length : Int) tp) 3)], q ∈ news := by
    intro q hq
    rcases List.mem_cons.mp hq with rfl | hq
    · exact hx
    · exact (List.mem_singleton.mp hq) ▸ hdm
  exact sio_eof hb hD hU (On.of B F X N T rfl hf hke hs' ⟨⟨hne, trivial⟩, trivial, trivial⟩) fun h' tk' t' hk hq => h h' tk' t' (back_fr F N hs' hk) (back_same N hs' hk hq)
end
noncomputable abbrev lexD (hs : Nat → Int) (ts : Nat → Tok) (inst : Value) (infile : PySem.Str) (ti : Tok) (state : Value) (pb : Addr) (lineno : Int) (tl : Tok) (token : PySem.Str) (tt : Tok) (fs : Addr) (wc : PySem.Str): List DictEntry := [
 ⟨hs 0, .str (PySem.Str.ofString "instream") (ts 0), inst⟩, ⟨hs 1, .str (PySem.Str.ofString "infile") (ts 1), .str infile ti⟩, ⟨hs 2, .str (PySem.Str.ofString "posix") (ts 2), .bool true⟩, ⟨hs 3, .str (PySem.Str.ofString "eof") (ts 3), .none⟩,
 ⟨hs 4, .str (PySem.Str.ofString "commenters") (ts 4), .str (PySem.Str.ofString "") (ts 5)⟩, ⟨hs 5, .str (PySem.Str.ofString "wordchars") (ts 6), .str wc (ts 7)⟩, ⟨hs 6, .str (PySem.Str.ofString "whitespace") (ts 8), .str (PySem.Str.ofString " \t\r\n") (ts 9)⟩,
 ⟨hs 7, .str (PySem.Str.ofString "whitespace_split") (ts 10), .bool true⟩, ⟨hs 8, .str (PySem.Str.ofString "quotes") (ts 11), .str (PySem.Str.ofString "'\"") (ts 12)⟩, ⟨hs 9, .str (PySem.Str.ofString "escape") (ts 13), .str (PySem.Str.ofString "\\") (ts 14)⟩,
 ⟨hs 10, .str (PySem.Str.ofString "escapedquotes") (ts 15), .str (PySem.Str.ofString "\"") (ts 16)⟩, ⟨hs 11, .str (PySem.Str.ofString "state") (ts 17), state⟩, ⟨hs 12, .str (PySem.Str.ofString "pushback") (ts 18), .ref pb⟩, ⟨hs 13, .str (PySem.Str.ofString "lineno") (ts 19), .int lineno tl⟩,
 ⟨hs 14, .str (PySem.Str.ofString "debug") (ts 20), .int 0 (ts 21)⟩, ⟨hs 15, .str (PySem.Str.ofString "token") (ts 22), .str token tt⟩, ⟨hs 16, .str (PySem.Str.ofString "filestack") (ts 23), .ref fs⟩, ⟨hs 17, .str (PySem.Str.ofString "source") (ts 24), .none⟩, ⟨hs 18, .str (PySem.Str.ofString "_punctuation_chars") (ts 25), .str (PySem.Str.ofString "") (ts 26)⟩]

end
section
theorem lines_3 : True := by
  k_with_none
  k_with "execs cons" => (first | (k_fold; (try dsimp only); (try (with_reducible refine gen_toks ?_; intro tk9))) | (with_reducible refine gen_toks ?_; intro tk9))
  k_with "MY nth" => (k_dflt (first | exact @rfl _ (nthO _ 0) | exact @rfl _ (nthO _ 1) | exact @rfl _ (nthO _ 2) | exact @rfl _ (nthO _ 3) | exact @rfl _ (nthO _ 4) | exact @rfl _ (nthO _ 5) | exact @rfl _ (nthO _ 6) | exact @rfl _ (nthO _ 7) | exact @rfl _ (nthO _ 8) | exact @rfl _ (nthO _ 9) | exact @rfl _ (nthO _ 10) | exact @rfl _ (nthO _ 11) | exact @rfl _ (nthO _ 12) | exact @rfl _ (nthO _ 13) | exact @rfl _ (nthO _ 14) | exact @rfl _ (nthO _ 15) | exact @rfl _ (nthO _ 16) | exact @rfl _ (nthO _ 17) | exact @rfl _ (nthO _ 18) | exact @rfl _ (nthO _ 19) | exact @rfl _ (nthO _ 20) | exact @rfl _ (nthO _ 21) | exact @rfl _ (nthO _ 22) | exact @rfl _ (nthO _ 23) | exact @rfl _ (nthO _ 24) | exact @rfl _ (nthO _ 25)))
  k_with "MY nlt" => (first
      | exact NeN.ne (by with_reducible assumption)
      | exact Ne.symm (NeN.ne (by with_reducible assumption))
      | exact Nat.ne_of_gt (by with_reducible assumption)
      | exact Nat.ne_of_lt (by with_reducible assumption)
      | (refine' LtA.ne ?qh ?qe; (case qh => with_reducible assumption); (case qe => k_extra "MY nth"))
      | (refine' LtA.ne' ?qh ?qe; (case qh => with_reducible assumption); (case qe => k_extra "MY nth"))
      | (refine' LtA.neS ?qh ?qe; (case qh => with_reducible assumption); (case qe => k_extra "MY nth"))
      | (refine' LtA.neS' ?qh ?qe; (case qh => with_reducible assumption); (case qe => k_extra "MY nth"))
      | (refine' LtA.neT ?qh ?qe; (case qh => with_reducible assumption); (case qe => k_extra "MY nth"))
      | (refine' LtA.neT' ?qh ?qe; (case qh => with_reducible assumption); (case qe => k_extra "MY nth"))
      | (refine' OffA.ne ?qh ?qe; (case qh => with_reducible assumption); (case qe => k_extra "MY nth"))
      | (refine' OffA.ne' ?qh ?qe; (case qh => with_reducible assumption); (case qe => k_extra "MY nth"))
      | (refine' Apart.at ?qh ?qe ?qf ?qn; (case qh => with_reducible assumption); (case qe => k_extra "MY nth"); (case qf => k_extra "MY nth"); (case qn => exact rfl)))
  k_with "k_all" => ((k_dflt (refine' ltA_off ?qh ?qe; (case qh => with_reducible assumption); (case qe => first | exact @rfl _ (dropO 0 _) | exact @rfl _ (dropO 1 _) | exact @rfl _ (dropO 2 _) | exact @rfl _ (dropO 3 _) | exact @rfl _ (dropO 4 _) | exact @rfl _ (dropO 5 _) | exact @rfl _ (dropO 6 _) | exact @rfl _ (dropO 7 _) | exact @rfl _ (dropO 8 _) | exact @rfl _ (dropO 9 _) | exact @rfl _ (dropO 10 _) | exact @rfl _ (dropO 11 _)))))
  k_with "MY lts" => ((k_dflt (refine' ltA_lts ?qh ?qe; (case qh => with_reducible assumption); (case qe => first | exact @rfl _ (dropO 0 _) | exact @rfl _ (dropO 1 _) | exact @rfl _ (dropO 2 _) | exact @rfl _ (dropO 3 _) | exact @rfl _ (dropO 4 _) | exact @rfl _ (dropO 5 _) | exact @rfl _ (dropO 6 _) | exact @rfl _ (dropO 7 _) | exact @rfl _ (dropO 8 _) | exact @rfl _ (dropO 9 _) | exact @rfl _ (dropO 10 _) | exact @rfl _ (dropO 11 _)))))
  k_with "MY pick" => (first | (refine' LtA.lt ?qh ?qe; (case qh => with_reducible assumption); (case qe => k_extra "MY nth")) | (refine Nat.lt_succ_of_lt ?_; (refine' LtA.lt ?qh ?qe; (case qh => with_reducible assumption); (case qe => k_extra "MY nth"))) | (refine Nat.lt_succ_of_lt (Nat.lt_succ_of_lt ?_); (refine' LtA.lt ?qh ?qe; (case qh => with_reducible assumption); (case qe => k_extra "MY nth"))))
  k_with "MY lt" => (first
      | (refine' lt_le ?qh ?qe; (case qh => assumption); (case qe => exact rfl))
      | (refine' lt_p ?qh ?qe; (case qh => assumption); (case qe => exact rfl))
      | (refine' lt_pp ?qh ?qe; (case qh => assumption); (case qe => exact rfl))
      | (refine' lt_ppp ?qh ?qe; (case qh => assumption); (case qe => exact rfl))
      | (refine' le_le ?qh ?qe; (case qh => assumption); (case qe => exact rfl))
      | decide
      | ((try simp only [LtA] at *); omega))
  k_with "k_ne" => ((refine neN ?_; (try dsimp only); first | k_extra "MY nlt" | omega | ((try simp only [LtA, List.forall_mem_cons] at *); omega)))
  k_with "k_room" => (((try simp only [depth_under_make, depth_under_kw, depth_in1, depth_deeper, depth_caller]); (show _ < 1000); k_dflt (k_extra "MY lt")))
  k_with "MY enterB" => ((refine' code_foot ?k1 ?k2 ?k3 ?k4 ?k5 ?k6 ?k7 ?_ ?c1 ?c2 ?c3 ?c4; (case k1 => assumption); (case k2 => assumption); (case k3 => k_is); (case k4 => k_is); (case k5 => k_room); (case k6 => first | exact BindsTo.of_eq rfl | exact binds_K (by k_in) rfl (by k_is) rfl rfl rfl); (case k7 => exact locs rfl); (case c1 => exact rfl); (case c2 => exact rfl); (case c3 => exact rfl); (case c4 => decide)))
  k_with "MY enter" => ((refine' on_foot ?k1 ?k3 ?k4 ?k5 ?k6 ?k7 ?_ ?c1 ?c2 ?c3 ?c4; (case k1 => assumption); (case k3 => k_is); (case k4 => k_is); (case k5 => k_room); (case k6 => first | exact BindsTo.of_eq rfl | exact binds_K (by k_in) rfl (by k_is) rfl rfl rfl); (case k7 => exact locs rfl); (case c1 => exact rfl); (case c2 => exact rfl); (case c3 => exact rfl); (case c4 => decide); intro bx9 px9 lx9 mx9 gx9 hx9))
  k_with "setAttr ref" => ((k_here; first | ((with_reducible refine' lex_set_state ?k1 ?k2 ?k3 ?k4 ?U ?_); k_dflt ((case k1 => k_asm); (case k2 => k_asm); (case k3 => k_asm); (case k4 => k_mem); (case U => k_upd)); k_whole; intro h' F' N'; (try k_sweep)) | ((with_reducible refine' lex_set_token ?k1 ?k2 ?k3 ?k4 ?U ?_); k_dflt ((case k1 => k_asm); (case k2 => k_asm); (case k3 => k_asm); (case k4 => k_mem); (case U => k_upd)); k_whole; intro h' F' N'; (try k_sweep)) | ((with_reducible refine' lex_set_lineno ?k1 ?k2 ?k3 ?k4 ?U ?_); k_dflt ((case k1 => k_asm); (case k2 => k_asm); (case k3 => k_asm); (case k4 => k_mem); (case U => k_upd)); k_whole; intro h' F' N'; (try k_sweep)) | ((with_reducible refine' lex_set_infile ?k1 ?k2 ?k3 ?k4 ?U ?_); k_dflt ((case k1 => k_asm); (case k2 => k_asm); (case k3 => k_asm); (case k4 => k_mem); (case U => k_upd)); k_whole; intro h' F' N'; (try k_sweep)) | ((with_reducible refine' lex_set_instream ?k1 ?k2 ?k3 ?k4 ?U ?_); k_dflt ((case k1 => k_asm); (case k2 => k_asm); (case k3 => k_asm); (case k4 => k_mem); (case U => k_upd)); k_whole; intro h' F' N'; (try k_sweep))))
  k_with "eval Attribute Name" => ((k_here; k_dflt (refine' self_own ?F ?X ?N ?hv ?h1 ?h2 ?hK ?hl ?hh ?_; (case F => k_asm); (case hv => exact rfl); (case X => k_asm); (case N => k_asm); (case h1 => k_mem); (case hK => first | (with_reducible exact own732_state _) | (with_reducible exact own732_debug _) | (with_reducible exact own732_whitespace _) | (with_reducible exact own732_posix _) | (with_reducible exact own732_token _) | (with_reducible exact own732_quotes _) | (with_reducible exact own732_escape _) | (with_reducible exact own732_wordchars _) | (with_reducible exact own732_commenters _) | (with_reducible exact own732_instream _) | (with_reducible exact own732_lineno _) | (with_reducible exact own732__punctuation_chars _) | (with_reducible exact own732_infile _) | (with_reducible exact own732_eof _) | (with_reducible exact own732_escapedquotes _) | (with_reducible exact own732_whitespace_split _) | (with_reducible exact own732_pushback _) | (with_reducible exact own732_filestack _) | (with_reducible exact own732_source _) | (with_reducible exact own597_buf _) | (with_reducible exact own597_pos _) | (with_reducible exact own597_newline _)); (case h2 => k_mem); (case hl => k_get); (case hh => k_handed); k_whole)))
  k_with "ite" => (first | with_reducible (refine iteT ?_) | with_reducible (refine iteF ?_))
  k_with "CompEnd" => (refine stopMark ?_)
  k_with "eval Name" => ((k_here; (with_reducible show wpAny _ _ (eval (Expr.Name _ _) (compEnvC _ _ _ _)) _ _ _); k_dflt (first
      | refine LCgL.ld_own (by k_asm) (by k_mem) (by assumption) (by assumption) ?_
      | refine LCgL.ld_global (by k_asm) (by k_asm) (by k_asm) (by k_is) ?_
      | refine LCgL.ld_built (by k_asm) (by k_asm) (by k_asm) (by k_is) (by boot_by_name) (by decide) ?_)))
  k_with "eval Name" => ((k_here; (fail_if_success (with_reducible show wpAny _ _ (eval (Expr.Name _ _) (compEnvC _ _ _ _)) _ _ _)); k_dflt (refine' nameX_L ?F ?hv ?_; (case F => k_asm); (case hv => exact rfl); k_whole)))
  k_with "callWith ref" => ((k_here; k_dflt (refine' callWith_K ?k1 ?k2 ?_; (case k1 => k_asm); (case k2 => k_is); k_whole)))
  k_with "exec While" => (refine stopMark ?_)
  k_with "Exists" => (refine stopMark ?_)
  k_with "exec If" => (refine wpAny_If ?_)
  k_with "compareOp In str str" => (first | refine in_yes (by first | assumption | decide +kernel) ?_ | refine in_no (by first | assumption | decide +kernel) ?_)
  k_with "compareOp Eq str str" => (first | refine eq_yes (by first | assumption | rfl) ?_ | refine eq_no (by first | assumption | decide +kernel) ?_ | refine stopMark ?_)
  k_with "truthy str" => (first | refine truthy_sgn ?_ | refine truthy_yes (by assumption) (by first | assumption | omega) ?_ | refine truthy_no (by assumption) ?_)
  k_with "MY steps" => (repeat' (first | (k_unfold; (try dsimp only)) | (k_end; wrow_close) | walk1 | (dsimp only; walk1) | (leave1; try dsimp only) | fail "no step"))
  k_with "MY fin" => (repeat (first | dsimp only | (k_unfold; (try dsimp only))))
  k_with "MY open" => ((
      rename On _ _ _ _ _ => aOn9
      have Gk9 := aOn9.k
      have hap9 := aOn9.apart
      dsimp only [List.map] at hap9
      refine wpAny_call ?_
      k_dflt (k_extra "MY enter")))
  k_with "MY ret" => ((
      rename _ = hideAll _ _ => hgX
      rename Fr _ _ _ _ => kF
      rename News _ _ _ _ => kN
      rename (∀ _ _ _, Kept _ _ _ → _) => retX
      refine' retX _ _ _ (fun b o e => kF.keep b o (hgX ▸ e)) ?_
      (first | exact (fun q hq => (kN q hq).1) | exact ⟨_, fun q hq => (kN q hq).1⟩)))
  trivial
section
variable {w : World} {A : Around} {s : Shared} {h₀ : Heap} {L : Addr} {m : PySem.Str → Option Value} {news news' : List (Addr × Obj)} {E : Value → Shared → Prop} {Q : Unit → Shared → Prop} {x d : Addr} {hs : Nat → Int} {ts : Nat → Tok} {inst : Value} {infile : PySem.Str} {ti : Tok} {state : Value} {pb : Addr} {lineno : Int} {tl : Tok} {token : PySem.Str} {tt : Tok} {fs : Addr} {wc : PySem.Str}
theorem lex_set_state {v : Value} (F : Fr h₀ L s.heap m) (X₀ : (hd.heap_39 w.params).In h₀) (N : News h₀ L s.heap news) (hx : (x, instObj 732 d) ∈ news) (U : Upd d (dictOf (lexD hs ts inst infile ti state pb lineno tl token tt fs wc) 19) (dictOf (lexD hs ts inst infile ti v pb lineno tl token tt fs wc) 19) news news')
    (h : ∀ h', Fr h₀ L h' m → News h₀ L h' news' → Q () { s with heap := h', toks := s.toks + 2 }) : wpAny (model PR w) A (setAttr (.ref x) (PySem.Str.ofString "state") v) Q E s := by
  have hdm : (d, dictOf (lexD hs ts inst infile ti state pb lineno tl token tt fs wc) 19) ∈ news := by
    obtain ⟨a, b, rfl, -⟩ := U.split
    simp
  refine' set_dict F X₀ N (InstAt.of_news N hx hdm) rfl ?k6 ?k7 ?k8 ?k9 ?k10 ?k11 U ?k13 h
  case k6 => k_is
  case k7 => k_is
  case k8 => k_is
  case k9 => k_is
  case k10 => exact rfl
  case k11 => exact rfl
  case k13 => exact Nat.le_of_ble_eq_true rfl
theorem lex_set_token {v : PySem.Str} {tv : Tok} (F : Fr h₀ L s.heap m) (X₀ : (hd.heap_39 w.params).In h₀) (N : News h₀ L s.heap news) (hx : (x, instObj 732 d) ∈ news) (U : Upd d (dictOf (lexD hs ts inst infile ti state pb lineno tl token tt fs wc) 19) (dictOf (lexD hs ts inst infile ti state pb lineno tl v tv fs wc) 19) news news')
    (h : ∀ h', Fr h₀ L h' m → News h₀ L h' news' → Q () { s with heap := h', toks := s.toks + 2 }) : wpAny (model PR w) A (setAttr (.ref x) (PySem.Str.ofString "token") (.str v tv)) Q E s := by
  have hdm : (d, dictOf (lexD hs ts inst infile ti state pb lineno tl token tt fs wc) 19) ∈ news := by
    obtain ⟨a, b, rfl, -⟩ := U.split
    simp
  refine' set_dict F X₀ N (InstAt.of_news N hx hdm) rfl ?k6 ?k7 ?k8 ?k9 ?k10 ?k11 U ?k13 h
  case k6 => k_is
  case k7 => k_is
  case k8 => k_is
  case k9 => k_is
  case k10 => exact rfl
  case k11 => exact rfl
  case k13 => exact Nat.le_of_ble_eq_true rfl
theorem lex_set_lineno {v : Int} {tv : Tok} (F : Fr h₀ L s.heap m) (X₀ : (hd.heap_39 w.params).In h₀) (N : News h₀ L s.heap news) (hx : (x, instObj 732 d) ∈ news) (U : Upd d (dictOf (lexD hs ts inst infile ti state pb lineno tl token tt fs wc) 19) (dictOf (lexD hs ts inst infile ti state pb v tv token tt fs wc) 19) news news')
    (h : ∀ h', Fr h₀ L h' m → News h₀ L h' news' → Q () { s with heap := h', toks := s.toks + 2 }) : wpAny (model PR w) A (setAttr (.ref x) (PySem.Str.ofString "lineno") (.int v tv)) Q E s := by
  have hdm : (d, dictOf (lexD hs ts inst infile ti state pb lineno tl token tt fs wc) 19) ∈ news := by
    obtain ⟨a, b, rfl, -⟩ := U.split
    simp
  refine' set_dict F X₀ N (InstAt.of_news N hx hdm) rfl ?k6 ?k7 ?k8 ?k9 ?k10 ?k11 U ?k13 h
  case k6 => k_is
  case k7 => k_is
  case k8 => k_is
  case k9 => k_is
  case k10 => exact rfl
  case k11 => exact rfl
  case k13 => exact Nat.le_of_ble_eq_true rfl
theorem lex_set_infile {v : PySem.Str} {tv : Tok} (F : Fr h₀ L s.heap m) (X₀ : (hd.heap_39 w.params).In h₀) (N : News h₀ L s.heap news) (hx : (x, instObj 732 d) ∈ news) (U : Upd d (dictOf (lexD hs ts inst infile ti state pb lineno tl token tt fs wc) 19) (dictOf (lexD hs ts inst v tv state pb lineno tl token tt fs wc) 19) news news')
    (h : ∀ h', Fr h₀ L h' m → News h₀ L h' news' → Q () { s with heap := h', toks := s.toks + 2 }) : wpAny (model PR w) A (setAttr (.ref x) (PySem.Str.ofString "infile") (.str v tv)) Q E s := by
  have hdm : (d, dictOf (lexD hs ts inst infile ti state pb lineno tl token tt fs wc) 19) ∈ news := by
    obtain ⟨a, b, rfl, -⟩ := U.split
    simp
  refine' set_dict F X₀ N (InstAt.of_news N hx hdm) rfl ?k6 ?k7 ?k8 ?k9 ?k10 ?k11 U ?k13 h
  case k6 => k_is
  case k7 => k_is
  case k8 => k_is
  case k9 => k_is
  case k10 => exact rfl
  case k11 => exact rfl
  case k13 => exact Nat.le_of_ble_eq_true rfl
theorem lex_set_instream {v : Value} (F : Fr h₀ L s.heap m) (X₀ : (hd.heap_39 w.params).In h₀) (N : News h₀ L s.heap news) (hx : (x, instObj 732 d) ∈ news) (U : Upd d (dictOf (lexD hs ts inst infile ti state pb lineno tl token tt fs wc) 19) (dictOf (lexD hs ts v infile ti state pb lineno tl token tt fs wc) 19) news news')
    (h : ∀ h', Fr h₀ L h' m → News h₀ L h' news' → Q () { s with heap := h', toks := s.toks + 2 }) : wpAny (model PR w) A (setAttr (.ref x) (PySem.Str.ofString "instream") v) Q E s := by
  have hdm : (d, dictOf (lexD hs ts inst infile ti state pb lineno tl token tt fs wc) 19) ∈ news := by
    obtain ⟨a, b, rfl, -⟩ := U.split
    simp
  refine' set_dict F X₀ N (InstAt.of_news N hx hdm) rfl ?k6 ?k7 ?k8 ?k9 ?k10 ?k11 U ?k13 h
  case k6 => k_is
  case k7 => k_is
  case k8 => k_is
  case k9 => k_is
  case k10 => exact rfl
  case k11 => exact rfl
  case k13 => exact Nat.le_of_ble_eq_true rfl
end

end
section
theorem lines_4 : True := by
  k_with_none
  k_with "execs cons" => (first | (k_fold; (try dsimp only); (try (with_reducible refine gen_toks ?_; intro tk9))) | (with_reducible refine gen_toks ?_; intro tk9))
  k_with "MY nth" => (k_dflt (first | exact @rfl _ (nthO _ 0) | exact @rfl _ (nthO _ 1) | exact @rfl _ (nthO _ 2) | exact @rfl _ (nthO _ 3) | exact @rfl _ (nthO _ 4) | exact @rfl _ (nthO _ 5) | exact @rfl _ (nthO _ 6) | exact @rfl _ (nthO _ 7) | exact @rfl _ (nthO _ 8) | exact @rfl _ (nthO _ 9) | exact @rfl _ (nthO _ 10) | exact @rfl _ (nthO _ 11) | exact @rfl _ (nthO _ 12) | exact @rfl _ (nthO _ 13) | exact @rfl _ (nthO _ 14) | exact @rfl _ (nthO _ 15) | exact @rfl _ (nthO _ 16) | exact @rfl _ (nthO _ 17) | exact @rfl _ (nthO _ 18) | exact @rfl _ (nthO _ 19) | exact @rfl _ (nthO _ 20) | exact @rfl _ (nthO _ 21) | exact @rfl _ (nthO _ 22) | exact @rfl _ (nthO _ 23) | exact @rfl _ (nthO _ 24) | exact @rfl _ (nthO _ 25)))
  k_with "MY nlt" => (first
      | exact NeN.ne (by with_reducible assumption)
      | exact Ne.symm (NeN.ne (by with_reducible assumption))
      | exact Nat.ne_of_gt (by with_reducible assumption)
      | exact Nat.ne_of_lt (by with_reducible assumption)
      | (refine' LtA.ne ?qh ?qe; (case qh => with_reducible assumption); (case qe => k_extra "MY nth"))
      | (refine' LtA.ne' ?qh ?qe; (case qh => with_reducible assumption); (case qe => k_extra "MY nth"))
      | (refine' LtA.neS ?qh ?qe; (case qh => with_reducible assumption); (case qe => k_extra "MY nth"))
      | (refine' LtA.neS' ?qh ?qe; (case qh => with_reducible assumption); (case qe => k_extra "MY nth"))
      | (refine' LtA.neT ?qh ?qe; (case qh => with_reducible assumption); (case qe => k_extra "MY nth"))
      | (refine' LtA.neT' ?qh ?qe; (case qh => with_reducible assumption); (case qe => k_extra "MY nth"))
      | (refine' OffA.ne ?qh ?qe; (case qh => with_reducible assumption); (case qe => k_extra "MY nth"))
      | (refine' OffA.ne' ?qh ?qe; (case qh => with_reducible assumption); (case qe => k_extra "MY nth"))
      | (refine' Apart.at ?qh ?qe ?qf ?qn; (case qh => with_reducible assumption); (case qe => k_extra "MY nth"); (case qf => k_extra "MY nth"); (case qn => exact rfl)))
  k_with "k_all" => ((k_dflt (refine' ltA_off ?qh ?qe; (case qh => with_reducible assumption); (case qe => first | exact @rfl _ (dropO 0 _) | exact @rfl _ (dropO 1 _) | exact @rfl _ (dropO 2 _) | exact @rfl _ (dropO 3 _) | exact @rfl _ (dropO 4 _) | exact @rfl _ (dropO 5 _) | exact @rfl _ (dropO 6 _) | exact @rfl _ (dropO 7 _) | exact @rfl _ (dropO 8 _) | exact @rfl _ (dropO 9 _) | exact @rfl _ (dropO 10 _) | exact @rfl _ (dropO 11 _)))))
  k_with "MY lts" => ((k_dflt (refine' ltA_lts ?qh ?qe; (case qh => with_reducible assumption); (case qe => first | exact @rfl _ (dropO 0 _) | exact @rfl _ (dropO 1 _) | exact @rfl _ (dropO 2 _) | exact @rfl _ (dropO 3 _) | exact @rfl _ (dropO 4 _) | exact @rfl _ (dropO 5 _) | exact @rfl _ (dropO 6 _) | exact @rfl _ (dropO 7 _) | exact @rfl _ (dropO 8 _) | exact @rfl _ (dropO 9 _) | exact @rfl _ (dropO 10 _) | exact @rfl _ (dropO 11 _)))))
  k_with "MY pick" => (first | (refine' LtA.lt ?qh ?qe; (case qh => with_reducible assumption); (case qe => k_extra "MY nth")) | (refine Nat.lt_succ_of_lt ?_; (refine' LtA.lt ?qh ?qe; (case qh => with_reducible assumption); (case qe => k_extra "MY nth"))) | (refine Nat.lt_succ_of_lt (Nat.lt_succ_of_lt ?_); (refine' LtA.lt ?qh ?qe; (case qh => with_reducible assumption); (case qe => k_extra "MY nth"))))
  k_with "MY lt" => (first
      | (refine' lt_le ?qh ?qe; (case qh => assumption); (case qe => exact rfl))
      | (refine' lt_p ?qh ?qe; (case qh => assumption); (case qe => exact rfl))
      | (refine' lt_pp ?qh ?qe; (case qh => assumption); (case qe => exact rfl))
      | (refine' lt_ppp ?qh ?qe; (case qh => assumption); (case qe => exact rfl))
      | (refine' le_le ?qh ?qe; (case qh => assumption); (case qe => exact rfl))
      | decide
      | ((try simp only [LtA] at *); omega))
  k_with "k_ne" => ((refine neN ?_; (try dsimp only); first | k_extra "MY nlt" | omega | ((try simp only [LtA, List.forall_mem_cons] at *); omega)))
  k_with "k_room" => (((try simp only [depth_under_make, depth_under_kw, depth_in1, depth_deeper, depth_caller]); (show _ < 1000); k_dflt (k_extra "MY lt")))
  k_with "MY enterB" => ((refine' code_foot ?k1 ?k2 ?k3 ?k4 ?k5 ?k6 ?k7 ?_ ?c1 ?c2 ?c3 ?c4; (case k1 => assumption); (case k2 => assumption); (case k3 => k_is); (case k4 => k_is); (case k5 => k_room); (case k6 => first | exact BindsTo.of_eq rfl | exact binds_K (by k_in) rfl (by k_is) rfl rfl rfl); (case k7 => exact locs rfl); (case c1 => exact rfl); (case c2 => exact rfl); (case c3 => exact rfl); (case c4 => decide)))
  k_with "MY enter" => ((refine' on_foot ?k1 ?k3 ?k4 ?k5 ?k6 ?k7 ?_ ?c1 ?c2 ?c3 ?c4; (case k1 => assumption); (case k3 => k_is); (case k4 => k_is); (case k5 => k_room); (case k6 => first | exact BindsTo.of_eq rfl | exact binds_K (by k_in) rfl (by k_is) rfl rfl rfl); (case k7 => exact locs rfl); (case c1 => exact rfl); (case c2 => exact rfl); (case c3 => exact rfl); (case c4 => decide); intro bx9 px9 lx9 mx9 gx9 hx9))
  k_with "setAttr ref" => ((k_here; first | ((with_reducible refine' lex_set_state ?k1 ?k2 ?k3 ?k4 ?U ?_); k_dflt ((case k1 => k_asm); (case k2 => k_asm); (case k3 => k_asm); (case k4 => k_mem); (case U => k_upd)); k_whole; intro h' F' N'; (try k_sweep)) | ((with_reducible refine' lex_set_token ?k1 ?k2 ?k3 ?k4 ?U ?_); k_dflt ((case k1 => k_asm); (case k2 => k_asm); (case k3 => k_asm); (case k4 => k_mem); (case U => k_upd)); k_whole; intro h' F' N'; (try k_sweep)) | ((with_reducible refine' lex_set_lineno ?k1 ?k2 ?k3 ?k4 ?U ?_); k_dflt ((case k1 => k_asm); (case k2 => k_asm); (case k3 => k_asm); (case k4 => k_mem); (case U => k_upd)); k_whole; intro h' F' N'; (try k_sweep)) | ((with_reducible refine' lex_set_infile ?k1 ?k2 ?k3 ?k4 ?U ?_); k_dflt ((case k1 => k_asm); (case k2 => k_asm); (case k3 => k_asm); (case k4 => k_mem); (case U => k_upd)); k_whole; intro h' F' N'; (try k_sweep)) | ((with_reducible refine' lex_set_instream ?k1 ?k2 ?k3 ?k4 ?U ?_); k_dflt ((case k1 => k_asm); (case k2 => k_asm); (case k3 => k_asm); (case k4 => k_mem); (case U => k_upd)); k_whole; intro h' F' N'; (try k_sweep))))
  k_with "eval Attribute Name" => ((k_here; k_dflt (refine' self_own ?F ?X ?N ?hv ?h1 ?h2 ?hK ?hl ?hh ?_; (case F => k_asm); (case hv => exact rfl); (case X => k_asm); (case N => k_asm); (case h1 => k_mem); (case hK => first | (with_reducible exact own732_state _) | (with_reducible exact own732_debug _) | (with_reducible exact own732_whitespace _) | (with_reducible exact own732_posix _) | (with_reducible exact own732_token _) | (with_reducible exact own732_quotes _) | (with_reducible exact own732_escape _) | (with_reducible exact own732_wordchars _) | (with_reducible exact own732_commenters _) | (with_reducible exact own732_instream _) | (with_reducible exact own732_lineno _) | (with_reducible exact own732__punctuation_chars _) | (with_reducible exact own732_infile _) | (with_reducible exact own732_eof _) | (with_reducible exact own732_escapedquotes _) | (with_reducible exact own732_whitespace_split _) | (with_reducible exact own732_pushback _) | (with_reducible exact own732_filestack _) | (with_reducible exact own732_source _) | (with_reducible exact own597_buf _) | (with_reducible exact own597_pos _) | (with_reducible exact own597_newline _)); (case h2 => k_mem); (case hl => k_get); (case hh => k_handed); k_whole)))
  k_with "ite" => (first | with_reducible (refine iteT ?_) | with_reducible (refine iteF ?_))
  k_with "CompEnd" => (refine stopMark ?_)
  k_with "eval Name" => ((k_here; (with_reducible show wpAny _ _ (eval (Expr.Name _ _) (compEnvC _ _ _ _)) _ _ _); k_dflt (first
      | refine LCgL.ld_own (by k_asm) (by k_mem) (by assumption) (by assumption) ?_
      | refine LCgL.ld_global (by k_asm) (by k_asm) (by k_asm) (by k_is) ?_
      | refine LCgL.ld_built (by k_asm) (by k_asm) (by k_asm) (by k_is) (by boot_by_name) (by decide) ?_)))
  k_with "eval Name" => ((k_here; (fail_if_success (with_reducible show wpAny _ _ (eval (Expr.Name _ _) (compEnvC _ _ _ _)) _ _ _)); k_dflt (refine' nameX_L ?F ?hv ?_; (case F => k_asm); (case hv => exact rfl); k_whole)))
  k_with "callWith ref" => ((k_here; k_dflt (refine' callWith_K ?k1 ?k2 ?_; (case k1 => k_asm); (case k2 => k_is); k_whole)))
  k_with "exec While" => (refine stopMark ?_)
  k_with "Exists" => (refine stopMark ?_)
  k_with "exec If" => (refine wpAny_If ?_)
  k_with "compareOp In str str" => (first | refine in_yes (by first | assumption | decide +kernel) ?_ | refine in_no (by first | assumption | decide +kernel) ?_)
  k_with "compareOp Eq str str" => (first | refine eq_yes (by first | assumption | rfl) ?_ | refine eq_no (by first | assumption | decide +kernel) ?_ | refine stopMark ?_)
  k_with "truthy str" => (first | refine truthy_sgn ?_ | refine truthy_yes (by assumption) (by first | assumption | omega) ?_ | refine truthy_no (by assumption) ?_)
  k_with "MY steps" => (repeat' (first | (k_unfold; (try dsimp only)) | (k_end; wrow_close) | walk1 | (dsimp only; walk1) | (leave1; try dsimp only) | fail "no step"))
  k_with "MY fin" => (repeat (first | dsimp only | (k_unfold; (try dsimp only))))
  k_with "MY open" => ((
      rename On _ _ _ _ _ => aOn9
      have Gk9 := aOn9.k
      have hap9 := aOn9.apart
      dsimp only [List.map] at hap9
      refine wpAny_call ?_
      k_dflt (k_extra "MY enter")))
  k_with "MY ret" => ((
      rename _ = hideAll _ _ => hgX
      rename Fr _ _ _ _ => kF
      rename News _ _ _ _ => kN
      rename (∀ _ _ _, Kept _ _ _ → _) => retX
      refine' retX _ _ _ (fun b o e => kF.keep b o (hgX ▸ e)) ?_
      (first | exact (fun q hq => (kN q hq).1) | exact ⟨_, fun q hq => (kN q hq).1⟩)))
  k_with "call ref" => (((with_reducible show wpAny _ _ (call (Value.ref 543) [Value.ref _, Value.int 1 _]) _ _ _); first | (k_dflt (refine' read_use ?k1 ?k2 ?k3 ?k4 ?k5 ?k6 ?k7 ?k8 ?U ?k9 ?kA ?kB ?kC ?kD ?kE ?kG ?_; (case k1 => k_asm); (case k2 => k_asm); (case k3 => k_asm); (case k4 => k_asm); (case k5 => k_asm); (case k6 => exact rfl); (case k7 => exact rfl); (case k8 => k_mem); (case U => (intro tp'; k_upd)); (case k9 => k_ne); (case kA => assumption); (case kB => assumption); (case kC => assumption); (case kD => assumption); (case kE => ((try dsimp only [AA, Around.deeper]); k_extra "MY lt")); (case kG => ((try dsimp only [AA, Around.deeper]); k_extra "MY lt")); k_whole); intro h' tk' t' tp' F' N'; (try k_sweep)) | refine stopMark ?_))
  trivial
noncomputable abbrev lexFoot (x d sx sd pb fs : Addr) (hs : Nat → Int) (ts : Nat → Tok) (hs2 : Nat → Int) (ts2 : Nat → Tok) (infile : PySem.Str) (ti : Tok) (state : Value) (lineno : Int) (tl : Tok) (token : PySem.Str) (tt : Tok) (buf : PySem.Str) (pos : Int) (tp : Tok) : List (Addr × Obj) :=
  [(x, instObj 732 d), (d, dictOf (lexD hs ts (.ref sx) infile ti state pb lineno tl token tt fs wcs) 19), (sx, instObj 597 sd), (sd, dictOf (sioD hs2 ts2 buf pos tp) 3)]
noncomputable abbrev rtM (x : Addr) (u : Option Value) (q : Bool) (e : Value) : PySem.Str → Option Value := fun y => if y = PySem.Str.ofString "nextchar" then u else if y = PySem.Str.ofString "escapedstate" then some e else if y = PySem.Str.ofString "quoted" then some (.bool q) else if y = PySem.Str.ofString "self" then some (.ref x) else none

theorem rtM_1 (x : Addr) (u v : Option Value) (q : Bool) (e : Value) : (fun y => if y = PySem.Str.ofString "nextchar" then v else rtM x u q e y) = rtM x v q e := by
  funext y
  unfold rtM
  split <;> simp_all
theorem rtM_2 (x : Addr) (u v : Option Value) (q q' : Bool) (e : Value) : (fun y => if y = PySem.Str.ofString "quoted" then some (.bool q') else if y = PySem.Str.ofString "nextchar" then v else rtM x u q e y) = rtM x v q' e := by
  have h1 : PySem.Str.ofString "quoted" ≠ PySem.Str.ofString "nextchar" := by decide
  have h2 : PySem.Str.ofString "quoted" ≠ PySem.Str.ofString "escapedstate" := by decide
  funext y
  unfold rtM
  by_cases e1 : y = PySem.Str.ofString "quoted"
  · subst e1
    simp [h1, h2]
  · simp [e1]
    split <;> simp_all

inductive RtInv (s : Shared) (g : Heap) (L x d sx sd pb fs : Addr) (hs : Nat → Int) (ts : Nat → Tok) (hs2 : Nat → Int) (ts2 : Nat → Tok) (infile : PySem.Str) (ti : Tok) (lineno : Int) (buf : PySem.Str) (z all : List Nat) (n : Nat) (s' : Shared) : Prop
  | mk (st : St) (q : Bool) (tok pr it : List Nat) (h : Heap) (tk : Nat) (u : Option Value) (e : Value) (tst tl tt tp : Tok)
    (e0 : s' = { s with heap := h, toks := tk }) (hn : n = it.length) (hpi : all = pr ++ it) (hsc : scan it st q tok = some z) (htl : tok.length ≤ pr.length)
    (F : Fr g L h (rtM x u q e)) (N : News g L h (lexFoot x d sx sd pb fs hs ts hs2 ts2 infile ti (.str st.str tst) lineno tl ⟨tok.toArray⟩ tt buf (pr.length : Int) tp)) : RtInv s g L x d sx sd pb fs hs ts hs2 ts2 infile ti lineno buf z all n s'
theorem RtInv.open {s s' : Shared} {g : Heap} {L x d sx sd pb fs : Addr} {hs : Nat → Int} {ts : Nat → Tok} {hs2 : Nat → Int} {ts2 : Nat → Tok} {infile : PySem.Str} {ti : Tok} {lineno : Int} {buf : PySem.Str} {z all : List Nat} {n : Nat}
    (hI : RtInv s g L x d sx sd pb fs hs ts hs2 ts2 infile ti lineno buf z all n s') {P : Shared → Prop}
    (k : ∀ (st : St) (q : Bool) (tok pr it : List Nat) (h : Heap) (tk : Nat) (u : Option Value) (e : Value) (tst tl tt tp : Tok), n = it.length → all = pr ++ it → scan it st q tok = some z → tok.length ≤ pr.length →
      Fr g L h (rtM x u q e) → News g L h (lexFoot x d sx sd pb fs hs ts hs2 ts2 infile ti (.str st.str tst) lineno tl ⟨tok.toArray⟩ tt buf (pr.length : Int) tp) → P { s with heap := h, toks := tk }) : P s' := by
  obtain ⟨st, q, tok, pr, it, h, tk, u, e, tst, tl, tt, tp, rfl, hn, hpi, hsc, htl, F, N⟩ := hI
  exact k st q tok pr it h tk u e tst tl tt tp hn hpi hsc htl F N
/-- the loop's state as a letter, with the end of a turn -/
theorem rtInv_I (s : Shared) (g : Heap) (L x d sx sd pb fs : Addr) (hs : Nat → Int) (ts : Nat → Tok) (hs2 : Nat → Int) (ts2 : Nat → Tok) (infile : PySem.Str) (ti : Tok) (lineno : Int) (buf : PySem.Str) (z all : List Nat) :
    ∃ I : Nat → Shared → Prop, (∀ {n s'}, I n s' → RtInv s g L x d sx sd pb fs hs ts hs2 ts2 infile ti lineno buf z all n s') ∧
      (∀ {st : St} {q : Bool} {tok pr it : List Nat} {h : Heap} {tk : Nat} {u : Option Value} {e : Value} {tst tl tt tp : Tok}, all = pr ++ it → scan it st q tok = some z → tok.length ≤ pr.length →
        Fr g L h (rtM x u q e) → News g L h (lexFoot x d sx sd pb fs hs ts hs2 ts2 infile ti (.str st.str tst) lineno tl ⟨tok.toArray⟩ tt buf (pr.length : Int) tp) → I it.length { s with heap := h, toks := tk }) :=
  ⟨RtInv s g L x d sx sd pb fs hs ts hs2 ts2 infile ti lineno buf z all, id, fun hpi hsc htl F N => ⟨_, _, _, _, _, _, _, _, _, _, _, _, _, rfl, rfl, hpi, hsc, htl, F, N⟩⟩
theorem tok_le0 {tok pr : List Nat} {c : Nat} (h : tok.length ≤ pr.length) : tok.length ≤ (pr ++ [c]).length := by simp; (first | lia | omega)
theorem tok_le1 {tok pr : List Nat} {b c : Nat} (_h : tok.length ≤ pr.length) : [b].length ≤ (pr ++ [c]).length := by simp
theorem tok_le2 {tok pr : List Nat} {b c : Nat} (h : tok.length ≤ pr.length) : (tok ++ [b]).length ≤ (pr ++ [c]).length := by simp; (first | lia | omega)
theorem rt_turn {P : Prop} {n : Nat} {c : Nat} {it all pr : List Nat} (hn : n = (c :: it).length) (hpi : all = pr ++ c :: it) (h : all = (pr ++ [c]) ++ it → it.length < n → P) : P :=
  h (by simp [hpi]) (by rw [hn]; exact Nat.lt_succ_self _)
set_option maxHeartbeats 8000000 in
theorem read_token_item {w : World} {dep un : Nat} {gs : Option (List Code)} {s : Shared} {outer : List Env} {x d sx sd pb fs : Addr} {hs hs2 : Nat → Int} {ts ts2 : Nat → Tok} {infile : PySem.Str} {ti tst tl tt tp : Tok} {lineno : Int} {buf : PySem.Str} {E Q : Value → Shared → Prop}
    {pre item post z : List Nat} (hbuf : buf.cps.toList = pre ++ (item ++ 10 :: post)) (hz : scan item .s false [] = some z) (hb : buf.length ≤ 4000) (hD : dep < 680) (hU : un < 4900)
    (a : On w (AA none dep outer gs un) outer s (lexFoot x d sx sd pb fs hs ts hs2 ts2 infile ti (.str St.s.str tst) lineno tl (PySem.Str.ofString "") tt buf (pre.length : Int) tp))
    (ret : ∀ h' tk' t', Kept s (lexFoot x d sx sd pb fs hs ts hs2 ts2 infile ti (.str St.s.str tst) lineno tl (PySem.Str.ofString "") tt buf (pre.length : Int) tp) h' →
      (∃ tst' tl' tt' tp', ∀ q ∈ lexFoot x d sx sd pb fs hs ts hs2 ts2 infile ti (.str St.s.str tst') (lineno + 1) tl' (PySem.Str.ofString "") tt' buf ((pre.length : Int) + item.length + 1) tp', h'.get? q.1 = some q.2) →
      Q (.str ⟨z.toArray⟩ t') { s with heap := h', toks := tk' }) :
    wpAny (model PR w) (AA none dep outer gs un) (call (.ref 700) [.ref x]) Q E s := by
  have hbl : buf.length = pre.length + item.length + post.length + 1 := by
    have : buf.length = buf.cps.toList.length := by simp [PySem.Str.length]
    rw [this, hbuf]; simp; (first | lia | omega)
  k_extra "MY open"
  intro g L' h₁ hg F' N' B' X' T' hlt
  (try dsimp only)
  k_fold
  k_extra "MY steps"
  refine stopGo ?_
  obtain ⟨I, hI0, hIs⟩ := rtInv_I s g L' x d sx sd pb fs hs ts hs2 ts2 infile ti lineno buf z (pre ++ item)
  refine wpAny_While (codeAny_whileLoop I ?_ item.length ?_)
  · intro n s' hIn
    refine (hI0 hIn).open ?_
    clear hIn
    intro st q tok pr it h tk u e tst' tl' tt' tp' hn hpi hsc htl F1 N1
    try dsimp only
    k_fold
    have hp1 : (pr.length : Int) = (pr.length : Int) := rfl
    cases it with
    | nil =>
      have hb1 : buf.cps.toList = pr ++ 10 :: post := by rw [hbuf, ← List.append_assoc, hpi]; simp
      have hz1 : (⟨#[10]⟩ : PySem.Str) = PySem.Str.ofString "\n" := by decide
      have hprl : pr.length ≤ 4000 := by
        have : buf.length = buf.cps.toList.length := by simp [PySem.Str.length]
        rw [hb1] at this; simp at this; (first | lia | omega)
      rw [scan] at hsc
      split at hsc
      · rename_i hc
        obtain ⟨rfl, hc⟩ := hc
        obtain rfl := Option.some.inj hsc
        have hfit : (⟨tok.toArray⟩ : PySem.Str).length ≤ 4000 := by show tok.toArray.size ≤ 4000; simp; (first | lia | omega)
        have hlen : (pr.length : Int) = (pre.length : Int) + item.length := by
          have := congrArg List.length hpi
          simp at this; (first | lia | omega)
        dsimp only [St.str] at N1
        by_cases htok : tok = []
        · have hq : q = true := hc.resolve_left (fun h => h htok)
          subst hq htok
          have ht0 : (⟨([] : List Nat).toArray⟩ : PySem.Str).length = 0 := rfl
          k_extra "MY steps"
          k_extra "MY fin"
          rename Fr _ L' _ _ => kF
          rename News _ L' _ _ => kN
          rw [show ((pr.length : Int) + 1) = (pre.length : Int) + item.length + 1 by (first | lia | omega)] at kN
          exact ret _ _ _ (fun b o e => kF.keep b o (hg ▸ e)) ⟨_, _, _, _, fun q hq => (kN q (.tail _ hq)).1⟩
        · have ht0 : (⟨tok.toArray⟩ : PySem.Str).length ≠ 0 := by show tok.toArray.size ≠ 0; simpa using htok
          have ht1 : (⟨tok.toArray⟩ : PySem.Str) ≠ PySem.Str.ofString "" := fun e => ht0 (by rw [e]; rfl)
          cases q with
          | true =>
            k_extra "MY steps"
            k_extra "MY fin"
            rename Fr _ L' _ _ => kF
            rename News _ L' _ _ => kN
            rw [show ((pr.length : Int) + 1) = (pre.length : Int) + item.length + 1 by (first | lia | omega)] at kN
            exact ret _ _ _ (fun b o e => kF.keep b o (hg ▸ e)) ⟨_, _, _, _, fun q hq => (kN q (.tail _ hq)).1⟩
          | false =>
            k_extra "MY steps"
            k_extra "MY fin"
            rename Fr _ L' _ _ => kF
            rename News _ L' _ _ => kN
            rw [show ((pr.length : Int) + 1) = (pre.length : Int) + item.length + 1 by (first | lia | omega)] at kN
            exact ret _ _ _ (fun b o e => kF.keep b o (hg ▸ e)) ⟨_, _, _, _, fun q hq => (kN q (.tail _ hq)).1⟩
      · cases hsc
    | cons c it =>
      have hb1 : buf.cps.toList = pr ++ c :: (it ++ 10 :: post) := by rw [hbuf, ← List.append_assoc, hpi]; simp
      by_cases hc10 : c = 10
      · subst hc10
        rw [scan] at hsc
        cases st <;> simp [turn, wordSigns] at hsc
      have hz1 : (⟨#[c]⟩ : PySem.Str) = sgn c := rfl
      have hz10 : sgn c ≠ PySem.Str.ofString "\n" := sgn_ne hc10
      generalize hst : st.str = sst at N1
      rw [scan] at hsc
      k_extra "MY steps"
      refine stopGo ?_
      have hpe : ((pr.length : Int) + 1) = (((pr ++ [c]).length : Nat) : Int) := by simp
      have hprl : pr.length ≤ 4000 := by
        have : buf.length = buf.cps.toList.length := by simp [PySem.Str.length]
        rw [hb1] at this; simp at this; (first | lia | omega)
      cases st with
      | s =>
        have hst' : sst = PySem.Str.ofString " " := hst.symm
        subst hst'
        by_cases hc : c = 39
        · subst hc
          rename Fr g L' _ _ => kF0
          rw [show sgn 39 = PySem.Str.ofString "'" from by decide] at kF0
          simp [turn] at hsc
          k_extra "MY steps"
          refine stopGo ?_
          (try dsimp only)
          rename Fr g L' _ _ => kF
          rename News g L' _ _ => kN
          rw [rtM_1] at kF
          rw [hpe] at kN
          exact rt_turn hn hpi fun h1 h2 => ⟨_, h2, hIs (st := .q1) (q := q) (tok := tok) h1 hsc (tok_le0 htl) kF (kN)⟩
        · by_cases hw : c ∈ wordSigns
          · obtain ⟨f1, f2, f3, f4, f5⟩ := word_facts hw
            simp [turn, hc, hw] at hsc
            k_extra "MY steps"
            refine stopGo ?_
            (try dsimp only)
            rename Fr g L' _ _ => kF
            rename News g L' _ _ => kN
            rw [rtM_1] at kF
            rw [hpe] at kN
            exact rt_turn hn hpi fun h1 h2 => ⟨_, h2, hIs (st := .a) (q := q) (tok := [c]) h1 hsc (tok_le1 htl) kF (kN)⟩
          · simp [turn, hc, hw] at hsc
      | q1 =>
        have hst' : sst = PySem.Str.ofString "'" := hst.symm
        subst hst'
        by_cases hc : c = 39
        · subst hc
          rename Fr g L' _ _ => kF0
          rw [show sgn 39 = PySem.Str.ofString "'" from by decide] at kF0
          simp [turn] at hsc
          k_extra "MY steps"
          refine stopGo ?_
          (try dsimp only)
          rename Fr g L' _ _ => kF
          rename News g L' _ _ => kN
          rw [rtM_2] at kF
          rw [hpe] at kN
          exact rt_turn hn hpi fun h1 h2 => ⟨_, h2, hIs (st := .a) (q := true) (tok := tok) h1 hsc (tok_le0 htl) kF (kN)⟩
        · have g1 : sgn c ≠ PySem.Str.ofString "'" := sgn_ne hc
          simp [turn, hc, hc10] at hsc
          have hfit : (⟨tok.toArray⟩ : PySem.Str).length ≤ 4000 := by show tok.toArray.size ≤ 4000; simp; (first | lia | omega)
          cases g2 : Txt.contains (PySem.Str.ofString "\\") (sgn c) with
          | true =>
            k_extra "MY steps"
            refine stopGo ?_
            (try dsimp only)
            rename Fr g L' _ _ => kF
            rename News g L' _ _ => kN
            rw [rtM_2] at kF
            rw [hpe, sgn_app] at kN
            exact rt_turn hn hpi fun h1 h2 => ⟨_, h2, hIs (st := .q1) (q := true) (tok := (tok ++ [c])) h1 hsc (tok_le2 htl) kF (kN)⟩
          | false =>
            k_extra "MY steps"
            refine stopGo ?_
            (try dsimp only)
            rename Fr g L' _ _ => kF
            rename News g L' _ _ => kN
            rw [rtM_2] at kF
            rw [hpe, sgn_app] at kN
            exact rt_turn hn hpi fun h1 h2 => ⟨_, h2, hIs (st := .q1) (q := true) (tok := (tok ++ [c])) h1 hsc (tok_le2 htl) kF (kN)⟩
      | q2 =>
        have hst' : sst = PySem.Str.ofString "\"" := hst.symm
        subst hst'
        by_cases hc : c = 34
        · subst hc
          rename Fr g L' _ _ => kF0
          rw [show sgn 34 = PySem.Str.ofString "\"" from by decide] at kF0
          simp [turn] at hsc
          k_extra "MY steps"
          refine stopGo ?_
          (try dsimp only)
          rename Fr g L' _ _ => kF
          rename News g L' _ _ => kN
          rw [rtM_2] at kF
          rw [hpe] at kN
          exact rt_turn hn hpi fun h1 h2 => ⟨_, h2, hIs (st := .a) (q := true) (tok := tok) h1 hsc (tok_le0 htl) kF (kN)⟩
        · by_cases hc' : c = 39
          · subst hc'
            rename Fr g L' _ _ => kF0
            rw [show sgn 39 = PySem.Str.ofString "'" from by decide] at kF0
            simp [turn] at hsc
            have hfit : (⟨tok.toArray⟩ : PySem.Str).length ≤ 4000 := by show tok.toArray.size ≤ 4000; simp; (first | lia | omega)
            k_extra "MY steps"
            refine stopGo ?_
            (try dsimp only)
            rename Fr g L' _ _ => kF
            rename News g L' _ _ => kN
            rw [rtM_2] at kF
            rw [hpe, show PySem.Str.ofString "'" = sgn 39 from by decide, sgn_app] at kN
            exact rt_turn hn hpi fun h1 h2 => ⟨_, h2, hIs (st := .q2) (q := true) (tok := (tok ++ [39])) h1 hsc (tok_le2 htl) kF (kN)⟩
          · simp [turn, hc, hc'] at hsc
      | a =>
        have hst' : sst = PySem.Str.ofString "a" := hst.symm
        subst hst'
        by_cases hc : c = 39
        · subst hc
          rename Fr g L' _ _ => kF0
          rw [show sgn 39 = PySem.Str.ofString "'" from by decide] at kF0
          simp [turn] at hsc
          k_extra "MY steps"
          refine stopGo ?_
          (try dsimp only)
          rename Fr g L' _ _ => kF
          rename News g L' _ _ => kN
          rw [rtM_1] at kF
          rw [hpe] at kN
          exact rt_turn hn hpi fun h1 h2 => ⟨_, h2, hIs (st := .q1) (q := q) (tok := tok) h1 hsc (tok_le0 htl) kF (fun q hq => kN q (.tail _ hq))⟩
        · by_cases hc' : c = 34
          · subst hc'
            rename Fr g L' _ _ => kF0
            rw [show sgn 34 = PySem.Str.ofString "\"" from by decide] at kF0
            simp [turn] at hsc
            k_extra "MY steps"
            refine stopGo ?_
            (try dsimp only)
            rename Fr g L' _ _ => kF
            rename News g L' _ _ => kN
            rw [rtM_1] at kF
            rw [hpe] at kN
            exact rt_turn hn hpi fun h1 h2 => ⟨_, h2, hIs (st := .q2) (q := q) (tok := tok) h1 hsc (tok_le0 htl) kF (fun q hq => kN q (.tail _ hq))⟩
          · by_cases hw : c ∈ wordSigns
            · obtain ⟨f1, f2, f3, f4, f5⟩ := word_facts hw
              simp [turn, hc, hc', hw] at hsc
              have hfit : (⟨tok.toArray⟩ : PySem.Str).length ≤ 4000 := by show tok.toArray.size ≤ 4000; simp; (first | lia | omega)
              k_extra "MY steps"
              refine stopGo ?_
              (try dsimp only)
              rename Fr g L' _ _ => kF
              rename News g L' _ _ => kN
              rw [rtM_1] at kF
              rw [hpe, sgn_app] at kN
              exact rt_turn hn hpi fun h1 h2 => ⟨_, h2, hIs (st := .a) (q := q) (tok := (tok ++ [c])) h1 hsc (tok_le2 htl) kF (fun q hq => kN q (.tail _ hq))⟩
            · simp [turn, hc, hc', hw] at hsc
  · refine' hIs (st := .s) (q := false) (tok := []) (pr := pre) (it := item) (u := none) rfl hz (Nat.zero_le _) ?hxF ?hxN
    case hxN =>
      rename News g L' _ _ => kN
      exact kN
    case hxF =>
      rename Fr g L' _ _ => kF
      refine Eq.mp ?_ kF
      congr 1
      funext y
      by_cases e1 : y = PySem.Str.ofString "nextchar"
      · subst e1; rfl
      · by_cases e2 : y = PySem.Str.ofString "escapedstate"
        · subst e2; rfl
        · by_cases e3 : y = PySem.Str.ofString "quoted"
          · subst e3; rfl
          · simp only [rtM, if_neg e1, if_neg e2, if_neg e3]
            by_cases e4 : y = PySem.Str.ofString "self"
            · subst e4; rfl
            · rw [if_neg e4]
              exact lookup_one e4

end
section
theorem lines_5 : True := by
  k_with_none
  k_with "execs cons" => (first | (k_fold; (try dsimp only); (try (with_reducible refine gen_toks ?_; intro tk9))) | (with_reducible refine gen_toks ?_; intro tk9))
  k_with "MY nth" => (k_dflt (first | exact @rfl _ (nthO _ 0) | exact @rfl _ (nthO _ 1) | exact @rfl _ (nthO _ 2) | exact @rfl _ (nthO _ 3) | exact @rfl _ (nthO _ 4) | exact @rfl _ (nthO _ 5) | exact @rfl _ (nthO _ 6) | exact @rfl _ (nthO _ 7) | exact @rfl _ (nthO _ 8) | exact @rfl _ (nthO _ 9) | exact @rfl _ (nthO _ 10) | exact @rfl _ (nthO _ 11) | exact @rfl _ (nthO _ 12) | exact @rfl _ (nthO _ 13) | exact @rfl _ (nthO _ 14) | exact @rfl _ (nthO _ 15) | exact @rfl _ (nthO _ 16) | exact @rfl _ (nthO _ 17) | exact @rfl _ (nthO _ 18) | exact @rfl _ (nthO _ 19) | exact @rfl _ (nthO _ 20) | exact @rfl _ (nthO _ 21) | exact @rfl _ (nthO _ 22) | exact @rfl _ (nthO _ 23) | exact @rfl _ (nthO _ 24) | exact @rfl _ (nthO _ 25)))
  k_with "MY nlt" => (first
      | exact NeN.ne (by with_reducible assumption)
      | exact Ne.symm (NeN.ne (by with_reducible assumption))
      | exact Nat.ne_of_gt (by with_reducible assumption)
      | exact Nat.ne_of_lt (by with_reducible assumption)
      | (refine' LtA.ne ?qh ?qe; (case qh => with_reducible assumption); (case qe => k_extra "MY nth"))
      | (refine' LtA.ne' ?qh ?qe; (case qh => with_reducible assumption); (case qe => k_extra "MY nth"))
      | (refine' LtA.neS ?qh ?qe; (case qh => with_reducible assumption); (case qe => k_extra "MY nth"))
      | (refine' LtA.neS' ?qh ?qe; (case qh => with_reducible assumption); (case qe => k_extra "MY nth"))
      | (refine' LtA.neT ?qh ?qe; (case qh => with_reducible assumption); (case qe => k_extra "MY nth"))
      | (refine' LtA.neT' ?qh ?qe; (case qh => with_reducible assumption); (case qe => k_extra "MY nth"))
      | (refine' OffA.ne ?qh ?qe; (case qh => with_reducible assumption); (case qe => k_extra "MY nth"))
      | (refine' OffA.ne' ?qh ?qe; (case qh => with_reducible assumption); (case qe => k_extra "MY nth"))
      | (refine' Apart.at ?qh ?qe ?qf ?qn; (case qh => with_reducible assumption); (case qe => k_extra "MY nth"); (case qf => k_extra "MY nth"); (case qn => exact rfl)))
  k_with "k_all" => ((k_dflt (refine' ltA_off ?qh ?qe; (case qh => with_reducible assumption); (case qe => first | exact @rfl _ (dropO 0 _) | exact @rfl _ (dropO 1 _) | exact @rfl _ (dropO 2 _) | exact @rfl _ (dropO 3 _) | exact @rfl _ (dropO 4 _) | exact @rfl _ (dropO 5 _) | exact @rfl _ (dropO 6 _) | exact @rfl _ (dropO 7 _) | exact @rfl _ (dropO 8 _) | exact @rfl _ (dropO 9 _) | exact @rfl _ (dropO 10 _) | exact @rfl _ (dropO 11 _)))))
  k_with "MY lts" => ((k_dflt (refine' ltA_lts ?qh ?qe; (case qh => with_reducible assumption); (case qe => first | exact @rfl _ (dropO 0 _) | exact @rfl _ (dropO 1 _) | exact @rfl _ (dropO 2 _) | exact @rfl _ (dropO 3 _) | exact @rfl _ (dropO 4 _) | exact @rfl _ (dropO 5 _) | exact @rfl _ (dropO 6 _) | exact @rfl _ (dropO 7 _) | exact @rfl _ (dropO 8 _) | exact @rfl _ (dropO 9 _) | exact @rfl _ (dropO 10 _) | exact @rfl _ (dropO 11 _)))))
  k_with "MY pick" => (first | (refine' LtA.lt ?qh ?qe; (case qh => with_reducible assumption); (case qe => k_extra "MY nth")) | (refine Nat.lt_succ_of_lt ?_; (refine' LtA.lt ?qh ?qe; (case qh => with_reducible assumption); (case qe => k_extra "MY nth"))) | (refine Nat.lt_succ_of_lt (Nat.lt_succ_of_lt ?_); (refine' LtA.lt ?qh ?qe; (case qh => with_reducible assumption); (case qe => k_extra "MY nth"))))
  k_with "MY lt" => (first
      | (refine' lt_le ?qh ?qe; (case qh => assumption); (case qe => exact rfl))
      | (refine' lt_p ?qh ?qe; (case qh => assumption); (case qe => exact rfl))
      | (refine' lt_pp ?qh ?qe; (case qh => assumption); (case qe => exact rfl))
      | (refine' lt_ppp ?qh ?qe; (case qh => assumption); (case qe => exact rfl))
      | (refine' le_le ?qh ?qe; (case qh => assumption); (case qe => exact rfl))
      | decide
      | ((try simp only [LtA] at *); omega))
  k_with "k_ne" => ((refine neN ?_; (try dsimp only); first | k_extra "MY nlt" | omega | ((try simp only [LtA, List.forall_mem_cons] at *); omega)))
  k_with "k_room" => (((try simp only [depth_under_make, depth_under_kw, depth_in1, depth_deeper, depth_caller]); (show _ < 1000); k_dflt (k_extra "MY lt")))
  k_with "MY enterB" => ((refine' code_foot ?k1 ?k2 ?k3 ?k4 ?k5 ?k6 ?k7 ?_ ?c1 ?c2 ?c3 ?c4; (case k1 => assumption); (case k2 => assumption); (case k3 => k_is); (case k4 => k_is); (case k5 => k_room); (case k6 => first | exact BindsTo.of_eq rfl | exact binds_K (by k_in) rfl (by k_is) rfl rfl rfl); (case k7 => exact locs rfl); (case c1 => exact rfl); (case c2 => exact rfl); (case c3 => exact rfl); (case c4 => decide)))
  k_with "MY enter" => ((refine' on_foot ?k1 ?k3 ?k4 ?k5 ?k6 ?k7 ?_ ?c1 ?c2 ?c3 ?c4; (case k1 => assumption); (case k3 => k_is); (case k4 => k_is); (case k5 => k_room); (case k6 => first | exact BindsTo.of_eq rfl | exact binds_K (by k_in) rfl (by k_is) rfl rfl rfl); (case k7 => exact locs rfl); (case c1 => exact rfl); (case c2 => exact rfl); (case c3 => exact rfl); (case c4 => decide); intro bx9 px9 lx9 mx9 gx9 hx9))
  k_with "setAttr ref" => ((k_here; first | ((with_reducible refine' lex_set_state ?k1 ?k2 ?k3 ?k4 ?U ?_); k_dflt ((case k1 => k_asm); (case k2 => k_asm); (case k3 => k_asm); (case k4 => k_mem); (case U => k_upd)); k_whole; intro h' F' N'; (try k_sweep)) | ((with_reducible refine' lex_set_token ?k1 ?k2 ?k3 ?k4 ?U ?_); k_dflt ((case k1 => k_asm); (case k2 => k_asm); (case k3 => k_asm); (case k4 => k_mem); (case U => k_upd)); k_whole; intro h' F' N'; (try k_sweep)) | ((with_reducible refine' lex_set_lineno ?k1 ?k2 ?k3 ?k4 ?U ?_); k_dflt ((case k1 => k_asm); (case k2 => k_asm); (case k3 => k_asm); (case k4 => k_mem); (case U => k_upd)); k_whole; intro h' F' N'; (try k_sweep)) | ((with_reducible refine' lex_set_infile ?k1 ?k2 ?k3 ?k4 ?U ?_); k_dflt ((case k1 => k_asm); (case k2 => k_asm); (case k3 => k_asm); (case k4 => k_mem); (case U => k_upd)); k_whole; intro h' F' N'; (try k_sweep)) | ((with_reducible refine' lex_set_instream ?k1 ?k2 ?k3 ?k4 ?U ?_); k_dflt ((case k1 => k_asm); (case k2 => k_asm); (case k3 => k_asm); (case k4 => k_mem); (case U => k_upd)); k_whole; intro h' F' N'; (try k_sweep))))
  k_with "eval Attribute Name" => ((k_here; k_dflt (refine' self_own ?F ?X ?N ?hv ?h1 ?h2 ?hK ?hl ?hh ?_; (case F => k_asm); (case hv => exact rfl); (case X => k_asm); (case N => k_asm); (case h1 => k_mem); (case hK => first | (with_reducible exact own732_state _) | (with_reducible exact own732_debug _) | (with_reducible exact own732_whitespace _) | (with_reducible exact own732_posix _) | (with_reducible exact own732_token _) | (with_reducible exact own732_quotes _) | (with_reducible exact own732_escape _) | (with_reducible exact own732_wordchars _) | (with_reducible exact own732_commenters _) | (with_reducible exact own732_instream _) | (with_reducible exact own732_lineno _) | (with_reducible exact own732__punctuation_chars _) | (with_reducible exact own732_infile _) | (with_reducible exact own732_eof _) | (with_reducible exact own732_escapedquotes _) | (with_reducible exact own732_whitespace_split _) | (with_reducible exact own732_pushback _) | (with_reducible exact own732_filestack _) | (with_reducible exact own732_source _) | (with_reducible exact own597_buf _) | (with_reducible exact own597_pos _) | (with_reducible exact own597_newline _)); (case h2 => k_mem); (case hl => k_get); (case hh => k_handed); k_whole)))
  k_with "ite" => (first | with_reducible (refine iteT ?_) | with_reducible (refine iteF ?_))
  k_with "CompEnd" => (refine stopMark ?_)
  k_with "eval Name" => ((k_here; (with_reducible show wpAny _ _ (eval (Expr.Name _ _) (compEnvC _ _ _ _)) _ _ _); k_dflt (first
      | refine LCgL.ld_own (by k_asm) (by k_mem) (by assumption) (by assumption) ?_
      | refine LCgL.ld_global (by k_asm) (by k_asm) (by k_asm) (by k_is) ?_
      | refine LCgL.ld_built (by k_asm) (by k_asm) (by k_asm) (by k_is) (by boot_by_name) (by decide) ?_)))
  k_with "eval Name" => ((k_here; (fail_if_success (with_reducible show wpAny _ _ (eval (Expr.Name _ _) (compEnvC _ _ _ _)) _ _ _)); k_dflt (refine' nameX_L ?F ?hv ?_; (case F => k_asm); (case hv => exact rfl); k_whole)))
  k_with "callWith ref" => ((k_here; k_dflt (refine' callWith_K ?k1 ?k2 ?_; (case k1 => k_asm); (case k2 => k_is); k_whole)))
  k_with "exec While" => (refine stopMark ?_)
  k_with "Exists" => (refine stopMark ?_)
  k_with "exec If" => (refine wpAny_If ?_)
  k_with "compareOp In str str" => (first | refine in_yes (by first | assumption | decide +kernel) ?_ | refine in_no (by first | assumption | decide +kernel) ?_)
  k_with "compareOp Eq str str" => (first | refine eq_yes (by first | assumption | rfl) ?_ | refine eq_no (by first | assumption | decide +kernel) ?_ | refine stopMark ?_)
  k_with "truthy str" => (first | refine truthy_sgn ?_ | refine truthy_yes (by assumption) (by first | assumption | omega) ?_ | refine truthy_no (by assumption) ?_)
  k_with "MY steps" => (repeat' (first | (k_unfold; (try dsimp only)) | (k_end; wrow_close) | walk1 | (dsimp only; walk1) | (leave1; try dsimp only) | fail "no step"))
  k_with "MY fin" => (repeat (first | dsimp only | (k_unfold; (try dsimp only))))
  k_with "MY open" => ((
      rename On _ _ _ _ _ => aOn9
      have Gk9 := aOn9.k
      have hap9 := aOn9.apart
      dsimp only [List.map] at hap9
      refine wpAny_call ?_
      k_dflt (k_extra "MY enter")))
  k_with "MY ret" => ((
      rename _ = hideAll _ _ => hgX
      rename Fr _ _ _ _ => kF
      rename News _ _ _ _ => kN
      rename (∀ _ _ _, Kept _ _ _ → _) => retX
      refine' retX _ _ _ (fun b o e => kF.keep b o (hgX ▸ e)) ?_
      (first | exact (fun q hq => (kN q hq).1) | exact ⟨_, fun q hq => (kN q hq).1⟩)))
  k_with "call ref" => (((with_reducible show wpAny _ _ (call (Value.ref 543) [Value.ref _, Value.int 1 _]) _ _ _); first | (k_dflt (refine' eof_use ?k1 ?k2 ?k3 ?k4 ?k5 ?k6 ?k7 ?k8 ?k9 ?kA ?kB ?kC ?kE ?kG ?_; (case k1 => k_asm); (case k2 => k_asm); (case k3 => k_asm); (case k4 => k_asm); (case k5 => k_asm); (case k6 => exact rfl); (case k7 => exact rfl); (case k8 => k_mem); (case k9 => k_mem); (case kA => k_ne); (case kB => assumption); (case kC => assumption); (case kE => ((try dsimp only [AA, Around.deeper]); k_extra "MY lt")); (case kG => ((try dsimp only [AA, Around.deeper]); k_extra "MY lt")); k_whole); intro h' tk' t' F' N'; (try k_sweep)) | refine stopMark ?_))
  trivial
set_option maxHeartbeats 8000000 in
theorem read_token_eof {w : World} {dep un : Nat} {gs : Option (List Code)} {s : Shared} {outer : List Env} {x d sx sd pb fs : Addr} {hs hs2 : Nat → Int} {ts ts2 : Nat → Tok} {infile : PySem.Str} {ti tst tl tt tp : Tok} {lineno : Int} {buf : PySem.Str} {E Q : Value → Shared → Prop}
    (hb : buf.length ≤ 4000) (hD : dep < 680) (hU : un < 4900)
    (a : On w (AA none dep outer gs un) outer s (lexFoot x d sx sd pb fs hs ts hs2 ts2 infile ti (.str St.s.str tst) lineno tl (PySem.Str.ofString "") tt buf (buf.length : Int) tp))
    (ret : ∀ h' tk', Kept s (lexFoot x d sx sd pb fs hs ts hs2 ts2 infile ti (.str St.s.str tst) lineno tl (PySem.Str.ofString "") tt buf (buf.length : Int) tp) h' →
      (∃ tt', ∀ q ∈ lexFoot x d sx sd pb fs hs ts hs2 ts2 infile ti .none lineno tl (PySem.Str.ofString "") tt' buf (buf.length : Int) tp, h'.get? q.1 = some q.2) →
      Q .none { s with heap := h', toks := tk' }) :
    wpAny (model PR w) (AA none dep outer gs un) (call (.ref 700) [.ref x]) Q E s := by
  k_extra "MY open"
  intro g L' h₁ hg F' N' B' X' T' hlt
  (try dsimp only)
  k_fold
  k_extra "MY steps"
  refine stopGo ?_
  refine wpAny_While (codeAny_whileLoop (fun n s' => ∃ (h : Heap) (tk : Nat) (e : Value), s' = { s with heap := h, toks := tk } ∧
    Fr g L' h (rtM x none false e) ∧ News g L' h (lexFoot x d sx sd pb fs hs ts hs2 ts2 infile ti (.str St.s.str tst) lineno tl (PySem.Str.ofString "") tt buf (buf.length : Int) tp)) ?_ 0 ?_)
  · rintro n s' ⟨h, tk, e, rfl, F1, N1⟩
    k_fold
    have hp1 : (buf.length : Int) = (buf.length : Int) := rfl
    have ht0 : (PySem.Str.ofString "").length = 0 := rfl
    dsimp only [St.str] at N1
    k_extra "MY steps"
    k_extra "MY fin"
    rename Fr _ L' _ _ => kF
    rename News _ L' _ _ => kN
    exact ret _ _ (fun b o e => kF.keep b o (hg ▸ e)) ⟨_, fun q hq => (kN q hq).1⟩
  · refine ⟨_, _, ?hx1, rfl, ?hxF, ?hxN⟩
    case hxN =>
      rename News g L' _ _ => kN
      exact kN
    case hxF =>
      rename Fr g L' _ _ => kF
      refine Eq.mp ?_ kF
      congr 1
      funext y
      by_cases e1 : y = PySem.Str.ofString "nextchar"
      · subst e1; rfl
      · by_cases e2 : y = PySem.Str.ofString "escapedstate"
        · subst e2; rfl
        · by_cases e3 : y = PySem.Str.ofString "quoted"
          · subst e3; rfl
          · simp only [rtM, if_neg e1, if_neg e2, if_neg e3]
            by_cases e4 : y = PySem.Str.ofString "self"
            · subst e4; rfl
            · rw [if_neg e4]
              exact lookup_one e4
set_option maxHeartbeats 8000000 in
theorem read_token_none {w : World} {dep un : Nat} {gs : Option (List Code)} {s : Shared} {outer : List Env} {x d sx sd pb fs : Addr} {hs hs2 : Nat → Int} {ts ts2 : Nat → Tok} {infile : PySem.Str} {ti tl tt tp : Tok} {lineno : Int} {buf : PySem.Str} {E Q : Value → Shared → Prop}
    (hb : buf.length ≤ 4000) (hD : dep < 680) (hU : un < 4900)
    (a : On w (AA none dep outer gs un) outer s (lexFoot x d sx sd pb fs hs ts hs2 ts2 infile ti .none lineno tl (PySem.Str.ofString "") tt buf (buf.length : Int) tp))
    (ret : ∀ h' tk', Kept s (lexFoot x d sx sd pb fs hs ts hs2 ts2 infile ti .none lineno tl (PySem.Str.ofString "") tt buf (buf.length : Int) tp) h' →
      (∃ tt', ∀ q ∈ lexFoot x d sx sd pb fs hs ts hs2 ts2 infile ti .none lineno tl (PySem.Str.ofString "") tt' buf (buf.length : Int) tp, h'.get? q.1 = some q.2) →
      Q .none { s with heap := h', toks := tk' }) :
    wpAny (model PR w) (AA none dep outer gs un) (call (.ref 700) [.ref x]) Q E s := by
  k_extra "MY open"
  intro g L' h₁ hg F' N' B' X' T' hlt
  (try dsimp only)
  k_fold
  k_extra "MY steps"
  refine stopGo ?_
  refine wpAny_While (codeAny_whileLoop (fun n s' => ∃ (h : Heap) (tk : Nat) (e : Value), s' = { s with heap := h, toks := tk } ∧
    Fr g L' h (rtM x none false e) ∧ News g L' h (lexFoot x d sx sd pb fs hs ts hs2 ts2 infile ti .none lineno tl (PySem.Str.ofString "") tt buf (buf.length : Int) tp)) ?_ 0 ?_)
  · rintro n s' ⟨h, tk, e, rfl, F1, N1⟩
    k_fold
    have hp1 : (buf.length : Int) = (buf.length : Int) := rfl
    have ht0 : (PySem.Str.ofString "").length = 0 := rfl
    k_extra "MY steps"
    k_extra "MY fin"
    rename Fr _ L' _ _ => kF
    rename News _ L' _ _ => kN
    exact ret _ _ (fun b o e => kF.keep b o (hg ▸ e)) ⟨_, fun q hq => (kN q hq).1⟩
  · refine ⟨_, _, ?hx1, rfl, ?hxF, ?hxN⟩
    case hxN =>
      rename News g L' _ _ => kN
      exact kN
    case hxF =>
      rename Fr g L' _ _ => kF
      refine Eq.mp ?_ kF
      congr 1
      funext y
      by_cases e1 : y = PySem.Str.ofString "nextchar"
      · subst e1; rfl
      · by_cases e2 : y = PySem.Str.ofString "escapedstate"
        · subst e2; rfl
        · by_cases e3 : y = PySem.Str.ofString "quoted"
          · subst e3; rfl
          · simp only [rtM, if_neg e1, if_neg e2, if_neg e3]
            by_cases e4 : y = PySem.Str.ofString "self"
            · subst e4; rfl
            · rw [if_neg e4]
              exact lookup_one e4

end
section
noncomputable abbrev dqO (st : Int) (xs : List Value) : Obj := { cls := .type "collections.deque", data := .fields (#[.none, .int st 0] ++ xs.toArray) }
theorem owner_dq : Manifest.owners.lookup (String.ofList ['e', 'u', 'q', 'e', 'd', '.', 's', 'n', 'o', 'i', 't', 'c', 'e', 'l', 'l', 'o', 'c'].reverse) = some Manifest.sig_collections_deque := by kernel_rfl
theorem plainAttrs_dq : PlainAttrs "collections.deque" :=
  ⟨⟨"collections.deque.__getattribute__", by rw [typeLookup_type, builtinLookup_eq_fast]; kernel_rfl, by decide +kernel⟩, by rw [typeLookup_type, builtinLookup_eq_fast]; kernel_rfl⟩
theorem noBool_dq : typeLookup (.type "collections.deque") "__bool__" = pure none := by rw [typeLookup_type, builtinLookup_eq_fast]; kernel_rfl
theorem slot_dq_len : Slot "collections.deque" "__len__" "collections.deque.__len__" :=
  .of (owner := "collections.deque") (n := "__len__") (by rw [typeLookup_type, builtinLookup_eq_fast]; kernel_rfl) (by decide +kernel) (by decide +kernel) (by decide +kernel)
    (by first | exact .inl (by decide +kernel) | exact .inr (by decide +kernel)) (by rw [isSubtype_type]; kernel_rfl)
theorem entry_dq_len : entryFor table "collections.deque.__len__" = some Builtin.«collections.deque.__len__» := entryFor_of_tree (by kernel_rfl)
theorem args_dq_len (a : Value) : argsOk "collections.deque.__len__" ⟨[a], []⟩ := by
  unfold argsOk; rw [signature?_of (id := "collections.deque.__len__") (n := ['_', '_', 'n', 'e', 'l', '_', '_']) (o := ['e', 'u', 'q', 'e', 'd', '.', 's', 'n', 'o', 'i', 't', 'c', 'e', 'l', 'l', 'o', 'c']) (by kernel_rfl) owner_dq]; kernel_rfl
theorem slot_dq_popleft : Slot "collections.deque" "popleft" "collections.deque.popleft" :=
  .of (owner := "collections.deque") (n := "popleft") (by rw [typeLookup_type, builtinLookup_eq_fast]; kernel_rfl) (by decide +kernel) (by decide +kernel) (by decide +kernel)
    (by first | exact .inl (by decide +kernel) | exact .inr (by decide +kernel)) (by rw [isSubtype_type]; kernel_rfl)
theorem entry_dq_popleft : entryFor table "collections.deque.popleft" = some Builtin.«collections.deque.popleft» := entryFor_of_tree (by kernel_rfl)
theorem args_dq_popleft (a : Value) : argsOk "collections.deque.popleft" ⟨[a], []⟩ := by
  unfold argsOk; rw [signature?_of (id := "collections.deque.popleft") (n := ['t', 'f', 'e', 'l', 'p', 'o', 'p']) (o := ['e', 'u', 'q', 'e', 'd', '.', 's', 'n', 'o', 'i', 't', 'c', 'e', 'l', 'l', 'o', 'c']) (by kernel_rfl) owner_dq]; kernel_rfl
theorem type_dq_popleft : typeOf (.builtin "collections.deque.popleft") = pure (.type "method_descriptor") := by show builtinType _ = _; rw [builtinType_eq_fast]; kernel_rfl
theorem slot_dq_appendleft : Slot "collections.deque" "appendleft" "collections.deque.appendleft" :=
  .of (owner := "collections.deque") (n := "appendleft") (by rw [typeLookup_type, builtinLookup_eq_fast]; kernel_rfl) (by decide +kernel) (by decide +kernel) (by decide +kernel)
    (by first | exact .inl (by decide +kernel) | exact .inr (by decide +kernel)) (by rw [isSubtype_type]; kernel_rfl)
theorem entry_dq_appendleft : entryFor table "collections.deque.appendleft" = some Builtin.«collections.deque.appendleft» := entryFor_of_tree (by kernel_rfl)
theorem args_dq_appendleft (a b : Value) : argsOk "collections.deque.appendleft" ⟨[a, b], []⟩ := by
  unfold argsOk; rw [signature?_of (id := "collections.deque.appendleft") (n := ['t', 'f', 'e', 'l', 'd', 'n', 'e', 'p', 'p', 'a']) (o := ['e', 'u', 'q', 'e', 'd', '.', 's', 'n', 'o', 'i', 't', 'c', 'e', 'l', 'l', 'o', 'c']) (by kernel_rfl) owner_dq]; kernel_rfl
theorem type_dq_appendleft : typeOf (.builtin "collections.deque.appendleft") = pure (.type "method_descriptor") := by show builtinType _ = _; rw [builtinType_eq_fast]; kernel_rfl
section
variable {prog : Program} {w : World} {A : Around} {s : Shared} {E : Value → Shared → Prop} {h₀ : Heap} {L D : Addr} {m : PySem.Str → Option Value} {news news' : List (Addr × Obj)} {st : Int} {xs : List Value}
theorem dq_size (D : Addr) (st : Int) (xs : List Value) {M : Model} {Q : Nat → Shared → Prop} (ho : s.heap.get? D = some (dqO st xs)) (h : Q xs.length s) : wpAny M A (Builtin.Deque.size (.ref D)) Q E s := by
  unfold Builtin.Deque.size fieldsOf
  refine wpAny_bind (wpAny_bind (wpAny_load ho (wpAny_pure (wpAny_pure ?_))))
  simpa using h
theorem len_dq_body {Q : Value → Shared → Prop} (ho : s.heap.get? D = some (dqO st xs)) (hl : xs.length ≤ 1000)
    (h : Q (.int xs.length (s.toks + 1)) { s with toks := s.toks + 1 + 1 }) : wpAny (model prog w) A (Builtin.«len» ⟨[.ref D], []⟩) (fun fin s' => ∃ r, fin = .done (.ret r) ∧ Q r s') E s := by
  have hT : s.TypeIs (.ref D) "collections.deque" := ⟨_, ho, rfl⟩
  unfold Builtin.«len»
  refine wpAny_bind (m := oneArg "len" _) (wpAny_pure ?_)
  refine wpAny_bind (m := callSpecial? (.ref D) (PySem.Str.ofString "__len__")) (wpAny_callSpecial?_slot (name := PySem.Str.ofString "__len__") hT slot_dq_len
    (wpAny_call_entry slot_dq_len hT entry_dq_len ?_ (args_dq_len _)))
  show wpAny _ _ (slotArgs "__len__" 0 ⟨[.ref D], []⟩ >>= fun y => Builtin.Deque.size y.1 >>= fun n => retInt n) _ _ _
  refine wpAny_bind (wpAny_pure (wpAny_bind (dq_size D st xs ho ?_)))
  refine wpAny_bind (wpAny_mkInt (wpAny_pure ⟨_, rfl, ?_⟩))
  refine wpAny_bind (wpAny_holding (wpAny_pure ?_))
  refine wpAny_bind (wpAny_letGo ?_)
  show wpAny _ _ (if ((xs.length : Nat) : Int) < 0 then _ else _) _ _ _
  rw [if_neg (by (first | lia | omega))]
  show wpAny _ _ (if ((xs.length : Nat) : Int) ≥ 2 ^ 63 then _ else _) _ _ _
  rw [if_neg (by (first | lia | omega))]
  exact wpAny_bind (wpAny_mkInt (wpAny_pure ⟨_, rfl, h⟩))
theorem truthy_dq {Q : Bool → Shared → Prop} (N : News h₀ L s.heap news) (hm : (D, dqO st xs) ∈ news) (hl : xs.length ≤ 1000) (h : Q (!xs.isEmpty) { s with toks := s.toks + 1 + 1 }) : wpAny (model prog w) A (truthy (.ref D)) Q E s := by
  have ho := N.get hm
  have hT : s.TypeIs (.ref D) "collections.deque" := ⟨_, ho, rfl⟩
  have hne : ((xs.length : Int) != 0) = !xs.isEmpty := by cases xs <;> simp <;> (first | lia | omega)
  have key : wpAny (model prog w) A (runValue (.builtin "len" ⟨[.ref D], []⟩)) (fun r s' => r = .int xs.length (s.toks + 1) ∧ Q (!xs.isEmpty) s') E s := by
    refine wpAny_runValue (codeAny_builtin entry_len ?_)
    rw [Around.under_plainId plain_len _]
    exact wpAny_mono (len_dq_body (Q := fun r s' => r = .int xs.length (s.toks + 1) ∧ Q (!xs.isEmpty) s') ho hl ⟨rfl, h⟩)
      (fun fin s' h' => by obtain ⟨r, rfl, hq⟩ := h'; exact hq) fun _ _ e => e
  unfold truthy
  first
    | refine wpAny_bind (wpAny_callSpecial?_none (name := PySem.Str.ofString "__bool__") hT noBool_dq ?_)
    | refine wpAny_bind (wpAny_pure (wpAny_bind (wpAny_callSpecial?_none (name := PySem.Str.ofString "__bool__") hT noBool_dq ?_)))
  first
    | refine wpAny_bind (wpAny_specialOf (name := PySem.Str.ofString "__len__") hT slot_dq_len.lookup ?_)
    | refine wpAny_bind (wpAny_pure (wpAny_bind (wpAny_specialOf (name := PySem.Str.ofString "__len__") hT slot_dq_len.lookup ?_)))
  first
    | exact wpAny_bind (wpAny_mono key (fun r s' h' => by obtain ⟨rfl, hq⟩ := h'; exact wpAny_pure (hne ▸ hq)) fun _ _ e => e)
    | exact wpAny_bind (wpAny_pure (wpAny_bind (wpAny_mono key (fun r s' h' => by obtain ⟨rfl, hq⟩ := h'; exact wpAny_pure (hne ▸ hq)) fun _ _ e => e)))
theorem truthy_dq0 {Q : Bool → Shared → Prop} (N : News h₀ L s.heap news) (hm : (D, dqO st []) ∈ news) (h : Q false { s with toks := s.toks + 1 + 1 }) : wpAny (model prog w) A (truthy (.ref D)) Q E s :=
  truthy_dq N hm (by decide) h
theorem truthy_dqC {v : Value} {Q : Bool → Shared → Prop} (N : News h₀ L s.heap news) (hm : (D, dqO st (v :: xs)) ∈ news) (hl : xs.length ≤ 900) (h : Q true { s with toks := s.toks + 1 + 1 }) : wpAny (model prog w) A (truthy (.ref D)) Q E s :=
  truthy_dq N hm (by simp; (first | lia | omega)) h
theorem len_dq {Q : Value → Shared → Prop} (N : News h₀ L s.heap news) (hm : (D, dqO st xs) ∈ news) (hl : xs.length ≤ 1000) (h : Q (.int xs.length (s.toks + 1)) { s with toks := s.toks + 1 + 1 }) : wpAny (model prog w) A (call (.builtin "len") [.ref D]) Q E s :=
  Calls.call_function_entry kind_len plain_len entry_len (args_len1 _) (len_dq_body (N.get hm) hl h)
theorem meth_popleft {pl : Sem Bool} {Q : Value × List Value → Shared → Prop} (N : News h₀ L s.heap news) (hm : (D, dqO st xs) ∈ news) (h : Q (.builtin "collections.deque.popleft", [.ref D]) s) : wpAny (model prog w) A (getMethod (.ref D) (PySem.Str.ofString "popleft") pl) Q E s :=
  getMethod_builtin ⟨_, N.get hm, rfl⟩ plainAttrs_dq slot_dq_popleft type_dq_popleft (fun a e => by cases e; exact ⟨_, N.get hm, rfl⟩) h
theorem meth_appendleft {pl : Sem Bool} {Q : Value × List Value → Shared → Prop} (N : News h₀ L s.heap news) (hm : (D, dqO st xs) ∈ news) (h : Q (.builtin "collections.deque.appendleft", [.ref D]) s) : wpAny (model prog w) A (getMethod (.ref D) (PySem.Str.ofString "appendleft") pl) Q E s :=
  getMethod_builtin ⟨_, N.get hm, rfl⟩ plainAttrs_dq slot_dq_appendleft type_dq_appendleft (fun a e => by cases e; exact ⟨_, N.get hm, rfl⟩) h
theorem dq_fields {M : Model} {Q : Array Value → Shared → Prop} (ho : s.heap.get? D = some (dqO st xs)) (h : Q (#[.none, .int st 0] ++ xs.toArray) s) : wpAny M A (fieldsOf (.ref D)) Q E s := by
  unfold fieldsOf
  exact wpAny_bind (wpAny_load ho (wpAny_pure h))
theorem dq_change {M : Model} {Q : Unit → Shared → Prop} {f : Array Value → Array Value} {ys : List Value} (ho : s.heap.get? D = some (dqO st xs)) (hf : f xs.toArray = ys.toArray) (hl : ys.length ≤ 1000)
    (h : ∀ h', Heap.SameBut D s.heap h' → h'.get? D = some (dqO (st + 1) ys) → Q () { s with heap := h' }) : wpAny M A (Builtin.Deque.change (.ref D) f) Q E s := by
  unfold Builtin.Deque.change
  have hx : (#[Value.none, .int st 0] ++ xs.toArray).extract 2 (#[Value.none, .int st 0] ++ xs.toArray).size = xs.toArray := by simp
  have hm : ∀ o : Obj, o = dqO st xs → Obj.mapFields (fun vs => #[vs.getD 0 .none, rawInt (if true then st + 1 else st)] ++ f (vs.extract 2 vs.size)) o = dqO (st + 1) ys := by
    rintro _ rfl
    show Obj.mk _ _ (.fields (#[(#[Value.none, .int st 0] ++ xs.toArray).getD 0 .none, rawInt (if true then st + 1 else st)] ++ f ((#[Value.none, .int st 0] ++ xs.toArray).extract 2 (#[Value.none, .int st 0] ++ xs.toArray).size))) _ = _
    rw [hx, hf]
    simp [rawInt]
  unfold Builtin.Deque.state field
  have e1 : (#[Value.none, .int st 0] ++ xs.toArray)[1]? = some (.int st 0) := by simp
  refine wpAny_bind (wpAny_bind (wpAny_bind (dq_fields ho ?_)))
  rw [e1]
  refine wpAny_pure (wpAny_pure (wpAny_updateFields ho rfl ?_ ?_))
  · exact h _ (Heap.SameBut.update ..) (by rw [Heap.get?_update_self _ ho (by rw [hm _ rfl]; rfl), hm _ rfl])
  · show (#[_, _] ++ f _).size ≤ _
    rw [hx, hf, sizeLine_eq]
    simp; (first | lia | omega)
theorem popleft_dq {v : Value} {Q : Value → Shared → Prop} (F : Fr h₀ L s.heap m) (N : News h₀ L s.heap news) (U : Upd D (dqO st (v :: xs)) (dqO (st + 1) xs) news news') (hl : xs.length ≤ 1000)
    (h : ∀ h', Fr h₀ L h' m → News h₀ L h' news' → Q v { s with heap := h' }) : wpAny (model prog w) A (call (.builtin "collections.deque.popleft") [.ref D]) Q E s := by
  obtain ⟨pre, post, rfl, rfl, a, b⟩ := U.split
  have z := N (D, dqO st (v :: xs)) (List.mem_append.mpr (.inr (.head _)))
  refine wpAny_call_entry slot_dq_popleft ⟨_, z.1, rfl⟩ entry_dq_popleft ?_ (args_dq_popleft _)
  show wpAny _ _ (Builtin.Deque.items (.ref D) >>= _) _ _ s
  unfold Builtin.Deque.items
  refine wpAny_bind (wpAny_bind (dq_fields z.1 (wpAny_pure ?_)))
  have hx : (#[Value.none, .int st 0] ++ (v :: xs).toArray).extract 2 (#[Value.none, .int st 0] ++ (v :: xs).toArray).size = (v :: xs).toArray := by simp
  rw [hx]
  show wpAny _ _ (Builtin.Deque.change (.ref D) _ >>= fun _ => ret v) _ _ s
  refine wpAny_bind (dq_change z.1 (ys := xs) (by simp [Array.eraseIdxIfInBounds]) hl fun h' hs ho' => ?_)
  exact wpAny_pure ⟨_, rfl, h h' (F.change hs z.2.1 z.2.2) (news_set N a b hs ho')⟩
theorem appendleft_dq {v : Value} {Q : Value → Shared → Prop} (F : Fr h₀ L s.heap m) (N : News h₀ L s.heap news) (U : Upd D (dqO st xs) (dqO (st + 1) (v :: xs)) news news') (hl : xs.length ≤ 900)
    (h : ∀ h', Fr h₀ L h' m → News h₀ L h' news' → Q .none { s with heap := h' }) : wpAny (model prog w) A (call (.builtin "collections.deque.appendleft") [.ref D, v]) Q E s := by
  obtain ⟨pre, post, rfl, rfl, a, b⟩ := U.split
  have z := N (D, dqO st xs) (List.mem_append.mpr (.inr (.head _)))
  refine wpAny_call_entry slot_dq_appendleft ⟨_, z.1, rfl⟩ entry_dq_appendleft ?_ (args_dq_appendleft _ _)
  show wpAny _ _ (Builtin.Deque.pushLeft (.ref D) v >>= fun _ => ret .none) _ _ s
  unfold Builtin.Deque.pushLeft Builtin.Deque.maxlen field
  refine wpAny_bind (wpAny_bind (dq_change z.1 (ys := v :: xs) (by simp) (by simp; (first | lia | omega)) fun h' hs ho' => ?_))
  have e0 : (#[Value.none, .int (st + 1) 0] ++ (v :: xs).toArray)[0]? = some .none := by simp
  refine wpAny_bind (wpAny_bind (wpAny_bind (dq_fields ho' ?_)))
  rw [e0]
  exact wpAny_pure (wpAny_pure (wpAny_pure (wpAny_pure ⟨_, rfl, h h' (F.change hs z.2.1 z.2.2) (news_set N a b hs ho')⟩)))
end

end
section
/-- a tree that only reads the written part and lays new objects -/
noncomputable def peekA {α : Type} (K : Frag) (S : Setting) : Sem α → Nat → Option (α × List Obj)
  | .pure a, _ => some (a, [])
  | .rule _ k, n => peekA K S (k ()) n
  | .at _ k, n => peekA K S (k ()) n
  | .point _ k, n => peekA K S (k ()) n
  | .ask k, n => peekA K S (k S) n
  | .load a _ k, n => (match K.lookup a with
      | some o => peekA K S (k o) n
      | none => none)
  | .alloc o k, n => (match o.isFreed with
      | true => none
      | false => (peekA K S (k n) (n + 1)).map fun r => (r.1, o :: r.2))
  | _, _ => none
noncomputable def pushAll : Heap → List Obj → Heap
  | h, [] => h
  | h, o :: r => pushAll (h.push o) r
theorem peekA_load {α : Type} {K : Frag} {S : Setting} {a : Addr} {pt : Option Value} {k : Obj → Sem α} {n : Nat} : peekA K S (.load a pt k) n = (match K.lookup a with
      | some o => peekA K S (k o) n
      | none => none) := by kernel_rfl
theorem peekA_alloc {α : Type} {K : Frag} {S : Setting} {o : Obj} {k : Addr → Sem α} {n : Nat} : peekA K S (.alloc o k) n = (match o.isFreed with
      | true => none
      | false => (peekA K S (k n) (n + 1)).map fun r => (r.1, o :: r.2)) := by kernel_rfl
theorem wp_of_peekA {α : Type} {K : Frag} {M : Model} {A : Around} {E : Value → Shared → Prop} {Q : α → Shared → Prop} : ∀ (t : Sem α) {s : Shared} {a : α} {os : List Obj}, K.In s.heap → peekA K ⟨M.prog, M.w.params⟩ t s.heap.objs.size = some (a, os) → Q a { s with heap := pushAll s.heap os } → wpAny M A t Q E s := by
  intro t
  induction t with
  | pure b => intro s a os X e q; cases e; exact wpAny_pure q
  | rule _ k ih => intro s a os X e q Γ p hΓ; exact ih () X e q Γ p hΓ
  | «at» p' k ih => intro s a os X e q Γ p hΓ; exact ih () X e q Γ p' hΓ
  | point _ k ih => intro s a os X e q Γ p hΓ; exact ih () X e q Γ p hΓ
  | ask k ih => intro s a os X e q Γ p hΓ; exact ih _ X e q Γ p hΓ
  | load a' pt k ih =>
    intro s a os X e q
    have e' := peekA_load.symm.trans e
    cases ho : K.lookup a' with
    | some o =>
      rw [ho] at e'
      exact wpAny_bind (m := loadPart a' pt) (f := k) (wpAny_loadPart (X _ _ ho) (ih o X e' q))
    | none => rw [ho] at e'; cases e'
  | alloc o k ih =>
    intro s a os X e q
    have e' := peekA_alloc.symm.trans e
    clear e
    cases hf : o.isFreed with
    | true => rw [hf] at e'; cases e'
    | false =>
      rw [hf] at e'
      cases hr : peekA K ⟨M.prog, M.w.params⟩ (k s.heap.objs.size) (s.heap.objs.size + 1) with
      | none => rw [hr] at e'; cases e'
      | some r =>
        obtain ⟨a', os'⟩ := r
        rw [hr] at e'
        cases e'
        refine wpAny_bind (m := alloc o) (f := k) (wpAny_alloc (ih _ (s := { s with heap := s.heap.push o }) (X.keeps fun b o e => Heap.get?_push_of_some _ e) ?_ q))
        show peekA K _ (k s.heap.objs.size) (s.heap.push o).objs.size = _
        rw [Heap.size_push]
        exact hr
  | _ => intro s a os X e; cases e
theorem objnew_ok (P : Params) (S : Setting) : peek (hd.heap_39 P) S (checkBuiltinCall "object.__new__" ⟨[.ref 597], []⟩) = some () := by kernel_rfl
theorem objnew_run (P : Params) (S : Setting) (n : Nat) : peekA (hd.heap_39 P) S (Builtin.«object.__new__» ⟨[.ref 597], []⟩) n = some (.done (.ret (.ref (n + 1))), [emptyDict, instObj 597 n]) := by kernel_rfl
theorem sio_call (P : Params) (S : Setting) (b : PySem.Str) (tb : Tok) : peek (hd.heap_39 P) S (callAny (.ref 597) ⟨[.str b tb], []⟩) = some (.again (.call (.builtin "type.__call__") ⟨[.ref 597, .str b tb], []⟩)) := by kernel_rfl
theorem sio_typ (P : Params) (S : Setting) (b : PySem.Str) (tb : Tok) : peek (hd.heap_39 P) S (checkBuiltinCall "type.__call__" ⟨[.ref 597, .str b tb], []⟩) = some () := by kernel_rfl
theorem sio_made (P : Params) (S : Setting) : peek (hd.heap_39 P) S (Bind.madeBy (.ref 597)) = some none := by kernel_rfl
theorem sio_mro (P : Params) (S : Setting) : peek (hd.heap_39 P) S (mroOf (.ref 597)) = some [.ref 597, .ref 120, .ref 93, .type "object"] := by kernel_rfl

theorem sio_self (P : Params) (S : Setting) : peek (hd.heap_39 P) S (isSubtype (.ref 597) (.ref 597)) = some true := by kernel_rfl
theorem sio_init (P : Params) (S : Setting) : peek (hd.heap_39 P) S (typeLookup (.ref 597) "__init__") = some (some (.ref 367)) := by kernel_rfl
theorem sio_bind (P : Params) (S : Setting) (x : Addr) : peek (hd.heap_39 P) S (bindSpecial (.ref 367) (.ref x)) = some (.ref 367, [.ref x]) := by kernel_rfl

theorem sioD_ex (h0 h1 h2 : Int) (t0 t1 t2 t3 t4 tp : Tok) (b : PySem.Str) (p : Int) :
    ([⟨h0, .str (PySem.Str.ofString "_StringIO__newline") t0, .str (PySem.Str.ofString "\n") t1⟩, ⟨h1, .str (PySem.Str.ofString "_StringIO__buf") t2, .str b t3⟩, ⟨h2, .str (PySem.Str.ofString "_StringIO__pos") t4, .int p tp⟩] : List DictEntry) =
    sioD (fun i => if i = 0 then h0 else if i = 1 then h1 else h2) (fun i => if i = 0 then t0 else if i = 1 then t1 else if i = 2 then t2 else if i = 3 then t3 else t4) b p tp := rfl

theorem news_cut1 {h₀ h : Heap} {L : Addr} {a b c : Addr × Obj} {r : List (Addr × Obj)} (N : News h₀ L h (a :: b :: c :: r)) : News h₀ L h (a :: b :: r) := fun q hq => by
  rcases List.mem_cons.mp hq with rfl | hq
  · exact N _ (.head _)
  · rcases List.mem_cons.mp hq with rfl | hq
    · exact N _ (.tail _ (.head _))
    · exact N _ (.tail _ (.tail _ (.tail _ hq)))
theorem news_cut2 {h₀ h : Heap} {L : Addr} {a b c d : Addr × Obj} {r : List (Addr × Obj)} (N : News h₀ L h (a :: b :: c :: d :: r)) : News h₀ L h (a :: b :: r) := news_cut1 (news_cut1 N)

end
section
theorem lines_6 : True := by
  k_with_none
  k_with "execs cons" => (first | (k_fold; (try dsimp only); (try (with_reducible refine gen_toks ?_; intro tk9))) | (with_reducible refine gen_toks ?_; intro tk9))
  k_with "MY nth" => (k_dflt (first | exact @rfl _ (nthO _ 0) | exact @rfl _ (nthO _ 1) | exact @rfl _ (nthO _ 2) | exact @rfl _ (nthO _ 3) | exact @rfl _ (nthO _ 4) | exact @rfl _ (nthO _ 5) | exact @rfl _ (nthO _ 6) | exact @rfl _ (nthO _ 7) | exact @rfl _ (nthO _ 8) | exact @rfl _ (nthO _ 9) | exact @rfl _ (nthO _ 10) | exact @rfl _ (nthO _ 11) | exact @rfl _ (nthO _ 12) | exact @rfl _ (nthO _ 13) | exact @rfl _ (nthO _ 14) | exact @rfl _ (nthO _ 15) | exact @rfl _ (nthO _ 16) | exact @rfl _ (nthO _ 17) | exact @rfl _ (nthO _ 18) | exact @rfl _ (nthO _ 19) | exact @rfl _ (nthO _ 20) | exact @rfl _ (nthO _ 21) | exact @rfl _ (nthO _ 22) | exact @rfl _ (nthO _ 23) | exact @rfl _ (nthO _ 24) | exact @rfl _ (nthO _ 25)))
  k_with "MY nlt" => (first
      | exact NeN.ne (by with_reducible assumption)
      | exact Ne.symm (NeN.ne (by with_reducible assumption))
      | exact Nat.ne_of_gt (by with_reducible assumption)
      | exact Nat.ne_of_lt (by with_reducible assumption)
      | (refine' LtA.ne ?qh ?qe; (case qh => with_reducible assumption); (case qe => k_extra "MY nth"))
      | (refine' LtA.ne' ?qh ?qe; (case qh => with_reducible assumption); (case qe => k_extra "MY nth"))
      | (refine' LtA.neS ?qh ?qe; (case qh => with_reducible assumption); (case qe => k_extra "MY nth"))
      | (refine' LtA.neS' ?qh ?qe; (case qh => with_reducible assumption); (case qe => k_extra "MY nth"))
      | (refine' LtA.neT ?qh ?qe; (case qh => with_reducible assumption); (case qe => k_extra "MY nth"))
      | (refine' LtA.neT' ?qh ?qe; (case qh => with_reducible assumption); (case qe => k_extra "MY nth"))
      | (refine' OffA.ne ?qh ?qe; (case qh => with_reducible assumption); (case qe => k_extra "MY nth"))
      | (refine' OffA.ne' ?qh ?qe; (case qh => with_reducible assumption); (case qe => k_extra "MY nth"))
      | (refine' Apart.at ?qh ?qe ?qf ?qn; (case qh => with_reducible assumption); (case qe => k_extra "MY nth"); (case qf => k_extra "MY nth"); (case qn => exact rfl)))
  k_with "k_all" => ((k_dflt (refine' ltA_off ?qh ?qe; (case qh => with_reducible assumption); (case qe => first | exact @rfl _ (dropO 0 _) | exact @rfl _ (dropO 1 _) | exact @rfl _ (dropO 2 _) | exact @rfl _ (dropO 3 _) | exact @rfl _ (dropO 4 _) | exact @rfl _ (dropO 5 _) | exact @rfl _ (dropO 6 _) | exact @rfl _ (dropO 7 _) | exact @rfl _ (dropO 8 _) | exact @rfl _ (dropO 9 _) | exact @rfl _ (dropO 10 _) | exact @rfl _ (dropO 11 _)))))
  k_with "MY lts" => ((k_dflt (refine' ltA_lts ?qh ?qe; (case qh => with_reducible assumption); (case qe => first | exact @rfl _ (dropO 0 _) | exact @rfl _ (dropO 1 _) | exact @rfl _ (dropO 2 _) | exact @rfl _ (dropO 3 _) | exact @rfl _ (dropO 4 _) | exact @rfl _ (dropO 5 _) | exact @rfl _ (dropO 6 _) | exact @rfl _ (dropO 7 _) | exact @rfl _ (dropO 8 _) | exact @rfl _ (dropO 9 _) | exact @rfl _ (dropO 10 _) | exact @rfl _ (dropO 11 _)))))
  k_with "MY pick" => (first | (refine' LtA.lt ?qh ?qe; (case qh => with_reducible assumption); (case qe => k_extra "MY nth")) | (refine Nat.lt_succ_of_lt ?_; (refine' LtA.lt ?qh ?qe; (case qh => with_reducible assumption); (case qe => k_extra "MY nth"))) | (refine Nat.lt_succ_of_lt (Nat.lt_succ_of_lt ?_); (refine' LtA.lt ?qh ?qe; (case qh => with_reducible assumption); (case qe => k_extra "MY nth"))))
  k_with "MY lt" => (first
      | (refine' lt_le ?qh ?qe; (case qh => assumption); (case qe => exact rfl))
      | (refine' lt_p ?qh ?qe; (case qh => assumption); (case qe => exact rfl))
      | (refine' lt_pp ?qh ?qe; (case qh => assumption); (case qe => exact rfl))
      | (refine' lt_ppp ?qh ?qe; (case qh => assumption); (case qe => exact rfl))
      | (refine' le_le ?qh ?qe; (case qh => assumption); (case qe => exact rfl))
      | decide
      | ((try simp only [LtA] at *); omega))
  k_with "k_ne" => ((refine neN ?_; (try dsimp only); first | k_extra "MY nlt" | omega | ((try simp only [LtA, List.forall_mem_cons] at *); omega)))
  k_with "k_room" => (((try simp only [depth_under_make, depth_under_kw, depth_in1, depth_deeper, depth_caller]); (show _ < 1000); k_dflt (k_extra "MY lt")))
  k_with "MY enterB" => ((refine' code_foot ?k1 ?k2 ?k3 ?k4 ?k5 ?k6 ?k7 ?_ ?c1 ?c2 ?c3 ?c4; (case k1 => assumption); (case k2 => assumption); (case k3 => k_is); (case k4 => k_is); (case k5 => k_room); (case k6 => first | exact BindsTo.of_eq rfl | exact binds_K (by k_in) rfl (by k_is) rfl rfl rfl); (case k7 => exact locs rfl); (case c1 => exact rfl); (case c2 => exact rfl); (case c3 => exact rfl); (case c4 => decide)))
  k_with "MY enter" => ((refine' on_foot ?k1 ?k3 ?k4 ?k5 ?k6 ?k7 ?_ ?c1 ?c2 ?c3 ?c4; (case k1 => assumption); (case k3 => k_is); (case k4 => k_is); (case k5 => k_room); (case k6 => first | exact BindsTo.of_eq rfl | exact binds_K (by k_in) rfl (by k_is) rfl rfl rfl); (case k7 => exact locs rfl); (case c1 => exact rfl); (case c2 => exact rfl); (case c3 => exact rfl); (case c4 => decide); intro bx9 px9 lx9 mx9 gx9 hx9))
  k_with "setAttr ref" => ((k_here; first | ((with_reducible refine' lex_set_state ?k1 ?k2 ?k3 ?k4 ?U ?_); k_dflt ((case k1 => k_asm); (case k2 => k_asm); (case k3 => k_asm); (case k4 => k_mem); (case U => k_upd)); k_whole; intro h' F' N'; (try k_sweep)) | ((with_reducible refine' lex_set_token ?k1 ?k2 ?k3 ?k4 ?U ?_); k_dflt ((case k1 => k_asm); (case k2 => k_asm); (case k3 => k_asm); (case k4 => k_mem); (case U => k_upd)); k_whole; intro h' F' N'; (try k_sweep)) | ((with_reducible refine' lex_set_lineno ?k1 ?k2 ?k3 ?k4 ?U ?_); k_dflt ((case k1 => k_asm); (case k2 => k_asm); (case k3 => k_asm); (case k4 => k_mem); (case U => k_upd)); k_whole; intro h' F' N'; (try k_sweep)) | ((with_reducible refine' lex_set_infile ?k1 ?k2 ?k3 ?k4 ?U ?_); k_dflt ((case k1 => k_asm); (case k2 => k_asm); (case k3 => k_asm); (case k4 => k_mem); (case U => k_upd)); k_whole; intro h' F' N'; (try k_sweep)) | ((with_reducible refine' lex_set_instream ?k1 ?k2 ?k3 ?k4 ?U ?_); k_dflt ((case k1 => k_asm); (case k2 => k_asm); (case k3 => k_asm); (case k4 => k_mem); (case U => k_upd)); k_whole; intro h' F' N'; (try k_sweep))))
  k_with "eval Attribute Name" => ((k_here; k_dflt (refine' self_own ?F ?X ?N ?hv ?h1 ?h2 ?hK ?hl ?hh ?_; (case F => k_asm); (case hv => exact rfl); (case X => k_asm); (case N => k_asm); (case h1 => k_mem); (case hK => first | (with_reducible exact own732_state _) | (with_reducible exact own732_debug _) | (with_reducible exact own732_whitespace _) | (with_reducible exact own732_posix _) | (with_reducible exact own732_token _) | (with_reducible exact own732_quotes _) | (with_reducible exact own732_escape _) | (with_reducible exact own732_wordchars _) | (with_reducible exact own732_commenters _) | (with_reducible exact own732_instream _) | (with_reducible exact own732_lineno _) | (with_reducible exact own732__punctuation_chars _) | (with_reducible exact own732_infile _) | (with_reducible exact own732_eof _) | (with_reducible exact own732_escapedquotes _) | (with_reducible exact own732_whitespace_split _) | (with_reducible exact own732_pushback _) | (with_reducible exact own732_filestack _) | (with_reducible exact own732_source _) | (with_reducible exact own597_buf _) | (with_reducible exact own597_pos _) | (with_reducible exact own597_newline _)); (case h2 => k_mem); (case hl => k_get); (case hh => k_handed); k_whole)))
  k_with "ite" => (first | with_reducible (refine iteT ?_) | with_reducible (refine iteF ?_))
  k_with "CompEnd" => (refine stopMark ?_)
  k_with "eval Name" => ((k_here; (with_reducible show wpAny _ _ (eval (Expr.Name _ _) (compEnvC _ _ _ _)) _ _ _); k_dflt (first
      | refine LCgL.ld_own (by k_asm) (by k_mem) (by assumption) (by assumption) ?_
      | refine LCgL.ld_global (by k_asm) (by k_asm) (by k_asm) (by k_is) ?_
      | refine LCgL.ld_built (by k_asm) (by k_asm) (by k_asm) (by k_is) (by boot_by_name) (by decide) ?_)))
  k_with "eval Name" => ((k_here; (fail_if_success (with_reducible show wpAny _ _ (eval (Expr.Name _ _) (compEnvC _ _ _ _)) _ _ _)); k_dflt (refine' nameX_L ?F ?hv ?_; (case F => k_asm); (case hv => exact rfl); k_whole)))
  k_with "callWith ref" => ((k_here; k_dflt (refine' callWith_K ?k1 ?k2 ?_; (case k1 => k_asm); (case k2 => k_is); k_whole)))
  k_with "exec While" => (refine stopMark ?_)
  k_with "Exists" => (refine stopMark ?_)
  k_with "exec If" => (refine wpAny_If ?_)
  k_with "compareOp In str str" => (first | refine in_yes (by first | assumption | decide +kernel) ?_ | refine in_no (by first | assumption | decide +kernel) ?_)
  k_with "compareOp Eq str str" => (first | refine eq_yes (by first | assumption | rfl) ?_ | refine eq_no (by first | assumption | decide +kernel) ?_ | refine stopMark ?_)
  k_with "truthy str" => (first | refine truthy_sgn ?_ | refine truthy_yes (by assumption) (by first | assumption | omega) ?_ | refine truthy_no (by assumption) ?_)
  k_with "MY steps" => (repeat' (first | (k_unfold; (try dsimp only)) | (k_end; wrow_close) | walk1 | (dsimp only; walk1) | (leave1; try dsimp only) | fail "no step"))
  k_with "MY fin" => (repeat (first | dsimp only | (k_unfold; (try dsimp only))))
  k_with "MY open" => ((
      rename On _ _ _ _ _ => aOn9
      have Gk9 := aOn9.k
      have hap9 := aOn9.apart
      dsimp only [List.map] at hap9
      refine wpAny_call ?_
      k_dflt (k_extra "MY enter")))
  k_with "MY ret" => ((
      rename _ = hideAll _ _ => hgX
      rename Fr _ _ _ _ => kF
      rename News _ _ _ _ => kN
      rename (∀ _ _ _, Kept _ _ _ → _) => retX
      refine' retX _ _ _ (fun b o e => kF.keep b o (hgX ▸ e)) ?_
      (first | exact (fun q hq => (kN q hq).1) | exact ⟨_, fun q hq => (kN q hq).1⟩)))
  trivial
section
variable {w : World} {A₀ : Around} {s : Shared} {base h₀ : Heap} {outer : List Env} {env : Env} {L : Addr} {m : PySem.Str → Option Value} {news : List (Addr × Obj)} {p : Program} {loose : List PySem.Str} {mean : ExcName → Option Value} {mg mb : PySem.Str → Option Value}
  {dep un : Nat} {gs : Option (List Code)} {E Q : Value → Shared → Prop}
theorem objnew_use {A : Around} (F : Fr h₀ L s.heap m) (N : News h₀ L s.heap news) (X : (hd.heap_39 w.params).In h₀)
    (h : ∀ x dx h', Fr h₀ L h' m → News h₀ L h' ((x, instObj 597 dx) :: (dx, emptyDict) :: news) → (∀ q ∈ news, q.1 < dx) → dx < x → Q (.ref x) { s with heap := h' }) :
    wpAny (model PR w) A (call (.builtin "object.__new__") [.ref 597]) Q E s := by
  have XS := X.keeps F.keep
  refine wpAny_call (codeAny_call_builtin_code (Code.quiet_builtin _ PySem.F.objNew.quiet) ?_)
  refine (Looks.of_peek XS (objnew_ok _ _)).here ?_
  refine codeAny_builtin PySem.F.objNew.entry ?_
  refine wp_of_peekA _ XS (objnew_run _ _ _) ?_
  have N' := (N.push F emptyDict).push (F.push _) (instObj 597 s.heap.objs.size)
  rw [Heap.size_push] at N'
  exact h _ _ _ ((F.push _).push _) N' (fun p hp => Heap.lt_size (N p hp).1) (Nat.lt_succ_self _)
theorem sio_getnew {A : Around} {e : Bool} (XS : (hd.heap_39 w.params).In s.heap) (h : Q (.ref 90) { s with toks := s.toks + 1 }) : wpAny (model PR w) A (getAttr (.ref 597) (PySem.Str.ofString "__new__") e) Q E s := by
  k_dflt (refine' cls_bind (mc := .type "type") (g := .builtin "staticmethod.__get__") (a := .ref 94) (obj := .none) (tp := .ref 597) XS ?k2 ?k3 (wpAny_call (sm_get (rest := []) (s := { s with toks := s.toks + 1 }) XS ?k4 (handed_on ?k5 h))); (case k2 => k_is); (case k3 => k_is); (case k4 => k_is); (case k5 => k_handed))
set_option maxHeartbeats 4000000 in
theorem sio_new {b : PySem.Str} {tb : Tok}
    (B : Below A₀ base outer h₀) (F : Fr h₀ L s.heap m) (X : (hd.heap_39 w.params).In h₀) (N : News h₀ L s.heap news) (T : Top p loose mean mg mb h₀) (hf : env.frame = some L) (hke : env.scope.kind = .function)
    (hb : b.length ≤ 4000) (hD : dep < 690) (hU : un < 5000)
    (h : ∀ x dx h' tk' hs ts tp, Fr h₀ L h' m → News h₀ L h' ((x, instObj 597 dx) :: (dx, dictOf (sioD hs ts b 0 tp) 3) :: news) → (∀ q ∈ news, q.1 < dx) → dx < x → Q (.ref x) { s with heap := h', toks := tk' }) :
    wpAny (model PR w) (AA none dep (env :: outer) gs un) (call (.ref 597) [.str b tb]) Q E s := by
  obtain ⟨⟨kd, nms, ig, ic, mr⟩, loc, glb, cls, ql, fn, cd, fr, bi⟩ := env
  dsimp only at hf hke
  subst hf hke
  have XS := X.keeps F.keep
  refine wpAny_call (codeAny_of_tree ?_)
  show wpAny _ _ (callAny (.ref 597) ⟨[.str b tb], []⟩) _ _ _
  refine (Looks.of_peek XS (sio_call _ _ b tb)).here ⟨rfl, ?_⟩
  refine codeAny_call_builtin_at (Code.quiet_builtin _ (by decide +kernel)) entry_typeCall ?_
  refine (Looks.of_peek XS (sio_typ _ _ b tb)).here ?_
  unfold Builtin.«type.__call__»
  have hm := Looks.of_peek (M := model PR w) XS (sio_mro _ _)
  have made := Looks.of_peek (M := model PR w) XS (sio_made _ _)
  repeat (first | (with_reducible refine wpAny_bind (sio_getnew XS ?_)) | (with_reducible refine wpAny_bind (wpAny_holding (wpAny_call ?_))) | simp only [List.isEmpty, Bool.false_eq_true, if_false] | lk)
  k_dflt k_enter
  k_extra "MY steps"
  k_dflt (refine' objnew_use ?k1 ?k2 ?k3 ?_)
  case k1 => k_asm
  case k2 => k_asm
  case k3 => k_asm
  intro x' dx' h' F' N' l1 l2
  have l1c := l1
  have l2c := l2
  k_lt l1
  k_lt2 l2
  k_extra "MY steps"
  rename Fr h₀ L _ _ => kF
  rename News h₀ L _ _ => kN
  have XS' := X.keeps kF.keep
  have hx := kN.get (.head _)
  have t1 := (Looks.ld (M := model PR w) (part := some headPart) hx).andThen Looks.now
  have s1 := Looks.of_peek (M := model PR w) XS' (sio_self _ _)
  have i1 := Looks.of_peek (M := model PR w) XS' (sio_init _ _)
  have b1 := Looks.of_peek (M := model PR w) XS' (sio_bind _ _ x')
  unfold isInstance callSpecial? specialOf
  repeat (first | with_reducible refine wpAny_call ?_ | lk)
  show codeAny _ _ (Code.call (.ref 367) ⟨[.ref x', .str b tb], []⟩) _ _
  k_dflt k_enter
  k_extra "MY steps"
  refine wpAny_pure ?_
  dsimp only
  refine wpAny_pure ?_
  dsimp only
  rename Fr h₀ L _ _ => kF
  rename News h₀ L _ _ => kN
  rw [sioD_ex] at kN
  have key : ∀ q ∈ news, q.1 < dx' := fun q hq => by
    first | exact l1c _ hq | exact l1c _ (.tail _ hq) | exact l1c _ (.tail _ (.tail _ hq))
  first
    | exact h x' dx' _ _ _ _ _ kF kN key l2c
    | exact h x' dx' _ _ _ _ _ kF (news_cut1 kN) key l2c
    | exact h x' dx' _ _ _ _ _ kF (news_cut2 kN) key l2c
end

end
section
section
variable {w : World} {A₀ A : Around} {s : Shared} {base h₀ : Heap} {outer : List Env} {env : Env} {L : Addr} {m : PySem.Str → Option Value} {news n1 n2 : List (Addr × Obj)} {p : Program} {loose : List PySem.Str} {mean : ExcName → Option Value} {mg mb : PySem.Str → Option Value} {foot : List (Addr × Obj)} {h' : Heap}
theorem upd_mem {d : Addr} {o o' : Obj} {l l' : List (Addr × Obj)} (U : Upd d o o' l l') : ∀ q ∈ l', q = (d, o') ∨ (q ∈ l ∧ q.1 ≠ d) := by
  obtain ⟨pre, post, rfl, rfl, a, b⟩ := U.split
  intro q hq
  rcases List.mem_append.mp hq with hq | hq
  · exact .inr ⟨List.mem_append_left _ hq, a q hq⟩
  · rcases List.mem_cons.mp hq with rfl | hq
    · exact .inl rfl
    · exact .inr ⟨List.mem_append_right _ (.tail _ hq), b q hq⟩
theorem upd_has {d : Addr} {o o' : Obj} {l l' : List (Addr × Obj)} (U : Upd d o o' l l') : (d, o) ∈ l := by
  obtain ⟨pre, post, rfl, rfl, a, b⟩ := U.split
  exact List.mem_append_right _ (.head _)
theorem upd_keeps {d : Addr} {o o' : Obj} {l l' : List (Addr × Obj)} (U : Upd d o o' l l') {q : Addr × Obj} (hq : q ∈ l) (hne : q.1 ≠ d) : q ∈ l' := by
  obtain ⟨pre, post, rfl, rfl, a, b⟩ := U.split
  rcases List.mem_append.mp hq with hq | hq
  · exact List.mem_append_left _ hq
  · rcases List.mem_cons.mp hq with rfl | hq
    · exact absurd rfl hne
    · exact List.mem_append_right _ (.tail _ hq)
/-- an entry that the footprint does not change -/
theorem back_ent (N : News h₀ L s.heap news) (hs : ∀ q ∈ foot, q ∈ news) (hk : Kept s foot h') {q : Addr × Obj} (hq : q ∈ news) (hst : ∀ q' ∈ foot, q'.1 = q.1 → h'.get? q'.1 = some q'.2) : h'.get? q.1 = some q.2 ∧ q.1 ≠ L ∧ h₀.get? q.1 = none := by
  by_cases hf : q.1 ∈ foot.map (·.1)
  · obtain ⟨q', hq', e⟩ := List.mem_map.mp hf
    have e1 := (N q hq).1
    have e2 := (N q' (hs q' hq')).1
    rw [e, e1] at e2
    have e3 := hst q' hq' e
    rw [e, ← Option.some.inj e2] at e3
    exact ⟨e3, (N q hq).2⟩
  · exact back_old N hk hq hf
theorem back_upd2 {d sd : Addr} {o o' u u' : Obj} (N : News h₀ L s.heap news) (hs : ∀ q ∈ foot, q ∈ news) (hk : Kept s foot h') (U : Upd d o o' news n1) (V : Upd sd u u' n1 n2) (hne : sd ≠ d)
    (hd : h'.get? d = some o') (hsd : h'.get? sd = some u') (hst : ∀ q ∈ foot, q.1 ≠ d → q.1 ≠ sd → h'.get? q.1 = some q.2) : News h₀ L h' n2 := by
  intro q hq
  rcases upd_mem V q hq with rfl | ⟨hq, hn2⟩
  · refine ⟨hsd, ?_⟩
    rcases upd_mem U _ (upd_has V) with e | ⟨hm, _⟩
    · exact absurd (congrArg Prod.fst e) hne
    · exact (N _ hm).2
  · rcases upd_mem U q hq with rfl | ⟨hq, hn1⟩
    · exact ⟨hd, (N _ (upd_has U)).2⟩
    · exact back_ent N hs hk hq fun q' hq' e => hst q' hq' (e ▸ hn1) (e ▸ hn2)
end
section
variable {w : World} {A₀ : Around} {s : Shared} {base h₀ : Heap} {outer : List Env} {env : Env} {L : Addr} {m : PySem.Str → Option Value} {news : List (Addr × Obj)} {p : Program} {loose : List PySem.Str} {mean : ExcName → Option Value} {mg mb : PySem.Str → Option Value}
  {dep un : Nat} {gs : Option (List Code)} {E Q : Value → Shared → Prop}
  {x d sx sd pb fs : Addr} {hs hs2 : Nat → Int} {ts ts2 : Nat → Tok} {infile : PySem.Str} {ti tst tl tt tp : Tok} {lineno : Int} {buf : PySem.Str} {pos : Int}
theorem rt_item_use {pre item post z : List Nat} {n1 : Tok → Tok → Tok → List (Addr × Obj)} {n2 : Tok → Tok → Tok → Tok → List (Addr × Obj)}
    (B : Below A₀ base outer h₀) (F : Fr h₀ L s.heap m) (X : (hd.heap_39 w.params).In h₀) (N : News h₀ L s.heap news) (T : Top p loose mean mg mb h₀) (hf : env.frame = some L) (hke : env.scope.kind = .function)
    (hx : (x, instObj 732 d) ∈ news) (hsx : (sx, instObj 597 sd) ∈ news)
    (U : ∀ tst' tl' tt', Upd d (dictOf (lexD hs ts (.ref sx) infile ti (.str St.s.str tst) pb lineno tl (PySem.Str.ofString "") tt fs wcs) 19) (dictOf (lexD hs ts (.ref sx) infile ti (.str St.s.str tst') pb (lineno + 1) tl' (PySem.Str.ofString "") tt' fs wcs) 19) news (n1 tst' tl' tt'))
    (V : ∀ tst' tl' tt' tp', Upd sd (dictOf (sioD hs2 ts2 buf pos tp) 3) (dictOf (sioD hs2 ts2 buf (pos + item.length + 1) tp') 3) (n1 tst' tl' tt') (n2 tst' tl' tt' tp'))
    (hap : Apart [x, d, sx, sd]) (hp : pos = (pre.length : Int)) (hbuf : buf.cps.toList = pre ++ (item ++ 10 :: post)) (hz : scan item .s false [] = some z) (hb : buf.length ≤ 4000) (hD : dep < 680) (hU : un < 4900)
    (h : ∀ h' tk' t' tst' tl' tt' tp', Fr h₀ L h' m → News h₀ L h' (n2 tst' tl' tt' tp') → Q (.str ⟨z.toArray⟩ t') { s with heap := h', toks := tk' }) :
    wpAny (model PR w) (AA none dep (env :: outer) gs un) (call (.ref 700) [.ref x]) Q E s := by
  subst hp
  have hdm := upd_has (U 0 0 0)
  have hne : sd ≠ d := by
    simp only [Apart, AllNe, and_true] at hap
    exact fun e => hap.2.1.2 e.symm
  have hsm : (sd, dictOf (sioD hs2 ts2 buf (pre.length : Int) tp) 3) ∈ news := by
    rcases upd_mem (U 0 0 0) _ (upd_has (V 0 0 0 0)) with e | ⟨hm, _⟩
    · exact absurd (congrArg Prod.fst e) hne
    · exact hm
  have hs' : ∀ q ∈ lexFoot x d sx sd pb fs hs ts hs2 ts2 infile ti (.str St.s.str tst) lineno tl (PySem.Str.ofString "") tt buf (pre.length : Int) tp, q ∈ news := by
    intro q hq
    simp only [lexFoot, List.mem_cons, List.not_mem_nil, or_false] at hq
    rcases hq with rfl | rfl | rfl | rfl <;> assumption
  refine read_token_item hbuf hz hb hD hU (On.of B F X N T rfl hf hke hs' hap) fun h' tk' t' hk ⟨tst', tl', tt', tp', hq⟩ => ?_
  refine h h' tk' t' tst' tl' tt' tp' (back_fr F N hs' hk) (back_upd2 N hs' hk (U tst' tl' tt') (V tst' tl' tt' tp') hne (hq _ (.tail _ (.head _))) (hq _ (.tail _ (.tail _ (.tail _ (.head _))))) fun q hq' n1 n2 => ?_)
  simp only [lexFoot, List.mem_cons, List.not_mem_nil, or_false] at hq'
  rcases hq' with rfl | rfl | rfl | rfl
  · exact hq _ (.head _)
  · exact absurd rfl n1
  · exact hq _ (.tail _ (.tail _ (.head _)))
  · exact absurd rfl n2
theorem rt_eof_use {n1 : Tok → List (Addr × Obj)}
    (B : Below A₀ base outer h₀) (F : Fr h₀ L s.heap m) (X : (hd.heap_39 w.params).In h₀) (N : News h₀ L s.heap news) (T : Top p loose mean mg mb h₀) (hf : env.frame = some L) (hke : env.scope.kind = .function)
    (hx : (x, instObj 732 d) ∈ news) (hsx : (sx, instObj 597 sd) ∈ news) (hsm : (sd, dictOf (sioD hs2 ts2 buf pos tp) 3) ∈ news)
    (U : ∀ tt', Upd d (dictOf (lexD hs ts (.ref sx) infile ti (.str St.s.str tst) pb lineno tl (PySem.Str.ofString "") tt fs wcs) 19) (dictOf (lexD hs ts (.ref sx) infile ti .none pb lineno tl (PySem.Str.ofString "") tt' fs wcs) 19) news (n1 tt'))
    (hap : Apart [x, d, sx, sd]) (hp : pos = (buf.length : Int)) (hb : buf.length ≤ 4000) (hD : dep < 680) (hU : un < 4900)
    (h : ∀ h' tk' tt', Fr h₀ L h' m → News h₀ L h' (n1 tt') → Q .none { s with heap := h', toks := tk' }) :
    wpAny (model PR w) (AA none dep (env :: outer) gs un) (call (.ref 700) [.ref x]) Q E s := by
  subst hp
  have hdm := upd_has (U 0)
  have hs' : ∀ q ∈ lexFoot x d sx sd pb fs hs ts hs2 ts2 infile ti (.str St.s.str tst) lineno tl (PySem.Str.ofString "") tt buf (buf.length : Int) tp, q ∈ news := by
    intro q hq
    simp only [lexFoot, List.mem_cons, List.not_mem_nil, or_false] at hq
    rcases hq with rfl | rfl | rfl | rfl <;> assumption
  refine read_token_eof hb hD hU (On.of B F X N T rfl hf hke hs' hap) fun h' tk' hk ⟨tt', hq⟩ => ?_
  refine h h' tk' tt' (back_fr F N hs' hk) (back_upd F N hs' hk (U tt') (hq _ (.tail _ (.head _))) fun q hq' n1 => ?_)
  simp only [lexFoot, List.mem_cons, List.not_mem_nil, or_false] at hq'
  rcases hq' with rfl | rfl | rfl | rfl
  · exact hq _ (.head _)
  · exact absurd rfl n1
  · exact hq _ (.tail _ (.tail _ (.head _)))
  · exact hq _ (.tail _ (.tail _ (.tail _ (.head _))))
theorem rt_none_use {n1 : Tok → List (Addr × Obj)}
    (B : Below A₀ base outer h₀) (F : Fr h₀ L s.heap m) (X : (hd.heap_39 w.params).In h₀) (N : News h₀ L s.heap news) (T : Top p loose mean mg mb h₀) (hf : env.frame = some L) (hke : env.scope.kind = .function)
    (hx : (x, instObj 732 d) ∈ news) (hsx : (sx, instObj 597 sd) ∈ news) (hsm : (sd, dictOf (sioD hs2 ts2 buf pos tp) 3) ∈ news)
    (U : ∀ tt', Upd d (dictOf (lexD hs ts (.ref sx) infile ti .none pb lineno tl (PySem.Str.ofString "") tt fs wcs) 19) (dictOf (lexD hs ts (.ref sx) infile ti .none pb lineno tl (PySem.Str.ofString "") tt' fs wcs) 19) news (n1 tt'))
    (hap : Apart [x, d, sx, sd]) (hp : pos = (buf.length : Int)) (hb : buf.length ≤ 4000) (hD : dep < 680) (hU : un < 4900)
    (h : ∀ h' tk' tt', Fr h₀ L h' m → News h₀ L h' (n1 tt') → Q .none { s with heap := h', toks := tk' }) :
    wpAny (model PR w) (AA none dep (env :: outer) gs un) (call (.ref 700) [.ref x]) Q E s := by
  subst hp
  have hdm := upd_has (U 0)
  have hs' : ∀ q ∈ lexFoot x d sx sd pb fs hs ts hs2 ts2 infile ti .none lineno tl (PySem.Str.ofString "") tt buf (buf.length : Int) tp, q ∈ news := by
    intro q hq
    simp only [lexFoot, List.mem_cons, List.not_mem_nil, or_false] at hq
    rcases hq with rfl | rfl | rfl | rfl <;> assumption
  refine read_token_none hb hD hU (On.of B F X N T rfl hf hke hs' hap) fun h' tk' hk ⟨tt', hq⟩ => ?_
  refine h h' tk' tt' (back_fr F N hs' hk) (back_upd F N hs' hk (U tt') (hq _ (.tail _ (.head _))) fun q hq' n1 => ?_)
  simp only [lexFoot, List.mem_cons, List.not_mem_nil, or_false] at hq'
  rcases hq' with rfl | rfl | rfl | rfl
  · exact hq _ (.head _)
  · exact absurd rfl n1
  · exact hq _ (.tail _ (.tail _ (.head _)))
  · exact hq _ (.tail _ (.tail _ (.tail _ (.head _))))
end

end
section
/-- a text on the lexer: where it stands, what is read of it and what is left: each item spelled, and its word -/
structure Strm where
  sx : Addr
  sd : Addr
  hs : Nat → Int
  ts : Nat → Tok
  infile : PySem.Str
  ti : Tok
  lineno : Int
  tl : Tok
  buf : PySem.Str
  done : List Nat
  left : List (List Nat × List Nat)
  tp : Tok
noncomputable def bodyOf (l : List (List Nat × List Nat)) : List Nat := l.flatMap fun p => p.1 ++ [10]
structure Strm.Ok (c : Strm) : Prop where
  text : c.buf.cps.toList = c.done ++ bodyOf c.left
  items : ∀ p ∈ c.left, scan p.1 .s false [] = some p.2
  short : c.buf.length ≤ 4000
noncomputable abbrev strmObjs (c : Strm) : List (Addr × Obj) := [(c.sx, instObj 597 c.sd), (c.sd, dictOf (sioD c.hs c.ts c.buf (c.done.length : Int) c.tp) 3)]
noncomputable abbrev entTup (c : Strm) : Obj := { cls := .type "tuple", data := .seq #[.str c.infile c.ti, .ref c.sx, .int c.lineno c.tl] }
noncomputable def entObjs (e : Addr × Strm) : List (Addr × Obj) := (e.1, entTup e.2) :: strmObjs e.2
noncomputable def tailObjs (l : List (Addr × Strm)) : List (Addr × Obj) := l.flatMap entObjs
/-- what of the lexer never turns -/
structure Lex where
  x : Addr
  d : Addr
  pb : Addr
  fs : Addr
  hs : Nat → Int
  ts : Nat → Tok
  k1 : Int
noncomputable abbrev lexHead (l : Lex) (kst : Int) (state : Value) (tt : Tok) (c : Strm) (refs : List Value) : List (Addr × Obj) :=
  [(l.x, instObj 732 l.d), (l.d, dictOf (lexD l.hs l.ts (.ref c.sx) c.infile c.ti state l.pb c.lineno c.tl (PySem.Str.ofString "") tt l.fs wcs) 19), (l.pb, dqO l.k1 []), (l.fs, dqO kst refs)]
noncomputable def lexLed (l : Lex) (kst : Int) (state : Value) (tt : Tok) (c : Strm) (stack : List (Addr × Strm)) : List (Addr × Obj) :=
  lexHead l kst state tt c (stack.map fun e => .ref e.1) ++ (strmObjs c ++ tailObjs stack)
inductive Step : Strm → List (Addr × Strm) → Option (List Nat) → Strm → List (Addr × Strm) → Prop
  | item {c : Strm} {stack : List (Addr × Strm)} {sp z : List Nat} {l : List (List Nat × List Nat)} (h : c.left = (sp, z) :: l) (tl' tp' : Tok) :
      Step c stack (some z) { c with done := c.done ++ (sp ++ [10]), left := l, lineno := c.lineno + 1, tl := tl', tp := tp' } stack
  | eof {c : Strm} (h : c.left = []) : Step c [] none c []
  | pop {c s : Strm} {ta : Addr} {rest : List (Addr × Strm)} {r : Option (List Nat)} {c' : Strm} {stack' : List (Addr × Strm)} (h : c.left = []) (hs : Step s rest r c' stack') : Step c ((ta, s) :: rest) r c' stack'
theorem led_addrs (l : Lex) (kst : Int) (state : Value) (tt : Tok) (c : Strm) (stack : List (Addr × Strm)) :
    (lexLed l kst state tt c stack).map (·.1) = [l.x, l.d, l.pb, l.fs] ++ ([c.sx, c.sd] ++ stack.flatMap fun e => [e.1, e.2.sx, e.2.sd]) := by
  unfold lexLed tailObjs
  simp only [List.map_append, List.map_cons, List.map_nil, List.map_flatMap]
  rfl
theorem step_addrs {c c' : Strm} {stack stack' : List (Addr × Strm)} {r : Option (List Nat)} (h : Step c stack r c' stack') {l : Lex} {k k' : Int} {st st' : Value} {tt tt' : Tok} :
    ∀ a ∈ (lexLed l k' st' tt' c' stack').map (·.1), a ∈ (lexLed l k st tt c stack).map (·.1) := by
  simp only [led_addrs]
  induction h with
  | item h tl' tp' => intro a ha; exact ha
  | eof h => intro a ha; exact ha
  | pop h hs ih =>
    intro a ha
    have := ih a ha
    simp only [List.mem_append, List.mem_cons, List.not_mem_nil, or_false, List.flatMap_cons] at this ⊢
    rcases this with q | q | q
    · exact .inl q
    · rcases q with q | q <;> simp [q]
    · exact .inr (.inr (.inr q))
theorem step_none {c c' : Strm} {stack stack' : List (Addr × Strm)} (h : Step c stack none c' stack') : stack' = [] := by
  generalize hr : (none : Option (List Nat)) = r at h
  induction h with
  | item h tl' tp' => cases hr
  | eof h => rfl
  | pop h hs ih => exact ih hr
theorem step_sub {c c' : Strm} {stack stack' : List (Addr × Strm)} {r : Option (List Nat)} (h : Step c stack r c' stack') {l : Lex} {k k' : Int} {st st' : Value} {tt tt' : Tok} :
    ((lexLed l k' st' tt' c' stack').map (·.1)).Sublist ((lexLed l k st tt c stack).map (·.1)) := by
  simp only [led_addrs]
  refine (List.Sublist.refl _).append ?_
  induction h with
  | item h tl' tp' => exact .refl _
  | eof h => exact .refl _
  | pop h hs ih =>
    refine ih.trans ?_
    simp only [List.flatMap_cons, List.cons_append, List.nil_append]
    exact .cons _ (.cons _ (.cons _ (.refl _)))
noncomputable def AllNe' (a : Nat) (l : List Nat) : Prop := ∀ b ∈ l, @Ne Nat a b
theorem allNe_iff {a : Nat} : ∀ {l : List Nat}, AllNe a l ↔ ∀ b ∈ l, @Ne Nat a b
  | [] => ⟨fun _ _ h => (nomatch h), fun _ => trivial⟩
  | b :: r => by
    constructor
    · intro h c hc
      rcases List.mem_cons.mp hc with rfl | hc
      · exact h.1
      · exact allNe_iff.mp h.2 c hc
    · exact fun h => ⟨h b (.head _), allNe_iff.mpr fun c hc => h c (.tail _ hc)⟩
theorem apart_iff : ∀ {l : List Nat}, Apart l ↔ l.Nodup
  | [] => ⟨fun _ => .nil, fun _ => trivial⟩
  | a :: r => by
    rw [List.nodup_cons, ← apart_iff (l := r)]
    show AllNe a r ∧ Apart r ↔ _
    rw [allNe_iff]
    exact ⟨fun h => ⟨fun q => h.1 a q rfl, h.2⟩, fun h => ⟨fun b hb e => h.1 (e ▸ hb), h.2⟩⟩
theorem apart_sub {l l' : List Nat} (h : Apart l) (hs : l'.Sublist l) : Apart l' := apart_iff.mpr (hs.nodup (apart_iff.mp h))

theorem apart_tail {pre tl : List Nat} (h : Apart (pre ++ tl)) : ∀ a ∈ pre, ∀ b ∈ tl, b ≠ a := by
  have := (List.nodup_append.mp (apart_iff.mp h)).2.2
  exact fun a ha b hb e => this a ha b hb e.symm

section
variable {prog : Program} {w : World} {A : Around} {E : Value → Shared → Prop} {R : Result → Shared → Prop} {s : Shared}
theorem while_once {test body orelse env}
    (turn : wpAny (model prog w) A (isTrue test env (eval test env)) (fun b s₂ =>
        if b then wpAny (model prog w) A (execs body env) (fun f s₃ => match f with
            | .next | .cont => codeAny (model prog w) A (.whileLoop test body orelse env) R s₃
            | .brk => R (.ok .next) s₃
            | .ret v => R (.ok (.ret v)) s₃) (notedBy (model prog w) A env fun e s' => R (.error e) s') s₂
        else wpAny (model prog w) A (execs orelse env) (fun f s₃ => R (.ok f) s₃) (notedBy (model prog w) A env fun e s' => R (.error e) s') s₂)
        (notedBy (model prog w) A env fun e s' => R (.error e) s') s) : codeAny (model prog w) A (.whileLoop test body orelse env) R s := by
  have hu : A.under (.whileLoop test body orelse env) = A := Around.under_of_weight rfl
  refine codeAny_of_tree ?_
  rw [hu]
  show wpAny _ A ((whileTurn test body orelse env).onRaise (fun x => do noteFrame x env; theTreesLotGoes x)) _ _ s
  refine wpAny_noted ?_
  simp only [whileTurn]
  refine wpAny_bind (wpAny_mono turn (fun b s₂ h₂ => ?_) fun _ _ h' => h')
  cases b with
  | false =>
    simp only [Bool.false_eq_true, if_false] at h₂ ⊢
    exact wpAny_bind (wpAny_mono h₂ (fun f s₃ h₃ => wpAny_pure h₃) fun _ _ h' => h')
  | true =>
    simp only [if_true] at h₂ ⊢
    refine wpAny_bind (wpAny_mono h₂ (fun f s₃ h₃ => ?_) fun _ _ h' => h')
    cases f with
    | next => exact wpAny_pure ⟨rfl, h₃⟩
    | cont => exact wpAny_pure ⟨rfl, h₃⟩
    | brk => exact wpAny_pure h₃
    | ret v => exact wpAny_pure h₃
end

end
section
theorem lines_7 : True := by
  k_with_none
  k_with "execs cons" => (first | (k_fold; (try dsimp only); (try (with_reducible refine gen_toks ?_; intro tk9))) | (with_reducible refine gen_toks ?_; intro tk9))
  k_with "MY nth" => (k_dflt (first | exact @rfl _ (nthO _ 0) | exact @rfl _ (nthO _ 1) | exact @rfl _ (nthO _ 2) | exact @rfl _ (nthO _ 3) | exact @rfl _ (nthO _ 4) | exact @rfl _ (nthO _ 5) | exact @rfl _ (nthO _ 6) | exact @rfl _ (nthO _ 7) | exact @rfl _ (nthO _ 8) | exact @rfl _ (nthO _ 9) | exact @rfl _ (nthO _ 10) | exact @rfl _ (nthO _ 11) | exact @rfl _ (nthO _ 12) | exact @rfl _ (nthO _ 13) | exact @rfl _ (nthO _ 14) | exact @rfl _ (nthO _ 15) | exact @rfl _ (nthO _ 16) | exact @rfl _ (nthO _ 17) | exact @rfl _ (nthO _ 18) | exact @rfl _ (nthO _ 19) | exact @rfl _ (nthO _ 20) | exact @rfl _ (nthO _ 21) | exact @rfl _ (nthO _ 22) | exact @rfl _ (nthO _ 23) | exact @rfl _ (nthO _ 24) | exact @rfl _ (nthO _ 25)))
  k_with "MY nlt" => (first
      | exact NeN.ne (by with_reducible assumption)
      | exact Ne.symm (NeN.ne (by with_reducible assumption))
      | exact Nat.ne_of_gt (by with_reducible assumption)
      | exact Nat.ne_of_lt (by with_reducible assumption)
      | (refine' LtA.ne ?qh ?qe; (case qh => with_reducible assumption); (case qe => k_extra "MY nth"))
      | (refine' LtA.ne' ?qh ?qe; (case qh => with_reducible assumption); (case qe => k_extra "MY nth"))
      | (refine' LtA.neS ?qh ?qe; (case qh => with_reducible assumption); (case qe => k_extra "MY nth"))
      | (refine' LtA.neS' ?qh ?qe; (case qh => with_reducible assumption); (case qe => k_extra "MY nth"))
      | (refine' LtA.neT ?qh ?qe; (case qh => with_reducible assumption); (case qe => k_extra "MY nth"))
      | (refine' LtA.neT' ?qh ?qe; (case qh => with_reducible assumption); (case qe => k_extra "MY nth"))
      | (refine' OffA.ne ?qh ?qe; (case qh => with_reducible assumption); (case qe => k_extra "MY nth"))
      | (refine' OffA.ne' ?qh ?qe; (case qh => with_reducible assumption); (case qe => k_extra "MY nth"))
      | (refine' Apart.at ?qh ?qe ?qf ?qn; (case qh => with_reducible assumption); (case qe => k_extra "MY nth"); (case qf => k_extra "MY nth"); (case qn => exact rfl)))
  k_with "k_all" => ((k_dflt (refine' ltA_off ?qh ?qe; (case qh => with_reducible assumption); (case qe => first | exact @rfl _ (dropO 0 _) | exact @rfl _ (dropO 1 _) | exact @rfl _ (dropO 2 _) | exact @rfl _ (dropO 3 _) | exact @rfl _ (dropO 4 _) | exact @rfl _ (dropO 5 _) | exact @rfl _ (dropO 6 _) | exact @rfl _ (dropO 7 _) | exact @rfl _ (dropO 8 _) | exact @rfl _ (dropO 9 _) | exact @rfl _ (dropO 10 _) | exact @rfl _ (dropO 11 _)))))
  k_with "MY lts" => ((k_dflt (refine' ltA_lts ?qh ?qe; (case qh => with_reducible assumption); (case qe => first | exact @rfl _ (dropO 0 _) | exact @rfl _ (dropO 1 _) | exact @rfl _ (dropO 2 _) | exact @rfl _ (dropO 3 _) | exact @rfl _ (dropO 4 _) | exact @rfl _ (dropO 5 _) | exact @rfl _ (dropO 6 _) | exact @rfl _ (dropO 7 _) | exact @rfl _ (dropO 8 _) | exact @rfl _ (dropO 9 _) | exact @rfl _ (dropO 10 _) | exact @rfl _ (dropO 11 _)))))
  k_with "MY pick" => (first | (refine' LtA.lt ?qh ?qe; (case qh => with_reducible assumption); (case qe => k_extra "MY nth")) | (refine Nat.lt_succ_of_lt ?_; (refine' LtA.lt ?qh ?qe; (case qh => with_reducible assumption); (case qe => k_extra "MY nth"))) | (refine Nat.lt_succ_of_lt (Nat.lt_succ_of_lt ?_); (refine' LtA.lt ?qh ?qe; (case qh => with_reducible assumption); (case qe => k_extra "MY nth"))))
  k_with "MY lt" => (first
      | (refine' lt_le ?qh ?qe; (case qh => assumption); (case qe => exact rfl))
      | (refine' lt_p ?qh ?qe; (case qh => assumption); (case qe => exact rfl))
      | (refine' lt_pp ?qh ?qe; (case qh => assumption); (case qe => exact rfl))
      | (refine' lt_ppp ?qh ?qe; (case qh => assumption); (case qe => exact rfl))
      | (refine' le_le ?qh ?qe; (case qh => assumption); (case qe => exact rfl))
      | decide
      | ((try simp only [LtA] at *); omega))
  k_with "k_ne" => ((refine neN ?_; (try dsimp only); first | k_extra "MY nlt" | omega | ((try simp only [LtA, List.forall_mem_cons] at *); omega)))
  k_with "k_room" => (((try simp only [depth_under_make, depth_under_kw, depth_in1, depth_deeper, depth_caller]); (show _ < 1000); k_dflt (k_extra "MY lt")))
  k_with "MY enterB" => ((refine' code_foot ?k1 ?k2 ?k3 ?k4 ?k5 ?k6 ?k7 ?_ ?c1 ?c2 ?c3 ?c4; (case k1 => assumption); (case k2 => assumption); (case k3 => k_is); (case k4 => k_is); (case k5 => k_room); (case k6 => first | exact BindsTo.of_eq rfl | exact binds_K (by k_in) rfl (by k_is) rfl rfl rfl); (case k7 => exact locs rfl); (case c1 => exact rfl); (case c2 => exact rfl); (case c3 => exact rfl); (case c4 => decide)))
  k_with "MY enter" => ((refine' on_foot ?k1 ?k3 ?k4 ?k5 ?k6 ?k7 ?_ ?c1 ?c2 ?c3 ?c4; (case k1 => assumption); (case k3 => k_is); (case k4 => k_is); (case k5 => k_room); (case k6 => first | exact BindsTo.of_eq rfl | exact binds_K (by k_in) rfl (by k_is) rfl rfl rfl); (case k7 => exact locs rfl); (case c1 => exact rfl); (case c2 => exact rfl); (case c3 => exact rfl); (case c4 => decide); intro bx9 px9 lx9 mx9 gx9 hx9))
  k_with "setAttr ref" => ((k_here; first | ((with_reducible refine' lex_set_state ?k1 ?k2 ?k3 ?k4 ?U ?_); k_dflt ((case k1 => k_asm); (case k2 => k_asm); (case k3 => k_asm); (case k4 => k_mem); (case U => k_upd)); k_whole; intro h' F' N'; (try k_sweep)) | ((with_reducible refine' lex_set_token ?k1 ?k2 ?k3 ?k4 ?U ?_); k_dflt ((case k1 => k_asm); (case k2 => k_asm); (case k3 => k_asm); (case k4 => k_mem); (case U => k_upd)); k_whole; intro h' F' N'; (try k_sweep)) | ((with_reducible refine' lex_set_lineno ?k1 ?k2 ?k3 ?k4 ?U ?_); k_dflt ((case k1 => k_asm); (case k2 => k_asm); (case k3 => k_asm); (case k4 => k_mem); (case U => k_upd)); k_whole; intro h' F' N'; (try k_sweep)) | ((with_reducible refine' lex_set_infile ?k1 ?k2 ?k3 ?k4 ?U ?_); k_dflt ((case k1 => k_asm); (case k2 => k_asm); (case k3 => k_asm); (case k4 => k_mem); (case U => k_upd)); k_whole; intro h' F' N'; (try k_sweep)) | ((with_reducible refine' lex_set_instream ?k1 ?k2 ?k3 ?k4 ?U ?_); k_dflt ((case k1 => k_asm); (case k2 => k_asm); (case k3 => k_asm); (case k4 => k_mem); (case U => k_upd)); k_whole; intro h' F' N'; (try k_sweep))))
  k_with "eval Attribute Name" => ((k_here; k_dflt (refine' self_own ?F ?X ?N ?hv ?h1 ?h2 ?hK ?hl ?hh ?_; (case F => k_asm); (case hv => exact rfl); (case X => k_asm); (case N => k_asm); (case h1 => k_mem); (case hK => first | (with_reducible exact own732_state _) | (with_reducible exact own732_debug _) | (with_reducible exact own732_whitespace _) | (with_reducible exact own732_posix _) | (with_reducible exact own732_token _) | (with_reducible exact own732_quotes _) | (with_reducible exact own732_escape _) | (with_reducible exact own732_wordchars _) | (with_reducible exact own732_commenters _) | (with_reducible exact own732_instream _) | (with_reducible exact own732_lineno _) | (with_reducible exact own732__punctuation_chars _) | (with_reducible exact own732_infile _) | (with_reducible exact own732_eof _) | (with_reducible exact own732_escapedquotes _) | (with_reducible exact own732_whitespace_split _) | (with_reducible exact own732_pushback _) | (with_reducible exact own732_filestack _) | (with_reducible exact own732_source _) | (with_reducible exact own597_buf _) | (with_reducible exact own597_pos _) | (with_reducible exact own597_newline _)); (case h2 => k_mem); (case hl => k_get); (case hh => k_handed); k_whole)))
  k_with "ite" => (first | with_reducible (refine iteT ?_) | with_reducible (refine iteF ?_))
  k_with "CompEnd" => (refine stopMark ?_)
  k_with "eval Name" => ((k_here; (with_reducible show wpAny _ _ (eval (Expr.Name _ _) (compEnvC _ _ _ _)) _ _ _); k_dflt (first
      | refine LCgL.ld_own (by k_asm) (by k_mem) (by assumption) (by assumption) ?_
      | refine LCgL.ld_global (by k_asm) (by k_asm) (by k_asm) (by k_is) ?_
      | refine LCgL.ld_built (by k_asm) (by k_asm) (by k_asm) (by k_is) (by boot_by_name) (by decide) ?_)))
  k_with "eval Name" => ((k_here; (fail_if_success (with_reducible show wpAny _ _ (eval (Expr.Name _ _) (compEnvC _ _ _ _)) _ _ _)); k_dflt (refine' nameX_L ?F ?hv ?_; (case F => k_asm); (case hv => exact rfl); k_whole)))
  k_with "callWith ref" => ((k_here; k_dflt (refine' callWith_K ?k1 ?k2 ?_; (case k1 => k_asm); (case k2 => k_is); k_whole)))
  k_with "exec While" => (refine stopMark ?_)
  k_with "Exists" => (refine stopMark ?_)
  k_with "exec If" => (refine wpAny_If ?_)
  k_with "compareOp In str str" => (first | refine in_yes (by first | assumption | decide +kernel) ?_ | refine in_no (by first | assumption | decide +kernel) ?_)
  k_with "compareOp Eq str str" => (first | refine eq_yes (by first | assumption | rfl) ?_ | refine eq_no (by first | assumption | decide +kernel) ?_ | refine stopMark ?_)
  k_with "truthy str" => (first | refine truthy_sgn ?_ | refine truthy_yes (by assumption) (by first | assumption | omega) ?_ | refine truthy_no (by assumption) ?_)
  k_with "MY steps" => (repeat' (first | (k_unfold; (try dsimp only)) | (k_end; wrow_close) | walk1 | (dsimp only; walk1) | (leave1; try dsimp only) | fail "no step"))
  k_with "MY fin" => (repeat (first | dsimp only | (k_unfold; (try dsimp only))))
  k_with "MY open" => ((
      rename On _ _ _ _ _ => aOn9
      have Gk9 := aOn9.k
      have hap9 := aOn9.apart
      dsimp only [List.map] at hap9
      refine wpAny_call ?_
      k_dflt (k_extra "MY enter")))
  k_with "MY ret" => ((
      rename _ = hideAll _ _ => hgX
      rename Fr _ _ _ _ => kF
      rename News _ _ _ _ => kN
      rename (∀ _ _ _, Kept _ _ _ → _) => retX
      refine' retX _ _ _ (fun b o e => kF.keep b o (hgX ▸ e)) ?_
      (first | exact (fun q hq => (kN q hq).1) | exact ⟨_, fun q hq => (kN q hq).1⟩)))
  k_with "k_all" => (assumption)
  k_with "truthy ref" => (first
      | (k_dflt (refine' truthy_dq0 ?k1 ?k2 ?_; (case k1 => k_asm); (case k2 => k_mem); k_whole))
      | (k_dflt (refine' truthy_dqC ?k1 ?k2 ?k3 ?_; (case k1 => k_asm); (case k2 => k_mem); (case k3 => first | decide | (simp only [List.length_map]; omega)); k_whole))
      | (k_dflt (refine' truthy_dq ?k1 ?k2 ?k3 ?_; (case k1 => k_asm); (case k2 => k_mem); (case k3 => first | decide | (simp only [List.length_map, List.length_cons]; omega) | omega); k_whole)))
  k_with "getMethod ref" => (((with_reducible show wpAny _ _ (getMethod (Value.ref _) (PySem.Str.ofString "popleft") _) _ _ _); k_dflt (refine' meth_popleft ?k1 ?k2 ?_; (case k1 => k_asm); (case k2 => k_mem); k_whole)))
  k_with "call builtin:collections.deque.popleft" => ((k_dflt (refine' popleft_dq ?k1 ?k2 ?k3 ?k4 ?_; (case k1 => k_asm); (case k2 => k_asm); (case k3 => k_upd); (case k4 => first | decide | (simp only [List.length_map]; omega) | omega); k_whole); intro h' F' N'; (try k_sweep)))
  k_with "call ref" => (((with_reducible show wpAny _ _ (call (Value.ref 693) _) _ _ _); refine stopMark ?_))
  k_with "call ref" => (((with_reducible show wpAny _ _ (call (Value.ref 700) _) _ _ _); first
      | (k_dflt (refine' rt_item_use ?k1 ?k2 ?k3 ?k4 ?k5 ?k6 ?k7 ?k8 ?k9 ?U ?V ?kA ?kB ?kC ?kD ?kE ?kF ?kG ?_; (case k1 => k_asm); (case k2 => k_asm); (case k3 => k_asm); (case k4 => k_asm); (case k5 => k_asm); (case k6 => exact rfl); (case k7 => exact rfl); (case k8 => k_mem); (case k9 => k_mem); (case U => (intro _ _ _; k_upd)); (case V => (intro _ _ _ _; k_upd)); (case kA => assumption); (case kB => rfl); (case kC => assumption); (case kD => assumption); (case kE => assumption); (case kF => ((try dsimp only [AA, Around.deeper]); k_extra "MY lt")); (case kG => ((try dsimp only [AA, Around.deeper]); k_extra "MY lt")); k_whole); intro h' tk' t' tst' tl' tt' tp' F' N'; (try k_sweep))
      | (k_dflt (refine' rt_eof_use ?k1 ?k2 ?k3 ?k4 ?k5 ?k6 ?k7 ?k8 ?k9 ?kM ?U ?kA ?kB ?kC ?kF ?kG ?_; (case k1 => k_asm); (case k2 => k_asm); (case k3 => k_asm); (case k4 => k_asm); (case k5 => k_asm); (case k6 => exact rfl); (case k7 => exact rfl); (case k8 => k_mem); (case k9 => k_mem); (case kM => k_mem); (case U => (intro _; k_upd)); (case kA => assumption); (case kB => assumption); (case kC => assumption); (case kF => ((try dsimp only [AA, Around.deeper]); k_extra "MY lt")); (case kG => ((try dsimp only [AA, Around.deeper]); k_extra "MY lt")); k_whole); intro h' tk' tt' F' N'; (try k_sweep))
      | refine stopMark ?_))
  trivial
noncomputable def GtRet (w : World) (l : Lex) (c : Strm) (stack : List (Addr × Strm)) (s : Shared) (foot : List (Addr × Obj)) (Q : Value → Shared → Prop) : Prop :=
  ∀ h' tk' r c' stack' kst' st' tt' rv, Kept s foot h' → Step c stack r c' stack' → ((r = none ∧ rv = .none ∧ st' = .none) ∨ ∃ z t tst', r = some z ∧ rv = .str ⟨z.toArray⟩ t ∧ st' = .str St.s.str tst') →
    (∀ q ∈ lexLed l kst' st' tt' c' stack', h'.get? q.1 = some q.2) → Q rv { s with heap := h', toks := tk' }
noncomputable def GtSpec (w : World) (l : Lex) (c : Strm) (stack : List (Addr × Strm)) : Prop :=
  ∀ {dep un : Nat} {gs : Option (List Code)} {s : Shared} {outer : List Env} {kst : Int} {tst tt : Tok} {E Q : Value → Shared → Prop}, dep + stack.length < 660 → un + 20 * stack.length < 4800 →
    On w (AA none dep outer gs un) outer s (lexLed l kst (.str St.s.str tst) tt c stack) → GtRet w l c stack s (lexLed l kst (.str St.s.str tst) tt c stack) Q →
    wpAny (model PR w) (AA none dep outer gs un) (call (.ref 693) [.ref l.x]) Q E s
set_option maxHeartbeats 4000000 in
theorem gt_item {w : World} {l : Lex} {c : Strm} {stack : List (Addr × Strm)} {sp z : List Nat} {lf : List (List Nat × List Nat)} (ok : c.Ok) (hl : c.left = (sp, z) :: lf) (hst : stack.length ≤ 100) : GtSpec w l c stack := by
  intro dep un gs s outer kst tst tt E Q hD hU a ret
  have hbuf : c.buf.cps.toList = c.done ++ (sp ++ 10 :: bodyOf lf) := by rw [ok.text, hl]; simp [bodyOf]
  have hz := ok.items (sp, z) (by rw [hl]; exact .head _)
  have hb := ok.short
  obtain ⟨sx, sd, hs, ts, infile, ti, lineno, tl, buf, done, left, tp⟩ := c
  obtain ⟨x, d, pb, fs, lhs, lts, k1⟩ := l
  dsimp only at *
  have hap4 : Apart [x, d, sx, sd] := apart_sub a.apart (by rw [led_addrs]; simp)
  simp only [lexLed, lexHead, strmObjs, List.cons_append, List.nil_append] at a
  generalize htl : tailObjs stack = tail at a
  have far : ∀ a ∈ [x, d, pb, fs, sx, sd], ∀ p ∈ tail, p.1 ≠ a := fun b hb p hp => apart_tail (pre := [x, d, pb, fs, sx, sd]) (tl := tail.map (·.1)) (by have q := a.apart; simp only [List.map_cons] at q; exact q) b hb p.1 (List.mem_map_of_mem hp)
  have far_d : ∀ p ∈ tail, p.1 ≠ d := far d (by simp)
  have far_sd : ∀ p ∈ tail, p.1 ≠ sd := far sd (by simp)
  k_extra "MY open"
  intro g L' h₁ hg F' N' B' X' T' hlt
  (try dsimp only)
  k_fold
  k_extra "MY steps"
  refine stopGo ?_
  refine wpAny_While (while_once ?_)
  k_extra "MY steps"
  k_extra "MY fin"
  have hg' : g = hideAll s.heap _ := hg
  clear hg
  subst htl
  rename Fr _ L' _ _ => kF
  rename News _ L' _ _ => kN
  rw [show ((done.length : Int) + (sp.length : Int) + 1) = (((done ++ (sp ++ [10])).length : Nat) : Int) by simp; omega] at kN
  exact ret _ _ _ _ _ _ _ _ _ (fun b o e => kF.keep b o (hg' ▸ e)) (Step.item hl _ _) (.inr ⟨z, _, _, rfl, rfl, rfl⟩) (fun q hq => (kN q hq).1)

set_option maxHeartbeats 4000000 in
theorem gt_eof {w : World} {l : Lex} {c : Strm} (ok : c.Ok) (hl : c.left = []) : GtSpec w l c [] := by
  intro dep un gs s outer kst tst tt E Q hD hU a ret
  have hlen : (c.done.length : Int) = (c.buf.length : Int) := by
    have h1 : c.buf.length = c.buf.cps.toList.length := by simp [PySem.Str.length]
    rw [h1, ok.text, hl]; simp [bodyOf]
  have hb := ok.short
  obtain ⟨sx, sd, hs, ts, infile, ti, lineno, tl, buf, done, left, tp⟩ := c
  obtain ⟨x, d, pb, fs, lhs, lts, k1⟩ := l
  dsimp only at *
  have hap4 : Apart [x, d, sx, sd] := apart_sub a.apart (by rw [led_addrs]; simp)
  simp only [lexLed, lexHead, strmObjs, List.cons_append, List.nil_append, List.map_nil, tailObjs, List.flatMap_nil, List.append_nil] at a
  k_extra "MY open"
  intro g L' h₁ hg F' N' B' X' T' hlt
  (try dsimp only)
  k_fold
  k_extra "MY steps"
  k_extra "MY fin"
  rename Fr _ L' _ _ => kF
  rename News _ L' _ _ => kN
  exact ret _ _ _ _ _ _ _ _ _ (fun b o e => kF.keep b o (hg ▸ e)) (Step.eof hl) (.inl ⟨rfl, rfl, rfl⟩) (fun q hq => (kN q hq).1)

end
section
theorem lines_8 : True := by
  k_with_none
  k_with "execs cons" => (first | (k_fold; (try dsimp only); (try (with_reducible refine gen_toks ?_; intro tk9))) | (with_reducible refine gen_toks ?_; intro tk9))
  k_with "MY nth" => (k_dflt (first | exact @rfl _ (nthO _ 0) | exact @rfl _ (nthO _ 1) | exact @rfl _ (nthO _ 2) | exact @rfl _ (nthO _ 3) | exact @rfl _ (nthO _ 4) | exact @rfl _ (nthO _ 5) | exact @rfl _ (nthO _ 6) | exact @rfl _ (nthO _ 7) | exact @rfl _ (nthO _ 8) | exact @rfl _ (nthO _ 9) | exact @rfl _ (nthO _ 10) | exact @rfl _ (nthO _ 11) | exact @rfl _ (nthO _ 12) | exact @rfl _ (nthO _ 13) | exact @rfl _ (nthO _ 14) | exact @rfl _ (nthO _ 15) | exact @rfl _ (nthO _ 16) | exact @rfl _ (nthO _ 17) | exact @rfl _ (nthO _ 18) | exact @rfl _ (nthO _ 19) | exact @rfl _ (nthO _ 20) | exact @rfl _ (nthO _ 21) | exact @rfl _ (nthO _ 22) | exact @rfl _ (nthO _ 23) | exact @rfl _ (nthO _ 24) | exact @rfl _ (nthO _ 25)))
  k_with "MY nlt" => (first
      | exact NeN.ne (by with_reducible assumption)
      | exact Ne.symm (NeN.ne (by with_reducible assumption))
      | exact Nat.ne_of_gt (by with_reducible assumption)
      | exact Nat.ne_of_lt (by with_reducible assumption)
      | (refine' LtA.ne ?qh ?qe; (case qh => with_reducible assumption); (case qe => k_extra "MY nth"))
      | (refine' LtA.ne' ?qh ?qe; (case qh => with_reducible assumption); (case qe => k_extra "MY nth"))
      | (refine' LtA.neS ?qh ?qe; (case qh => with_reducible assumption); (case qe => k_extra "MY nth"))
      | (refine' LtA.neS' ?qh ?qe; (case qh => with_reducible assumption); (case qe => k_extra "MY nth"))
      | (refine' LtA.neT ?qh ?qe; (case qh => with_reducible assumption); (case qe => k_extra "MY nth"))
      | (refine' LtA.neT' ?qh ?qe; (case qh => with_reducible assumption); (case qe => k_extra "MY nth"))
      | (refine' OffA.ne ?qh ?qe; (case qh => with_reducible assumption); (case qe => k_extra "MY nth"))
      | (refine' OffA.ne' ?qh ?qe; (case qh => with_reducible assumption); (case qe => k_extra "MY nth"))
      | (refine' Apart.at ?qh ?qe ?qf ?qn; (case qh => with_reducible assumption); (case qe => k_extra "MY nth"); (case qf => k_extra "MY nth"); (case qn => exact rfl)))
  k_with "k_all" => ((k_dflt (refine' ltA_off ?qh ?qe; (case qh => with_reducible assumption); (case qe => first | exact @rfl _ (dropO 0 _) | exact @rfl _ (dropO 1 _) | exact @rfl _ (dropO 2 _) | exact @rfl _ (dropO 3 _) | exact @rfl _ (dropO 4 _) | exact @rfl _ (dropO 5 _) | exact @rfl _ (dropO 6 _) | exact @rfl _ (dropO 7 _) | exact @rfl _ (dropO 8 _) | exact @rfl _ (dropO 9 _) | exact @rfl _ (dropO 10 _) | exact @rfl _ (dropO 11 _)))))
  k_with "MY lts" => ((k_dflt (refine' ltA_lts ?qh ?qe; (case qh => with_reducible assumption); (case qe => first | exact @rfl _ (dropO 0 _) | exact @rfl _ (dropO 1 _) | exact @rfl _ (dropO 2 _) | exact @rfl _ (dropO 3 _) | exact @rfl _ (dropO 4 _) | exact @rfl _ (dropO 5 _) | exact @rfl _ (dropO 6 _) | exact @rfl _ (dropO 7 _) | exact @rfl _ (dropO 8 _) | exact @rfl _ (dropO 9 _) | exact @rfl _ (dropO 10 _) | exact @rfl _ (dropO 11 _)))))
  k_with "MY pick" => (first | (refine' LtA.lt ?qh ?qe; (case qh => with_reducible assumption); (case qe => k_extra "MY nth")) | (refine Nat.lt_succ_of_lt ?_; (refine' LtA.lt ?qh ?qe; (case qh => with_reducible assumption); (case qe => k_extra "MY nth"))) | (refine Nat.lt_succ_of_lt (Nat.lt_succ_of_lt ?_); (refine' LtA.lt ?qh ?qe; (case qh => with_reducible assumption); (case qe => k_extra "MY nth"))))
  k_with "MY lt" => (first
      | (refine' lt_le ?qh ?qe; (case qh => assumption); (case qe => exact rfl))
      | (refine' lt_p ?qh ?qe; (case qh => assumption); (case qe => exact rfl))
      | (refine' lt_pp ?qh ?qe; (case qh => assumption); (case qe => exact rfl))
      | (refine' lt_ppp ?qh ?qe; (case qh => assumption); (case qe => exact rfl))
      | (refine' le_le ?qh ?qe; (case qh => assumption); (case qe => exact rfl))
      | decide
      | ((try simp only [LtA] at *); omega))
  k_with "k_ne" => ((refine neN ?_; (try dsimp only); first | k_extra "MY nlt" | omega | ((try simp only [LtA, List.forall_mem_cons] at *); omega)))
  k_with "k_room" => (((try simp only [depth_under_make, depth_under_kw, depth_in1, depth_deeper, depth_caller]); (show _ < 1000); k_dflt (k_extra "MY lt")))
  k_with "MY enterB" => ((refine' code_foot ?k1 ?k2 ?k3 ?k4 ?k5 ?k6 ?k7 ?_ ?c1 ?c2 ?c3 ?c4; (case k1 => assumption); (case k2 => assumption); (case k3 => k_is); (case k4 => k_is); (case k5 => k_room); (case k6 => first | exact BindsTo.of_eq rfl | exact binds_K (by k_in) rfl (by k_is) rfl rfl rfl); (case k7 => exact locs rfl); (case c1 => exact rfl); (case c2 => exact rfl); (case c3 => exact rfl); (case c4 => decide)))
  k_with "MY enter" => ((refine' on_foot ?k1 ?k3 ?k4 ?k5 ?k6 ?k7 ?_ ?c1 ?c2 ?c3 ?c4; (case k1 => assumption); (case k3 => k_is); (case k4 => k_is); (case k5 => k_room); (case k6 => first | exact BindsTo.of_eq rfl | exact binds_K (by k_in) rfl (by k_is) rfl rfl rfl); (case k7 => exact locs rfl); (case c1 => exact rfl); (case c2 => exact rfl); (case c3 => exact rfl); (case c4 => decide); intro bx9 px9 lx9 mx9 gx9 hx9))
  k_with "setAttr ref" => ((k_here; first | ((with_reducible refine' lex_set_state ?k1 ?k2 ?k3 ?k4 ?U ?_); k_dflt ((case k1 => k_asm); (case k2 => k_asm); (case k3 => k_asm); (case k4 => k_mem); (case U => k_upd)); k_whole; intro h' F' N'; (try k_sweep)) | ((with_reducible refine' lex_set_token ?k1 ?k2 ?k3 ?k4 ?U ?_); k_dflt ((case k1 => k_asm); (case k2 => k_asm); (case k3 => k_asm); (case k4 => k_mem); (case U => k_upd)); k_whole; intro h' F' N'; (try k_sweep)) | ((with_reducible refine' lex_set_lineno ?k1 ?k2 ?k3 ?k4 ?U ?_); k_dflt ((case k1 => k_asm); (case k2 => k_asm); (case k3 => k_asm); (case k4 => k_mem); (case U => k_upd)); k_whole; intro h' F' N'; (try k_sweep)) | ((with_reducible refine' lex_set_infile ?k1 ?k2 ?k3 ?k4 ?U ?_); k_dflt ((case k1 => k_asm); (case k2 => k_asm); (case k3 => k_asm); (case k4 => k_mem); (case U => k_upd)); k_whole; intro h' F' N'; (try k_sweep)) | ((with_reducible refine' lex_set_instream ?k1 ?k2 ?k3 ?k4 ?U ?_); k_dflt ((case k1 => k_asm); (case k2 => k_asm); (case k3 => k_asm); (case k4 => k_mem); (case U => k_upd)); k_whole; intro h' F' N'; (try k_sweep))))
  k_with "eval Attribute Name" => ((k_here; k_dflt (refine' self_own ?F ?X ?N ?hv ?h1 ?h2 ?hK ?hl ?hh ?_; (case F => k_asm); (case hv => exact rfl); (case X => k_asm); (case N => k_asm); (case h1 => k_mem); (case hK => first | (with_reducible exact own732_state _) | (with_reducible exact own732_debug _) | (with_reducible exact own732_whitespace _) | (with_reducible exact own732_posix _) | (with_reducible exact own732_token _) | (with_reducible exact own732_quotes _) | (with_reducible exact own732_escape _) | (with_reducible exact own732_wordchars _) | (with_reducible exact own732_commenters _) | (with_reducible exact own732_instream _) | (with_reducible exact own732_lineno _) | (with_reducible exact own732__punctuation_chars _) | (with_reducible exact own732_infile _) | (with_reducible exact own732_eof _) | (with_reducible exact own732_escapedquotes _) | (with_reducible exact own732_whitespace_split _) | (with_reducible exact own732_pushback _) | (with_reducible exact own732_filestack _) | (with_reducible exact own732_source _) | (with_reducible exact own597_buf _) | (with_reducible exact own597_pos _) | (with_reducible exact own597_newline _)); (case h2 => k_mem); (case hl => k_get); (case hh => k_handed); k_whole)))
  k_with "ite" => (first | with_reducible (refine iteT ?_) | with_reducible (refine iteF ?_))
  k_with "CompEnd" => (refine stopMark ?_)
  k_with "eval Name" => ((k_here; (with_reducible show wpAny _ _ (eval (Expr.Name _ _) (compEnvC _ _ _ _)) _ _ _); k_dflt (first
      | refine LCgL.ld_own (by k_asm) (by k_mem) (by assumption) (by assumption) ?_
      | refine LCgL.ld_global (by k_asm) (by k_asm) (by k_asm) (by k_is) ?_
      | refine LCgL.ld_built (by k_asm) (by k_asm) (by k_asm) (by k_is) (by boot_by_name) (by decide) ?_)))
  k_with "eval Name" => ((k_here; (fail_if_success (with_reducible show wpAny _ _ (eval (Expr.Name _ _) (compEnvC _ _ _ _)) _ _ _)); k_dflt (refine' nameX_L ?F ?hv ?_; (case F => k_asm); (case hv => exact rfl); k_whole)))
  k_with "callWith ref" => ((k_here; k_dflt (refine' callWith_K ?k1 ?k2 ?_; (case k1 => k_asm); (case k2 => k_is); k_whole)))
  k_with "exec While" => (refine stopMark ?_)
  k_with "Exists" => (refine stopMark ?_)
  k_with "exec If" => (refine wpAny_If ?_)
  k_with "compareOp In str str" => (first | refine in_yes (by first | assumption | decide +kernel) ?_ | refine in_no (by first | assumption | decide +kernel) ?_)
  k_with "compareOp Eq str str" => (first | refine eq_yes (by first | assumption | rfl) ?_ | refine eq_no (by first | assumption | decide +kernel) ?_ | refine stopMark ?_)
  k_with "truthy str" => (first | refine truthy_sgn ?_ | refine truthy_yes (by assumption) (by first | assumption | omega) ?_ | refine truthy_no (by assumption) ?_)
  k_with "MY steps" => (repeat' (first | (k_unfold; (try dsimp only)) | (k_end; wrow_close) | walk1 | (dsimp only; walk1) | (leave1; try dsimp only) | fail "no step"))
  k_with "MY fin" => (repeat (first | dsimp only | (k_unfold; (try dsimp only))))
  k_with "MY open" => ((
      rename On _ _ _ _ _ => aOn9
      have Gk9 := aOn9.k
      have hap9 := aOn9.apart
      dsimp only [List.map] at hap9
      refine wpAny_call ?_
      k_dflt (k_extra "MY enter")))
  k_with "MY ret" => ((
      rename _ = hideAll _ _ => hgX
      rename Fr _ _ _ _ => kF
      rename News _ _ _ _ => kN
      rename (∀ _ _ _, Kept _ _ _ → _) => retX
      refine' retX _ _ _ (fun b o e => kF.keep b o (hgX ▸ e)) ?_
      (first | exact (fun q hq => (kN q hq).1) | exact ⟨_, fun q hq => (kN q hq).1⟩)))
  trivial
section
variable {w : World} {A₀ : Around} {s : Shared} {base h₀ : Heap} {outer : List Env} {env : Env} {L : Addr} {m : PySem.Str → Option Value} {news oth : List (Addr × Obj)} {p : Program} {loose : List PySem.Str} {mean : ExcName → Option Value} {mg mb : PySem.Str → Option Value}
  {dep un : Nat} {gs : Option (List Code)} {E Q : Value → Shared → Prop} {l : Lex} {c : Strm} {stack : List (Addr × Strm)} {kst : Int} {tst tt : Tok}
theorem gt_use (C : GtSpec w l c stack) (B : Below A₀ base outer h₀) (F : Fr h₀ L s.heap m) (X : (hd.heap_39 w.params).In h₀) (N : News h₀ L s.heap news) (T : Top p loose mean mg mb h₀) (hf : env.frame = some L) (hke : env.scope.kind = .function)
    (hs : ∀ q ∈ lexLed l kst (.str St.s.str tst) tt c stack, q ∈ news) (hap : Apart ((lexLed l kst (.str St.s.str tst) tt c stack).map (·.1))) (ho : ∀ q ∈ oth, q ∈ news ∧ q.1 ∉ (lexLed l kst (.str St.s.str tst) tt c stack).map (·.1))
    (hD : dep + stack.length < 660) (hU : un + 20 * stack.length < 4800)
    (h : ∀ h' tk' r c' stack' kst' st' tt' rv, Fr h₀ L h' m → News h₀ L h' (lexLed l kst' st' tt' c' stack' ++ oth) → Step c stack r c' stack' →
      ((r = none ∧ rv = .none ∧ st' = .none) ∨ ∃ z t tst', r = some z ∧ rv = .str ⟨z.toArray⟩ t ∧ st' = .str St.s.str tst') → Q rv { s with heap := h', toks := tk' }) :
    wpAny (model PR w) (AA none dep (env :: outer) gs un) (call (.ref 693) [.ref l.x]) Q E s := by
  refine C hD hU (On.of B F X N T rfl hf hke hs hap) fun h' tk' r c' stack' kst' st' tt' rv hk hst hr hq => ?_
  refine h h' tk' r c' stack' kst' st' tt' rv (back_fr F N hs hk) (fun q hq' => ?_) hst hr
  rcases List.mem_append.mp hq' with hq' | hq'
  · refine back_new F N hk (hq q hq') (.inl ?_)
    obtain ⟨q0, hq0, e⟩ := List.mem_map.mp (step_addrs hst (l := l) (k := kst) (k' := kst') (st := .str St.s.str tst) (st' := st') (tt := tt) (tt' := tt') q.1 (List.mem_map_of_mem hq'))
    exact e ▸ List.mem_map_of_mem (hs q0 hq0)
  · exact back_old N hk (ho q hq').1 (ho q hq').2
end
theorem lines_9 : True := by
  k_with "k_all" => (with_reducible assumption)
  k_with "truthy ref" => (first
      | (k_dflt (refine' truthy_dq0 ?k1 ?k2 ?_; (case k1 => k_asm); (case k2 => k_mem); k_whole))
      | (k_dflt (refine' truthy_dqC ?k1 ?k2 ?k3 ?_; (case k1 => k_asm); (case k2 => k_mem); (case k3 => first | decide | (simp only [List.length_map]; omega)); k_whole))
      | (k_dflt (refine' truthy_dq ?k1 ?k2 ?k3 ?_; (case k1 => k_asm); (case k2 => k_mem); (case k3 => first | decide | (simp only [List.length_map, List.length_cons]; omega) | omega); k_whole)))
  k_with "getMethod ref" => (((with_reducible show wpAny _ _ (getMethod (Value.ref _) (PySem.Str.ofString "popleft") _) _ _ _); k_dflt (refine' meth_popleft ?k1 ?k2 ?_; (case k1 => k_asm); (case k2 => k_mem); k_whole)))
  k_with "call builtin:collections.deque.popleft" => ((k_dflt (refine' popleft_dq ?k1 ?k2 ?k3 ?k4 ?_; (case k1 => k_asm); (case k2 => k_asm); (case k3 => k_upd); (case k4 => first | decide | (simp only [List.length_map]; omega) | omega); k_whole); intro h' F' N'; (try k_sweep)))
  k_with "call ref" => (((with_reducible show wpAny _ _ (call (Value.ref 693) _) _ _ _); refine stopMark ?_))
  k_with "call ref" => (((with_reducible show wpAny _ _ (call (Value.ref 700) _) _ _ _); first
      | (k_dflt (refine' rt_eof_use ?k1 ?k2 ?k3 ?k4 ?k5 ?k6 ?k7 ?k8 ?k9 ?kM ?U ?kA ?kB ?kC ?kF ?kG ?_; (case k1 => k_asm); (case k2 => k_asm); (case k3 => k_asm); (case k4 => k_asm); (case k5 => k_asm); (case k6 => exact rfl); (case k7 => exact rfl); (case k8 => k_mem); (case k9 => k_mem); (case kM => k_mem); (case U => (intro _; k_upd)); (case kA => with_reducible assumption); (case kB => with_reducible assumption); (case kC => with_reducible assumption); (case kF => ((try dsimp only [AA, Around.deeper]); k_extra "MY lt")); (case kG => ((try dsimp only [AA, Around.deeper]); k_extra "MY lt")); k_whole); intro h' tk' tt' F' N'; (try k_sweep))
      | refine stopMark ?_))
  trivial
set_option maxHeartbeats 1000000 in
theorem gt_pop {w : World} {l : Lex} {c S : Strm} {ta : Addr} {rest : List (Addr × Strm)} (ok : c.Ok) (hl : c.left = []) (hst : rest.length ≤ 100) (IH : GtSpec w l S rest) : GtSpec w l c ((ta, S) :: rest) := by
  intro dep un gs s outer kst tst tt E Q hD hU a ret
  have hlen : (c.done.length : Int) = (c.buf.length : Int) := by
    have h1 : c.buf.length = c.buf.cps.toList.length := by simp [PySem.Str.length]
    rw [h1, ok.text, hl]; simp [bodyOf]
  have hb := ok.short
  have hapS : StopMark (Apart ([l.x, l.d, l.pb, l.fs] ++ ([S.sx, S.sd] ++ rest.flatMap fun e => [e.1, e.2.sx, e.2.sd]))) :=
    apart_sub a.apart (by rw [led_addrs]; simp; exact .cons _ (.cons _ (.cons _ (.refl _))))
  obtain ⟨sx, sd, hs, ts, infile, ti, lineno, tl, buf, done, left, tp⟩ := c
  obtain ⟨x, d, pb, fs, lhs, lts, k1⟩ := l
  dsimp only at *
  rw [List.length_cons] at hD hU
  have hap4 : Apart [x, d, sx, sd] := apart_sub a.apart (by rw [led_addrs]; simp)
  simp only [lexLed, lexHead, strmObjs, List.cons_append, List.nil_append, List.map_cons, tailObjs, List.flatMap_cons, entObjs] at a
  generalize htl : List.flatMap entObjs rest = tail at a
  have far : ∀ b ∈ [x, d, pb, fs, sx, sd, ta, S.sx, S.sd], ∀ p ∈ tail, p.1 ≠ b := fun b hb p hp => apart_tail (pre := [x, d, pb, fs, sx, sd, ta, S.sx, S.sd]) (tl := tail.map (·.1)) (by have q := a.apart; simp only [List.map_cons] at q; exact q) b hb p.1 (List.mem_map_of_mem hp)
  have far_d : ∀ p ∈ tail, p.1 ≠ d := far d (by simp)
  have far_sd : ∀ p ∈ tail, p.1 ≠ sd := far sd (by simp)
  have far_fs : ∀ p ∈ tail, p.1 ≠ fs := far fs (by simp)
  k_extra "MY open"
  intro g L' h₁ hg F' N' B' X' T' hlt
  (try dsimp only)
  k_fold
  k_extra "MY steps"
  refine stopGo ?_
  refine wpAny_While (while_once ?_)
  k_extra "MY steps"
  refine stopGo ?_
  subst htl
  k_dflt (refine' gt_use (oth := []) IH ?k1 ?k2 ?k3 ?k4 ?k5 ?k6 ?k7 ?kS ?kA ?kO ?kF ?kG ?_)
  case k1 => k_asm
  case k2 => k_asm
  case k3 => k_asm
  case k4 => k_asm
  case k5 => k_asm
  case k6 => exact rfl
  case k7 => exact rfl
  case kS =>
    intro q hq
    simp only [lexLed, lexHead, strmObjs, tailObjs, List.cons_append, List.nil_append, List.mem_cons] at hq
    rcases hq with rfl | rfl | rfl | rfl | rfl | rfl | hq
    · k_mem
    · k_mem
    · k_mem
    · k_mem
    · k_mem
    · k_mem
    · repeat (first | exact hq | refine List.Mem.tail _ ?_)
  case kA => rw [led_addrs]; exact hapS
  case kO => exact fun q hq => nomatch hq
  case kF => dsimp only [AA, Around.deeper]; k_extra "MY lt"
  case kG => dsimp only [AA, Around.deeper]; k_extra "MY lt"
  intro h' tk' r c' stack' kst' st' tt' rv F' N' hstep hr
  rw [List.append_nil] at N'
  rcases hr with ⟨rfl, rfl, rfl⟩ | ⟨z, t, tst', rfl, rfl, rfl⟩
  · obtain rfl := step_none hstep
    simp only [lexLed, lexHead, strmObjs, tailObjs, List.cons_append, List.nil_append, List.map_nil, List.flatMap_nil] at N'
    k_extra "MY steps"
    refine while_once ?_
    k_extra "MY steps"
    k_extra "MY fin"
    rename Fr _ L' _ _ => kF
    rename News _ L' _ _ => kN
    exact ret _ _ _ _ _ _ _ _ _ (fun b o e => kF.keep b o (hg ▸ e)) (Step.pop hl hstep) (.inl ⟨rfl, rfl, rfl⟩) (fun q hq => (kN q hq).1)
  · simp only [lexLed, lexHead, strmObjs, List.cons_append, List.nil_append] at N'
    k_extra "MY steps"
    refine while_once ?_
    k_extra "MY steps"
    k_extra "MY fin"
    rename Fr _ L' _ _ => kF
    rename News _ L' _ _ => kN
    exact ret _ _ _ _ _ _ _ _ _ (fun b o e => kF.keep b o (hg ▸ e)) (Step.pop hl hstep) (.inr ⟨z, _, _, rfl, rfl, rfl⟩) (fun q hq => (kN q hq).1)
theorem gt_all {w : World} {l : Lex} : ∀ (stack : List (Addr × Strm)) (c : Strm), c.Ok → (∀ e ∈ stack, e.2.Ok) → stack.length ≤ 100 → GtSpec w l c stack
  | [], c, ok, _, _ => by
    cases hl : c.left with
    | nil => exact gt_eof ok hl
    | cons p r => exact gt_item (sp := p.1) (z := p.2) ok hl (Nat.zero_le _)
  | (ta, S) :: rest, c, ok, oks, hn => by
    rw [List.length_cons] at hn
    cases hl : c.left with
    | nil => exact gt_pop ok hl (by omega) (gt_all rest S (oks _ (.head _)) (fun e he => oks e (.tail _ he)) (by omega))
    | cons p r => exact gt_item (sp := p.1) (z := p.2) ok hl (by rw [List.length_cons]; omega)

end
section
theorem dqn_call (P : Params) (S : Setting) : peek (hd.heap_39 P) S (callAny (.type "collections.deque") ⟨[], []⟩) = some (.again (.builtin "type.__call__" ⟨[.type "collections.deque"], []⟩)) := by kernel_rfl
theorem dqn_made (P : Params) (S : Setting) : peek (hd.heap_39 P) S (Bind.madeBy (.type "collections.deque")) = some (some "collections.deque.__new__") := by kernel_rfl
theorem dqn_ok (P : Params) (S : Setting) : peek (hd.heap_39 P) S (checkBuiltinCall "collections.deque.__new__" ⟨[.type "collections.deque"], []⟩) = some () := by kernel_rfl
theorem dqn_run (P : Params) (S : Setting) (n : Nat) : peekA (hd.heap_39 P) S (Builtin.«collections.deque.__new__» ⟨[.type "collections.deque"], []⟩) n = some (.done (.ret (.ref n)), [dqO 0 []]) := by kernel_rfl
theorem dqn_self (P : Params) (S : Setting) : peek (hd.heap_39 P) S (isSubtype (.type "collections.deque") (.type "collections.deque")) = some true := by kernel_rfl
theorem dqn_init (P : Params) (S : Setting) : peek (hd.heap_39 P) S (typeLookup (.type "collections.deque") "__init__") = some (some (.builtin "collections.deque.__init__")) := by kernel_rfl
theorem dqn_bind (P : Params) (S : Setting) (x : Addr) : peek (hd.heap_39 P) S (bindSpecial (.builtin "collections.deque.__init__") (.ref x)) = some (.builtin "collections.deque.__init__", [.ref x]) := by kernel_rfl
theorem dqn_mro (P : Params) (S : Setting) : peek (hd.heap_39 P) S (mroOf (.type "collections.deque")) = some [.type "collections.deque", .type "object"] := by kernel_rfl
theorem dqn_tc (P : Params) (S : Setting) : peek (hd.heap_39 P) S (checkTypeCall "collections.deque" ⟨[], []⟩) = some () := by kernel_rfl
theorem entry_dq_new : entryFor table "collections.deque.__new__" = some Builtin.«collections.deque.__new__» := entryFor_of_tree (by kernel_rfl)
theorem entry_dq_init : entryFor table "collections.deque.__init__" = some Builtin.«collections.deque.__init__» := entryFor_of_tree (by kernel_rfl)
theorem dqn_ok2 (P : Params) (S : Setting) (x : Addr) : argsOk "collections.deque.__init__" ⟨[.ref x], []⟩ := by
  unfold argsOk; rw [signature?_of (id := "collections.deque.__init__") (n := ['_', '_', 't', 'i', 'n', 'i', '_', '_']) (o := ['e', 'u', 'q', 'e', 'd', '.', 's', 'n', 'o', 'i', 't', 'c', 'e', 'l', 'l', 'o', 'c']) (by kernel_rfl) owner_dq]; kernel_rfl
theorem slot_dq_init : Slot "collections.deque" "__init__" "collections.deque.__init__" :=
  .of (owner := "collections.deque") (n := "__init__") (by rw [typeLookup_type, builtinLookup_eq_fast]; kernel_rfl) (by decide +kernel) (by decide +kernel) (by decide +kernel)
    (by first | exact .inl (by decide +kernel) | exact .inr (by decide +kernel)) (by rw [isSubtype_type]; kernel_rfl)
section
variable {w : World} {A : Around} {s : Shared} {E Q : Value → Shared → Prop} {h₀ : Heap} {L : Addr} {m : PySem.Str → Option Value} {news : List (Addr × Obj)}
set_option maxHeartbeats 1000000 in
theorem dq_new (F : Fr h₀ L s.heap m) (N : News h₀ L s.heap news) (X : (hd.heap_39 w.params).In h₀)
    (h : ∀ D h', Fr h₀ L h' m → News h₀ L h' ((D, dqO 0 []) :: news) → (∀ q ∈ news, q.1 < D) → Q (.ref D) { s with heap := h' }) :
    wpAny (model PR w) A (call (.type "collections.deque") []) Q E s := by
  have XS := X.keeps F.keep
  refine wpAny_call (codeAny_of_tree ?_)
  show wpAny _ _ (callAny (.type "collections.deque") ⟨[], []⟩) _ _ _
  refine (Looks.of_peek XS (dqn_call _ _)).here ⟨Code.quiet_builtin _ (by decide +kernel), ?_⟩
  refine codeAny_builtin entry_typeCall ?_
  unfold Builtin.«type.__call__»
  have hm := Looks.of_peek (M := model PR w) XS (dqn_mro _ _)
  have made := Looks.of_peek (M := model PR w) XS (dqn_made _ _)
  have tc := Looks.of_peek (M := model PR w) XS (dqn_tc _ _)
  repeat (first | (with_reducible refine wpAny_bind (wpAny_holding (wpAny_call ?_))) | simp only [List.isEmpty, Bool.false_eq_true, if_false] | lk)
  refine codeAny_call_builtin_code (Code.quiet_builtin _ (by decide +kernel)) ?_
  refine (Looks.of_peek XS (dqn_ok _ _)).here ?_
  refine codeAny_builtin entry_dq_new ?_
  refine wp_of_peekA _ XS (dqn_run _ _ _) ?_
  dsimp only [pushAll]
  have hx : (s.heap.push (dqO 0 [])).get? s.heap.objs.size = some (dqO 0 []) := Heap.get?_push_size _ rfl
  have XS' := XS.keeps (h' := s.heap.push (dqO 0 [])) (fun b o e => Heap.get?_push_of_some _ e)
  have t1 := (Looks.ld (M := model PR w) (part := some headPart) hx).andThen Looks.now
  have s1 := Looks.of_peek (M := model PR w) XS' (dqn_self _ _)
  have i1 := Looks.of_peek (M := model PR w) XS' (dqn_init _ _)
  have b1 := Looks.of_peek (M := model PR w) XS' (dqn_bind _ _ s.heap.objs.size)
  unfold isInstance callSpecial? specialOf
  repeat (first | with_reducible refine wpAny_call ?_ | lk)
  show codeAny _ _ (Code.call (.builtin "collections.deque.__init__") ⟨[.ref s.heap.objs.size], []⟩) _ _
  refine codeAny_call_builtin slot_dq_init.plain entry_dq_init (slot_dq_init.check _ _ _ _ _ _ _ _ ⟨_, hx, rfl⟩ (dqn_ok2 w.params ⟨PR, w.params⟩ _) ?_)
  show wpAny _ _ (setField (.ref s.heap.objs.size) 0 .none >>= fun _ => Builtin.Deque.clear (.ref s.heap.objs.size) >>= fun _ => ret .none) _ _ _
  have N1 := N.push F (dqO 0 [])
  have hlt : ∀ q ∈ news, q.1 < s.heap.objs.size := fun q hq => Heap.lt_size (N q hq).1
  have e0 : Obj.mapFields (fun x => x.setIfInBounds 0 Value.none) (dqO 0 []) = dqO 0 [] := rfl
  obtain ⟨F2, N2⟩ := news_upd (pre := []) (F.push _) N1 (fun _ h => nomatch h) (fun q hq => Nat.ne_of_lt (hlt q hq)) e0 rfl
  have hx2 := N2.get (.head _)
  unfold setField updateField
  refine wpAny_bind (wpAny_bind (wpAny_load hx ?_))
  show wpAny _ _ (update _ _) _ _ _
  refine wpAny_update hx ?_
  unfold Builtin.Deque.clear Builtin.Deque.items
  refine wpAny_bind (wpAny_bind (wpAny_bind (dq_fields hx2 (wpAny_pure ?_))))
  refine wpAny_pure (wpAny_pure ?_)
  refine wpAny_pure ?_
  refine wpAny_pure ?_
  exact h _ _ F2 N2 hlt
end

end
section
section
variable {w : World} {A : Around} {s : Shared} {base : Heap} {outer : List Env} {K : Frag} {p : Program} {loose : List PySem.Str} {mean : ExcName → Option Value} {mg mb : PySem.Str → Option Value}
  {R : Result → Shared → Prop} {name qual : PySem.Str} {params : Arguments} {body : List Stmt} {scope : Scope} {dV kV doc pm cdv ct oc : Value} {an od : Option Addr} {osl : Array (Option Value)} {f : Addr} {args : Args} {binds : List (PySem.Str × Value)} {foot : List (Addr × Obj)}
theorem code_footC (G : Gd K A base outer p loose mean mg mb (hideAll s.heap (foot.map (·.1)))) (N : ∀ q ∈ foot, s.heap.get? q.1 = some q.2)
    (ho : K.lookup f = some ⟨oc, od, .func (fnOf name qual params body scope dV kV doc pm an cdv ct), osl⟩) (hcd : codeIn K cdv qual = true) (hroom : A.depth < recursionLimit)
    (hbind : BindsTo s (fnOf name qual params body scope dV kV doc pm an cdv ct) args binds) (hkd : (binds.all fun y => scope.names.lookup y.1 == some .local || scope.names.lookup y.1 == some .cell) = true)
    (hnd : ((cellsFrom 0 scope.names []).map (·.1)).Nodup)
    (h : ∀ g L' h₁ tk cells, g = hideAll s.heap (foot.map (·.1)) → Fr g L' h₁ (bindL (envOfC qual scope L' f cdv).kindOf binds fun _ => none) → News g L' h₁ (cells ++ foot) →
      CellsAre (bindC (envOfC qual scope L' f cdv).kindOf binds fun _ => none) (cellsFrom (L' + 1) scope.names []) cells → Below A base outer g → K.In g → Top p loose mean mg mb g → (∀ q ∈ foot, q.1 < L') →
      wpAny (model PR w) (A.deeper (envOfC qual scope L' f cdv)) (execs body (envOfC qual scope L' f cdv))
        (fun fl s' => R (.ok (.ret (match fl with | .ret v => v | _ => .none))) s')
        (fun e s' => wpAny (model PR w) (A.deeper (envOfC qual scope L' f cdv)) (leaving (envOfC qual scope L' f cdv) e) (fun _ s'' => R (.error e) s'') (fun e' s'' => R (.error e') s'') s')
        { s with heap := h₁, toks := tk })
    (hco : scope.isCoroutine = false) (hgen : scope.isGenerator = false) (hk : scope.kind = .function) : codeAny (model PR w) A (.call (.ref f) args) R s := by
  have up : ∀ b o, (hideAll s.heap (foot.map (·.1))).get? b = some o → s.heap.get? b = some o := fun b o e => of_hideAll _ e
  refine codeAny_call_function hroom (up _ _ (G.kin _ _ ho)) rfl hco hgen rfl (codeRec_of (G.kin.keeps up) hcd) (hbind _ _ _ _ ?_)
  refine wpAny_newFunctionEnv_cells hk (kindsX hkd _) fun env' he s' x => ?_
  subst he
  refine ⟨(G.top.nolimit.keeps up).keeps x.toInCall.keep, codeAny_func ?_⟩
  obtain ⟨h₁, tk, rfl, _⟩ := x.done
  have hk₁ := x.toInCall.keep
  obtain ⟨cells, NC, Y⟩ := Cl.news (h₀ := s.heap) (Nat.le_refl _) fun n c hm => ⟨x.cell n c (lookup_of_mem_nodup (cellsFrom_names scope.names 0 (s.heap.objs.size + 1) [] [] rfl ▸ hnd) hm), x.above n c hm⟩
  refine h _ s.heap.objs.size h₁ tk cells rfl ⟨x.toInCall.ns, fun b o e => hk₁ b o (of_hideAll _ e), Nat.le_of_eq (hideAll_size _ _)⟩ (fun p hp => ?_) Y G.below G.kin G.top (fun p hp => Heap.lt_size (N p hp))
  rcases List.mem_append.mp hp with hp | hp
  · refine ⟨(NC p hp).1, (NC p hp).2.1, ?_⟩
    cases q : (hideAll s.heap (foot.map (·.1))).get? p.1 with
    | none => rfl
    | some o => have := of_hideAll _ q; rw [(NC p hp).2.2] at this; cases this
  · exact ⟨hk₁ _ _ (N p hp), Nat.ne_of_lt (Heap.lt_size (N p hp)), hideAll_none _ (List.mem_map_of_mem hp)⟩
end

theorem units_under_kw (A : Around) (C : Addr) (r : List Value) (kw : List (PySem.Str × Value)) : (A.under (Code.builtin "type.__call__" ⟨.ref C :: r, kw⟩)).units = A.units + 1 := rfl

theorem of_allLt {d : Addr} {l : List (Addr × Obj)} (h : AllLt d l) : ∀ q ∈ l, q.1 < d := by
  induction l with
  | nil => exact fun q hq => nomatch hq
  | cons p r ih =>
    intro q hq
    rcases List.mem_cons.mp hq with e | hq
    · rw [e]; exact h.1
    · exact ih h.2 q hq
noncomputable abbrev lexD0 (hs : Nat → Int) (ts : Nat → Tok) (inst : Value) (infile : PySem.Str) (ti : Tok) (state : Value) (pb : Addr) (lineno : Int) (tl : Tok) (token : PySem.Str) (tt : Tok) (fs : Addr) (wc : PySem.Str) : List DictEntry :=
  [⟨(hs 0), .str (PySem.Str.ofString "instream") (ts 0), inst⟩, ⟨(hs 1), .str (PySem.Str.ofString "infile") (ts 1), .str infile ti⟩, ⟨(hs 2), .str (PySem.Str.ofString "posix") (ts 2), .bool true⟩, ⟨(hs 3), .str (PySem.Str.ofString "eof") (ts 3), .none⟩, ⟨(hs 4), .str (PySem.Str.ofString "commenters") (ts 4), .str (PySem.Str.ofString "#") (ts 5)⟩, ⟨(hs 5), .str (PySem.Str.ofString "wordchars") (ts 6), .str wc (ts 7)⟩, ⟨(hs 6), .str (PySem.Str.ofString "whitespace") (ts 8), .str (PySem.Str.ofString " \t\r\n") (ts 9)⟩, ⟨(hs 7), .str (PySem.Str.ofString "whitespace_split") (ts 10), .bool false⟩, ⟨(hs 8), .str (PySem.Str.ofString "quotes") (ts 11), .str (PySem.Str.ofString "'\"") (ts 12)⟩, ⟨(hs 9), .str (PySem.Str.ofString "escape") (ts 13), .str (PySem.Str.ofString "\\") (ts 14)⟩, ⟨(hs 10), .str (PySem.Str.ofString "escapedquotes") (ts 15), .str (PySem.Str.ofString "\"") (ts 16)⟩, ⟨(hs 11), .str (PySem.Str.ofString "state") (ts 17), state⟩, ⟨(hs 12), .str (PySem.Str.ofString "pushback") (ts 18), .ref pb⟩, ⟨(hs 13), .str (PySem.Str.ofString "lineno") (ts 19), .int lineno tl⟩, ⟨(hs 14), .str (PySem.Str.ofString "debug") (ts 20), .int 0 (ts 21)⟩, ⟨(hs 15), .str (PySem.Str.ofString "token") (ts 22), .str token tt⟩, ⟨(hs 16), .str (PySem.Str.ofString "filestack") (ts 23), .ref fs⟩, ⟨(hs 17), .str (PySem.Str.ofString "source") (ts 24), .none⟩, ⟨(hs 18), .str (PySem.Str.ofString "_punctuation_chars") (ts 25), .str (PySem.Str.ofString "") (ts 26)⟩]
theorem lexD0_ex (h0 h1 h2 h3 h4 h5 h6 h7 h8 h9 h10 h11 h12 h13 h14 h15 h16 h17 h18 : Int) (t0 t1 t2 t3 t4 t5 t6 t7 t8 t9 t10 t11 t12 t13 t14 t15 t16 t17 t18 t19 t20 t21 t22 t23 t24 t25 t26 : Tok) (inst : Value) (infile : PySem.Str) (ti : Tok) (state : Value) (pb : Addr) (lineno : Int) (tl : Tok) (token : PySem.Str) (tt : Tok) (fs : Addr) (wc : PySem.Str) :
    ([⟨h0, .str (PySem.Str.ofString "instream") t0, inst⟩, ⟨h1, .str (PySem.Str.ofString "infile") t1, .str infile ti⟩, ⟨h2, .str (PySem.Str.ofString "posix") t2, .bool true⟩, ⟨h3, .str (PySem.Str.ofString "eof") t3, .none⟩, ⟨h4, .str (PySem.Str.ofString "commenters") t4, .str (PySem.Str.ofString "#") t5⟩, ⟨h5, .str (PySem.Str.ofString "wordchars") t6, .str wc t7⟩, ⟨h6, .str (PySem.Str.ofString "whitespace") t8, .str (PySem.Str.ofString " \t\r\n") t9⟩, ⟨h7, .str (PySem.Str.ofString "whitespace_split") t10, .bool false⟩, ⟨h8, .str (PySem.Str.ofString "quotes") t11, .str (PySem.Str.ofString "'\"") t12⟩, ⟨h9, .str (PySem.Str.ofString "escape") t13, .str (PySem.Str.ofString "\\") t14⟩, ⟨h10, .str (PySem.Str.ofString "escapedquotes") t15, .str (PySem.Str.ofString "\"") t16⟩, ⟨h11, .str (PySem.Str.ofString "state") t17, state⟩, ⟨h12, .str (PySem.Str.ofString "pushback") t18, .ref pb⟩, ⟨h13, .str (PySem.Str.ofString "lineno") t19, .int lineno tl⟩, ⟨h14, .str (PySem.Str.ofString "debug") t20, .int 0 t21⟩, ⟨h15, .str (PySem.Str.ofString "token") t22, .str token tt⟩, ⟨h16, .str (PySem.Str.ofString "filestack") t23, .ref fs⟩, ⟨h17, .str (PySem.Str.ofString "source") t24, .none⟩, ⟨h18, .str (PySem.Str.ofString "_punctuation_chars") t25, .str (PySem.Str.ofString "") t26⟩] : List DictEntry) =
    lexD0 (fun i => ([h0, h1, h2, h3, h4, h5, h6, h7, h8, h9, h10, h11, h12, h13, h14, h15, h16, h17, h18] : List Int).getD i 0) (fun i => ([t0, t1, t2, t3, t4, t5, t6, t7, t8, t9, t10, t11, t12, t13, t14, t15, t16, t17, t18, t19, t20, t21, t22, t23, t24, t25, t26] : List Nat).getD i 0) inst infile ti state pb lineno tl token tt fs wc := by kernel_rfl
theorem lexD_fix (hs : Nat → Int) (ts : Nat → Tok) (u : Tok) (inst : Value) (infile : PySem.Str) (ti : Tok) (state : Value) (pb : Addr) (lineno : Int) (tl : Tok) (token : PySem.Str) (tt : Tok) (fs : Addr) (wc : PySem.Str) :
    ([⟨(hs 0), .str (PySem.Str.ofString "instream") (ts 0), inst⟩, ⟨(hs 1), .str (PySem.Str.ofString "infile") (ts 1), .str infile ti⟩, ⟨(hs 2), .str (PySem.Str.ofString "posix") (ts 2), .bool true⟩, ⟨(hs 3), .str (PySem.Str.ofString "eof") (ts 3), .none⟩, ⟨(hs 4), .str (PySem.Str.ofString "commenters") (ts 4), .str (PySem.Str.ofString "") u⟩, ⟨(hs 5), .str (PySem.Str.ofString "wordchars") (ts 6), .str wc (ts 7)⟩, ⟨(hs 6), .str (PySem.Str.ofString "whitespace") (ts 8), .str (PySem.Str.ofString " \t\r\n") (ts 9)⟩, ⟨(hs 7), .str (PySem.Str.ofString "whitespace_split") (ts 10), .bool true⟩, ⟨(hs 8), .str (PySem.Str.ofString "quotes") (ts 11), .str (PySem.Str.ofString "'\"") (ts 12)⟩, ⟨(hs 9), .str (PySem.Str.ofString "escape") (ts 13), .str (PySem.Str.ofString "\\") (ts 14)⟩, ⟨(hs 10), .str (PySem.Str.ofString "escapedquotes") (ts 15), .str (PySem.Str.ofString "\"") (ts 16)⟩, ⟨(hs 11), .str (PySem.Str.ofString "state") (ts 17), state⟩, ⟨(hs 12), .str (PySem.Str.ofString "pushback") (ts 18), .ref pb⟩, ⟨(hs 13), .str (PySem.Str.ofString "lineno") (ts 19), .int lineno tl⟩, ⟨(hs 14), .str (PySem.Str.ofString "debug") (ts 20), .int 0 (ts 21)⟩, ⟨(hs 15), .str (PySem.Str.ofString "token") (ts 22), .str token tt⟩, ⟨(hs 16), .str (PySem.Str.ofString "filestack") (ts 23), .ref fs⟩, ⟨(hs 17), .str (PySem.Str.ofString "source") (ts 24), .none⟩, ⟨(hs 18), .str (PySem.Str.ofString "_punctuation_chars") (ts 25), .str (PySem.Str.ofString "") (ts 26)⟩] : List DictEntry) = lexD hs (fun i => if i = 5 then u else ts i) inst infile ti state pb lineno tl token tt fs wc := by kernel_rfl
theorem news_perm6 {h₀ h : Heap} {L : Addr} {fs pb sx sd x d : Addr × Obj} {r : List (Addr × Obj)} (N : News h₀ L h (fs :: pb :: sx :: sd :: x :: d :: r)) : News h₀ L h ([x, d, pb, fs, sx, sd] ++ r) := fun q hq => by
  refine N q ?_
  simp only [List.cons_append, List.nil_append, List.mem_cons] at hq ⊢
  rcases hq with rfl | rfl | rfl | rfl | rfl | rfl | hq <;> simp_all

end
section
section
variable {prog : Program} {w : World} {A : Around} {E : Value → Shared → Prop} {s : Shared} {env : Env}
theorem iter_call {x : Addr} {Q : Value → Shared → Prop} (h : wpAny (model prog w) A.in1 (pyIter (.ref x)) Q E s) : wpAny (model prog w) A (call (.builtin "iter") [.ref x]) Q E s := by
  refine call_function_entry (by decide +kernel) (by decide +kernel) kdk_entry_iter (kdk_args_iter _) ?_
  show wpAny _ _ (pyIter (.ref x) >>= fun v => ret v) _ _ _
  exact wpAny_bind (wpAny_mono h (fun v s' hq => wpAny_pure ⟨v, rfl, hq⟩) fun _ _ e => e)
/-- a loop over an own iterator, for any bound on its turns -/
theorem for_own {v : PySem.Str} {px pos : Pos} {iter : Expr} {body : List Stmt} {Q : Flow → Shared → Prop}
    (h : wpAny (model prog w) A (eval iter env) (fun xv s₁ => wpAny (model prog w) A (pyIter xv) (fun it s₂ => ∃ a n, it = .ref a ∧ OwitRest prog w A E env v body Q a n s₂) E s₁) E s)
    (hs : ∀ x, foldedSetIterable iter env x = pure x := by intro _; rfl) (hE : PassesOwn (model prog w) A env E := by passes_own) :
    wpAny (model prog w) A (exec (.For (.Name v px) iter body [] pos) env) Q E s := by
  refine wpAny_For (wpAny_mono h (fun xv s₁ h₁ => wpAny_mono h₁ (fun it s₂ h₂ => ?_) fun _ _ e => e) fun _ _ e => e) hs
  obtain ⟨a, n, rfl, h₂⟩ := h₂
  refine codeAny_forLoop (R := fun r s' => match r with | .ok f => Q f s' | .error e => cameBackBy (model prog w) A env E e s') (fun k s' => OwitRest prog w A E env v body Q a k s') (fun k s' hk => ?_) n h₂
  match k, hk with
  | k + 1, hk =>
    refine wpAny_passesOwn hE (wpAny_mono (hk : wpAny (model prog w) A (pyNext (.ref a)) _ E s') (fun r s₁ hr => ?_) fun _ _ e => e)
    cases r with
    | none => exact wpAny_execs_nil hr
    | some y =>
      refine wpAny_passesOwn hE (wpAny_assign_Name (wpAny_mono hr (fun _ s₂ h₂ => ?_) fun _ _ e => e))
      refine wpAny_passesOwn hE (wpAny_mono h₂ (fun f s₃ h₃ => ?_) fun _ _ e => e)
      cases f with
      | ret _ => exact h₃
      | brk => exact h₃
      | next => exact ⟨k, Nat.lt_succ_self k, h₃⟩
      | cont => exact ⟨k, Nat.lt_succ_self k, h₃⟩
end
section
variable {prog : Program} {w : World} {A : Around} {E : Value → Shared → Prop} {s : Shared} {env : Env} {v : PySem.Str} {body : List Stmt} {Q : Flow → Shared → Prop} {x : Addr}
theorem turn_mono {rest rest' : Shared → Prop} (h : ∀ s, rest s → rest' s) {r : Option Value} (t : OwitTurn prog w A E env v body Q rest r s) : OwitTurn prog w A E env v body Q rest' r s := by
  cases r with
  | none => exact t
  | some y =>
    refine wpAny_mono t (fun _ s₂ h₂ => wpAny_mono h₂ (fun f s₃ h₃ => ?_) fun _ _ e => e) fun _ _ e => e
    cases f with
    | next => exact h _ h₃
    | cont => exact h _ h₃
    | brk => exact h₃
    | ret _ => exact h₃
theorem rest_up : ∀ {n : Nat} {s : Shared}, OwitRest prog w A E env v body Q x n s → OwitRest prog w A E env v body Q x (n + 1) s
  | 0, _, h => h.elim
  | n + 1, s, h => wpAny_mono (h : wpAny (model prog w) A (pyNext (.ref x)) _ E s) (fun r s₁ t => turn_mono (fun _ q => rest_up q) t) fun _ _ e => e
theorem rest_le {n m : Nat} (hnm : n ≤ m) {s : Shared} (h : OwitRest prog w A E env v body Q x n s) : OwitRest prog w A E env v body Q x m s := by
  induction hnm with
  | refl => exact h
  | step _ ih => exact rest_up ih
theorem rest_ind (I : Nat → Shared → Prop)
    (turn : ∀ n s, I n s → wpAny (model prog w) A (pyNext (.ref x)) (OwitTurn prog w A E env v body Q (fun s' => ∃ n', n' < n ∧ I n' s')) E s) :
    ∀ (n : Nat) (s : Shared), I n s → OwitRest prog w A E env v body Q x (n + 1) s := by
  intro n
  induction n using Nat.strongRecOn with
  | ind n ih =>
    intro s h
    refine wpAny_mono (turn n s h) (fun r s₁ t => turn_mono (fun s' q => ?_) t) fun _ _ e => e
    obtain ⟨n', hlt, q⟩ := q
    exact rest_le hlt (ih n' hlt s' q)
/-- the same, with the frame's ground and its dict named -/
theorem rest_loop {g : Heap} {L : Addr} {h : Heap} {m : PySem.Str → Option Value} (I : Heap → Addr → Nat → Shared → Prop) (_F : Fr g L h m) (n : Nat) (h0 : I g L n s)
    (turn : ∀ n s, I g L n s → wpAny (model prog w) A (pyNext (.ref x)) (OwitTurn prog w A E env v body Q (fun s' => ∃ n', n' < n ∧ I g L n' s')) E s) :
    OwitRest prog w A E env v body Q x (n + 1) s := rest_ind (I g L) turn n s h0
end
section
variable {prog : Program} {w : World} {A : Around} {E : Value → Shared → Prop} {s : Shared} {env : Env} {v : PySem.Str} {body : List Stmt} {Q : Flow → Shared → Prop} {x : Addr}
noncomputable abbrev En := Addr × Obj
/-- the same, with the ledger's entries named too -/
theorem rest_loopN {g : Heap} {L : Addr} {h : Heap} {m : PySem.Str → Option Value} {nl f cd ix dx pb fs sx sd cl cb bl : En} (I : Heap → Addr → En → En → En → En → En → En → En → En → En → En → Nat → Shared → Prop)
    (_F : Fr g L h m) (_N : News g L h [nl, f, cd, ix, dx, pb, fs, sx, sd, cl, cb, bl]) (n : Nat) (h0 : I g L nl f cd cl cb bl ix dx pb fs n s)
    (turn : ∀ n s, I g L nl f cd cl cb bl ix dx pb fs n s → wpAny (model prog w) A (pyNext (.ref x)) (OwitTurn prog w A E env v body Q (fun s' => ∃ n', n' < n ∧ I g L nl f cd cl cb bl ix dx pb fs n' s')) E s) :
    OwitRest prog w A E env v body Q x (n + 1) s := rest_ind (I g L nl f cd cl cb bl ix dx pb fs) turn n s h0
end

end
section
theorem lines_10 : True := by
  k_with_none
  k_with "execs cons" => (first | (k_fold; (try dsimp only); (try (with_reducible refine gen_toks ?_; intro tk9))) | (with_reducible refine gen_toks ?_; intro tk9))
  k_with "MY nth" => (k_dflt (first | exact @rfl _ (nthO _ 0) | exact @rfl _ (nthO _ 1) | exact @rfl _ (nthO _ 2) | exact @rfl _ (nthO _ 3) | exact @rfl _ (nthO _ 4) | exact @rfl _ (nthO _ 5) | exact @rfl _ (nthO _ 6) | exact @rfl _ (nthO _ 7) | exact @rfl _ (nthO _ 8) | exact @rfl _ (nthO _ 9) | exact @rfl _ (nthO _ 10) | exact @rfl _ (nthO _ 11) | exact @rfl _ (nthO _ 12) | exact @rfl _ (nthO _ 13) | exact @rfl _ (nthO _ 14) | exact @rfl _ (nthO _ 15) | exact @rfl _ (nthO _ 16) | exact @rfl _ (nthO _ 17) | exact @rfl _ (nthO _ 18) | exact @rfl _ (nthO _ 19) | exact @rfl _ (nthO _ 20) | exact @rfl _ (nthO _ 21) | exact @rfl _ (nthO _ 22) | exact @rfl _ (nthO _ 23) | exact @rfl _ (nthO _ 24) | exact @rfl _ (nthO _ 25)))
  k_with "MY nlt" => (first
      | exact NeN.ne (by with_reducible assumption)
      | exact Ne.symm (NeN.ne (by with_reducible assumption))
      | exact Nat.ne_of_gt (by with_reducible assumption)
      | exact Nat.ne_of_lt (by with_reducible assumption)
      | (refine' LtA.ne ?qh ?qe; (case qh => with_reducible assumption); (case qe => k_extra "MY nth"))
      | (refine' LtA.ne' ?qh ?qe; (case qh => with_reducible assumption); (case qe => k_extra "MY nth"))
      | (refine' LtA.neS ?qh ?qe; (case qh => with_reducible assumption); (case qe => k_extra "MY nth"))
      | (refine' LtA.neS' ?qh ?qe; (case qh => with_reducible assumption); (case qe => k_extra "MY nth"))
      | (refine' LtA.neT ?qh ?qe; (case qh => with_reducible assumption); (case qe => k_extra "MY nth"))
      | (refine' LtA.neT' ?qh ?qe; (case qh => with_reducible assumption); (case qe => k_extra "MY nth"))
      | (refine' OffA.ne ?qh ?qe; (case qh => with_reducible assumption); (case qe => k_extra "MY nth"))
      | (refine' OffA.ne' ?qh ?qe; (case qh => with_reducible assumption); (case qe => k_extra "MY nth"))
      | (refine' Apart.at ?qh ?qe ?qf ?qn; (case qh => with_reducible assumption); (case qe => k_extra "MY nth"); (case qf => k_extra "MY nth"); (case qn => exact rfl)))
  k_with "k_all" => ((k_dflt (refine' ltA_off ?qh ?qe; (case qh => with_reducible assumption); (case qe => first | exact @rfl _ (dropO 0 _) | exact @rfl _ (dropO 1 _) | exact @rfl _ (dropO 2 _) | exact @rfl _ (dropO 3 _) | exact @rfl _ (dropO 4 _) | exact @rfl _ (dropO 5 _) | exact @rfl _ (dropO 6 _) | exact @rfl _ (dropO 7 _) | exact @rfl _ (dropO 8 _) | exact @rfl _ (dropO 9 _) | exact @rfl _ (dropO 10 _) | exact @rfl _ (dropO 11 _)))))
  k_with "MY lts" => ((k_dflt (refine' ltA_lts ?qh ?qe; (case qh => with_reducible assumption); (case qe => first | exact @rfl _ (dropO 0 _) | exact @rfl _ (dropO 1 _) | exact @rfl _ (dropO 2 _) | exact @rfl _ (dropO 3 _) | exact @rfl _ (dropO 4 _) | exact @rfl _ (dropO 5 _) | exact @rfl _ (dropO 6 _) | exact @rfl _ (dropO 7 _) | exact @rfl _ (dropO 8 _) | exact @rfl _ (dropO 9 _) | exact @rfl _ (dropO 10 _) | exact @rfl _ (dropO 11 _)))))
  k_with "MY pick" => (first | (refine' LtA.lt ?qh ?qe; (case qh => with_reducible assumption); (case qe => k_extra "MY nth")) | (refine Nat.lt_succ_of_lt ?_; (refine' LtA.lt ?qh ?qe; (case qh => with_reducible assumption); (case qe => k_extra "MY nth"))) | (refine Nat.lt_succ_of_lt (Nat.lt_succ_of_lt ?_); (refine' LtA.lt ?qh ?qe; (case qh => with_reducible assumption); (case qe => k_extra "MY nth"))))
  k_with "MY lt" => (first
      | (refine' lt_le ?qh ?qe; (case qh => assumption); (case qe => exact rfl))
      | (refine' lt_p ?qh ?qe; (case qh => assumption); (case qe => exact rfl))
      | (refine' lt_pp ?qh ?qe; (case qh => assumption); (case qe => exact rfl))
      | (refine' lt_ppp ?qh ?qe; (case qh => assumption); (case qe => exact rfl))
      | (refine' le_le ?qh ?qe; (case qh => assumption); (case qe => exact rfl))
      | decide
      | ((try simp only [LtA] at *); omega))
  k_with "k_ne" => ((refine neN ?_; (try dsimp only); first | k_extra "MY nlt" | omega | ((try simp only [LtA, List.forall_mem_cons] at *); omega)))
  k_with "k_room" => (((try simp only [depth_under_make, depth_under_kw, depth_in1, depth_deeper, depth_caller]); (show _ < 1000); k_dflt (k_extra "MY lt")))
  k_with "MY enterB" => ((refine' code_foot ?k1 ?k2 ?k3 ?k4 ?k5 ?k6 ?k7 ?_ ?c1 ?c2 ?c3 ?c4; (case k1 => assumption); (case k2 => assumption); (case k3 => k_is); (case k4 => k_is); (case k5 => k_room); (case k6 => first | exact BindsTo.of_eq rfl | exact binds_K (by k_in) rfl (by k_is) rfl rfl rfl); (case k7 => exact locs rfl); (case c1 => exact rfl); (case c2 => exact rfl); (case c3 => exact rfl); (case c4 => decide)))
  k_with "MY enter" => ((refine' on_foot ?k1 ?k3 ?k4 ?k5 ?k6 ?k7 ?_ ?c1 ?c2 ?c3 ?c4; (case k1 => assumption); (case k3 => k_is); (case k4 => k_is); (case k5 => k_room); (case k6 => first | exact BindsTo.of_eq rfl | exact binds_K (by k_in) rfl (by k_is) rfl rfl rfl); (case k7 => exact locs rfl); (case c1 => exact rfl); (case c2 => exact rfl); (case c3 => exact rfl); (case c4 => decide); intro bx9 px9 lx9 mx9 gx9 hx9))
  k_with "setAttr ref" => ((k_here; first | ((with_reducible refine' lex_set_state ?k1 ?k2 ?k3 ?k4 ?U ?_); k_dflt ((case k1 => k_asm); (case k2 => k_asm); (case k3 => k_asm); (case k4 => k_mem); (case U => k_upd)); k_whole; intro h' F' N'; (try k_sweep)) | ((with_reducible refine' lex_set_token ?k1 ?k2 ?k3 ?k4 ?U ?_); k_dflt ((case k1 => k_asm); (case k2 => k_asm); (case k3 => k_asm); (case k4 => k_mem); (case U => k_upd)); k_whole; intro h' F' N'; (try k_sweep)) | ((with_reducible refine' lex_set_lineno ?k1 ?k2 ?k3 ?k4 ?U ?_); k_dflt ((case k1 => k_asm); (case k2 => k_asm); (case k3 => k_asm); (case k4 => k_mem); (case U => k_upd)); k_whole; intro h' F' N'; (try k_sweep)) | ((with_reducible refine' lex_set_infile ?k1 ?k2 ?k3 ?k4 ?U ?_); k_dflt ((case k1 => k_asm); (case k2 => k_asm); (case k3 => k_asm); (case k4 => k_mem); (case U => k_upd)); k_whole; intro h' F' N'; (try k_sweep)) | ((with_reducible refine' lex_set_instream ?k1 ?k2 ?k3 ?k4 ?U ?_); k_dflt ((case k1 => k_asm); (case k2 => k_asm); (case k3 => k_asm); (case k4 => k_mem); (case U => k_upd)); k_whole; intro h' F' N'; (try k_sweep))))
  k_with "eval Attribute Name" => ((k_here; k_dflt (refine' self_own ?F ?X ?N ?hv ?h1 ?h2 ?hK ?hl ?hh ?_; (case F => k_asm); (case hv => exact rfl); (case X => k_asm); (case N => k_asm); (case h1 => k_mem); (case hK => first | (with_reducible exact own732_state _) | (with_reducible exact own732_debug _) | (with_reducible exact own732_whitespace _) | (with_reducible exact own732_posix _) | (with_reducible exact own732_token _) | (with_reducible exact own732_quotes _) | (with_reducible exact own732_escape _) | (with_reducible exact own732_wordchars _) | (with_reducible exact own732_commenters _) | (with_reducible exact own732_instream _) | (with_reducible exact own732_lineno _) | (with_reducible exact own732__punctuation_chars _) | (with_reducible exact own732_infile _) | (with_reducible exact own732_eof _) | (with_reducible exact own732_escapedquotes _) | (with_reducible exact own732_whitespace_split _) | (with_reducible exact own732_pushback _) | (with_reducible exact own732_filestack _) | (with_reducible exact own732_source _) | (with_reducible exact own597_buf _) | (with_reducible exact own597_pos _) | (with_reducible exact own597_newline _)); (case h2 => k_mem); (case hl => k_get); (case hh => k_handed); k_whole)))
  k_with "ite" => (first | with_reducible (refine iteT ?_) | with_reducible (refine iteF ?_))
  k_with "CompEnd" => (refine stopMark ?_)
  k_with "eval Name" => ((k_here; (with_reducible show wpAny _ _ (eval (Expr.Name _ _) (compEnvC _ _ _ _)) _ _ _); k_dflt (first
      | refine LCgL.ld_own (by k_asm) (by k_mem) (by assumption) (by assumption) ?_
      | refine LCgL.ld_global (by k_asm) (by k_asm) (by k_asm) (by k_is) ?_
      | refine LCgL.ld_built (by k_asm) (by k_asm) (by k_asm) (by k_is) (by boot_by_name) (by decide) ?_)))
  k_with "eval Name" => ((k_here; (fail_if_success (with_reducible show wpAny _ _ (eval (Expr.Name _ _) (compEnvC _ _ _ _)) _ _ _)); k_dflt (refine' nameX_L ?F ?hv ?_; (case F => k_asm); (case hv => exact rfl); k_whole)))
  k_with "callWith ref" => ((k_here; k_dflt (refine' callWith_K ?k1 ?k2 ?_; (case k1 => k_asm); (case k2 => k_is); k_whole)))
  k_with "exec While" => (refine stopMark ?_)
  k_with "Exists" => (refine stopMark ?_)
  k_with "exec If" => (refine wpAny_If ?_)
  k_with "compareOp In str str" => (first | refine in_yes (by first | assumption | decide +kernel) ?_ | refine in_no (by first | assumption | decide +kernel) ?_)
  k_with "compareOp Eq str str" => (first | refine eq_yes (by first | assumption | rfl) ?_ | refine eq_no (by first | assumption | decide +kernel) ?_ | refine stopMark ?_)
  k_with "truthy str" => (first | refine truthy_sgn ?_ | refine truthy_yes (by assumption) (by first | assumption | omega) ?_ | refine truthy_no (by assumption) ?_)
  k_with "MY steps" => (repeat' (first | (k_unfold; (try dsimp only)) | (k_end; wrow_close) | walk1 | (dsimp only; walk1) | (leave1; try dsimp only) | fail "no step"))
  k_with "MY fin" => (repeat (first | dsimp only | (k_unfold; (try dsimp only))))
  k_with "MY open" => ((
      rename On _ _ _ _ _ => aOn9
      have Gk9 := aOn9.k
      have hap9 := aOn9.apart
      dsimp only [List.map] at hap9
      refine wpAny_call ?_
      k_dflt (k_extra "MY enter")))
  k_with "MY ret" => ((
      rename _ = hideAll _ _ => hgX
      rename Fr _ _ _ _ => kF
      rename News _ _ _ _ => kN
      rename (∀ _ _ _, Kept _ _ _ → _) => retX
      refine' retX _ _ _ (fun b o e => kF.keep b o (hgX ▸ e)) ?_
      (first | exact (fun q hq => (kN q hq).1) | exact ⟨_, fun q hq => (kN q hq).1⟩)))
  k_with "k_all" => (with_reducible assumption)
  k_with "call type:collections.deque" => ((k_dflt (refine' dq_new ?k1 ?k2 ?k3 ?_; (case k1 => k_asm); (case k2 => k_asm); (case k3 => k_asm); k_whole); intro l' h' F' N' l1; (try k_lt l1); (try k_sweep)))
  k_with "call ref" => (((with_reducible show wpAny _ _ (call (Value.ref 597) _) _ _ _); first
      | (k_dflt (refine' sio_new ?k1 ?k2 ?k3 ?k4 ?k5 ?k6 ?k7 ?k8 ?k9 ?kA ?_; (case k1 => k_asm); (case k2 => k_asm); (case k3 => k_asm); (case k4 => k_asm); (case k5 => k_asm); (case k6 => exact rfl); (case k7 => exact rfl); (case k8 => assumption); (case k9 => ((try simp only [depth_under_make, depth_under_kw, depth_in1, depth_deeper, depth_caller]); (try dsimp only [AA, Around.deeper]); k_extra "MY lt")); (case kA => ((try simp only [units_under_kw, units_in1, units_deeper]); (try dsimp only [AA, Around.deeper]); k_extra "MY lt")); k_whole); intro x' dx' h' tk' hs' ts' tp' F' N' l1 l2; (try k_lt l1); (try k_lt2 l2); (try k_sweep))
      | refine stopMark ?_))
  trivial
section
variable {w : World} {A₀ : Around} {s : Shared} {base h₀ : Heap} {outer : List Env} {env : Env} {L : Addr} {m : PySem.Str → Option Value} {news : List (Addr × Obj)} {p : Program} {loose : List PySem.Str} {mean : ExcName → Option Value} {mg mb : PySem.Str → Option Value}
  {dep un : Nat} {gs : Option (List Code)} {E Q : Value → Shared → Prop}
set_option maxHeartbeats 1000000 in
theorem lexer_new {b : PySem.Str} {tb t3 : Tok}
    (B : Below A₀ base outer h₀) (F : Fr h₀ L s.heap m) (X : (hd.heap_39 w.params).In h₀) (N : News h₀ L s.heap news) (T : Top p loose mean mg mb h₀) (hf : env.frame = some L) (hke : env.scope.kind = .function)
    (hb : b.length ≤ 4000) (hD : dep < 600) (hU : un < 4000)
    (h : ∀ x d pb fs sx sd hs ts hs2 ts2 ti tst tl tt tp h' tk', Fr h₀ L h' m → News h₀ L h' ([(x, instObj 732 d), (d, dictOf (lexD0 hs ts (.ref sx) (PySem.Str.ofString "3") ti (.str (PySem.Str.ofString " ") tst) pb 1 tl (PySem.Str.ofString "") tt fs wcs) 19), (pb, dqO 0 []), (fs, dqO 0 []), (sx, instObj 597 sd), (sd, dictOf (sioD hs2 ts2 b 0 tp) 3)] ++ news) →
      (∀ q ∈ news, q.1 < d) → @LT.lt Nat _ d x ∧ @LT.lt Nat _ x sd ∧ @LT.lt Nat _ sd sx ∧ @LT.lt Nat _ sx pb ∧ @LT.lt Nat _ pb fs → Q (.ref x) { s with heap := h', toks := tk' }) :
    wpAny (model PR w) (AA none dep (env :: outer) gs un) (call (.ref 732) [.str b tb, .str (PySem.Str.ofString "3") t3] [(PySem.Str.ofString "posix", .bool true)]) Q E s := by
  obtain ⟨⟨kd, nms, ig, ic, mr⟩, loc, glb, cls, ql, fn, cd, fr, bi⟩ := env
  dsimp only at hf hke
  subst hf hke
  k_extra "MY steps"
  all_goals (try dsimp only)
  rename Fr h₀ L _ _ => kF
  rename News h₀ L _ _ => kN
  rw [lexD0_ex] at kN
  have kN' := news_perm6 kN
  refine h _ _ _ _ _ _ _ _ _ _ _ _ _ _ _ _ _ kF kN' (by first | assumption | k_extra "MY lts" | exact of_allLt (by assumption)) ?_
  refine ⟨?_, ?_, ?_, ?_, ?_⟩ <;> k_extra "MY pick"
end

end
section
/-- an item of a text: a word's signs, or the number of an earlier text -/
inductive Itm where
  | w (z : List Nat)
  | n (j : Nat)
noncomputable abbrev Txs := Nat → List Itm
noncomputable def Itm.word : Itm → List Nat
  | .w z => z
  | .n j => [48 + j]
/-- what a note tells: the text's number, the lexer's line, how many texts lie below, the word -/
structure Note where
  at_ : Nat
  line : Nat
  deep : Nat
  word : List Nat
/-- the notes of a text's items from row r on, each number's text in its place; and how many turns they take -/
inductive Ex (T : Txs) : Nat → Nat → Nat → List Itm → List Note → Nat → Prop
  | nil {i d r : Nat} : Ex T i d r [] [] 0
  | w {i d r k : Nat} {z : List Nat} {l : List Itm} {ns : List Note} (h : Ex T i d (r + 1) l ns k) : Ex T i d r (.w z :: l) (⟨i, r + 2, d, z⟩ :: ns) (k + 1)
  | n {i d r j a b : Nat} {l : List Itm} {ms ns : List Note} (h1 : Ex T j (d + 1) 0 (T j) ms a) (h2 : Ex T i d (r + 1) l ns b) : Ex T i d r (.n j :: l) (ms ++ ns) (a + b + 1)
/-- the same for the texts that lie on one another, the top first: (text, rows read) -/
inductive Exs (T : Txs) : List (Nat × Nat) → List Note → Nat → Prop
  | nil : Exs T [] [] 0
  | cons {i r k b : Nat} {rest : List (Nat × Nat)} {ns ms : List Note} (h1 : Ex T i rest.length r ((T i).drop r) ns k) (h2 : Exs T rest ms b) : Exs T ((i, r) :: rest) (ns ++ ms) (k + b)
structure Rep (T : Txs) (sp : List Nat → List Nat) (c : Strm) (f : Nat × Nat) : Prop where
  ok : c.Ok
  left : c.left = ((T f.1).drop f.2).map fun it => (sp it.word, it.word)
  infile : c.infile = ⟨#[48 + f.1]⟩
  lineno : c.lineno = (f.2 : Int) + 1
  row : f.2 ≤ (T f.1).length
inductive Reps (T : Txs) (sp : List Nat → List Nat) : List (Addr × Strm) → List (Nat × Nat) → Prop
  | nil : Reps T sp [] []
  | cons {e : Addr × Strm} {f : Nat × Nat} {es : List (Addr × Strm)} {fs : List (Nat × Nat)} (h : Rep T sp e.2 f) (hs : Reps T sp es fs) : Reps T sp (e :: es) (f :: fs)
theorem Reps.length {T : Txs} {sp : List Nat → List Nat} {es : List (Addr × Strm)} {fs : List (Nat × Nat)} (h : Reps T sp es fs) : es.length = fs.length := by
  induction h with
  | nil => rfl
  | cons _ _ ih => simp [ih]
theorem Reps.ok {T : Txs} {sp : List Nat → List Nat} {es : List (Addr × Strm)} {fs : List (Nat × Nat)} (h : Reps T sp es fs) : ∀ e ∈ es, e.2.Ok := by
  induction h with
  | nil => exact fun e he => nomatch he
  | cons h _ ih =>
    intro e he
    rcases List.mem_cons.mp he with rfl | he
    · exact h.ok
    · exact ih e he
/-- the texts' numbers fall from the bottom to the top -/
noncomputable def Dn : Nat → List (Nat × Nat) → Prop
  | i, [] => i = 3
  | i, f :: fs => i < f.1 ∧ Dn f.1 fs
theorem Dn.le : ∀ {fs : List (Nat × Nat)} {i : Nat}, Dn i fs → i + fs.length ≤ 3
  | [], _, h => Nat.le_of_eq h
  | f :: fs, i, h => by
    have := Dn.le h.2
    have := h.1
    simp only [List.length_cons]
    (first | lia | omega)
/-- what one get_token does to the machine -/
inductive Turn (T : Txs) (sp : List Nat → List Nat) (ns : List Note) (k : Nat) : Option (List Nat) → Strm → List (Addr × Strm) → Prop
  | stop {c' : Strm} (h : ns = []) (hc : Rep T sp c' (3, (T 3).length)) (hl : c'.left = []) : Turn T sp ns k none c' []
  | word {c' : Strm} {stack' : List (Addr × Strm)} {i r k' : Nat} {z : List Nat} {rest : List (Nat × Nat)} {ns' : List Note} (hi : (T i)[r]? = some (.w z)) (hc : Rep T sp c' (i, r + 1)) (hs : Reps T sp stack' rest)
      (hdn : Dn i rest) (hn : ns = ⟨i, r + 2, rest.length, z⟩ :: ns') (he : Exs T ((i, r + 1) :: rest) ns' k') (hk : k' < k) : Turn T sp ns k (some z) c' stack'
  | num {c' : Strm} {stack' : List (Addr × Strm)} {i r j k' : Nat} {rest : List (Nat × Nat)} (hi : (T i)[r]? = some (.n j)) (hc : Rep T sp c' (i, r + 1)) (hs : Reps T sp stack' rest)
      (hdn : Dn i rest) (he : Exs T ((j, 0) :: (i, r + 1) :: rest) ns k') (hk : k' < k) : Turn T sp ns k (some [48 + j]) c' stack'
theorem Exs.inv {T : Txs} {i r : Nat} {fs : List (Nat × Nat)} {ns : List Note} {k : Nat} (h : Exs T ((i, r) :: fs) ns k) {P : List Note → Nat → Prop}
    (c : ∀ a ms kk b, Ex T i fs.length r ((T i).drop r) a kk → Exs T fs ms b → P (a ++ ms) (kk + b)) : P ns k := by
  cases h with
  | cons h1 h2 => exact c _ _ _ _ h1 h2
theorem Exs.inv0 {T : Txs} {ns : List Note} {k : Nat} (h : Exs T [] ns k) : ns = [] := by cases h; rfl
theorem Ex.inv0 {T : Txs} {i d r : Nat} {ns : List Note} {k : Nat} (h : Ex T i d r [] ns k) : ns = [] ∧ k = 0 := by cases h; exact ⟨rfl, rfl⟩
theorem Ex.invw {T : Txs} {i d r : Nat} {z : List Nat} {l : List Itm} {ns : List Note} {k : Nat} (h : Ex T i d r (.w z :: l) ns k) {P : List Note → Nat → Prop}
    (c : ∀ ns k, Ex T i d (r + 1) l ns k → P (⟨i, r + 2, d, z⟩ :: ns) (k + 1)) : P ns k := by
  cases h with
  | w h => exact c _ _ h
theorem Ex.invn {T : Txs} {i d r j : Nat} {l : List Itm} {ns : List Note} {k : Nat} (h : Ex T i d r (.n j :: l) ns k) {P : List Note → Nat → Prop}
    (c : ∀ ms ns a b, Ex T j (d + 1) 0 (T j) ms a → Ex T i d (r + 1) l ns b → P (ms ++ ns) (a + b + 1)) : P ns k := by
  cases h with
  | n h1 h2 => exact c _ _ _ _ h1 h2
theorem turn_of {T : Txs} {sp : List Nat → List Nat} {c c' : Strm} {stack stack' : List (Addr × Strm)} {r : Option (List Nat)} (h : Step c stack r c' stack') :
    ∀ {f : Nat × Nat} {fs : List (Nat × Nat)} {ns : List Note} {k : Nat}, Rep T sp c f → Reps T sp stack fs → Dn f.1 fs → Exs T (f :: fs) ns k → Turn T sp ns k r c' stack' := by
  induction h with
  | @item c stack s z l hl tl' tp' =>
    intro f fs ns k hc hs hdn he
    obtain ⟨i, r⟩ := f
    have hlen := hs.length
    have hl' := hc.left
    rw [hl] at hl'
    cases hd : (T i).drop r with
    | nil => rw [show (T (i, r).1).drop (i, r).2 = (T i).drop r from rfl, hd] at hl'; cases hl'
    | cons it l' =>
      rw [show (T (i, r).1).drop (i, r).2 = (T i).drop r from rfl, hd] at hl'
      obtain ⟨e1, e2⟩ := List.cons.inj hl'
      obtain ⟨rfl, rfl⟩ := Prod.mk.inj e1
      have hget : (T i)[r]? = some it := by
        have := congrArg List.head? hd
        simpa using this
      have hdrop : (T i).drop (r + 1) = l' := by
        rw [← List.drop_drop, hd]; rfl
      have hrep : ∀ tl' tp', Rep T sp { c with done := c.done ++ (sp it.word ++ [10]), left := l, lineno := c.lineno + 1, tl := tl', tp := tp' } (i, r + 1) := fun tl' tp' => by
        refine ⟨⟨?_, ?_, hc.ok.short⟩, ?_, hc.infile, ?_, ?_⟩
        · show c.buf.cps.toList = _
          rw [hc.ok.text, hl]; simp [bodyOf]
        · exact fun p hp => hc.ok.items p (by rw [hl]; exact .tail _ hp)
        · show l = _
          rw [e2]; simp [hdrop]
        · show c.lineno + 1 = _
          rw [hc.lineno]; simp
        · exact (List.getElem?_eq_some_iff.mp hget).1
      refine he.inv (P := fun ns k => Turn T sp ns k _ _ _) fun a ms kk b h1 h2 => ?_
      rw [hd] at h1
      cases it with
      | w z =>
        refine h1.invw (P := fun a kk => Turn T sp (a ++ ms) (kk + b) _ _ _) fun a' kk' h1 => ?_
        refine .word hget (hrep tl' tp') hs hdn rfl (.cons (by rw [hdrop]; exact h1) h2) ?_
        (first | lia | omega)
      | n j =>
        refine h1.invn (P := fun a kk => Turn T sp (a ++ ms) (kk + b) _ _ _) fun m1 m2 k1 k2 h0 h1 => ?_
        refine .num hget (hrep tl' tp') hs hdn (by rw [List.append_assoc]; exact .cons (by simpa using h0) (.cons (by rw [hdrop]; exact h1) h2)) ?_
        (first | lia | omega)
  | @eof c hl =>
    intro f fs ns k hc hs hdn he
    cases hs
    obtain ⟨i, r⟩ := f
    have hi : i = 3 := hdn
    subst hi
    refine he.inv (P := fun ns k => Turn T sp ns k _ _ _) fun a ms kk b h1 h2 => ?_
    have hl' := hc.left
    rw [hl] at hl'
    have hd : (T 3).drop r = [] := by simpa using hl'.symm
    rw [hd] at h1
    have hr : r = (T 3).length := Nat.le_antisymm hc.row (List.drop_eq_nil_iff.mp hd)
    exact .stop (by rw [h1.inv0.1, h2.inv0]; rfl) (hr ▸ hc) hl
  | @pop c s ta rest r c' stack' hl hst ih =>
    intro f fs ns k hc hs hdn he
    obtain ⟨i, rr⟩ := f
    cases hs with
    | cons hr hs =>
      refine he.inv (P := fun ns k => Turn T sp ns k _ _ _) fun a ms kk b h1 h2 => ?_
      have hl' := hc.left
      rw [hl] at hl'
      have hd : (T i).drop rr = [] := by simpa using hl'.symm
      rw [hd] at h1
      obtain ⟨rfl, rfl⟩ := h1.inv0
      simpa using ih hr hs hdn.2 h2

end
section
noncomputable abbrev noteObj (n : Note) (ta tb tc td : Tok) : Obj := { cls := .type "tuple", data := .seq #[.str ⟨#[48 + n.at_]⟩ ta, .int (n.line : Int) tb, .int (n.deep : Int) tc, .str ⟨n.word.toArray⟩ td] }
inductive NotesAt : List (Addr × Obj) → List Note → Prop
  | nil : NotesAt [] []
  | snoc {l : List (Addr × Obj)} {ns : List Note} {a : Addr} {n : Note} {ta tb tc td : Tok} (h : NotesAt l ns) : NotesAt (l ++ [(a, noteObj n ta tb tc td)]) (ns ++ [n])
noncomputable abbrev rdM (f x nl0 nl : Addr) (u : Option Value) : PySem.Str → Option Value := fun y => if y = PySem.Str.ofString "element" then u else if y = PySem.Str.ofString "value" then some (.ref nl) else if y = PySem.Str.ofString "it" then some (.ref x) else
  if y = PySem.Str.ofString "function" then some (.ref f) else if y = PySem.Str.ofString "sequence" then some (.ref x) else if y = PySem.Str.ofString "initial" then some (.ref nl0) else none
/-- the loop's state in reduce's frame -/
inductive LoopInv (w : World) (T : Txs) (sp : List Nat → List Nat) (ns : List Note) (s : Shared) (g : Heap) (L : Addr) (nl0 f cd cl cb bl ix dx pb fs : En) (n : Nat) (s' : Shared) : Prop
  | mk (lx : Lex) (c : Strm) (stack : List (Addr × Strm)) (fr : Nat × Nat) (frs : List (Nat × Nat)) (no : List (Addr × Obj)) (dn rs : List Note) (nl : Addr) (h : Heap) (tk : Nat) (kst : Int) (tst tt : Tok) (u : Option Value)
    (hs' : s' = { s with heap := h, toks := tk }) (e1 : lx.x = ix.1) (e2 : lx.d = dx.1) (e3 : lx.pb = pb.1) (e4 : lx.fs = fs.1) (hex : Exs T (fr :: frs) rs n) (hns : ns = dn ++ rs) (hno : NotesAt no dn) (hc : Rep T sp c fr) (hst : Reps T sp stack frs) (hdn : Dn fr.1 frs)
    (hap : Apart ((lexLed lx kst (.str St.s.str tst) tt c stack ++ ((nl, W.listOf (no.map fun p => Value.ref p.1).toArray 0) :: f :: cd :: cl :: cb :: bl :: no)).map (·.1)))
    (F : Fr g L h (rdM f.1 ix.1 nl0.1 nl u)) (N : News g L h (lexLed lx kst (.str St.s.str tst) tt c stack ++ ((nl, W.listOf (no.map fun p => Value.ref p.1).toArray 0) :: f :: cd :: cl :: cb :: bl :: no))) : LoopInv w T sp ns s g L nl0 f cd cl cb bl ix dx pb fs n s'

theorem led_reorder {lx : Lex} {kst : Int} {st : Value} {tt : Tok} {c : Strm} {stack : List (Addr × Strm)} {k5 no : List (Addr × Obj)} {q : Addr × Obj} :
    q ∈ lexHead lx kst st tt c (stack.map fun e => .ref e.1) ++ (strmObjs c ++ (k5 ++ (tailObjs stack ++ no))) ↔ q ∈ lexLed lx kst st tt c stack ++ (k5 ++ no) := by
  simp only [lexLed, List.mem_append]
  constructor
  · rintro (h | h | h | h | h) <;> simp [h]
  · rintro ((h | h | h) | h | h) <;> simp [h]
theorem LoopInv.open {w : World} {T : Txs} {sp : List Nat → List Nat} {ns : List Note} {s s' : Shared} {g : Heap} {L : Addr} {nl0 f cd cl cb bl ix dx pb fs : En} {n : Nat} (hI : LoopInv w T sp ns s g L nl0 f cd cl cb bl ix dx pb fs n s') {P : Shared → Prop}
    (k : ∀ (lhs : Nat → Int) (lts : Nat → Tok) (k1 : Int) (c : Strm) (stack : List (Addr × Strm)) (fr : Nat × Nat) (frs : List (Nat × Nat)) (no : List (Addr × Obj)) (dn rs : List Note) (nl : Addr) (h : Heap) (tk : Nat) (kst : Int) (tst tt : Tok) (u : Option Value),
      Exs T (fr :: frs) rs n → ns = dn ++ rs → NotesAt no dn → Rep T sp c fr → Reps T sp stack frs → Dn fr.1 frs →
      Apart ((lexLed ⟨ix.1, dx.1, pb.1, fs.1, lhs, lts, k1⟩ kst (.str St.s.str tst) tt c stack ++ ((nl, W.listOf (no.map fun p => Value.ref p.1).toArray 0) :: f :: cd :: cl :: cb :: bl :: no)).map (·.1)) →
      Fr g L h (rdM f.1 ix.1 nl0.1 nl u) → News g L h (lexHead ⟨ix.1, dx.1, pb.1, fs.1, lhs, lts, k1⟩ kst (.str St.s.str tst) tt c (stack.map fun e => .ref e.1) ++ (strmObjs c ++ ([(nl, W.listOf (no.map fun p => Value.ref p.1).toArray 0), f, cd, cl, cb, bl] ++ (tailObjs stack ++ no)))) →
      P { s with heap := h, toks := tk }) : P s' := by
  obtain ⟨lx, c, stack, fr, frs, no, dn, rs, nl, h, tk, kst, tst, tt, u, rfl, e1, e2, e3, e4, hexs, hns, hno, hc, hst, hdn, hapL, F1, N1⟩ := hI
  obtain ⟨x, d, pb', fs', lhs, lts, k1⟩ := lx
  dsimp only at e1 e2 e3 e4
  subst e1 e2 e3 e4
  exact k _ _ _ _ _ _ _ _ _ _ _ _ _ _ _ _ _ hexs hns hno hc hst hdn hapL F1 (fun q hq => N1 q (led_reorder.mp hq))
theorem apart_left {a b : List Nat} (h : Apart (a ++ b)) : Apart a := apart_sub h (List.sublist_append_left a b)
theorem apart_off {a b : List Nat} (h : Apart (a ++ b)) : ∀ x ∈ b, x ∉ a := fun x hx hxa => (List.nodup_append.mp (apart_iff.mp h)).2.2 x hxa x hx rfl

theorem News.mono {h₀ h : Heap} {L : Addr} {l l' : List (Addr × Obj)} (N : News h₀ L h l) (k : ∀ q ∈ l', q ∈ l) : News h₀ L h l' := fun q hq => N q (k q hq)

section
variable {w : World} {A₀ : Around} {s : Shared} {base h₀ : Heap} {outer : List Env} {env : Env} {L : Addr} {m : PySem.Str → Option Value} {no : List (Addr × Obj)} {p : Program} {loose : List PySem.Str} {mean : ExcName → Option Value} {mg mb : PySem.Str → Option Value}
  {dep un : Nat} {gs : Option (List Code)} {E Q : Value → Shared → Prop} {l : Lex} {c : Strm} {stack : List (Addr × Strm)} {kst : Int} {tst tt : Tok} {e1 f cd cl cb bl : En}
theorem gt_use5 (C : GtSpec w l c stack) (hap : Apart ((lexLed l kst (.str St.s.str tst) tt c stack ++ (e1 :: f :: cd :: cl :: cb :: bl :: no)).map (·.1)))
    (B : Below A₀ base outer h₀) (F : Fr h₀ L s.heap m) (X : (hd.heap_39 w.params).In h₀)
    (N : News h₀ L s.heap (lexHead l kst (.str St.s.str tst) tt c (stack.map fun e => .ref e.1) ++ (strmObjs c ++ ([e1, f, cd, cl, cb, bl] ++ (tailObjs stack ++ no))))) (T : Top p loose mean mg mb h₀) (hf : env.frame = some L) (hke : env.scope.kind = .function)
    (hD : dep + stack.length < 660) (hU : un + 20 * stack.length < 4800)
    (h : ∀ h' tk' r c' stack' kst' st' tt' rv, Fr h₀ L h' m → News h₀ L h' (lexHead l kst' st' tt' c' (stack'.map fun e => .ref e.1) ++ (strmObjs c' ++ ([e1, f, cd, cl, cb, bl] ++ (tailObjs stack' ++ no)))) → Step c stack r c' stack' →
      Apart ((lexLed l kst' st' tt' c' stack' ++ (e1 :: f :: cd :: cl :: cb :: bl :: no)).map (·.1)) →
      ((r = none ∧ rv = .none ∧ st' = .none) ∨ ∃ z t tst', r = some z ∧ rv = .str ⟨z.toArray⟩ t ∧ st' = .str St.s.str tst') → Q rv { s with heap := h', toks := tk' }) :
    wpAny (model PR w) (AA none dep (env :: outer) gs un) (call (.ref 693) [.ref l.x]) Q E s := by
  have hap' := hap
  rw [List.map_append] at hap'
  refine gt_use C B F X N T hf hke (fun q hq => led_reorder.mpr (List.mem_append_left _ hq)) (apart_left hap') (fun q hq => ⟨led_reorder.mpr (List.mem_append_right _ hq), apart_off hap' q.1 (List.mem_map_of_mem hq)⟩) hD hU ?_
  intro h' tk' r c' stack' kst' st' tt' rv F' N' hs hr
  refine h h' tk' r c' stack' kst' st' tt' rv F' (fun q hq => N' q (led_reorder.mp hq)) hs ?_ hr
  rw [List.map_append]
  exact apart_sub hap' ((step_sub hs).append (.refl _))
end

end
section
/-- the ground behind a caught exception, one frame further out -/
theorem turn_out {A₀ A₁ : Around} {base gO g g' : Heap} {outer : List Env} {envO : Env} {LO : Addr} {mO : PySem.Str → Option Value} (T : KtsTurn ((envO :: outer).filterMap (·.frame)) g g') (FG : Fr gO LO g mO) (KO : Below A₀ base outer gO) (hO : envO.frame = some LO) :
    ∃ gO', KtsTurn (outer.filterMap (·.frame)) gO gO' ∧ Fr gO' LO g' mO ∧ Below A₀ base outer gO' := by
  have hfs : (envO :: outer).filterMap (·.frame) = LO :: outer.filterMap (·.frame) := by simp [hO]
  rw [hfs] at T
  have hup : g.UpToSlots g' := fun b o e _ => T.up e
  obtain ⟨TO, S⟩ := kts_turn_at (h := g') (fs := outer.filterMap (·.frame)) (g := gO)
    (fun b hb => by
      obtain ⟨_, o, ho, _⟩ := KO.frames.mem hb
      exact ⟨o, ho⟩)
    (fun b o e nm => T.other b o (FG.keep b o e) (fun hm => by
      rcases List.mem_cons.mp hm with z | z
      · rw [z, kts_self FG] at e
        cases e
      · exact nm z))
    (fun b o e hm => T.frame b o (FG.keep b o e) (List.mem_cons_of_mem _ hm))
  refine ⟨_, TO, ⟨hup.ns FG.ns, S, by rw [TO.size]; exact FG.above⟩, ⟨KO.stack, fun b o e => TO.other b o (KO.stays b o e) (fun hm => by
    rw [(KO.frames.mem hm).1] at e
    cases e), KO.frames.of_keeps fun b o e _ => ?_⟩⟩
  obtain ⟨sl, hs⟩ := TO.up e
  exact ⟨_, hs, rfl⟩
theorem owit_stop3 {M : Model} {A₀ A₁ AX : Around} {E : Value → Shared → Prop} {s : Shared} {KF : Frag} {p : Program} {loose : List PySem.Str} {mean : ExcName → Option Value} {mg mb : PySem.Str → Option Value} {base g G gO : Heap} {outer : List Env} {envO : Env} {L a e t LO : Addr}
    {m mO : PySem.Str → Option Value} {name : PySem.Str} {scope : Scope} {cd : Value} {vs : List Value} {news : List (Addr × Obj)} {X : String} {Q : Option Value → Shared → Prop}
    (R : RaisedS base G (envOf name scope L a cd :: envO :: outer) e (.type X) t vs news s.heap) (U : G.UpToSlots s.heap) (F : Fr g L G m) (K : Below A₁ base (envO :: outer) g) (FG : Fr gO LO g mO) (KO : Below A₀ base outer gO) (hO : envO.frame = some LO)
    (XB : KF.In base) (TB : Top p loose mean mg mb base) (hsub : isSubtype (.type X) (.type "StopIteration") = pure true)
    (k : ∀ g' gO', KtsTurn ((envO :: outer).filterMap (·.frame)) g g' → KtsTurn (outer.filterMap (·.frame)) gO gO' → Fr g' L s.heap m → News g' L s.heap news → Fr gO' LO g' mO → Below A₁ base (envO :: outer) g' → Below A₀ base outer gO' → KF.In g' → KF.In gO' → Top p loose mean mg mb g' → Top p loose mean mg mb gO' → Q none s) :
    OwitStop M AX Q E (.ref e) s := by
  obtain ⟨⟨B, hB, hBG, hl, hfl, hnew⟩, htup⟩ := R
  have hL : B.get? L = none := by
    obtain ⟨_, ⟨L', _, hf, hn', _⟩, _⟩ := hfl.2.2.1
    obtain rfl : L = L' := Option.some.inj hf
    exact hn'
  have hf' := flyingW_base (fun _ _ e => e) hfl
  obtain ⟨ob, hob, hobc⟩ := hf'.there
  have hT : s.TypeIs (.ref e) X := (show ∃ o, s.heap.get? e = some o ∧ o.cls = .type X from ⟨ob, hob, hobc⟩)
  obtain ⟨g', T', F', K'⟩ := kts_ground K F hBG hf'.1 U
  obtain ⟨gO', TO, FO, KO'⟩ := turn_out (A₁ := A₁) T' FG KO hO
  unfold OwitStop
  refine wpAny_isInstance hT hsub ?_
  show (if true = true then Q none s else E (.ref e) s)
  rw [if_pos rfl]
  exact k g' gO' T' TO F' (fun q hq => ⟨hf'.1 _ _ (hl q hq).1, (fun z => by have := (hl q hq).1; rw [z, hL] at this; cases this), T'.none_ _ (kts_none F.keep (hl q hq).2.1)⟩) FO K' KO' (XB.keeps K'.stays) (XB.keeps KO'.stays) (TB.keeps K'.stays) (TB.keeps KO'.stays)
theorem owit_stop2 {M : Model} {A₀ A₁ AX : Around} {E : Value → Shared → Prop} {s : Shared} {KF : Frag} {p : Program} {loose : List PySem.Str} {mean : ExcName → Option Value} {mg mb : PySem.Str → Option Value} {base g G gO : Heap} {outer : List Env} {envO : Env} {L a e t LO : Addr}
    {m mO : PySem.Str → Option Value} {name : PySem.Str} {scope : Scope} {cd : Value} {vs : List Value} {news : List (Addr × Obj)} {X : String} {Q : Option Value → Shared → Prop}
    (R : RaisedS base G (envOf name scope L a cd :: envO :: outer) e (.type X) t vs news s.heap) (U : G.UpToSlots s.heap) (F : Fr g L G m) (K : Below A₁ base (envO :: outer) g) (FG : Fr gO LO g mO) (KO : Below A₀ base outer gO) (hO : envO.frame = some LO)
    (XB : KF.In base) (TB : Top p loose mean mg mb base) (hsub : isSubtype (.type X) (.type "StopIteration") = pure true)
    (k : ∀ g' gO', KtsTurn (outer.filterMap (·.frame)) gO gO' → Fr g' L s.heap m → News g' L s.heap news → Fr gO' LO g' mO → Below A₁ base (envO :: outer) g' → Below A₀ base outer gO' → KF.In g' → KF.In gO' → Top p loose mean mg mb g' → Top p loose mean mg mb gO' → Q none s) :
    OwitStop M AX Q E (.ref e) s :=
  owit_stop3 R U F K FG KO hO XB TB hsub fun g' gO' _ => k g' gO'
/-- base facts, hidden from the walk -/
noncomputable def Bot (K : Frag) (p : Program) (loose : List PySem.Str) (mean : ExcName → Option Value) (mg mb : PySem.Str → Option Value) (base : Heap) : Prop := K.In base ∧ Top p loose mean mg mb base
structure OnB (w : World) (A : Around) (outer : List Env) (s : Shared) (foot : List (Addr × Obj)) : Prop where
  gd : ∃ base p loose mean mg mb, Gd (hd.heap_39 w.params) A base outer p loose mean mg mb (hideAll s.heap (foot.map (·.1))) ∧ Bot (hd.heap_39 w.params) p loose mean mg mb base
  at_ : ∀ q ∈ foot, s.heap.get? q.1 = some q.2
  apart : Apart (foot.map (·.1))

end
section
theorem lines_11 : True := by
  k_with_none
  k_with "execs cons" => (first | (k_fold; (try dsimp only); (try (with_reducible refine gen_toks ?_; intro tk9))) | (with_reducible refine gen_toks ?_; intro tk9))
  k_with "MY nth" => (k_dflt (first | exact @rfl _ (nthO _ 0) | exact @rfl _ (nthO _ 1) | exact @rfl _ (nthO _ 2) | exact @rfl _ (nthO _ 3) | exact @rfl _ (nthO _ 4) | exact @rfl _ (nthO _ 5) | exact @rfl _ (nthO _ 6) | exact @rfl _ (nthO _ 7) | exact @rfl _ (nthO _ 8) | exact @rfl _ (nthO _ 9) | exact @rfl _ (nthO _ 10) | exact @rfl _ (nthO _ 11) | exact @rfl _ (nthO _ 12) | exact @rfl _ (nthO _ 13) | exact @rfl _ (nthO _ 14) | exact @rfl _ (nthO _ 15) | exact @rfl _ (nthO _ 16) | exact @rfl _ (nthO _ 17) | exact @rfl _ (nthO _ 18) | exact @rfl _ (nthO _ 19) | exact @rfl _ (nthO _ 20) | exact @rfl _ (nthO _ 21) | exact @rfl _ (nthO _ 22) | exact @rfl _ (nthO _ 23) | exact @rfl _ (nthO _ 24) | exact @rfl _ (nthO _ 25)))
  k_with "MY nlt" => (first
      | exact NeN.ne (by with_reducible assumption)
      | exact Ne.symm (NeN.ne (by with_reducible assumption))
      | exact Nat.ne_of_gt (by with_reducible assumption)
      | exact Nat.ne_of_lt (by with_reducible assumption)
      | (refine' LtA.ne ?qh ?qe; (case qh => with_reducible assumption); (case qe => k_extra "MY nth"))
      | (refine' LtA.ne' ?qh ?qe; (case qh => with_reducible assumption); (case qe => k_extra "MY nth"))
      | (refine' LtA.neS ?qh ?qe; (case qh => with_reducible assumption); (case qe => k_extra "MY nth"))
      | (refine' LtA.neS' ?qh ?qe; (case qh => with_reducible assumption); (case qe => k_extra "MY nth"))
      | (refine' LtA.neT ?qh ?qe; (case qh => with_reducible assumption); (case qe => k_extra "MY nth"))
      | (refine' LtA.neT' ?qh ?qe; (case qh => with_reducible assumption); (case qe => k_extra "MY nth"))
      | (refine' OffA.ne ?qh ?qe; (case qh => with_reducible assumption); (case qe => k_extra "MY nth"))
      | (refine' OffA.ne' ?qh ?qe; (case qh => with_reducible assumption); (case qe => k_extra "MY nth"))
      | (refine' Apart.at ?qh ?qe ?qf ?qn; (case qh => with_reducible assumption); (case qe => k_extra "MY nth"); (case qf => k_extra "MY nth"); (case qn => exact rfl)))
  k_with "k_all" => ((k_dflt (refine' ltA_off ?qh ?qe; (case qh => with_reducible assumption); (case qe => first | exact @rfl _ (dropO 0 _) | exact @rfl _ (dropO 1 _) | exact @rfl _ (dropO 2 _) | exact @rfl _ (dropO 3 _) | exact @rfl _ (dropO 4 _) | exact @rfl _ (dropO 5 _) | exact @rfl _ (dropO 6 _) | exact @rfl _ (dropO 7 _) | exact @rfl _ (dropO 8 _) | exact @rfl _ (dropO 9 _) | exact @rfl _ (dropO 10 _) | exact @rfl _ (dropO 11 _)))))
  k_with "MY lts" => ((k_dflt (refine' ltA_lts ?qh ?qe; (case qh => with_reducible assumption); (case qe => first | exact @rfl _ (dropO 0 _) | exact @rfl _ (dropO 1 _) | exact @rfl _ (dropO 2 _) | exact @rfl _ (dropO 3 _) | exact @rfl _ (dropO 4 _) | exact @rfl _ (dropO 5 _) | exact @rfl _ (dropO 6 _) | exact @rfl _ (dropO 7 _) | exact @rfl _ (dropO 8 _) | exact @rfl _ (dropO 9 _) | exact @rfl _ (dropO 10 _) | exact @rfl _ (dropO 11 _)))))
  k_with "MY pick" => (first | (refine' LtA.lt ?qh ?qe; (case qh => with_reducible assumption); (case qe => k_extra "MY nth")) | (refine Nat.lt_succ_of_lt ?_; (refine' LtA.lt ?qh ?qe; (case qh => with_reducible assumption); (case qe => k_extra "MY nth"))) | (refine Nat.lt_succ_of_lt (Nat.lt_succ_of_lt ?_); (refine' LtA.lt ?qh ?qe; (case qh => with_reducible assumption); (case qe => k_extra "MY nth"))))
  k_with "MY lt" => (first
      | (refine' lt_le ?qh ?qe; (case qh => assumption); (case qe => exact rfl))
      | (refine' lt_p ?qh ?qe; (case qh => assumption); (case qe => exact rfl))
      | (refine' lt_pp ?qh ?qe; (case qh => assumption); (case qe => exact rfl))
      | (refine' lt_ppp ?qh ?qe; (case qh => assumption); (case qe => exact rfl))
      | (refine' le_le ?qh ?qe; (case qh => assumption); (case qe => exact rfl))
      | decide
      | ((try simp only [LtA] at *); omega))
  k_with "k_ne" => ((refine neN ?_; (try dsimp only); first | k_extra "MY nlt" | omega | ((try simp only [LtA, List.forall_mem_cons] at *); omega)))
  k_with "k_room" => (((try simp only [depth_under_make, depth_under_kw, depth_in1, depth_deeper, depth_caller]); (show _ < 1000); k_dflt (k_extra "MY lt")))
  k_with "MY enterB" => ((refine' code_foot ?k1 ?k2 ?k3 ?k4 ?k5 ?k6 ?k7 ?_ ?c1 ?c2 ?c3 ?c4; (case k1 => assumption); (case k2 => assumption); (case k3 => k_is); (case k4 => k_is); (case k5 => k_room); (case k6 => first | exact BindsTo.of_eq rfl | exact binds_K (by k_in) rfl (by k_is) rfl rfl rfl); (case k7 => exact locs rfl); (case c1 => exact rfl); (case c2 => exact rfl); (case c3 => exact rfl); (case c4 => decide)))
  k_with "MY enter" => ((refine' on_foot ?k1 ?k3 ?k4 ?k5 ?k6 ?k7 ?_ ?c1 ?c2 ?c3 ?c4; (case k1 => assumption); (case k3 => k_is); (case k4 => k_is); (case k5 => k_room); (case k6 => first | exact BindsTo.of_eq rfl | exact binds_K (by k_in) rfl (by k_is) rfl rfl rfl); (case k7 => exact locs rfl); (case c1 => exact rfl); (case c2 => exact rfl); (case c3 => exact rfl); (case c4 => decide); intro bx9 px9 lx9 mx9 gx9 hx9))
  k_with "setAttr ref" => ((k_here; first | ((with_reducible refine' lex_set_state ?k1 ?k2 ?k3 ?k4 ?U ?_); k_dflt ((case k1 => k_asm); (case k2 => k_asm); (case k3 => k_asm); (case k4 => k_mem); (case U => k_upd)); k_whole; intro h' F' N'; (try k_sweep)) | ((with_reducible refine' lex_set_token ?k1 ?k2 ?k3 ?k4 ?U ?_); k_dflt ((case k1 => k_asm); (case k2 => k_asm); (case k3 => k_asm); (case k4 => k_mem); (case U => k_upd)); k_whole; intro h' F' N'; (try k_sweep)) | ((with_reducible refine' lex_set_lineno ?k1 ?k2 ?k3 ?k4 ?U ?_); k_dflt ((case k1 => k_asm); (case k2 => k_asm); (case k3 => k_asm); (case k4 => k_mem); (case U => k_upd)); k_whole; intro h' F' N'; (try k_sweep)) | ((with_reducible refine' lex_set_infile ?k1 ?k2 ?k3 ?k4 ?U ?_); k_dflt ((case k1 => k_asm); (case k2 => k_asm); (case k3 => k_asm); (case k4 => k_mem); (case U => k_upd)); k_whole; intro h' F' N'; (try k_sweep)) | ((with_reducible refine' lex_set_instream ?k1 ?k2 ?k3 ?k4 ?U ?_); k_dflt ((case k1 => k_asm); (case k2 => k_asm); (case k3 => k_asm); (case k4 => k_mem); (case U => k_upd)); k_whole; intro h' F' N'; (try k_sweep))))
  k_with "eval Attribute Name" => ((k_here; k_dflt (refine' self_own ?F ?X ?N ?hv ?h1 ?h2 ?hK ?hl ?hh ?_; (case F => k_asm); (case hv => exact rfl); (case X => k_asm); (case N => k_asm); (case h1 => k_mem); (case hK => first | (with_reducible exact own732_state _) | (with_reducible exact own732_debug _) | (with_reducible exact own732_whitespace _) | (with_reducible exact own732_posix _) | (with_reducible exact own732_token _) | (with_reducible exact own732_quotes _) | (with_reducible exact own732_escape _) | (with_reducible exact own732_wordchars _) | (with_reducible exact own732_commenters _) | (with_reducible exact own732_instream _) | (with_reducible exact own732_lineno _) | (with_reducible exact own732__punctuation_chars _) | (with_reducible exact own732_infile _) | (with_reducible exact own732_eof _) | (with_reducible exact own732_escapedquotes _) | (with_reducible exact own732_whitespace_split _) | (with_reducible exact own732_pushback _) | (with_reducible exact own732_filestack _) | (with_reducible exact own732_source _) | (with_reducible exact own597_buf _) | (with_reducible exact own597_pos _) | (with_reducible exact own597_newline _)); (case h2 => k_mem); (case hl => k_get); (case hh => k_handed); k_whole)))
  k_with "ite" => (first | with_reducible (refine iteT ?_) | with_reducible (refine iteF ?_))
  k_with "CompEnd" => (refine stopMark ?_)
  k_with "eval Name" => ((k_here; (with_reducible show wpAny _ _ (eval (Expr.Name _ _) (compEnvC _ _ _ _)) _ _ _); k_dflt (first
      | refine LCgL.ld_own (by k_asm) (by k_mem) (by assumption) (by assumption) ?_
      | refine LCgL.ld_global (by k_asm) (by k_asm) (by k_asm) (by k_is) ?_
      | refine LCgL.ld_built (by k_asm) (by k_asm) (by k_asm) (by k_is) (by boot_by_name) (by decide) ?_)))
  k_with "eval Name" => ((k_here; (fail_if_success (with_reducible show wpAny _ _ (eval (Expr.Name _ _) (compEnvC _ _ _ _)) _ _ _)); k_dflt (refine' nameX_L ?F ?hv ?_; (case F => k_asm); (case hv => exact rfl); k_whole)))
  k_with "callWith ref" => ((k_here; k_dflt (refine' callWith_K ?k1 ?k2 ?_; (case k1 => k_asm); (case k2 => k_is); k_whole)))
  k_with "exec While" => (refine stopMark ?_)
  k_with "Exists" => (refine stopMark ?_)
  k_with "exec If" => (refine wpAny_If ?_)
  k_with "compareOp In str str" => (first | refine in_yes (by first | assumption | decide +kernel) ?_ | refine in_no (by first | assumption | decide +kernel) ?_)
  k_with "compareOp Eq str str" => (first | refine eq_yes (by first | assumption | rfl) ?_ | refine eq_no (by first | assumption | decide +kernel) ?_ | refine stopMark ?_)
  k_with "truthy str" => (first | refine truthy_sgn ?_ | refine truthy_yes (by assumption) (by first | assumption | omega) ?_ | refine truthy_no (by assumption) ?_)
  k_with "MY steps" => (repeat' (first | (k_unfold; (try dsimp only)) | (k_end; wrow_close) | walk1 | (dsimp only; walk1) | (leave1; try dsimp only) | fail "no step"))
  k_with "MY fin" => (repeat (first | dsimp only | (k_unfold; (try dsimp only))))
  k_with "MY open" => ((
      rename On _ _ _ _ _ => aOn9
      have Gk9 := aOn9.k
      have hap9 := aOn9.apart
      dsimp only [List.map] at hap9
      refine wpAny_call ?_
      k_dflt (k_extra "MY enter")))
  k_with "MY ret" => ((
      rename _ = hideAll _ _ => hgX
      rename Fr _ _ _ _ => kF
      rename News _ _ _ _ => kN
      rename (∀ _ _ _, Kept _ _ _ → _) => retX
      refine' retX _ _ _ (fun b o e => kF.keep b o (hgX ▸ e)) ?_
      (first | exact (fun q hq => (kN q hq).1) | exact ⟨_, fun q hq => (kN q hq).1⟩)))
  k_with "k_all" => (assumption)
  k_with "truthy ref" => (first
      | (k_dflt (refine' truthy_dq0 ?k1 ?k2 ?_; (case k1 => k_asm); (case k2 => k_mem); k_whole))
      | (k_dflt (refine' truthy_dqC ?k1 ?k2 ?k3 ?_; (case k1 => k_asm); (case k2 => k_mem); (case k3 => first | decide | (simp only [List.length_map]; omega)); k_whole))
      | (k_dflt (refine' truthy_dq ?k1 ?k2 ?k3 ?_; (case k1 => k_asm); (case k2 => k_mem); (case k3 => first | decide | (simp only [List.length_map, List.length_cons]; omega) | omega); k_whole)))
  k_with "getMethod ref" => (((with_reducible show wpAny _ _ (getMethod (Value.ref _) (PySem.Str.ofString "popleft") _) _ _ _); k_dflt (refine' meth_popleft ?k1 ?k2 ?_; (case k1 => k_asm); (case k2 => k_mem); k_whole)))
  k_with "call builtin:collections.deque.popleft" => ((k_dflt (refine' popleft_dq ?k1 ?k2 ?k3 ?k4 ?_; (case k1 => k_asm); (case k2 => k_asm); (case k3 => k_upd); (case k4 => first | decide | (simp only [List.length_map]; omega) | omega); k_whole); intro h' F' N'; (try k_sweep)))
  k_with "call ref" => (((with_reducible show wpAny _ _ (call (Value.ref 693) _) _ _ _); refine stopMark ?_))
  k_with "call ref" => (((with_reducible show wpAny _ _ (call (Value.ref 700) _) _ _ _); first
      | (k_dflt (refine' rt_none_use ?k1 ?k2 ?k3 ?k4 ?k5 ?k6 ?k7 ?k8 ?k9 ?kM ?U ?kA ?kB ?kC ?kF ?kG ?_; (case k1 => k_asm); (case k2 => k_asm); (case k3 => k_asm); (case k4 => k_asm); (case k5 => k_asm); (case k6 => exact rfl); (case k7 => exact rfl); (case k8 => k_mem); (case k9 => k_mem); (case kM => k_mem); (case U => (intro _; k_upd)); (case kA => assumption); (case kB => assumption); (case kC => assumption); (case kF => ((try dsimp only [AA, Around.deeper]); k_extra "MY lt")); (case kG => ((try dsimp only [AA, Around.deeper]); k_extra "MY lt")); k_whole); intro h' tk' tt' F' N'; (try k_sweep))
      | refine stopMark ?_))
  trivial
set_option maxHeartbeats 4000000 in
theorem gt_none {w : World} {l : Lex} {c : Strm} (ok : c.Ok) (hl : c.left = []) {dep un : Nat} {gs : Option (List Code)} {s : Shared} {outer : List Env} {kst : Int} {tt : Tok} {E Q : Value → Shared → Prop} (hD : dep < 660) (hU : un < 4800)
    (a : On w (AA none dep outer gs un) outer s (lexLed l kst .none tt c []))
    (ret : ∀ h' tk' tt', Kept s (lexLed l kst .none tt c []) h' → (∀ q ∈ lexLed l kst .none tt' c [], h'.get? q.1 = some q.2) → Q .none { s with heap := h', toks := tk' }) :
    wpAny (model PR w) (AA none dep outer gs un) (call (.ref 693) [.ref l.x]) Q E s := by
  have hlen : (c.done.length : Int) = (c.buf.length : Int) := by
    have h1 : c.buf.length = c.buf.cps.toList.length := by simp [PySem.Str.length]
    rw [h1, ok.text, hl]; simp [bodyOf]
  have hb := ok.short
  obtain ⟨sx, sd, hs, ts, infile, ti, lineno, tl, buf, done, left, tp⟩ := c
  obtain ⟨x, d, pb, fs, lhs, lts, k1⟩ := l
  dsimp only at *
  have hap4 : Apart [x, d, sx, sd] := apart_sub a.apart (by rw [led_addrs]; simp)
  simp only [lexLed, lexHead, strmObjs, List.cons_append, List.nil_append, List.map_nil, tailObjs, List.flatMap_nil, List.append_nil] at a ret
  k_extra "MY open"
  intro g L' h₁ hg F' N' B' X' T' hlt
  (try dsimp only)
  k_fold
  k_extra "MY steps"
  k_extra "MY fin"
  rename Fr _ L' _ _ => kF
  rename News _ L' _ _ => kN
  exact ret _ _ _ (fun b o e => kF.keep b o (hg ▸ e)) (fun q hq => (kN q hq).1)
section
variable {w : World} {A₀ : Around} {s : Shared} {base h₀ : Heap} {outer : List Env} {env : Env} {L : Addr} {m : PySem.Str → Option Value} {news : List (Addr × Obj)} {p : Program} {loose : List PySem.Str} {mean : ExcName → Option Value} {mg mb : PySem.Str → Option Value}
  {dep un : Nat} {gs : Option (List Code)} {E Q : Value → Shared → Prop} {l : Lex} {c : Strm} {kst : Int} {tt : Tok} {oth : List (Addr × Obj)}
theorem gt_none_use (ok : c.Ok) (hl : c.left = []) (B : Below A₀ base outer h₀) (F : Fr h₀ L s.heap m) (X : (hd.heap_39 w.params).In h₀) (N : News h₀ L s.heap news) (T : Top p loose mean mg mb h₀) (hf : env.frame = some L) (hke : env.scope.kind = .function)
    (hs : ∀ q ∈ lexLed l kst .none tt c [], q ∈ news) (hap : Apart ((lexLed l kst .none tt c []).map (·.1))) (ho : ∀ q ∈ oth, q ∈ news ∧ q.1 ∉ (lexLed l kst .none tt c []).map (·.1))
    (hD : dep < 660) (hU : un < 4800)
    (h : ∀ h' tk' tt', Fr h₀ L h' m → News h₀ L h' (lexLed l kst .none tt' c [] ++ oth) → Q .none { s with heap := h', toks := tk' }) :
    wpAny (model PR w) (AA none dep (env :: outer) gs un) (call (.ref 693) [.ref l.x]) Q E s := by
  refine gt_none ok hl hD hU (On.of B F X N T rfl hf hke hs hap) fun h' tk' tt' hk hq => ?_
  refine h h' tk' tt' (back_fr F N hs hk) (fun q hq' => ?_)
  rcases List.mem_append.mp hq' with hq' | hq'
  · refine back_new F N hk (hq q hq') (.inl ?_)
    have e : (lexLed l kst .none tt' c []).map (·.1) = (lexLed l kst .none tt c []).map (·.1) := by simp only [led_addrs]
    obtain ⟨q0, hq0, e⟩ := List.mem_map.mp (e ▸ List.mem_map_of_mem hq' : q.1 ∈ (lexLed l kst .none tt c []).map (·.1))
    exact e ▸ List.mem_map_of_mem (hs q0 hq0)
  · exact back_old N hk (ho q hq').1 (ho q hq').2
end

end
section
theorem back_two {g2 g1 h : Heap} {LO L : Addr} {mO mi : PySem.Str → Option Value} {news : List (Addr × Obj)} (Fo : Fr g2 LO g1 mO) (Fi : Fr g1 L h mi) (Ni : News g1 L h news) : Fr g2 LO h mO ∧ News g2 LO h news := by
  refine ⟨⟨(Heap.UpToSlots.of_keeps Fi.keep).ns Fo.ns, fun b o e => Fi.keep b o (Fo.keep b o e), Fo.above⟩, fun q hq => ⟨(Ni q hq).1, fun z => ?_, kts_none Fo.keep (Ni q hq).2.2⟩⟩
  obtain ⟨o, _, _, ho, _⟩ := Fo.ns
  have := (Ni q hq).2.2
  rw [z, ho] at this
  cases this
section
variable {w : World} {A₀ A : Around} {s : Shared} {base h₀ : Heap} {outer : List Env} {env : Env} {K : Frag} {p : Program} {loose : List PySem.Str} {mean : ExcName → Option Value} {mg mb : PySem.Str → Option Value} {L : Addr} {m : PySem.Str → Option Value}
  {R : Result → Shared → Prop} {name qual : PySem.Str} {params : Arguments} {body : List Stmt} {scope : Scope} {dV kV doc pm cdv ct oc : Value} {an od : Option Addr} {osl : Array (Option Value)} {f : Addr} {args : Args} {binds : List (PySem.Str × Value)} {news : List (Addr × Obj)}
/-- into a def of the program from a frame, with the ledger and an open end -/
theorem call_in2 (B : Below A₀ base outer h₀) (F : Fr h₀ L s.heap m) (X : K.In h₀) (N : News h₀ L s.heap news) (T : Top p loose mean mg mb h₀) (hA : A.frames = some (env :: outer)) (hf : env.frame = some L) (hke : env.scope.kind = .function)
    (ho : K.lookup f = some ⟨oc, od, .func (fnOf name qual params body scope dV kV doc pm an cdv ct), osl⟩) (hcd : codeIn K cdv qual = true) (hroom : A.depth < recursionLimit)
    (hbind : BindsTo s (fnOf name qual params body scope dV kV doc pm an cdv ct) args binds) (hloc : ∀ y ∈ binds, scope.names.lookup y.1 = some .local)
    (h : ∀ g L' h₁, g = hideAll s.heap (news.map (·.1)) → Fr g L' h₁ (fun y => binds.reverse.lookup y) → News g L' h₁ news → Fr h₀ L g m → Below A base (env :: outer) g → K.In g → Top p loose mean mg mb g → (∀ q ∈ news, q.1 < L') →
      wpAny (model PR w) (A.deeper (envOf qual scope L' f cdv)) (execs body (envOf qual scope L' f cdv))
        (fun fl s' => R (.ok (.ret (match fl with | .ret v => v | _ => .none))) s')
        (fun e s' => wpAny (model PR w) (A.deeper (envOf qual scope L' f cdv)) (leaving (envOf qual scope L' f cdv) e) (fun _ s'' => R (.error e) s'') (fun e' s'' => R (.error e') s'') s')
        { s with heap := h₁, toks := s.toks + binds.length })
    (hco : scope.isCoroutine = false) (hgen : scope.isGenerator = false) (hk : scope.kind = .function)
    (hcell : ∀ x ∈ scope.names, x.2 ≠ .cell) : codeAny (model PR w) A (.call (.ref f) args) R s := by
  obtain ⟨FG, BG, st, -⟩ := groundX (R := fun _ _ => True) B F N hA hf hke
  exact code_foot (foot := news) (Gd.of B F X N T hA hf hke (news.map (·.1)) (fun _ q => q)) (fun q hq => (N q hq).1) ho hcd hroom hbind hloc (fun g L' h₁ hg F' N' B' X' T' hlt => by
    subst hg
    exact h _ L' h₁ rfl F' N' FG B' X' T' hlt) hco hgen hk hcell
end
section
variable {w : World} {A₀ : Around} {s : Shared} {base h₀ : Heap} {outer : List Env} {env : Env} {L : Addr} {m : PySem.Str → Option Value} {no : List (Addr × Obj)} {p : Program} {loose : List PySem.Str} {mean : ExcName → Option Value} {mg mb : PySem.Str → Option Value}
  {dep un : Nat} {gs : Option (List Code)} {E Q : Value → Shared → Prop} {l : Lex} {c : Strm} {kst : Int} {tt : Tok} {e1 f cd cl cb bl : En}
theorem gt_none_use5 (ok : c.Ok) (hl : c.left = []) (hap : Apart ((lexLed l kst .none tt c [] ++ (e1 :: f :: cd :: cl :: cb :: bl :: no)).map (·.1)))
    (B : Below A₀ base outer h₀) (F : Fr h₀ L s.heap m) (X : (hd.heap_39 w.params).In h₀)
    (N : News h₀ L s.heap (lexHead l kst .none tt c [] ++ (strmObjs c ++ ([e1, f, cd, cl, cb, bl] ++ no)))) (T : Top p loose mean mg mb h₀) (hf : env.frame = some L) (hke : env.scope.kind = .function)
    (hD : dep < 660) (hU : un < 4800)
    (h : ∀ h' tk' tt', Fr h₀ L h' m → News h₀ L h' (lexHead l kst .none tt' c [] ++ (strmObjs c ++ ([e1, f, cd, cl, cb, bl] ++ no))) → Q .none { s with heap := h', toks := tk' }) :
    wpAny (model PR w) (AA none dep (env :: outer) gs un) (call (.ref 693) [.ref l.x]) Q E s := by
  have hap' := hap
  rw [List.map_append] at hap'
  have ro : ∀ {t : Tok} {q : En}, q ∈ lexHead l kst .none t c [] ++ (strmObjs c ++ ([e1, f, cd, cl, cb, bl] ++ no)) ↔ q ∈ lexLed l kst .none t c [] ++ ([e1, f, cd, cl, cb, bl] ++ no) := by
    intro t q
    simp only [lexLed, tailObjs, List.map_nil, List.flatMap_nil, List.append_nil, List.append_assoc]
  refine gt_none_use ok hl B F X N T hf hke (fun q hq => ro.mpr (List.mem_append_left _ hq)) (apart_left hap') (fun q hq => ⟨ro.mpr (List.mem_append_right _ hq), apart_off hap' q.1 (List.mem_map_of_mem hq)⟩) hD hU ?_
  intro h' tk' tt' F' N'
  exact h h' tk' tt' F' (fun q hq => N' q (ro.mp hq))
end
/-- what _law_spelled leaves: the ground up to the frames' slots, and the answer's objects, fresh -/
noncomputable def SpLeft (g : Heap) (fs : List Addr) (ns : List Note) (len : Nat) (a : Addr) (h' : Heap) : Prop :=
  ∃ (g' : Heap) (nl e : Addr) (no : List (Addr × Obj)) (t1 t2 t3 : Tok), KtsTurn fs g g' ∧ g'.StaysIn h' ∧ NotesAt no ns ∧
    (∀ q ∈ (a, ({ cls := .type "tuple", data := .seq #[.ref nl, .ref e] } : Obj)) :: (e, { cls := .type "tuple", data := .seq #[.none, .str ⟨#[51]⟩ t1, .int ((len : Int) + 1) t2, .int 0 t3] }) ::
      (nl, W.listOf (no.map fun p => Value.ref p.1).toArray 0) :: no, h'.get? q.1 = some q.2 ∧ g.get? q.1 = none) ∧ ∃ ps, h'.get? 816 = some (tabObj ps)
theorem spLeft_of {g g2 h' : Heap} {fs : List Addr} {ns : List Note} {no l : List (Addr × Obj)} {len : Nat} {L a e nl : Addr} {t1 t2 t3 : Tok} {m : PySem.Str → Option Value} (TT : KtsTurn fs g g2) (F : Fr g2 L h' m) (hno : NotesAt no ns)
    (N : News g2 L h' ((a, { cls := .type "tuple", data := .seq #[.ref nl, .ref e] }) :: (e, { cls := .type "tuple", data := .seq #[.none, .str ⟨#[51]⟩ t1, .int ((len : Int) + 1) t2, .int 0 t3] }) :: l))
    (hm : ∀ q ∈ (nl, W.listOf (no.map fun p => Value.ref p.1).toArray 0) :: no, q ∈ l) {ps : Array Value} (h816 : (816, tabObj ps) ∈ l) : SpLeft g fs ns len a h' := by
  refine ⟨g2, nl, e, no, t1, t2, t3, TT, fun b o e => F.keep b o e, hno, fun q hq => ?_, ps, (N _ (List.mem_cons_of_mem _ (List.mem_cons_of_mem _ h816))).1⟩
  have hq' : q ∈ ((a, { cls := .type "tuple", data := .seq #[.ref nl, .ref e] }) :: (e, { cls := .type "tuple", data := .seq #[.none, .str ⟨#[51]⟩ t1, .int ((len : Int) + 1) t2, .int 0 t3] }) :: l : List (Addr × Obj)) := by
    rcases List.mem_cons.mp hq with rfl | hq
    · exact .head _
    · rcases List.mem_cons.mp hq with rfl | hq
      · exact .tail _ (.head _)
      · exact .tail _ (.tail _ (hm q hq))
  refine ⟨(N q hq').1, ?_⟩
  cases hc : g.get? q.1 with
  | none => rfl
  | some o => obtain ⟨sl, hs⟩ := TT.up hc; rw [(N q hq').2.2] at hs; cases hs
theorem news_init12 {g h : Heap} {L : Addr} {q1 q2 q3 q4 q5 q6 q7 q8 q9 q10 q11 q12 t : En} (N : News g L h [q1, q2, q3, q4, q5, q6, q7, q8, q9, q10, q11, q12, t]) : News g L h [q1, q2, q3, q4, q5, q6, q7, q8, q9, q10, q11, q12] := fun q hq => N q (by
  have : q ∈ [q1, q2, q3, q4, q5, q6, q7, q8, q9, q10, q11, q12] ++ [t] := List.mem_append_left _ hq
  exact this)
theorem news_last {g h : Heap} {L : Addr} {q1 q2 q3 q4 q5 q6 q7 q8 q9 q10 q11 q12 : En} {ps : Array Value} (N : News g L h [q1, q2, q3, q4, q5, q6, q7, q8, q9, q10, q11, q12, (816, tabObj ps)]) : ∃ ps, h.get? 816 = some (tabObj ps) ∧ (816 : Nat) ≠ L ∧ g.get? 816 = none := ⟨ps, N (816, tabObj ps) (by simp)⟩
theorem hide_816 {g h : Heap} {ps : Array Value} {l : List Addr} (hg : g = hideAll h l) (he : h.get? 816 = some (tabObj ps)) (hl : AllNe 816 l) : g.get? 816 = some (tabObj ps) := by
  rw [hg]
  exact hideAll_iff.mpr ⟨he, fun hm => allNe_iff.mp hl _ hm rfl⟩
theorem news_tail12 {g h : Heap} {L : Addr} {q1 q2 q3 q4 q5 q6 q7 q8 q9 q10 q11 q12 t : En} {no : List En} (N : News g L h (q1 :: q2 :: q3 :: q4 :: q5 :: q6 :: q7 :: q8 :: q9 :: q10 :: q11 :: q12 :: no)) (ht : h.get? t.1 = some t.2 ∧ t.1 ≠ L ∧ g.get? t.1 = none) :
    News g L h (q1 :: q2 :: q3 :: q4 :: q5 :: q6 :: q7 :: q8 :: q9 :: q10 :: q11 :: q12 :: (no ++ [t])) := fun q hq => by
  have h1 : q ∈ (q1 :: q2 :: q3 :: q4 :: q5 :: q6 :: q7 :: q8 :: q9 :: q10 :: q11 :: q12 :: no) ++ [t] := hq
  rcases List.mem_append.mp h1 with h1 | h1
  · exact N q h1
  · rw [List.mem_singleton.mp h1]; exact ht
theorem apart_tail12 {pre no : List En} {e1 f cd cl cb bl t : En} (h : Apart ((pre ++ (e1 :: f :: cd :: cl :: cb :: bl :: no)).map (·.1))) (ht : ∀ q ∈ pre ++ (e1 :: f :: cd :: cl :: cb :: bl :: no), q.1 ≠ t.1) :
    Apart ((pre ++ (e1 :: f :: cd :: cl :: cb :: bl :: (no ++ [t]))).map (·.1)) := by
  have e : pre ++ (e1 :: f :: cd :: cl :: cb :: bl :: (no ++ [t])) = (pre ++ (e1 :: f :: cd :: cl :: cb :: bl :: no)) ++ [t] := by simp
  rw [e, List.map_append]
  refine apart_iff.mpr (List.nodup_append.mpr ⟨apart_iff.mp h, by simp, ?_⟩)
  intro a ha b hb
  obtain ⟨q, hq, rfl⟩ := List.mem_map.mp ha
  have hb' : b = t.1 := by simpa using hb
  rw [hb']
  exact ht q hq
theorem off_816 {g h : Heap} {L : Addr} {l : List En} {ps : Array Value} (N : News g L h l) (hg : g.get? 816 = some (tabObj ps)) : ∀ q ∈ l, q.1 ≠ 816 := fun q hq e => by
  have := (N q hq).2.2
  rw [e, hg] at this
  cases this
theorem outer_816 {A : Around} {base g h : Heap} {outer : List Env} {l : List Addr} (B : Below A base outer g) (hg : g = hideAll h l) (hl : (816 : Nat) ∈ l) : (816 : Nat) ∉ outer.filterMap (·.frame) := fun hm => by
  obtain ⟨_, o, ho, _⟩ := B.frames.mem hm
  rw [hg, hideAll_none l hl] at ho
  cases ho
theorem turn_816 {g g' : Heap} {envO : Env} {outer : List Env} {LO : Addr} {ps : Array Value} (T : KtsTurn ((envO :: outer).filterMap (·.frame)) g g') (hO : envO.frame = some LO) (h1 : (816 : Nat) ≠ LO) (h2 : (816 : Nat) ∉ outer.filterMap (·.frame)) (hg : g.get? 816 = some (tabObj ps)) : g'.get? 816 = some (tabObj ps) := by
  refine T.other 816 _ hg ?_
  have hfs : (envO :: outer).filterMap (·.frame) = LO :: outer.filterMap (·.frame) := by simp [hO]
  rw [hfs]
  intro hm
  rcases List.mem_cons.mp hm with e | hm
  · exact h1 e
  · exact h2 hm
theorem off_led {g h : Heap} {L : Addr} {l : Lex} {kst : Int} {tt : Tok} {c : Strm} {no : List En} {e1 f cd cl cb bl : En} {ps : Array Value} (N : News g L h (lexHead l kst .none tt c [] ++ (strmObjs c ++ ([e1, f, cd, cl, cb, bl] ++ no)))) (hg : g.get? 816 = some (tabObj ps)) :
    ∀ q ∈ lexLed l kst .none tt c [] ++ (e1 :: f :: cd :: cl :: cb :: bl :: no), q.1 ≠ 816 := fun q hq => by
  refine off_816 N hg q ?_
  have h1 : q ∈ lexLed l kst .none tt c [] ++ ([e1, f, cd, cl, cb, bl] ++ no) := hq
  simpa only [lexLed, tailObjs, List.map_nil, List.flatMap_nil, List.append_nil, List.append_assoc] using h1

end
section
theorem lookup3 {y a b c : PySem.Str} {u v w : Value} (h1 : ¬ y = a) (h2 : ¬ y = b) (h3 : ¬ y = c) : List.lookup y [(a, u), (b, v), (c, w)] = none := by
  simp [List.lookup, beq_eq_false_iff_ne.mpr h1, beq_eq_false_iff_ne.mpr h2, beq_eq_false_iff_ne.mpr h3]
theorem chain_apart {l : List Nat} (h : l.Pairwise (· < ·)) : l.Nodup := h.imp fun h e => absurd (e ▸ h) (Nat.lt_irrefl _)
noncomputable def ChainLt : Nat → List Nat → Prop
  | _, [] => True
  | a, b :: l => a < b ∧ ChainLt b l
theorem pw_chain : ∀ {l : List Nat} {a : Nat}, ChainLt a l → (a :: l).Pairwise (· < ·)
  | [], _, _ => List.pairwise_singleton _ _
  | b :: l, a, h => by
    have q := pw_chain h.2
    refine List.Pairwise.cons (fun c hc => ?_) q
    rcases List.mem_cons.mp hc with rfl | hc
    · exact h.1
    · exact Nat.lt_trans h.1 (List.rel_of_pairwise_cons q hc)
theorem mem_swap3 {A B C : List En} {q : En} (h : q ∈ B ++ (A ++ C)) : q ∈ A ++ (B ++ C) := by
  rcases List.mem_append.mp h with h | h
  · exact List.mem_append_right _ (List.mem_append_left _ h)
  · rcases List.mem_append.mp h with h | h
    · exact List.mem_append_left _ h
    · exact List.mem_append_right _ (List.mem_append_right _ h)
theorem loop_start {w : World} {T : Txs} {sp : List Nat → List Nat} {ns : List Note} {s : Shared} {g h : Heap} {L : Addr} {m : PySem.Str → Option Value} {tk : Nat} {nl x d pb fs sx sd : Addr} {nl0 f cd cl cb bl ix dx pbe fse : En} {hs hs2 : Nat → Int} {ts ts2 : Nat → Tok} {ti tst tt tl tp : Tok} {b3 : PySem.Str} {k : Nat}
    (F : Fr g L h m) (N : News g L h [(nl, W.listOf #[] 0), f, cd, (x, instObj 732 d), (d, dictOf (lexD hs ts (.ref sx) (PySem.Str.ofString "3") ti (.str (PySem.Str.ofString " ") tst) pb 1 tl (PySem.Str.ofString "") tt fs wcs) 19), (pb, dqO 0 []), (fs, dqO 0 []), (sx, instObj 597 sd), (sd, dictOf (sioD hs2 ts2 b3 0 tp) 3), cl, cb, bl])
    (hm : m = rdM f.1 x nl nl none) (ord : bl.1 < cb.1 ∧ cb.1 < cl.1 ∧ cl.1 < d ∧ d < x ∧ x < sd ∧ sd < sx ∧ sx < pb ∧ pb < fs ∧ fs < cd.1 ∧ cd.1 < f.1 ∧ f.1 < nl)
    (hT3 : b3.cps.toList = bodyOf ((T 3).map fun it => (sp it.word, it.word))) (hsp : ∀ i, ∀ it ∈ T i, scan (sp it.word) .s false [] = some it.word) (hb3 : b3.length ≤ 4000) (hex : Exs T [(3, 0)] ns k)
    (e0 : nl = nl0.1) (e1 : x = ix.1) (e2 : d = dx.1) (e3 : pb = pbe.1) (e4 : fs = fse.1) :
    LoopInv w T sp ns s g L nl0 f cd cl cb bl ix dx pbe fse k { s with heap := h, toks := tk } := by
  have hnd : ([bl.1, cb.1, cl.1, d, x, sd, sx, pb, fs, cd.1, f.1, nl] : List Nat).Nodup := by
    obtain ⟨o1, o2, o3, o4, o5, o6, o7, o8, o9, o10, o11⟩ := ord
    exact chain_apart (pw_chain ⟨o1, o2, o3, o4, o5, o6, o7, o8, o9, o10, o11, trivial⟩)
  refine ⟨⟨x, d, pb, fs, hs, ts, 0⟩, ⟨sx, sd, hs2, ts2, PySem.Str.ofString "3", ti, 1, tl, b3, [], (T 3).map fun it => (sp it.word, it.word), tp⟩, [], (3, 0), [], [], [], ns, nl, h, tk, 0, tst, tt, none, rfl, e1, e2, e3, e4, hex, rfl, .nil, ⟨⟨?_, ?_, hb3⟩, rfl, ?_, rfl, Nat.zero_le _⟩, .nil, rfl, ?_, ?_, ?_⟩
  · rw [hT3]; rfl
  · intro p hp
    obtain ⟨it, hit, rfl⟩ := List.mem_map.mp hp
    exact hsp 3 it hit
  · show PySem.Str.ofString "3" = ⟨#[48 + 3]⟩
    decide
  · refine apart_iff.mpr ?_
    refine (List.Perm.nodup_iff ?_).mp hnd
    simp only [lexLed, lexHead, strmObjs, tailObjs, List.map_nil, List.flatMap_nil, List.append_nil, List.cons_append, List.nil_append, List.map_cons]
    have key : ∀ a1 a2 a3 a4 a5 a6 a7 a8 a9 a10 a11 a12 : Nat, [a1, a2, a3, a4, a5, a6, a7, a8, a9, a10, a11, a12].Perm [a5, a4, a8, a9, a7, a6, a12, a11, a10, a3, a2, a1] := by
      intros
      refine List.perm_iff_count.mpr fun a => ?_
      simp only [List.count_cons, List.count_nil]
      lia
    exact key _ _ _ _ _ _ _ _ _ _ _ _
  · rw [← e0, ← e1, ← hm]; exact F
  · intro q hq
    have hq' : q ∈ [_, _, _, _, _, _] ++ ([_, _, _] ++ [_, _, _]) := hq
    exact N q (mem_swap3 hq')

end
section
section
variable {w : World} {A : Around} {s : Shared} {base : Heap} {outer : List Env} {K : Frag} {p : Program} {loose : List PySem.Str} {mean : ExcName → Option Value} {mg mb : PySem.Str → Option Value}
  {R : Result → Shared → Prop} {name qual : PySem.Str} {params : Arguments} {body : List Stmt} {scope : Scope} {doc pm ctv : Value} {f c' : Addr} {oc : Obj} {vs : Array Value} {tq : Tok} {cl : List (PySem.Str × Addr)} {args : Args} {binds : List (PySem.Str × Value)} {foot : List (Addr × Obj)}
/-- into a def that was made in the call, over a footprint that holds it and its code -/
theorem code_nest_foot (G : Gd K A base outer p loose mean mg mb (hideAll s.heap (foot.map (·.1)))) (N : ∀ q ∈ foot, s.heap.get? q.1 = some q.2)
    (ho : (f, fnMade name qual params body scope cl doc pm c' ctv) ∈ foot) (hcm : (c', oc) ∈ foot) (hd : oc.data = .fields vs) (hv : vs[1]? = some (.str qual tq)) (hroom : A.depth < recursionLimit)
    (hbind : BindsTo s (fnX name qual params body scope cl .none .none doc pm none (.ref c') ctv) args binds) (hloc : ∀ y ∈ binds, scope.names.lookup y.1 = some .local)
    (h : ∀ g L' h₁, g = hideAll s.heap (foot.map (·.1)) → Fr g L' h₁ (fun y => binds.reverse.lookup y) → News g L' h₁ foot → Below A base outer g → K.In g → Top p loose mean mg mb g → (∀ q ∈ foot, q.1 < L') →
      wpAny (model PR w) (A.deeper (envX qual scope L' f (.ref c') cl)) (execs body (envX qual scope L' f (.ref c') cl))
        (fun fl s' => R (.ok (.ret (match fl with | .ret v => v | _ => .none))) s')
        (fun e s' => wpAny (model PR w) (A.deeper (envX qual scope L' f (.ref c') cl)) (leaving (envX qual scope L' f (.ref c') cl) e) (fun _ s'' => R (.error e) s'') (fun e' s'' => R (.error e') s'') s')
        { s with heap := h₁, toks := s.toks + binds.length })
    (hco : scope.isCoroutine = false) (hgen : scope.isGenerator = false) (hk : scope.kind = .function)
    (hcell : ∀ x ∈ scope.names, x.2 ≠ .cell) : codeAny (model PR w) A (.call (.ref f) args) R s := by
  have up : ∀ b o, (hideAll s.heap (foot.map (·.1))).get? b = some o → s.heap.get? b = some o := fun b o e => of_hideAll _ e
  refine codeAny_call_def (fd := fnX name qual params body scope cl .none .none doc pm none (.ref c') ctv) (body := body) (binds := binds) hroom (N _ ho) rfl (G.top.nolimit.keeps up) ⟨c', oc, vs, tq, rfl, N _ hcm, hd, hv⟩ rfl hbind hcell hloc (fun h₁ hns hk₁ => ?_) hco hgen hk
  exact h _ s.heap.objs.size h₁ rfl ⟨hns, fun b o e => hk₁ b o (of_hideAll _ e), Nat.le_of_eq (hideAll_size _ _)⟩
    (fun q hq => ⟨hk₁ _ _ (N q hq), Nat.ne_of_lt (Heap.lt_size (N q hq)), hideAll_none _ (List.mem_map_of_mem hq)⟩) G.below G.kin G.top fun q hq => Heap.lt_size (N q hq)
end
noncomputable abbrev noteFoot (f c' x d fs cl cb bl nl : Addr) (fo oc ol ob obl : Obj) (hs : Nat → Int) (ts : Nat → Tok) (inst : Value) (infile : PySem.Str) (ti : Tok) (state : Value) (pb : Addr) (lineno : Int) (tl tt : Tok) (kst : Int) (refs : List Value) (xs : Array Value) (n : Nat) : List En :=
  [(f, fo), (c', oc), (x, instObj 732 d), (d, dictOf (lexD hs ts inst infile ti state pb lineno tl (PySem.Str.ofString "") tt fs wcs) 19), (fs, dqO kst refs), (cl, ol), (cb, ob), (bl, obl), (nl, W.listOf xs n)]
/-- note of a word that is no number: one more note -/
noncomputable def NoteWord (w : World) (f c' x d fs cl cb bl : Addr) (fo oc ol ob obl : Obj) : Prop :=
  ∀ {dep un : Nat} {gs : Option (List Code)} {s : Shared} {outer : List Env} {hs : Nat → Int} {ts : Nat → Tok} {inst : Value} {infile : PySem.Str} {ti : Tok} {state : Value} {pb : Addr} {lineno : Int} {tl tt : Tok} {kst : Int} {refs : List Value} {nl : Addr} {xs : Array Value} {n : Nat} {z : List Nat} {t : Tok} {E Q : Value → Shared → Prop},
    z ≠ [48] ∧ z ≠ [49] ∧ z ≠ [50] → refs.length ≤ 100 → xs.size ≤ 1000000 → dep < 600 → un < 4000 →
    On w (AA none dep outer gs un) outer s (noteFoot f c' x d fs cl cb bl nl fo oc ol ob obl hs ts inst infile ti state pb lineno tl tt kst refs xs n) →
    (∀ h' tk' a D tc, Kept s (noteFoot f c' x d fs cl cb bl nl fo oc ol ob obl hs ts inst infile ti state pb lineno tl tt kst refs xs n) h' →
      (∀ q ∈ noteFoot f c' x d fs cl cb bl nl fo oc ol ob obl hs ts inst infile ti state pb lineno tl tt kst refs xs n, h'.get? q.1 = some q.2) → s.heap.get? a = none → s.heap.get? D = none → @LT.lt Nat _ a D →
      h'.get? a = some { cls := .type "tuple", data := .seq #[.str infile ti, .int lineno tl, .int refs.length tc, .str ⟨z.toArray⟩ t] } → h'.get? D = some (W.listOf (xs ++ #[.ref a]) 0) → Q (.ref D) { s with heap := h', toks := tk' }) →
    wpAny (model PR w) (AA none dep outer gs un) (call (.ref f) [.ref nl, .str ⟨z.toArray⟩ t]) Q E s
noncomputable def NoteNum (w : World) (f c' x d fs cl cb bl : Addr) (fo oc ol ob obl : Obj) (j : Nat) (b : PySem.Str) : Prop :=
  ∀ {dep un : Nat} {gs : Option (List Code)} {s : Shared} {outer : List Env} {hs : Nat → Int} {ts : Nat → Tok} {sx0 : Addr} {infile : PySem.Str} {ti : Tok} {state : Value} {pb : Addr} {lineno : Int} {tl tt : Tok} {kst : Int} {refs : List Value} {nl : Addr} {xs : Array Value} {n : Nat} {t : Tok} {E Q : Value → Shared → Prop},
    refs.length ≤ 100 → xs.size ≤ 1000000 → dep < 600 → un < 4000 →
    On w (AA none dep outer gs un) outer s (noteFoot f c' x d fs cl cb bl nl fo oc ol ob obl hs ts (.ref sx0) infile ti state pb lineno tl tt kst refs xs n) →
    (∀ h' tk' ta sx sd hs2 ts2 tp ti' tl', Kept s (noteFoot f c' x d fs cl cb bl nl fo oc ol ob obl hs ts (.ref sx0) infile ti state pb lineno tl tt kst refs xs n) h' →
      (∀ q ∈ noteFoot f c' x d fs cl cb bl nl fo oc ol ob obl hs ts (.ref sx) ⟨#[48 + j]⟩ ti' state pb 1 tl' tt (kst + 1) (.ref ta :: refs) xs n, h'.get? q.1 = some q.2) → s.heap.get? sd = none → s.heap.get? sx = none → s.heap.get? ta = none → @LT.lt Nat _ sd sx → @LT.lt Nat _ sx ta →
      h'.get? ta = some { cls := .type "tuple", data := .seq #[.str infile ti, .ref sx0, .int lineno tl] } → h'.get? sx = some (instObj 597 sd) → h'.get? sd = some (dictOf (sioD hs2 ts2 b 0 tp) 3) → Q (.ref nl) { s with heap := h', toks := tk' }) →
    wpAny (model PR w) (AA none dep outer gs un) (call (.ref f) [.ref nl, .str ⟨#[48 + j]⟩ t]) Q E s
section
variable {prog : Program} {w : World} {A : Around} {s : Shared} {E Q : Value → Shared → Prop} {h₀ : Heap} {L : Addr} {m : PySem.Str → Option Value} {news : List En}
theorem in_no3 {l : Addr} {vs : List Value} {ys : List PySem.Str} {k : PySem.Str} {t : Tok} (hl : s.heap.IsList l vs.toArray) (hi : StrsAre vs ys) (hn : ys.any (· == k) = false) (h : Q (.bool false) s) :
    wpAny (model prog w) A (compareOp .In (.str k t) (.ref l)) Q E s := in_list_strs hl hi (by rw [hn]; exact h)
theorem in_yes3 {l : Addr} {vs : List Value} {ys : List PySem.Str} {k : PySem.Str} {t : Tok} (hl : s.heap.IsList l vs.toArray) (hi : StrsAre vs ys) (hn : ys.any (· == k) = true) (h : Q (.bool true) s) :
    wpAny (model prog w) A (compareOp .In (.str k t) (.ref l)) Q E s := in_list_strs hl hi (by rw [hn]; exact h)
theorem addl {a b : Addr} {xs ys : Array Value} {n k : Nat} (F : Fr h₀ L s.heap m) (N : News h₀ L s.heap news) (ha : (a, W.listOf xs n) ∈ news) (hb : (b, W.listOf ys k) ∈ news)
    (h : ∀ D h', Fr h₀ L h' m → News h₀ L h' ((D, W.listOf (xs ++ ys) 0) :: news) → (∀ p ∈ news, p.1 < D) → Q (.ref D) { s with heap := h' })
    (hz : xs.size + ys.size ≤ 1048576) : wpAny (model prog w) A (binaryOp .Add (.ref a) (.ref b)) Q E s := by
  refine kmk_add_lit (its := xs) (its2 := ys) (zs := (xs ++ ys).toList) F N ⟨_, (N _ ha).1, rfl, _, rfl⟩ ⟨_, (N _ hb).1, rfl, _, rfl⟩ (by simp) (fun D h' F' N' l => ?_) (by simpa [sizeLine_eq] using (by (first | lia | omega) : xs.size + ys.size ≤ 16777216))
  rw [Array.toArray_toList] at N'
  exact h D h' F' N' l
theorem word_no3 {z : List Nat} (h : z ≠ [48] ∧ z ≠ [49] ∧ z ≠ [50]) : ([PySem.Str.ofString "0", PySem.Str.ofString "1", PySem.Str.ofString "2"] : List PySem.Str).any (· == ⟨z.toArray⟩) = false := by
  have e : ∀ c, PySem.Str.ofString c = (⟨(PySem.Str.ofString c).cps.toList.toArray⟩ : PySem.Str) := fun c => by simp
  have k : ∀ (x : List Nat), z ≠ x → ((⟨x.toArray⟩ : PySem.Str) == ⟨z.toArray⟩) = false := fun x hx => beq_eq_false_iff_ne.mpr fun q => hx (by
    have := congrArg (fun y : PySem.Str => y.cps.toList) q
    simpa using this.symm)
  have e0 : PySem.Str.ofString "0" = ⟨[48].toArray⟩ := by decide
  have e1 : PySem.Str.ofString "1" = ⟨[49].toArray⟩ := by decide
  have e2 : PySem.Str.ofString "2" = ⟨[50].toArray⟩ := by decide
  rw [e0, e1, e2]
  simp only [List.any_cons, List.any_nil, k _ h.1, k _ h.2.1, k _ h.2.2, Bool.or_false]
end
noncomputable def NoteAll (w : World) (f c' x d fs cl cb bl : Addr) (fo oc ol ob obl : Obj) (b0 b1 b2 : PySem.Str) : Prop :=
  NoteWord w f c' x d fs cl cb bl fo oc ol ob obl ∧ ∀ j b, (j = 0 ∧ b = b0 ∨ j = 1 ∧ b = b1 ∨ j = 2 ∧ b = b2) → NoteNum w f c' x d fs cl cb bl fo oc ol ob obl j b
theorem note_pick {w : World} {b0 b1 b2 : PySem.Str} {g h : Heap} {L f c' x d fs cl cb bl : Addr} {fo oc ox od ofs ol ob obl : Obj} {nl pb sx sd tb : En} (_N : News g L h [nl, (f, fo), (c', oc), (x, ox), (d, od), pb, (fs, ofs), sx, sd, (cl, ol), (cb, ob), (bl, obl), tb])
    (k : NoteAll w f c' x d fs cl cb bl fo oc ol ob obl b0 b1 b2) : NoteAll w f c' x d fs cl cb bl fo oc ol ob obl b0 b1 b2 := k
theorem new_none {s : Shared} {g h : Heap} {L a : Addr} {o : Obj} {foot news : List En} (hg : g = hideAll s.heap (foot.map (·.1))) (N : News g L h news) (hm : (a, o) ∈ news) (hlt : ∀ q ∈ foot, q.1 ≠ a) : s.heap.get? a = none := by
  cases e : s.heap.get? a with
  | none => rfl
  | some o' =>
    have h1 := (N _ hm).2.2
    rw [hg] at h1
    have h2 : (hideAll s.heap (foot.map (·.1))).get? a = some o' := hideAll_iff.mpr ⟨e, fun hmm => by
      obtain ⟨q, hq, e2⟩ := List.mem_map.mp hmm
      exact hlt q hq e2⟩
    rw [h2] at h1
    cases h1

theorem num_in3 {j : Nat} (h : j = 0 ∨ j = 1 ∨ j = 2) : ([PySem.Str.ofString "0", PySem.Str.ofString "1", PySem.Str.ofString "2"] : List PySem.Str).any (· == ⟨#[48 + j]⟩) = true := by
  rcases h with rfl | rfl | rfl <;> decide
theorem num_text {j : Nat} (h : j = 0 ∨ j = 1 ∨ j = 2) : PySem.intText? ⟨#[48 + j]⟩ = some (j : Int) := by
  rcases h with rfl | rfl | rfl <;> decide +kernel
theorem num_item {b b0 b1 b2 : PySem.Str} (t0 t1 t2 : Tok) {j : Nat} (b3 : PySem.Str) (t3 : Tok) (h : j = 0 ∧ b = b0 ∨ j = 1 ∧ b = b1 ∨ j = 2 ∧ b = b2) : ∃ tb, ([.str b0 t0, .str b1 t1, .str b2 t2, .str b3 t3] : List Value)[j]? = some (.str b tb) := by
  rcases h with ⟨rfl, rfl⟩ | ⟨rfl, rfl⟩ | ⟨rfl, rfl⟩
  · exact ⟨t0, rfl⟩
  · exact ⟨t1, rfl⟩
  · exact ⟨t2, rfl⟩
section
variable {prog : Program} {w : World} {A : Around} {s : Shared} {E Q : Value → Shared → Prop}
theorem item_at {value slice : Expr} {h₀ : Heap} {L l : Addr} {news : List En} {vs : List Value} {n j : Nat} {u : Tok} {v : Value} (N : News h₀ L s.heap news) (hm : (l, W.listOf vs.toArray n) ∈ news) (hx : vs[j]? = some v) (hj : j < 3) (h : Q v s)
    (hs : subscripted slice false (.ref l) (.int (j : Int) u) = operate [.ref l, .int (j : Int) u] (getItem (.ref l) (.int (j : Int) u)) := by with_unfolding_all rfl) : wpAny (model prog w) A (subscriptTail value slice (.ref l) (.int (j : Int) u)) Q E s :=
  have hl : s.heap.IsList l vs.toArray := ⟨_, (N _ hm).1, rfl, _, rfl⟩
  tail_any hl.typeIs slot_list_getitem.lookup (wpAny_getItem_list hl (by (first | lia | omega)) (by (first | lia | omega)) (by simpa using hx) h) hs
end

end
section
theorem note_hide {w : World} {b0 b1 b2 : PySem.Str} {g h : Heap} {L f c' x d fs cl cb bl : Addr} {fd : FuncData} {oc ox od ofs ol ob obl : Obj} {nl pb sx sd tb : En} (N : News g L h [nl, (f, { cls := .type "function", data := .func fd }), (c', oc), (x, ox), (d, od), pb, (fs, ofs), sx, sd, (cl, ol), (cb, ob), (bl, obl), tb])
    (k : NoteAll w f c' x d fs cl cb bl { cls := .type "function", data := .func fd } oc ol ob obl b0 b1 b2) : ∃ fd : FuncData, News g L h [nl, (f, { cls := .type "function", data := .func fd }), (c', oc), (x, ox), (d, od), pb, (fs, ofs), sx, sd, (cl, ol), (cb, ob), (bl, obl), tb] ∧ NoteAll w f c' x d fs cl cb bl { cls := .type "function", data := .func fd } oc ol ob obl b0 b1 b2 := ⟨fd, N, k⟩
section
variable {w : World} {A₀ A : Around} {s : Shared} {base h₀ : Heap} {outer : List Env} {env : Env} {L : Addr} {m : PySem.Str → Option Value} {news n1 n2 : List (Addr × Obj)} {p : Program} {loose : List PySem.Str} {mean : ExcName → Option Value} {mg mb : PySem.Str → Option Value} {foot : List (Addr × Obj)} {h' : Heap}
theorem back_none (F : Fr h₀ L s.heap m) {a : Addr} {o : Obj} (ha : h'.get? a = some o) (hn : s.heap.get? a = none) : h'.get? a = some o ∧ a ≠ L ∧ h₀.get? a = none := by
  refine ⟨ha, fun e => ?_, ?_⟩
  · obtain ⟨oL, es, ep, hL, r⟩ := F.ns
    rw [← e, hn] at hL
    cases hL
  · cases e : h₀.get? a with
    | none => rfl
    | some o' => have := F.keep _ _ e; rw [hn] at this; cases this
theorem news_ne (N : News h₀ L s.heap news) {a : Addr} (hn : s.heap.get? a = none) : ∀ q ∈ news, q.1 ≠ a := fun q hq e => by
  have := (N q hq).1
  rw [e, hn] at this
  cases this
variable {dep un : Nat} {gs : Option (List Code)} {E Q : Value → Shared → Prop} {f c' x d fs cl cb bl nl : Addr} {fo oc ol ob obl : Obj} {hs : Nat → Int} {ts : Nat → Tok} {inst : Value} {infile : PySem.Str} {ti : Tok} {state : Value} {pb : Addr} {lineno : Int} {tl tt : Tok} {kst : Int} {refs : List Value} {xs : Array Value} {n : Nat} {t : Tok}
theorem note_word_use {z : List Nat} (k : NoteWord w f c' x d fs cl cb bl fo oc ol ob obl) (hz : z ≠ [48] ∧ z ≠ [49] ∧ z ≠ [50])
    (hm : ∀ q ∈ noteFoot f c' x d fs cl cb bl nl fo oc ol ob obl hs ts inst infile ti state pb lineno tl tt kst refs xs n, q ∈ news) (hap : Apart ((noteFoot f c' x d fs cl cb bl nl fo oc ol ob obl hs ts inst infile ti state pb lineno tl tt kst refs xs n).map (·.1)))
    (B : Below A₀ base outer h₀) (F : Fr h₀ L s.heap m) (X : (hd.heap_39 w.params).In h₀) (N : News h₀ L s.heap news) (T : Top p loose mean mg mb h₀) (hf : env.frame = some L) (hke : env.scope.kind = .function)
    (hr : refs.length ≤ 100) (hx : xs.size ≤ 1000000) (hD : dep < 600) (hU : un < 4000)
    (h : ∀ h' tk' a D tc, Fr h₀ L h' m → News h₀ L h' ((D, W.listOf (xs ++ #[.ref a]) 0) :: (a, { cls := .type "tuple", data := .seq #[.str infile ti, .int lineno tl, .int refs.length tc, .str ⟨z.toArray⟩ t] }) :: news) → (∀ q ∈ news, q.1 ≠ a) → (∀ q ∈ news, q.1 ≠ D) → @Ne Nat a D → Q (.ref D) { s with heap := h', toks := tk' }) :
    wpAny (model PR w) (AA none dep (env :: outer) gs un) (call (.ref f) [.ref nl, .str ⟨z.toArray⟩ t]) Q E s := by
  refine k hz hr hx hD hU (On.of B F X N T rfl hf hke hm hap) fun h' tk' a D tc hk hst ha hD hlt hga hgD => ?_
  refine h h' tk' a D tc (back_fr F N hm hk) (fun q hq => ?_) (news_ne N ha) (news_ne N hD) (Nat.ne_of_lt hlt)
  rcases List.mem_cons.mp hq with rfl | hq
  · exact back_none F hgD hD
  · rcases List.mem_cons.mp hq with rfl | hq
    · exact back_none F hga ha
    · exact back_same N hm hk hst q hq
theorem note_num_use {j : Nat} {b : PySem.Str} {sx0 : Addr} {n1 n2 : Addr → Addr → Tok → Tok → List (Addr × Obj)} (k : NoteNum w f c' x d fs cl cb bl fo oc ol ob obl j b)
    (hm : ∀ q ∈ noteFoot f c' x d fs cl cb bl nl fo oc ol ob obl hs ts (.ref sx0) infile ti state pb lineno tl tt kst refs xs n, q ∈ news) (hap : Apart ((noteFoot f c' x d fs cl cb bl nl fo oc ol ob obl hs ts (.ref sx0) infile ti state pb lineno tl tt kst refs xs n).map (·.1)))
    (U : ∀ sx ta ti' tl', Upd d (dictOf (lexD hs ts (.ref sx0) infile ti state pb lineno tl (PySem.Str.ofString "") tt fs wcs) 19) (dictOf (lexD hs ts (.ref sx) ⟨#[48 + j]⟩ ti' state pb 1 tl' (PySem.Str.ofString "") tt fs wcs) 19) news (n1 sx ta ti' tl'))
    (V : ∀ sx ta ti' tl', Upd fs (dqO kst refs) (dqO (kst + 1) (.ref ta :: refs)) (n1 sx ta ti' tl') (n2 sx ta ti' tl'))
    (B : Below A₀ base outer h₀) (F : Fr h₀ L s.heap m) (X : (hd.heap_39 w.params).In h₀) (N : News h₀ L s.heap news) (T : Top p loose mean mg mb h₀) (hf : env.frame = some L) (hke : env.scope.kind = .function)
    (hr : refs.length ≤ 100) (hx : xs.size ≤ 1000000) (hD : dep < 600) (hU : un < 4000)
    (h : ∀ h' tk' ta sx sd hs2 ts2 tp ti' tl', Fr h₀ L h' m → News h₀ L h' ((ta, { cls := .type "tuple", data := .seq #[.str infile ti, .ref sx0, .int lineno tl] }) :: (sx, instObj 597 sd) :: (sd, dictOf (sioD hs2 ts2 b 0 tp) 3) :: n2 sx ta ti' tl') →
      (∀ q ∈ news, q.1 ≠ ta ∧ q.1 ≠ sx ∧ q.1 ≠ sd) → @LT.lt Nat _ sd sx → @LT.lt Nat _ sx ta → Q (.ref nl) { s with heap := h', toks := tk' }) :
    wpAny (model PR w) (AA none dep (env :: outer) gs un) (call (.ref f) [.ref nl, .str ⟨#[48 + j]⟩ t]) Q E s := by
  have hne : fs ≠ d := by
    simp only [noteFoot, List.map, Apart, AllNe, and_true] at hap
    exact fun e => hap.2.2.2.1.1 e.symm
  refine k hr hx hD hU (On.of B F X N T rfl hf hke hm hap) fun h' tk' ta sx sd hs2 ts2 tp ti' tl' hk hst hsd hsx hta hl1 hl2 ga gb gc => ?_
  have hst' := hst
  simp only [noteFoot, List.forall_mem_cons] at hst'
  obtain ⟨g1, g2, g3, g4, g5, g6, g7, g8, g9, -⟩ := hst'
  refine h h' tk' ta sx sd hs2 ts2 tp ti' tl' (back_fr F N hm hk) (fun q hq => ?_) (fun q hq => ⟨news_ne N hta q hq, news_ne N hsx q hq, news_ne N hsd q hq⟩) hl1 hl2
  rcases List.mem_cons.mp hq with rfl | hq
  · exact back_none F ga hta
  · rcases List.mem_cons.mp hq with rfl | hq
    · exact back_none F gb hsx
    · rcases List.mem_cons.mp hq with rfl | hq
      · exact back_none F gc hsd
      · refine back_upd2 N hm hk (U sx ta ti' tl') (V sx ta ti' tl') hne g4 g5 (fun q hq n1 n2 => ?_) q hq
        simp only [noteFoot, List.mem_cons, List.not_mem_nil, or_false] at hq
        rcases hq with rfl | rfl | rfl | rfl | rfl | rfl | rfl | rfl | rfl
        · exact g1
        · exact g2
        · exact g3
        · exact absurd rfl n1
        · exact absurd rfl n2
        · exact g6
        · exact g7
        · exact g8
        · exact g9
end
theorem noteFoot_sub {lx : Lex} {kst : Int} {state : Value} {tt : Tok} {c : Strm} {stack : List (Addr × Strm)} {no : List En} {f c' cl cb bl nl : Addr} {fo oc ol ob obl : Obj} {xs : Array Value} {n : Nat} {R : List Nat}
    (hap : Apart ((lexLed lx kst state tt c stack ++ ((nl, W.listOf xs n) :: (f, fo) :: (c', oc) :: (cl, ol) :: (cb, ob) :: (bl, obl) :: no)).map (·.1)))
    (_e : R = [f, c', lx.x, lx.d, lx.fs, cl, cb, bl, nl]) : Apart [f, c', lx.x, lx.d, lx.fs, cl, cb, bl, nl] := by
  have h1 : List.Sublist [lx.x, lx.d, lx.fs, nl, f, c', cl, cb, bl] ((lexLed lx kst state tt c stack ++ ((nl, W.listOf xs n) :: (f, fo) :: (c', oc) :: (cl, ol) :: (cb, ob) :: (bl, obl) :: no)).map (·.1)) := by
    rw [List.map_append, led_addrs]
    refine List.Sublist.append (l₁ := [lx.x, lx.d, lx.fs]) (r₁ := [nl, f, c', cl, cb, bl]) ?_ ?_
    · exact .cons₂ _ (.cons₂ _ (.cons _ (.cons₂ _ (List.nil_sublist _))))
    · exact .cons₂ _ (.cons₂ _ (.cons₂ _ (.cons₂ _ (.cons₂ _ (.cons₂ _ (List.nil_sublist _))))))
  have h2 := apart_iff.mp (apart_sub hap h1)
  refine apart_iff.mpr ((List.Perm.nodup_iff ?_).mp h2)
  have key : ∀ a1 a2 a3 a4 a5 a6 a7 a8 a9 : Nat, [a1, a2, a3, a4, a5, a6, a7, a8, a9].Perm [a5, a6, a1, a2, a3, a7, a8, a9, a4] := by
    intros
    refine List.perm_iff_count.mpr fun a => ?_
    simp only [List.count_cons, List.count_nil]
    lia
  exact key _ _ _ _ _ _ _ _ _

end
section
noncomputable abbrev flatLed (lx : Lex) (kst : Int) (st : Value) (tt : Tok) (c : Strm) (stack : List (Addr × Strm)) (k6 no : List En) : List En :=
  lexHead lx kst st tt c (stack.map fun e => .ref e.1) ++ (strmObjs c ++ (k6 ++ (tailObjs stack ++ no)))
theorem noteObj_of {T : Txs} {sp : List Nat → List Nat} {c : Strm} {i r d : Nat} {z : List Nat} (hc : Rep T sp c (i, r + 1)) {t : Tok} (tc : Tok) :
    ({ cls := .type "tuple", data := .seq #[.str c.infile c.ti, .int c.lineno c.tl, .int (d : Int) tc, .str ⟨z.toArray⟩ t] } : Obj) = noteObj ⟨i, r + 2, d, z⟩ c.ti c.tl tc t := by
  have e1 := hc.infile
  have e2 := hc.lineno
  dsimp only at e1 e2
  rw [e1, e2]
  show _ = ({ cls := .type "tuple", data := .seq #[.str ⟨#[48 + i]⟩ c.ti, .int ((r + 2 : Nat) : Int) c.tl, .int (d : Int) tc, .str ⟨z.toArray⟩ t] } : Obj)
  rw [show (((r + 1 : Nat) : Int) + 1) = ((r + 2 : Nat) : Int) by (first | lia | omega)]
theorem loop_word {w : World} {T : Txs} {sp : List Nat → List Nat} {ns dn ns' : List Note} {s : Shared} {g h : Heap} {L a D : Addr} {nl0 nlo f cd cl cb bl ix dx pb fs : En} {lx : Lex} {c : Strm} {stack : List (Addr × Strm)} {i r n tk : Nat} {rest : List (Nat × Nat)} {no : List En} {z : List Nat} {t tst tt tc : Tok} {kst : Int} {u : Option Value}
    (hns : ns = dn ++ (⟨i, r + 2, rest.length, z⟩ :: ns')) (he : Exs T ((i, r + 1) :: rest) ns' n) (hc : Rep T sp c (i, r + 1)) (hs : Reps T sp stack rest) (hdn : Dn i rest) (hno : NotesAt no dn)
    (hap : Apart ((lexLed lx kst (.str St.s.str tst) tt c stack ++ (nlo :: f :: cd :: cl :: cb :: bl :: no)).map (·.1)))
    (hA : ∀ q ∈ flatLed lx kst (.str St.s.str tst) tt c stack [nlo, f, cd, cl, cb, bl] no, q.1 ≠ a) (hD : ∀ q ∈ flatLed lx kst (.str St.s.str tst) tt c stack [nlo, f, cd, cl, cb, bl] no, q.1 ≠ D) (hne : @Ne Nat a D)
    (F : Fr g L h (rdM f.1 ix.1 nl0.1 D u))
    (N : News g L h ((D, W.listOf ((no.map fun p => Value.ref p.1).toArray ++ #[.ref a]) 0) :: (a, { cls := .type "tuple", data := .seq #[.str c.infile c.ti, .int c.lineno c.tl, .int ((stack.map fun e => Value.ref e.1).length : Int) tc, .str ⟨z.toArray⟩ t] }) :: flatLed lx kst (.str St.s.str tst) tt c stack [nlo, f, cd, cl, cb, bl] no))
    (e1 : lx.x = ix.1) (e2 : lx.d = dx.1) (e3 : lx.pb = pb.1) (e4 : lx.fs = fs.1) :
    LoopInv w T sp ns s g L nl0 f cd cl cb bl ix dx pb fs n { s with heap := h, toks := tk } := by
  have hlen : (stack.map fun e => Value.ref e.1).length = rest.length := by rw [List.length_map]; exact hs.length
  rw [hlen, noteObj_of hc] at N
  refine ⟨lx, c, stack, (i, r + 1), rest, no ++ [(a, noteObj ⟨i, r + 2, rest.length, z⟩ c.ti c.tl tc t)], dn ++ [⟨i, r + 2, rest.length, z⟩], ns', D, h, tk, kst, tst, tt, u, rfl, e1, e2, e3, e4, he, ?_, hno.snoc, hc, hs, hdn, ?_, F, ?_⟩
  · rw [hns]; simp
  · have base : ((lexLed lx kst (.str St.s.str tst) tt c stack ++ (f :: cd :: cl :: cb :: bl :: no)).map (·.1)).Nodup := apart_iff.mp (apart_sub hap (List.Sublist.map _ ((List.Sublist.refl _).append (.cons _ (.refl _)))))
    have mem : ∀ x ∈ (lexLed lx kst (.str St.s.str tst) tt c stack ++ (f :: cd :: cl :: cb :: bl :: no)).map (·.1), ∃ q ∈ flatLed lx kst (.str St.s.str tst) tt c stack [nlo, f, cd, cl, cb, bl] no, q.1 = x := fun x hx => by
      obtain ⟨q, hq, e⟩ := List.mem_map.mp hx
      refine ⟨q, led_reorder.mpr ?_, e⟩
      rcases List.mem_append.mp hq with hq | hq
      · exact List.mem_append_left _ hq
      · exact List.mem_append_right _ (.tail _ hq)
    have key : (a :: D :: (lexLed lx kst (.str St.s.str tst) tt c stack ++ (f :: cd :: cl :: cb :: bl :: no)).map (·.1)).Nodup := by
      refine List.nodup_cons.mpr ⟨fun hm => ?_, List.nodup_cons.mpr ⟨fun hm => ?_, base⟩⟩
      · rcases List.mem_cons.mp hm with e | hm
        · exact hne e
        · obtain ⟨q, hq, e⟩ := mem _ hm
          exact hA q hq e
      · obtain ⟨q, hq, e⟩ := mem _ hm
        exact hD q hq e
    refine apart_iff.mpr ((List.Perm.nodup_iff ?_).mp key)
    refine List.perm_iff_count.mpr fun b => ?_
    simp only [List.map_append, List.map_cons, List.map_nil, List.count_append, List.count_cons, List.count_nil]
    lia
  · intro q hq
    rcases List.mem_append.mp hq with hq | hq
    · exact N q (.tail _ (.tail _ (led_reorder.mpr (List.mem_append_left _ hq))))
    · rcases List.mem_cons.mp hq with rfl | hq
      · have := N _ (.head _)
        simpa using this
      · have six : ∀ q ∈ [f, cd, cl, cb, bl] ++ no, News g L h [q] := fun q hq q' hq' => by
          rw [List.mem_singleton.mp hq']
          exact N q (.tail _ (.tail _ (led_reorder.mpr (List.mem_append_right _ (.tail _ hq)))))
        have hq2 : q ∈ [f, cd, cl, cb, bl] ++ (no ++ [(a, noteObj ⟨i, r + 2, rest.length, z⟩ c.ti c.tl tc t)]) := hq
        rw [← List.append_assoc] at hq2
        rcases List.mem_append.mp hq2 with hq2 | hq2
        · exact six q hq2 q (.head _)
        · rw [List.mem_singleton.mp hq2]
          exact N _ (.tail _ (.head _))
theorem reorder7 {A B C D K T O : List En} {q : En} (h : q ∈ (C ++ (B ++ ((A ++ D) ++ T))) ++ (K ++ O)) : q ∈ A ++ (B ++ (C ++ (D ++ (K ++ (T ++ O))))) := by
  simp only [List.mem_append] at h ⊢
  rcases h with ((h | h | (h | h) | h) | h | h) <;> simp [h]
theorem loop_num {w : World} {T : Txs} {sp : List Nat → List Nat} {ns dn ns' : List Note} {s : Shared} {g h : Heap} {L ta sx sd : Addr} {nl0 f cd cl cb bl ix dx pb fs : En} {lx : Lex} {c : Strm} {stack : List (Addr × Strm)} {i r j n tk : Nat} {rest : List (Nat × Nat)} {no : List En} {tst tt ti' tl' tp : Tok} {kst : Int} {u : Option Value} {hs2 : Nat → Int} {ts2 : Nat → Tok} {b : PySem.Str} {nl : Addr}
    (hns : ns = dn ++ ns') (he : Exs T ((j, 0) :: (i, r + 1) :: rest) ns' n) (hc : Rep T sp c (i, r + 1)) (hs : Reps T sp stack rest) (hdn : Dn i rest) (hji : j < i) (hno : NotesAt no dn)
    (hT : b.cps.toList = bodyOf ((T j).map fun it => (sp it.word, it.word))) (hsp : ∀ i, ∀ it ∈ T i, scan (sp it.word) .s false [] = some it.word) (hb : b.length ≤ 4000)
    (hap : Apart ((lexLed lx kst (.str St.s.str tst) tt c stack ++ ((nl, W.listOf (no.map fun p => Value.ref p.1).toArray 0) :: f :: cd :: cl :: cb :: bl :: no)).map (·.1)))
    (hA : ∀ q ∈ flatLed lx kst (.str St.s.str tst) tt c stack [(nl, W.listOf (no.map fun p => Value.ref p.1).toArray 0), f, cd, cl, cb, bl] no, q.1 ≠ ta ∧ q.1 ≠ sx ∧ q.1 ≠ sd) (hl1 : @LT.lt Nat _ sd sx) (hl2 : @LT.lt Nat _ sx ta)
    (F : Fr g L h (rdM f.1 ix.1 nl0.1 nl u))
    (N : News g L h ((ta, { cls := .type "tuple", data := .seq #[.str c.infile c.ti, .ref c.sx, .int c.lineno c.tl] }) :: (sx, instObj 597 sd) :: (sd, dictOf (sioD hs2 ts2 b 0 tp) 3) :: (lx.x, instObj 732 lx.d) :: (lx.d, dictOf (lexD lx.hs lx.ts (.ref sx) ⟨#[48 + j]⟩ ti' (.str St.s.str tst) lx.pb 1 tl' (PySem.Str.ofString "") tt lx.fs wcs) 19) :: (lx.pb, dqO lx.k1 []) :: (lx.fs, dqO (kst + 1) (.ref ta :: (stack.map fun e => .ref e.1))) ::
      (strmObjs c ++ ([(nl, W.listOf (no.map fun p => Value.ref p.1).toArray 0), f, cd, cl, cb, bl] ++ (tailObjs stack ++ no)))))
    (e1 : lx.x = ix.1) (e2 : lx.d = dx.1) (e3 : lx.pb = pb.1) (e4 : lx.fs = fs.1) :
    LoopInv w T sp ns s g L nl0 f cd cl cb bl ix dx pb fs n { s with heap := h, toks := tk } := by
  refine ⟨lx, ⟨sx, sd, hs2, ts2, ⟨#[48 + j]⟩, ti', 1, tl', b, [], (T j).map fun it => (sp it.word, it.word), tp⟩, (ta, c) :: stack, (j, 0), (i, r + 1) :: rest, no, dn, ns', nl, h, tk, kst + 1, tst, tt, u, rfl, e1, e2, e3, e4, he, hns, hno, ⟨⟨?_, ?_, hb⟩, rfl, rfl, rfl, Nat.zero_le _⟩, .cons hc hs, ⟨hji, hdn⟩, ?_, F, ?_⟩
  · rw [hT]; rfl
  · intro p hp
    obtain ⟨it, hit, rfl⟩ := List.mem_map.mp hp
    exact hsp j it hit
  · have base := apart_iff.mp hap
    have mem : ∀ x ∈ (lexLed lx kst (.str St.s.str tst) tt c stack ++ ((nl, W.listOf (no.map fun p => Value.ref p.1).toArray 0) :: f :: cd :: cl :: cb :: bl :: no)).map (·.1), x ≠ ta ∧ x ≠ sx ∧ x ≠ sd := fun x hx => by
      obtain ⟨q, hq, e⟩ := List.mem_map.mp hx
      exact e ▸ hA q (led_reorder.mpr hq)
    have key : (ta :: sx :: sd :: (lexLed lx kst (.str St.s.str tst) tt c stack ++ ((nl, W.listOf (no.map fun p => Value.ref p.1).toArray 0) :: f :: cd :: cl :: cb :: bl :: no)).map (·.1)).Nodup := by
      have hn1 : @Ne Nat ta sx := Nat.ne_of_gt hl2
      have hn2 : @Ne Nat ta sd := Nat.ne_of_gt (Nat.lt_trans hl1 hl2)
      have hn3 : @Ne Nat sx sd := Nat.ne_of_gt hl1
      refine List.nodup_cons.mpr ⟨fun hm => ?_, List.nodup_cons.mpr ⟨fun hm => ?_, List.nodup_cons.mpr ⟨fun hm => ?_, base⟩⟩⟩
      · rcases List.mem_cons.mp hm with e | hm
        · exact hn1 e
        · rcases List.mem_cons.mp hm with e | hm
          · exact hn2 e
          · exact (mem _ hm).1 rfl
      · rcases List.mem_cons.mp hm with e | hm
        · exact hn3 e
        · exact (mem _ hm).2.1 rfl
      · exact (mem _ hm).2.2 rfl
    refine apart_iff.mpr ((List.Perm.nodup_iff ?_).mp key)
    refine List.perm_iff_count.mpr fun b => ?_
    rw [List.map_append, List.map_append, led_addrs, led_addrs]
    simp only [List.map_cons, List.map_nil, List.count_append, List.count_cons, List.count_nil, List.flatMap_cons]
    lia
  · intro q hq
    exact N q (reorder7 (A := [_]) (B := [_, _]) (C := [_, _, _, _]) (D := strmObjs c) (K := [_, _, _, _, _, _]) (T := tailObjs stack) (O := no) hq)
theorem NotesAt.length {no : List En} {ns : List Note} (h : NotesAt no ns) : no.length = ns.length := by
  induction h with
  | nil => rfl
  | snoc h ih => simp [ih]
theorem rdM_next {f x nl0 nl D : Addr} {u : Option Value} {v : Value} : (fun y => if y = PySem.Str.ofString "value" then some (Value.ref D) else if y = PySem.Str.ofString "element" then some v else rdM f x nl0 nl u y) = rdM f x nl0 D (some v) := by
  have h1 : PySem.Str.ofString "value" ≠ PySem.Str.ofString "element" := by decide
  funext y
  by_cases e1 : y = PySem.Str.ofString "value"
  · subst e1; simp only [rdM, if_true]; rw [if_neg h1]
  · by_cases e2 : y = PySem.Str.ofString "element"
    · subst e2; simp only [rdM, if_neg e1, if_true]
    · simp only [rdM, if_neg e1, if_neg e2]
theorem NoteAll.num {w : World} {b0 b1 b2 : PySem.Str} {f c' x d fs cl cb bl : Addr} {fo oc ol ob obl : Obj} {j : Nat} (k : NoteAll w f c' x d fs cl cb bl fo oc ol ob obl b0 b1 b2) (hj : j < 3) :
    ∃ b, NoteNum w f c' x d fs cl cb bl fo oc ol ob obl j b ∧ (b = b0 ∧ j = 0 ∨ b = b1 ∧ j = 1 ∨ b = b2 ∧ j = 2) := by
  match j, hj with
  | 0, _ => exact ⟨b0, k.2 0 b0 (.inl ⟨rfl, rfl⟩), .inl ⟨rfl, rfl⟩⟩
  | 1, _ => exact ⟨b1, k.2 1 b1 (.inr (.inl ⟨rfl, rfl⟩)), .inr (.inl ⟨rfl, rfl⟩)⟩
  | 2, _ => exact ⟨b2, k.2 2 b2 (.inr (.inr ⟨rfl, rfl⟩)), .inr (.inr ⟨rfl, rfl⟩)⟩
theorem flat_nodup {lx : Lex} {kst : Int} {st : Value} {tt : Tok} {c : Strm} {stack : List (Addr × Strm)} {k6 no : List En} (hap : Apart ((lexLed lx kst st tt c stack ++ (k6 ++ no)).map (·.1))) : ((flatLed lx kst st tt c stack k6 no).map (·.1)).Nodup := by
  have p4 : ∀ H S T K N : List En, ((H ++ (S ++ T)) ++ (K ++ N)).Perm (H ++ (S ++ (K ++ (T ++ N)))) := fun H S T K N => by
    rw [List.append_assoc, List.append_assoc]
    exact .append_left H (.append_left S (List.perm_append_comm_assoc T K N))
  exact (List.Perm.nodup_iff ((p4 _ _ _ _ _).map _)).mp (apart_iff.mp hap)
theorem upd_split {d : Addr} {o o' : Obj} : ∀ {pre post : List En}, ((pre ++ (d, o) :: post).map (·.1)).Nodup → Upd d o o' (pre ++ (d, o) :: post) (pre ++ (d, o') :: post)
  | [], post, h => .head fun p hp e => (List.nodup_cons.mp (show (d :: post.map (·.1)).Nodup from h)).1 (List.mem_map.mpr ⟨p, hp, e⟩)
  | q :: pre, post, h => by
    have h' := List.nodup_cons.mp (show (q.1 :: (pre ++ (d, o) :: post).map (·.1)).Nodup from h)
    exact .tail (fun e => h'.1 (List.mem_map.mpr ⟨(d, o), List.mem_append_right _ (.head _), e.symm⟩)) (upd_split h'.2)
theorem num_upd1 {lx : Lex} {kst : Int} {tst tt : Tok} {c : Strm} {stack : List (Addr × Strm)} {k6 no : List En} {j : Nat} {sx : Addr} {ti' tl' : Tok} (hap : Apart ((lexLed lx kst (.str St.s.str tst) tt c stack ++ (k6 ++ no)).map (·.1))) :
    Upd lx.d (dictOf (lexD lx.hs lx.ts (.ref c.sx) c.infile c.ti (.str St.s.str tst) lx.pb c.lineno c.tl (PySem.Str.ofString "") tt lx.fs wcs) 19) (dictOf (lexD lx.hs lx.ts (.ref sx) ⟨#[48 + j]⟩ ti' (.str St.s.str tst) lx.pb 1 tl' (PySem.Str.ofString "") tt lx.fs wcs) 19)
      (flatLed lx kst (.str St.s.str tst) tt c stack k6 no)
      ((lx.x, instObj 732 lx.d) :: (lx.d, dictOf (lexD lx.hs lx.ts (.ref sx) ⟨#[48 + j]⟩ ti' (.str St.s.str tst) lx.pb 1 tl' (PySem.Str.ofString "") tt lx.fs wcs) 19) :: (lx.pb, dqO lx.k1 []) :: (lx.fs, dqO kst (stack.map fun e => .ref e.1)) :: (strmObjs c ++ (k6 ++ (tailObjs stack ++ no)))) :=
  upd_split (pre := [(lx.x, instObj 732 lx.d)]) (flat_nodup hap)
theorem num_upd2 {lx : Lex} {kst : Int} {tst tt : Tok} {c : Strm} {stack : List (Addr × Strm)} {k6 no : List En} {o : Obj} {ta : Addr} (hap : Apart ((lexLed lx kst (.str St.s.str tst) tt c stack ++ (k6 ++ no)).map (·.1))) :
    Upd lx.fs (dqO kst (stack.map fun e => .ref e.1)) (dqO (kst + 1) (.ref ta :: stack.map fun e => .ref e.1))
      ((lx.x, instObj 732 lx.d) :: (lx.d, o) :: (lx.pb, dqO lx.k1 []) :: (lx.fs, dqO kst (stack.map fun e => .ref e.1)) :: (strmObjs c ++ (k6 ++ (tailObjs stack ++ no))))
      ((lx.x, instObj 732 lx.d) :: (lx.d, o) :: (lx.pb, dqO lx.k1 []) :: (lx.fs, dqO (kst + 1) (.ref ta :: stack.map fun e => .ref e.1)) :: (strmObjs c ++ (k6 ++ (tailObjs stack ++ no)))) :=
  upd_split (pre := [(lx.x, instObj 732 lx.d), (lx.d, o), (lx.pb, dqO lx.k1 [])]) (flat_nodup hap)

end
section
theorem lines_12 : True := by
  k_with_none
  k_with "execs cons" => (first | (k_fold; (try dsimp only); (try (with_reducible refine gen_toks ?_; intro tk9))) | (with_reducible refine gen_toks ?_; intro tk9))
  k_with "MY nth" => (k_dflt (first | exact @rfl _ (nthO _ 0) | exact @rfl _ (nthO _ 1) | exact @rfl _ (nthO _ 2) | exact @rfl _ (nthO _ 3) | exact @rfl _ (nthO _ 4) | exact @rfl _ (nthO _ 5) | exact @rfl _ (nthO _ 6) | exact @rfl _ (nthO _ 7) | exact @rfl _ (nthO _ 8) | exact @rfl _ (nthO _ 9) | exact @rfl _ (nthO _ 10) | exact @rfl _ (nthO _ 11) | exact @rfl _ (nthO _ 12) | exact @rfl _ (nthO _ 13) | exact @rfl _ (nthO _ 14) | exact @rfl _ (nthO _ 15) | exact @rfl _ (nthO _ 16) | exact @rfl _ (nthO _ 17) | exact @rfl _ (nthO _ 18) | exact @rfl _ (nthO _ 19) | exact @rfl _ (nthO _ 20) | exact @rfl _ (nthO _ 21) | exact @rfl _ (nthO _ 22) | exact @rfl _ (nthO _ 23) | exact @rfl _ (nthO _ 24) | exact @rfl _ (nthO _ 25)))
  k_with "MY nlt" => (first
      | exact NeN.ne (by with_reducible assumption)
      | exact Ne.symm (NeN.ne (by with_reducible assumption))
      | exact Nat.ne_of_gt (by with_reducible assumption)
      | exact Nat.ne_of_lt (by with_reducible assumption)
      | (refine' LtA.ne ?qh ?qe; (case qh => with_reducible assumption); (case qe => k_extra "MY nth"))
      | (refine' LtA.ne' ?qh ?qe; (case qh => with_reducible assumption); (case qe => k_extra "MY nth"))
      | (refine' LtA.neS ?qh ?qe; (case qh => with_reducible assumption); (case qe => k_extra "MY nth"))
      | (refine' LtA.neS' ?qh ?qe; (case qh => with_reducible assumption); (case qe => k_extra "MY nth"))
      | (refine' LtA.neT ?qh ?qe; (case qh => with_reducible assumption); (case qe => k_extra "MY nth"))
      | (refine' LtA.neT' ?qh ?qe; (case qh => with_reducible assumption); (case qe => k_extra "MY nth"))
      | (refine' OffA.ne ?qh ?qe; (case qh => with_reducible assumption); (case qe => k_extra "MY nth"))
      | (refine' OffA.ne' ?qh ?qe; (case qh => with_reducible assumption); (case qe => k_extra "MY nth"))
      | (refine' Apart.at ?qh ?qe ?qf ?qn; (case qh => with_reducible assumption); (case qe => k_extra "MY nth"); (case qf => k_extra "MY nth"); (case qn => exact rfl)))
  k_with "k_all" => ((k_dflt (refine' ltA_off ?qh ?qe; (case qh => with_reducible assumption); (case qe => first | exact @rfl _ (dropO 0 _) | exact @rfl _ (dropO 1 _) | exact @rfl _ (dropO 2 _) | exact @rfl _ (dropO 3 _) | exact @rfl _ (dropO 4 _) | exact @rfl _ (dropO 5 _) | exact @rfl _ (dropO 6 _) | exact @rfl _ (dropO 7 _) | exact @rfl _ (dropO 8 _) | exact @rfl _ (dropO 9 _) | exact @rfl _ (dropO 10 _) | exact @rfl _ (dropO 11 _)))))
  k_with "MY lts" => ((k_dflt (refine' ltA_lts ?qh ?qe; (case qh => with_reducible assumption); (case qe => first | exact @rfl _ (dropO 0 _) | exact @rfl _ (dropO 1 _) | exact @rfl _ (dropO 2 _) | exact @rfl _ (dropO 3 _) | exact @rfl _ (dropO 4 _) | exact @rfl _ (dropO 5 _) | exact @rfl _ (dropO 6 _) | exact @rfl _ (dropO 7 _) | exact @rfl _ (dropO 8 _) | exact @rfl _ (dropO 9 _) | exact @rfl _ (dropO 10 _) | exact @rfl _ (dropO 11 _)))))
  k_with "MY pick" => (first | (refine' LtA.lt ?qh ?qe; (case qh => with_reducible assumption); (case qe => k_extra "MY nth")) | (refine Nat.lt_succ_of_lt ?_; (refine' LtA.lt ?qh ?qe; (case qh => with_reducible assumption); (case qe => k_extra "MY nth"))) | (refine Nat.lt_succ_of_lt (Nat.lt_succ_of_lt ?_); (refine' LtA.lt ?qh ?qe; (case qh => with_reducible assumption); (case qe => k_extra "MY nth"))))
  k_with "MY lt" => (first
      | (refine' lt_le ?qh ?qe; (case qh => assumption); (case qe => exact rfl))
      | (refine' lt_p ?qh ?qe; (case qh => assumption); (case qe => exact rfl))
      | (refine' lt_pp ?qh ?qe; (case qh => assumption); (case qe => exact rfl))
      | (refine' lt_ppp ?qh ?qe; (case qh => assumption); (case qe => exact rfl))
      | (refine' le_le ?qh ?qe; (case qh => assumption); (case qe => exact rfl))
      | decide
      | ((try simp only [LtA] at *); omega))
  k_with "k_ne" => ((refine neN ?_; (try dsimp only); first | k_extra "MY nlt" | omega | ((try simp only [LtA, List.forall_mem_cons] at *); omega)))
  k_with "k_room" => (((try simp only [depth_under_make, depth_under_kw, depth_in1, depth_deeper, depth_caller]); (show _ < 1000); k_dflt (k_extra "MY lt")))
  k_with "MY enterB" => ((refine' code_foot ?k1 ?k2 ?k3 ?k4 ?k5 ?k6 ?k7 ?_ ?c1 ?c2 ?c3 ?c4; (case k1 => assumption); (case k2 => assumption); (case k3 => k_is); (case k4 => k_is); (case k5 => k_room); (case k6 => first | exact BindsTo.of_eq rfl | exact binds_K (by k_in) rfl (by k_is) rfl rfl rfl); (case k7 => exact locs rfl); (case c1 => exact rfl); (case c2 => exact rfl); (case c3 => exact rfl); (case c4 => decide)))
  k_with "MY enter" => ((refine' on_foot ?k1 ?k3 ?k4 ?k5 ?k6 ?k7 ?_ ?c1 ?c2 ?c3 ?c4; (case k1 => assumption); (case k3 => k_is); (case k4 => k_is); (case k5 => k_room); (case k6 => first | exact BindsTo.of_eq rfl | exact binds_K (by k_in) rfl (by k_is) rfl rfl rfl); (case k7 => exact locs rfl); (case c1 => exact rfl); (case c2 => exact rfl); (case c3 => exact rfl); (case c4 => decide); intro bx9 px9 lx9 mx9 gx9 hx9))
  k_with "setAttr ref" => ((k_here; first | ((with_reducible refine' lex_set_state ?k1 ?k2 ?k3 ?k4 ?U ?_); k_dflt ((case k1 => k_asm); (case k2 => k_asm); (case k3 => k_asm); (case k4 => k_mem); (case U => k_upd)); k_whole; intro h' F' N'; (try k_sweep)) | ((with_reducible refine' lex_set_token ?k1 ?k2 ?k3 ?k4 ?U ?_); k_dflt ((case k1 => k_asm); (case k2 => k_asm); (case k3 => k_asm); (case k4 => k_mem); (case U => k_upd)); k_whole; intro h' F' N'; (try k_sweep)) | ((with_reducible refine' lex_set_lineno ?k1 ?k2 ?k3 ?k4 ?U ?_); k_dflt ((case k1 => k_asm); (case k2 => k_asm); (case k3 => k_asm); (case k4 => k_mem); (case U => k_upd)); k_whole; intro h' F' N'; (try k_sweep)) | ((with_reducible refine' lex_set_infile ?k1 ?k2 ?k3 ?k4 ?U ?_); k_dflt ((case k1 => k_asm); (case k2 => k_asm); (case k3 => k_asm); (case k4 => k_mem); (case U => k_upd)); k_whole; intro h' F' N'; (try k_sweep)) | ((with_reducible refine' lex_set_instream ?k1 ?k2 ?k3 ?k4 ?U ?_); k_dflt ((case k1 => k_asm); (case k2 => k_asm); (case k3 => k_asm); (case k4 => k_mem); (case U => k_upd)); k_whole; intro h' F' N'; (try k_sweep))))
  k_with "eval Attribute Name" => ((k_here; k_dflt (refine' self_own ?F ?X ?N ?hv ?h1 ?h2 ?hK ?hl ?hh ?_; (case F => k_asm); (case hv => exact rfl); (case X => k_asm); (case N => k_asm); (case h1 => k_mem); (case hK => first | (with_reducible exact own732_state _) | (with_reducible exact own732_debug _) | (with_reducible exact own732_whitespace _) | (with_reducible exact own732_posix _) | (with_reducible exact own732_token _) | (with_reducible exact own732_quotes _) | (with_reducible exact own732_escape _) | (with_reducible exact own732_wordchars _) | (with_reducible exact own732_commenters _) | (with_reducible exact own732_instream _) | (with_reducible exact own732_lineno _) | (with_reducible exact own732__punctuation_chars _) | (with_reducible exact own732_infile _) | (with_reducible exact own732_eof _) | (with_reducible exact own732_escapedquotes _) | (with_reducible exact own732_whitespace_split _) | (with_reducible exact own732_pushback _) | (with_reducible exact own732_filestack _) | (with_reducible exact own732_source _) | (with_reducible exact own597_buf _) | (with_reducible exact own597_pos _) | (with_reducible exact own597_newline _)); (case h2 => k_mem); (case hl => k_get); (case hh => k_handed); k_whole)))
  k_with "ite" => (first | with_reducible (refine iteT ?_) | with_reducible (refine iteF ?_))
  k_with "CompEnd" => (refine stopMark ?_)
  k_with "eval Name" => ((k_here; (with_reducible show wpAny _ _ (eval (Expr.Name _ _) (compEnvC _ _ _ _)) _ _ _); k_dflt (first
      | refine LCgL.ld_own (by k_asm) (by k_mem) (by assumption) (by assumption) ?_
      | refine LCgL.ld_global (by k_asm) (by k_asm) (by k_asm) (by k_is) ?_
      | refine LCgL.ld_built (by k_asm) (by k_asm) (by k_asm) (by k_is) (by boot_by_name) (by decide) ?_)))
  k_with "eval Name" => ((k_here; (fail_if_success (with_reducible show wpAny _ _ (eval (Expr.Name _ _) (compEnvC _ _ _ _)) _ _ _)); k_dflt (refine' nameX_L ?F ?hv ?_; (case F => k_asm); (case hv => exact rfl); k_whole)))
  k_with "callWith ref" => ((k_here; k_dflt (refine' callWith_K ?k1 ?k2 ?_; (case k1 => k_asm); (case k2 => k_is); k_whole)))
  k_with "exec While" => (refine stopMark ?_)
  k_with "Exists" => (refine stopMark ?_)
  k_with "exec If" => (refine wpAny_If ?_)
  k_with "compareOp In str str" => (first | refine in_yes (by first | assumption | decide +kernel) ?_ | refine in_no (by first | assumption | decide +kernel) ?_)
  k_with "compareOp Eq str str" => (first | refine eq_yes (by first | assumption | rfl) ?_ | refine eq_no (by first | assumption | decide +kernel) ?_ | refine stopMark ?_)
  k_with "truthy str" => (first | refine truthy_sgn ?_ | refine truthy_yes (by assumption) (by first | assumption | omega) ?_ | refine truthy_no (by assumption) ?_)
  k_with "MY steps" => (repeat' (first | (k_unfold; (try dsimp only)) | (k_end; wrow_close) | walk1 | (dsimp only; walk1) | (leave1; try dsimp only) | fail "no step"))
  k_with "MY fin" => (repeat (first | dsimp only | (k_unfold; (try dsimp only))))
  k_with "MY open" => ((
      rename On _ _ _ _ _ => aOn9
      have Gk9 := aOn9.k
      have hap9 := aOn9.apart
      dsimp only [List.map] at hap9
      refine wpAny_call ?_
      k_dflt (k_extra "MY enter")))
  k_with "MY ret" => ((
      rename _ = hideAll _ _ => hgX
      rename Fr _ _ _ _ => kF
      rename News _ _ _ _ => kN
      rename (∀ _ _ _, Kept _ _ _ → _) => retX
      refine' retX _ _ _ (fun b o e => kF.keep b o (hgX ▸ e)) ?_
      (first | exact (fun q hq => (kN q hq).1) | exact ⟨_, fun q hq => (kN q hq).1⟩)))
  trivial
noncomputable abbrev lexD1 (hs : Nat → Int) (ts : Nat → Tok) (inst : Value) (infile : PySem.Str) (ti : Tok) (state : Value) (pb : Addr) (lineno : Int) (tl : Tok) (token : PySem.Str) (tt : Tok) (fs : Addr) (wc : PySem.Str) : List DictEntry :=
  [⟨(hs 0), .str (PySem.Str.ofString "instream") (ts 0), inst⟩, ⟨(hs 1), .str (PySem.Str.ofString "infile") (ts 1), .str infile ti⟩, ⟨(hs 2), .str (PySem.Str.ofString "posix") (ts 2), .bool true⟩, ⟨(hs 3), .str (PySem.Str.ofString "eof") (ts 3), .none⟩, ⟨(hs 4), .str (PySem.Str.ofString "commenters") (ts 4), .str (PySem.Str.ofString "#") (ts 5)⟩, ⟨(hs 5), .str (PySem.Str.ofString "wordchars") (ts 6), .str wc (ts 7)⟩, ⟨(hs 6), .str (PySem.Str.ofString "whitespace") (ts 8), .str (PySem.Str.ofString " \t\r\n") (ts 9)⟩, ⟨(hs 7), .str (PySem.Str.ofString "whitespace_split") (ts 10), .bool true⟩, ⟨(hs 8), .str (PySem.Str.ofString "quotes") (ts 11), .str (PySem.Str.ofString "'\"") (ts 12)⟩, ⟨(hs 9), .str (PySem.Str.ofString "escape") (ts 13), .str (PySem.Str.ofString "\\") (ts 14)⟩, ⟨(hs 10), .str (PySem.Str.ofString "escapedquotes") (ts 15), .str (PySem.Str.ofString "\"") (ts 16)⟩, ⟨(hs 11), .str (PySem.Str.ofString "state") (ts 17), state⟩, ⟨(hs 12), .str (PySem.Str.ofString "pushback") (ts 18), .ref pb⟩, ⟨(hs 13), .str (PySem.Str.ofString "lineno") (ts 19), .int lineno tl⟩, ⟨(hs 14), .str (PySem.Str.ofString "debug") (ts 20), .int 0 (ts 21)⟩, ⟨(hs 15), .str (PySem.Str.ofString "token") (ts 22), .str token tt⟩, ⟨(hs 16), .str (PySem.Str.ofString "filestack") (ts 23), .ref fs⟩, ⟨(hs 17), .str (PySem.Str.ofString "source") (ts 24), .none⟩, ⟨(hs 18), .str (PySem.Str.ofString "_punctuation_chars") (ts 25), .str (PySem.Str.ofString "") (ts 26)⟩]
section
variable {w : World} {A : Around} {s : Shared} {h₀ : Heap} {L : Addr} {m : PySem.Str → Option Value} {news news' : List (Addr × Obj)} {E : Value → Shared → Prop} {Q : Unit → Shared → Prop} {x d : Addr} {hs : Nat → Int} {ts : Nat → Tok} {inst : Value} {infile : PySem.Str} {ti : Tok} {state : Value} {pb : Addr} {lineno : Int} {tl : Tok} {token : PySem.Str} {tt : Tok} {fs : Addr} {wc : PySem.Str}
theorem lex0_ws  (F : Fr h₀ L s.heap m) (X₀ : (hd.heap_39 w.params).In h₀) (N : News h₀ L s.heap news) (hx : (x, instObj 732 d) ∈ news) (U : Upd d (dictOf (lexD0 hs ts inst infile ti state pb lineno tl token tt fs wc) 19) (dictOf (lexD1 hs ts inst infile ti state pb lineno tl token tt fs wc) 19) news news')
    (h : ∀ h', Fr h₀ L h' m → News h₀ L h' news' → Q () { s with heap := h', toks := s.toks + 2 }) : wpAny (model PR w) A (setAttr (.ref x) (PySem.Str.ofString "whitespace_split") (.bool true)) Q E s := by
  have hdm : (d, dictOf (lexD0 hs ts inst infile ti state pb lineno tl token tt fs wc) 19) ∈ news := by
    obtain ⟨a, b, rfl, -⟩ := U.split
    simp
  refine' set_dict F X₀ N (InstAt.of_news N hx hdm) rfl ?k6 ?k7 ?k8 ?k9 ?k10 ?k11 U ?k13 h
  case k6 => k_is
  case k7 => k_is
  case k8 => k_is
  case k9 => k_is
  case k10 => exact rfl
  case k11 => exact rfl
  case k13 => exact Nat.le_of_ble_eq_true rfl
theorem lex1_comm {u : Tok} (F : Fr h₀ L s.heap m) (X₀ : (hd.heap_39 w.params).In h₀) (N : News h₀ L s.heap news) (hx : (x, instObj 732 d) ∈ news) (U : Upd d (dictOf (lexD1 hs ts inst infile ti state pb lineno tl token tt fs wc) 19) (dictOf (lexD hs (fun i => if i = 5 then u else ts i) inst infile ti state pb lineno tl token tt fs wc) 19) news news')
    (h : ∀ h', Fr h₀ L h' m → News h₀ L h' news' → Q () { s with heap := h', toks := s.toks + 2 }) : wpAny (model PR w) A (setAttr (.ref x) (PySem.Str.ofString "commenters") (.str (PySem.Str.ofString "") u)) Q E s := by
  have hdm : (d, dictOf (lexD1 hs ts inst infile ti state pb lineno tl token tt fs wc) 19) ∈ news := by
    obtain ⟨a, b, rfl, -⟩ := U.split
    simp
  refine' set_dict F X₀ N (InstAt.of_news N hx hdm) rfl ?k6 ?k7 ?k8 ?k9 ?k10 ?k11 U ?k13 h
  case k6 => k_is
  case k7 => k_is
  case k8 => k_is
  case k9 => k_is
  case k10 => exact rfl
  case k11 => exact rfl
  case k13 => exact Nat.le_of_ble_eq_true rfl
end

end
section
theorem lines_13 : True := by
  k_with_none
  k_with "execs cons" => (first | (k_fold; (try dsimp only); (try (with_reducible refine gen_toks ?_; intro tk9))) | (with_reducible refine gen_toks ?_; intro tk9))
  k_with "MY nth" => (k_dflt (first | exact @rfl _ (nthO _ 0) | exact @rfl _ (nthO _ 1) | exact @rfl _ (nthO _ 2) | exact @rfl _ (nthO _ 3) | exact @rfl _ (nthO _ 4) | exact @rfl _ (nthO _ 5) | exact @rfl _ (nthO _ 6) | exact @rfl _ (nthO _ 7) | exact @rfl _ (nthO _ 8) | exact @rfl _ (nthO _ 9) | exact @rfl _ (nthO _ 10) | exact @rfl _ (nthO _ 11) | exact @rfl _ (nthO _ 12) | exact @rfl _ (nthO _ 13) | exact @rfl _ (nthO _ 14) | exact @rfl _ (nthO _ 15) | exact @rfl _ (nthO _ 16) | exact @rfl _ (nthO _ 17) | exact @rfl _ (nthO _ 18) | exact @rfl _ (nthO _ 19) | exact @rfl _ (nthO _ 20) | exact @rfl _ (nthO _ 21) | exact @rfl _ (nthO _ 22) | exact @rfl _ (nthO _ 23) | exact @rfl _ (nthO _ 24) | exact @rfl _ (nthO _ 25)))
  k_with "MY nlt" => (first
      | exact NeN.ne (by with_reducible assumption)
      | exact Ne.symm (NeN.ne (by with_reducible assumption))
      | exact Nat.ne_of_gt (by with_reducible assumption)
      | exact Nat.ne_of_lt (by with_reducible assumption)
      | (refine' LtA.ne ?qh ?qe; (case qh => with_reducible assumption); (case qe => k_extra "MY nth"))
      | (refine' LtA.ne' ?qh ?qe; (case qh => with_reducible assumption); (case qe => k_extra "MY nth"))
      | (refine' LtA.neS ?qh ?qe; (case qh => with_reducible assumption); (case qe => k_extra "MY nth"))
      | (refine' LtA.neS' ?qh ?qe; (case qh => with_reducible assumption); (case qe => k_extra "MY nth"))
      | (refine' LtA.neT ?qh ?qe; (case qh => with_reducible assumption); (case qe => k_extra "MY nth"))
      | (refine' LtA.neT' ?qh ?qe; (case qh => with_reducible assumption); (case qe => k_extra "MY nth"))
      | (refine' OffA.ne ?qh ?qe; (case qh => with_reducible assumption); (case qe => k_extra "MY nth"))
      | (refine' OffA.ne' ?qh ?qe; (case qh => with_reducible assumption); (case qe => k_extra "MY nth"))
      | (refine' Apart.at ?qh ?qe ?qf ?qn; (case qh => with_reducible assumption); (case qe => k_extra "MY nth"); (case qf => k_extra "MY nth"); (case qn => exact rfl)))
  k_with "k_all" => ((k_dflt (refine' ltA_off ?qh ?qe; (case qh => with_reducible assumption); (case qe => first | exact @rfl _ (dropO 0 _) | exact @rfl _ (dropO 1 _) | exact @rfl _ (dropO 2 _) | exact @rfl _ (dropO 3 _) | exact @rfl _ (dropO 4 _) | exact @rfl _ (dropO 5 _) | exact @rfl _ (dropO 6 _) | exact @rfl _ (dropO 7 _) | exact @rfl _ (dropO 8 _) | exact @rfl _ (dropO 9 _) | exact @rfl _ (dropO 10 _) | exact @rfl _ (dropO 11 _)))))
  k_with "MY lts" => ((k_dflt (refine' ltA_lts ?qh ?qe; (case qh => with_reducible assumption); (case qe => first | exact @rfl _ (dropO 0 _) | exact @rfl _ (dropO 1 _) | exact @rfl _ (dropO 2 _) | exact @rfl _ (dropO 3 _) | exact @rfl _ (dropO 4 _) | exact @rfl _ (dropO 5 _) | exact @rfl _ (dropO 6 _) | exact @rfl _ (dropO 7 _) | exact @rfl _ (dropO 8 _) | exact @rfl _ (dropO 9 _) | exact @rfl _ (dropO 10 _) | exact @rfl _ (dropO 11 _)))))
  k_with "MY pick" => (first | (refine' LtA.lt ?qh ?qe; (case qh => with_reducible assumption); (case qe => k_extra "MY nth")) | (refine Nat.lt_succ_of_lt ?_; (refine' LtA.lt ?qh ?qe; (case qh => with_reducible assumption); (case qe => k_extra "MY nth"))) | (refine Nat.lt_succ_of_lt (Nat.lt_succ_of_lt ?_); (refine' LtA.lt ?qh ?qe; (case qh => with_reducible assumption); (case qe => k_extra "MY nth"))))
  k_with "MY lt" => (first
      | (refine' lt_le ?qh ?qe; (case qh => assumption); (case qe => exact rfl))
      | (refine' lt_p ?qh ?qe; (case qh => assumption); (case qe => exact rfl))
      | (refine' lt_pp ?qh ?qe; (case qh => assumption); (case qe => exact rfl))
      | (refine' lt_ppp ?qh ?qe; (case qh => assumption); (case qe => exact rfl))
      | (refine' le_le ?qh ?qe; (case qh => assumption); (case qe => exact rfl))
      | decide
      | ((try simp only [LtA] at *); omega))
  k_with "k_ne" => ((refine neN ?_; (try dsimp only); first | k_extra "MY nlt" | omega | ((try simp only [LtA, List.forall_mem_cons] at *); omega)))
  k_with "k_room" => (((try simp only [depth_under_make, depth_under_kw, depth_in1, depth_deeper, depth_caller]); (show _ < 1000); k_dflt (k_extra "MY lt")))
  k_with "MY enterB" => ((refine' code_foot ?k1 ?k2 ?k3 ?k4 ?k5 ?k6 ?k7 ?_ ?c1 ?c2 ?c3 ?c4; (case k1 => assumption); (case k2 => assumption); (case k3 => k_is); (case k4 => k_is); (case k5 => k_room); (case k6 => first | exact BindsTo.of_eq rfl | exact binds_K (by k_in) rfl (by k_is) rfl rfl rfl); (case k7 => exact locs rfl); (case c1 => exact rfl); (case c2 => exact rfl); (case c3 => exact rfl); (case c4 => decide)))
  k_with "MY enter" => ((refine' on_foot ?k1 ?k3 ?k4 ?k5 ?k6 ?k7 ?_ ?c1 ?c2 ?c3 ?c4; (case k1 => assumption); (case k3 => k_is); (case k4 => k_is); (case k5 => k_room); (case k6 => first | exact BindsTo.of_eq rfl | exact binds_K (by k_in) rfl (by k_is) rfl rfl rfl); (case k7 => exact locs rfl); (case c1 => exact rfl); (case c2 => exact rfl); (case c3 => exact rfl); (case c4 => decide); intro bx9 px9 lx9 mx9 gx9 hx9))
  k_with "setAttr ref" => ((k_here; first | ((with_reducible refine' lex_set_state ?k1 ?k2 ?k3 ?k4 ?U ?_); k_dflt ((case k1 => k_asm); (case k2 => k_asm); (case k3 => k_asm); (case k4 => k_mem); (case U => k_upd)); k_whole; intro h' F' N'; (try k_sweep)) | ((with_reducible refine' lex_set_token ?k1 ?k2 ?k3 ?k4 ?U ?_); k_dflt ((case k1 => k_asm); (case k2 => k_asm); (case k3 => k_asm); (case k4 => k_mem); (case U => k_upd)); k_whole; intro h' F' N'; (try k_sweep)) | ((with_reducible refine' lex_set_lineno ?k1 ?k2 ?k3 ?k4 ?U ?_); k_dflt ((case k1 => k_asm); (case k2 => k_asm); (case k3 => k_asm); (case k4 => k_mem); (case U => k_upd)); k_whole; intro h' F' N'; (try k_sweep)) | ((with_reducible refine' lex_set_infile ?k1 ?k2 ?k3 ?k4 ?U ?_); k_dflt ((case k1 => k_asm); (case k2 => k_asm); (case k3 => k_asm); (case k4 => k_mem); (case U => k_upd)); k_whole; intro h' F' N'; (try k_sweep)) | ((with_reducible refine' lex_set_instream ?k1 ?k2 ?k3 ?k4 ?U ?_); k_dflt ((case k1 => k_asm); (case k2 => k_asm); (case k3 => k_asm); (case k4 => k_mem); (case U => k_upd)); k_whole; intro h' F' N'; (try k_sweep))))
  k_with "eval Attribute Name" => ((k_here; k_dflt (refine' self_own ?F ?X ?N ?hv ?h1 ?h2 ?hK ?hl ?hh ?_; (case F => k_asm); (case hv => exact rfl); (case X => k_asm); (case N => k_asm); (case h1 => k_mem); (case hK => first | (with_reducible exact own732_state _) | (with_reducible exact own732_debug _) | (with_reducible exact own732_whitespace _) | (with_reducible exact own732_posix _) | (with_reducible exact own732_token _) | (with_reducible exact own732_quotes _) | (with_reducible exact own732_escape _) | (with_reducible exact own732_wordchars _) | (with_reducible exact own732_commenters _) | (with_reducible exact own732_instream _) | (with_reducible exact own732_lineno _) | (with_reducible exact own732__punctuation_chars _) | (with_reducible exact own732_infile _) | (with_reducible exact own732_eof _) | (with_reducible exact own732_escapedquotes _) | (with_reducible exact own732_whitespace_split _) | (with_reducible exact own732_pushback _) | (with_reducible exact own732_filestack _) | (with_reducible exact own732_source _) | (with_reducible exact own597_buf _) | (with_reducible exact own597_pos _) | (with_reducible exact own597_newline _)); (case h2 => k_mem); (case hl => k_get); (case hh => k_handed); k_whole)))
  k_with "ite" => (first | with_reducible (refine iteT ?_) | with_reducible (refine iteF ?_))
  k_with "CompEnd" => (refine stopMark ?_)
  k_with "eval Name" => ((k_here; (with_reducible show wpAny _ _ (eval (Expr.Name _ _) (compEnvC _ _ _ _)) _ _ _); k_dflt (first
      | refine LCgL.ld_own (by k_asm) (by k_mem) (by assumption) (by assumption) ?_
      | refine LCgL.ld_global (by k_asm) (by k_asm) (by k_asm) (by k_is) ?_
      | refine LCgL.ld_built (by k_asm) (by k_asm) (by k_asm) (by k_is) (by boot_by_name) (by decide) ?_)))
  k_with "eval Name" => ((k_here; (fail_if_success (with_reducible show wpAny _ _ (eval (Expr.Name _ _) (compEnvC _ _ _ _)) _ _ _)); k_dflt (refine' nameX_L ?F ?hv ?_; (case F => k_asm); (case hv => exact rfl); k_whole)))
  k_with "callWith ref" => ((k_here; k_dflt (refine' callWith_K ?k1 ?k2 ?_; (case k1 => k_asm); (case k2 => k_is); k_whole)))
  k_with "exec While" => (refine stopMark ?_)
  k_with "Exists" => (refine stopMark ?_)
  k_with "exec If" => (refine wpAny_If ?_)
  k_with "compareOp In str str" => (first | refine in_yes (by first | assumption | decide +kernel) ?_ | refine in_no (by first | assumption | decide +kernel) ?_)
  k_with "compareOp Eq str str" => (first | refine eq_yes (by first | assumption | rfl) ?_ | refine eq_no (by first | assumption | decide +kernel) ?_ | refine stopMark ?_)
  k_with "truthy str" => (first | refine truthy_sgn ?_ | refine truthy_yes (by assumption) (by first | assumption | omega) ?_ | refine truthy_no (by assumption) ?_)
  k_with "MY steps" => (repeat' (first | (k_unfold; (try dsimp only)) | (k_end; wrow_close) | walk1 | (dsimp only; walk1) | (leave1; try dsimp only) | fail "no step"))
  k_with "MY fin" => (repeat (first | dsimp only | (k_unfold; (try dsimp only))))
  k_with "MY open" => ((
      rename On _ _ _ _ _ => aOn9
      have Gk9 := aOn9.k
      have hap9 := aOn9.apart
      dsimp only [List.map] at hap9
      refine wpAny_call ?_
      k_dflt (k_extra "MY enter")))
  k_with "MY ret" => ((
      rename _ = hideAll _ _ => hgX
      rename Fr _ _ _ _ => kF
      rename News _ _ _ _ => kN
      rename (∀ _ _ _, Kept _ _ _ → _) => retX
      refine' retX _ _ _ (fun b o e => kF.keep b o (hgX ▸ e)) ?_
      (first | exact (fun q hq => (kN q hq).1) | exact ⟨_, fun q hq => (kN q hq).1⟩)))
  k_with "k_all" => (with_reducible assumption)
  k_with "call ref" => (((with_reducible show wpAny _ _ (call (Value.ref 732) _ _) _ _ _); first
      | (k_dflt (refine' lexer_new ?k1 ?k2 ?k3 ?k4 ?k5 ?k6 ?k7 ?k8 ?k9 ?kA ?_; (case k1 => k_asm); (case k2 => k_asm); (case k3 => k_asm); (case k4 => k_asm); (case k5 => k_asm); (case k6 => exact rfl); (case k7 => exact rfl); (case k8 => assumption); (case k9 => ((try simp only [depth_under_make, depth_under_kw, depth_in1, depth_deeper, depth_caller]); (try dsimp only [AA, Around.deeper]); k_extra "MY lt")); (case kA => ((try simp only [units_under_kw, units_in1, units_deeper]); (try dsimp only [AA, Around.deeper]); k_extra "MY lt")); k_whole); intro x' d' pb' fs' sx' sd' hs' ts' hs2' ts2' ti' tst' tl' tt' tp' h' tk' F' N' l1 l2; (try dsimp only [List.cons_append, List.nil_append] at N'); (try k_lt l1); (try (have lq1 := LtA.up l1 l2.1; have lq2 := LtA.up lq1 l2.2.1; have lq3 := LtA.up lq2 l2.2.2.1; have lq4 := LtA.up lq3 l2.2.2.2.1; have lq5 := LtA.up lq4 l2.2.2.2.2; clear l2)); (try k_sweep))
      | refine stopMark ?_))
  k_with "call ref" => (((with_reducible show wpAny _ _ (call (Value.ref 693) _) _ _ _); refine stopMark ?_))
  k_with "call builtin:iter" => ((refine iter_call ?_))
  k_with "pyIter ref" => ((k_dflt (refine' owit_iter ?F ?X ?I ?hs ?hf ?_; (case F => k_asm); (case X => k_asm); (case I => k_inst); (case hs => k_is); (case hf => k_is); k_whole)))
  k_with "exec For" => (refine stopMark ?_)
  k_with "call ref" => ((k_here; kn_here; k_dflt (refine wpAny_call ?_; kn_enter)))
  k_with "call ref" => (((with_reducible show wpAny _ _ (call (Value.ref 693) _ _) _ _ _); refine stopMark ?_))
  k_with "exec For Name Name cons nil" => (refine stopMark ?_)
  k_with "call ref" => (((with_reducible show wpAny _ _ (call (Value.ref 753) _ _) _ _ _); refine stopMark ?_))
  k_with "call ref" => (((with_reducible show wpAny _ _ (call (Value.ref 753) _) _ _ _); refine stopMark ?_))
  k_with "call builtin:len" => ((k_dflt (refine' len_dq ?k1 ?k2 ?k3 ?_; (case k1 => k_asm); (case k2 => k_mem); (case k3 => first | decide | (simp only [List.length_map]; omega) | omega); k_whole)))
  k_with "OwitStop" => ((refine stopMark ?_))
  k_with "leaving ref" => ((refine' leave_raiseS ?k1 ?k0 ?k2 ?k3 ?_; (case k0 => first | assumption | exact Heap.MadeExc.of (by assumption)); (case k2 => assumption); (case k1 => assumption); (case k3 => k_asm); k_whole; intro h' t' S' R' U'; (try dsimp only at S' R' U' ⊢)))
  k_with "compareOp In str ref" => (first
      | (k_dflt (refine' in_no3 ?k1 ?k2 ?k3 ?_; (case k1 => exact News.isList (by k_asm) (by k_mem)); (case k2 => kde_strs); (case k3 => with_reducible assumption); k_whole))
      | (k_dflt (refine' in_yes3 ?k1 ?k2 ?k3 ?_; (case k1 => exact News.isList (by k_asm) (by k_mem)); (case k2 => kde_strs); (case k3 => with_reducible assumption); k_whole)))
  k_with "binaryOp Add ref ref" => ((k_dflt (refine' addl ?k1 ?k2 ?k3 ?k4 ?_ ?k5; (case k1 => k_asm); (case k2 => k_asm); (case k3 => k_mem); (case k4 => k_mem); (case k5 => simp only [List.size_toArray, List.length_cons, List.length_nil]; omega); k_whole); intro D' h' F' N' l1; (try k_lt l1)))
  k_with "call ref" => (((with_reducible show wpAny _ _ (call (Value.ref 597) _) _ _ _); first
      | (k_dflt (refine' sio_new ?k1 ?k2 ?k3 ?k4 ?k5 ?k6 ?k7 ?k8 ?k9 ?kA ?_; (case k1 => k_asm); (case k2 => k_asm); (case k3 => k_asm); (case k4 => k_asm); (case k5 => k_asm); (case k6 => exact rfl); (case k7 => exact rfl); (case k8 => assumption); (case k9 => ((try simp only [depth_under_make, depth_under_kw, depth_in1, depth_deeper, depth_caller]); (try dsimp only [AA, Around.deeper]); k_extra "MY lt")); (case kA => ((try simp only [units_under_kw, units_in1, units_deeper]); (try dsimp only [AA, Around.deeper]); k_extra "MY lt")); k_whole); intro x' dx' h' tk' hs' ts' tp' F' N' l1 l2; (try k_lt l1); (try k_lt2 l2); (try k_sweep))
      | refine stopMark ?_))
  k_with "getMethod ref" => (((with_reducible show wpAny _ _ (getMethod (Value.ref _) (PySem.Str.ofString "appendleft") _) _ _ _); k_dflt (refine' meth_appendleft ?k1 ?k2 ?_; (case k1 => k_asm); (case k2 => k_mem); k_whole)))
  k_with "call builtin:collections.deque.appendleft" => ((k_dflt (refine' appendleft_dq ?k1 ?k2 ?k3 ?k4 ?_; (case k1 => k_asm); (case k2 => k_asm); (case k3 => k_upd); (case k4 => omega); k_whole); intro h' F' N'; (try k_sweep)))
  k_with "MY off" => ((repeat (first | exact List.forall_mem_nil _ | (refine' List.forall_mem_cons.mpr ⟨?qa, ?_⟩; (case qa => ((show @Ne Nat _ _); (try dsimp only); first | k_extra "MY nlt" | omega))))))
  k_with "MY note" => ((
      rename On _ _ _ _ _ => ab9
      obtain ⟨⟨bx9, px9, lx9, mx9, gx9, hx9, Gx9⟩, Nx9, hap9⟩ := ab9
      dsimp only [noteFoot, List.map] at hap9
      refine wpAny_call ?_
      k_dflt (refine' code_nest_foot Gx9 Nx9 ?k3 ?k4 ?k5 ?k6 ?k7 ?k8 ?k9 ?_ ?c1 ?c2 ?c3 ?c4; (case k3 => exact .head _); (case k4 => exact .tail _ (.head _)); (case k5 => assumption); (case k6 => assumption); (case k7 => k_room); (case k8 => exact BindsTo.of_eq rfl); (case k9 => exact locs rfl); (case c1 => exact rfl); (case c2 => exact rfl); (case c3 => exact rfl); (case c4 => decide))))
  k_with "call ref" => (((with_reducible show wpAny _ _ (call (Value.ref _) [Value.ref _, Value.str _ _]) _ _ _); refine stopMark ?_))
  k_with "MY nf" => ((repeat (first | exact List.forall_mem_nil _ | (refine' List.forall_mem_cons.mpr ⟨?qa, ?_⟩; (case qa => k_mem)))))
  k_with "call type:int" => (((with_reducible show wpAny _ _ (call (Value.type "int") [Value.str _ _]) _ _ _); (refine KIN.call_text (by with_reducible assumption) (by with_reducible assumption) ?_)))
  k_with "subscriptTail" => (((with_reducible show wpAny _ _ (subscriptTail _ _ (Value.ref _) (Value.int _ _)) _ _ _); (with_unfolding_all refine' item_at ?k1 ?k2 ?k3 ?k4 ?_ ?k6; (case k1 => k_asm); (case k3 => with_reducible assumption); (case k2 => k_mem); (case k4 => assumption); (case k6 => with_unfolding_all rfl); k_whole)))
  k_with "setAttr ref" => ((k_here; first | ((with_reducible refine' lex0_ws ?k1 ?k2 ?k3 ?k4 ?U ?_); k_dflt ((case k1 => k_asm); (case k2 => k_asm); (case k3 => k_asm); (case k4 => k_mem); (case U => k_upd)); k_whole; intro h' F' N'; (try k_sweep)) | ((with_reducible refine' lex1_comm ?k1 ?k2 ?k3 ?k4 ?U ?_); k_dflt ((case k1 => k_asm); (case k2 => k_asm); (case k3 => k_asm); (case k4 => k_mem); (case U => k_upd)); k_whole; intro h' F' N'; (try k_sweep))))
  trivial
set_option maxHeartbeats 8000000 in
theorem spelled {w : World} {dep un : Nat} {gs : Option (List Code)} {s : Shared} {outer : List Env} {bl : Addr} {b0 b1 b2 b3 : PySem.Str} {t0 t1 t2 t3 n : Nat} {E Q : Value → Shared → Prop} {T : Txs} {sp : List Nat → List Nat} {ns : List Note} {k : Nat}
    (hT0 : b0.cps.toList = bodyOf ((T 0).map fun it => (sp it.word, it.word))) (hT1 : b1.cps.toList = bodyOf ((T 1).map fun it => (sp it.word, it.word))) (hT2 : b2.cps.toList = bodyOf ((T 2).map fun it => (sp it.word, it.word))) (hT3 : b3.cps.toList = bodyOf ((T 3).map fun it => (sp it.word, it.word)))
    (hsp : ∀ i, ∀ it ∈ T i, scan (sp it.word) .s false [] = some it.word) (hnum : ∀ i j, .n j ∈ T i → j < i) (hwd : ∀ i z, .w z ∈ T i → z ≠ [48] ∧ z ≠ [49] ∧ z ≠ [50]) (hex : Exs T [(3, 0)] ns k) (hnl : ns.length ≤ 900000)
    (hb0 : b0.length ≤ 4000) (hb1 : b1.length ≤ 4000) (hb2 : b2.length ≤ 4000) (hb3 : b3.length ≤ 4000) (hD : dep < 500) (hU : un < 3000)
    (a : OnB w (AA none dep outer gs un) outer s [(bl, W.listOf #[.str b0 t0, .str b1 t1, .str b2 t2, .str b3 t3] n), (816, tabObj #[])])
    (ret : ∀ x h' tk', SpLeft (hideAll s.heap [bl, 816]) (outer.filterMap (·.frame)) ns (T 3).length x h' → Q (.ref x) { s with heap := h', toks := tk' }) :
    wpAny (model PR w) (AA none dep outer gs un) (call (.ref 821) [.ref bl]) Q E s := by
  obtain ⟨⟨base, p, loose, mean, mg, mb, G, XB⟩, Nf, hap⟩ := a
  simp only [List.map, Apart, AllNe, and_true] at hap
  refine wpAny_call ?_
  k_dflt (refine' code_footC G Nf ?k3 ?k4 ?k5 ?k6 ?k7 ?k8 ?_ ?c1 ?c2 ?c3)
  case k3 => k_is
  case k4 => k_is
  case k5 => k_room
  case k6 => exact BindsTo.of_eq rfl
  case k7 => exact rfl
  case k8 => decide +kernel
  case c1 => exact rfl
  case c2 => exact rfl
  case c3 => exact rfl
  intro g L' h₁ tk cells hg F' N' Y' B' X' T' hlt
  (try dsimp only)
  k_fold
  have CH := codeHd_of_K (c := 820) (P := 816) X' (by kernel_rfl)
  have l1 := hlt
  k_lt l1
  k_cells Y'
  dsimp only [List.cons_append, List.nil_append] at N'
  (try dsimp only)
  (try k_fold)
  k_extra "MY steps"
  rename Fr g L' _ _ => kF0
  rename News g L' _ _ => kN0
  have nall := note_pick (w := w) (b0 := b0) (b1 := b1) (b2 := b2) kN0 (by
    clear kF0 kN0 ret hex hnum hsp hT0 hT1 hT2 hT3 hwd
    repeat (rename Fr _ _ _ _ => zF; clear zF)
    repeat (rename News _ _ _ _ => zF; clear zF)
    repeat (rename Below _ _ _ _ => zF; clear zF)
    repeat (rename Top _ _ _ _ _ _ => zF; clear zF)
    repeat (rename Frag.In _ _ => zF; clear zF)
    repeat (rename Gd _ _ _ _ _ _ _ _ _ _ => zF; clear zF)
    refine ⟨?_, ?_⟩
    · intro dep un gs s outer hs ts inst infile ti state pb lineno tl tt kst refs nl xs n z t E Q hz hr hx hD hU a ret
      have hin := word_no3 hz
      k_extra "MY note"
      intro g L' h₁ hg F' N' B' X' T' hlt
      dsimp only [noteFoot] at N'
      (try dsimp only)
      k_fold
      k_extra "MY steps"
      k_extra "MY fin"
      rename Fr _ L' _ _ => kF
      rename News _ L' _ _ => kN
      refine ret _ _ _ _ _ (fun b o e => kF.keep b o (hg ▸ e)) (fun q hq => (kN q (.tail _ (.tail _ (.tail _ (.tail _ hq))))).1) (new_none hg kN (.tail _ (.tail _ (.head _))) ?_) (new_none hg kN (.head _) ?_) ?_ (kN _ (.tail _ (.tail _ (.head _)))).1 (kN _ (.head _)).1
      · k_extra "MY off"
      · k_extra "MY off"
      · first | k_extra "MY pick" | omega
    · intro j b hjb dep un gs s outer hs ts sx0 infile ti state pb lineno tl tt kst refs nl xs n t E Q hr hx hD hU a ret
      have hin := num_in3 (j := j) (hjb.imp And.left (Or.imp And.left And.left))
      have hint := num_text (j := j) (hjb.imp And.left (Or.imp And.left And.left))
      have hlen9 : (⟨#[48 + j]⟩ : PySem.Str).length ≤ 640 := by show 1 ≤ 640; decide
      obtain ⟨tb, hit⟩ := num_item t0 t1 t2 b3 t3 hjb
      have hbb : b.length ≤ 4000 := by rcases hjb with ⟨-, rfl⟩ | ⟨-, rfl⟩ | ⟨-, rfl⟩ <;> assumption
      have hj3 : j < 3 := by rcases hjb with ⟨rfl, -⟩ | ⟨rfl, -⟩ | ⟨rfl, -⟩ <;> decide
      clear hjb
      k_extra "MY note"
      intro g L' h₁ hg F' N' B' X' T' hlt
      dsimp only [noteFoot] at N'
      (try dsimp only)
      k_fold
      k_extra "MY steps"
      k_extra "MY fin"
      rename Fr _ L' _ _ => kF
      rename News _ L' _ _ => kN
      refine ret _ _ _ _ _ _ _ _ _ _ (fun b o e => kF.keep b o (hg ▸ e)) (fun q hq => (kN q (.tail _ (.tail _ (.tail _ (.tail _ hq))))).1) (new_none hg kN (.tail _ (.tail _ (.head _))) ?_) (new_none hg kN (.tail _ (.head _)) ?_) (new_none hg kN (.head _) ?_) ?_ ?_ (kN _ (.head _)).1 (kN _ (.tail _ (.head _))).1 (kN _ (.tail _ (.tail _ (.head _)))).1
      · k_extra "MY off"
      · k_extra "MY off"
      · k_extra "MY off"
      · first | k_extra "MY pick" | omega
      · first | k_extra "MY pick" | omega
    )
  obtain ⟨fd, kM, nall⟩ := note_hide kN0 nall
  clear kN0
  have hg0 : g.get? 816 = none := by rw [hg]; exact hideAll_none _ (by simp)
  have ho816 := outer_816 (l := [bl, 816]) B' hg (by simp)
  obtain ⟨ps8, hp8, hL816, -⟩ := news_last kM
  refine stopGo ?_
  refine wpAny_call ?_
  k_dflt (refine' call_in2 ?kB ?kF ?kX (news_init12 ?kN) ?kT rfl rfl rfl ?k3 ?k4 ?k5 ?k6 ?k7 ?_ ?c1 ?c2 ?c3 ?c4)
  case kB => k_asm
  case kF => k_asm
  case kX => k_asm
  case kN => k_asm
  case kT => k_asm
  case k3 => k_is
  case k4 => k_is
  case k5 => k_room
  case k6 => exact binds_K (by k_in) rfl (by k_is) rfl rfl rfl
  case k7 => exact locs rfl
  case c1 => exact rfl
  case c2 => exact rfl
  case c3 => exact rfl
  case c4 => decide +kernel
  intro g3 L3 h3 hg3 Fa Na FGa Ba Xa Ta lta
  have hg816 : g3.get? 816 = some (tabObj ps8) := hide_816 hg3 hp8 (by (try dsimp only [List.map]); repeat' (first | exact trivial | refine And.intro (by (show @Ne Nat _ _); (try dsimp only); first | k_extra "MY nlt" | omega) ?_))
  clear hg3 hp8
  k_lt lta
  (try dsimp only [List.cons_append, List.nil_append] at Na)
  (try dsimp only)
  (try k_fold)
  k_extra "MY steps"
  refine stopGo ?_
  refine for_own ?_
  k_extra "MY steps"
  rename Fr _ _ _ _ => kF
  rename News _ _ _ _ => kN
  refine stopGo ⟨_, k + 1, rfl, ?_⟩
  refine rest_loopN (LoopInv w T sp ns s) kF kN k ?_ ?_
  · refine loop_start kF kN ?_ ?_ hT3 hsp hb3 hex rfl rfl rfl rfl rfl
    · funext y
      by_cases e1 : y = PySem.Str.ofString "value"
      · subst e1; rfl
      · by_cases e2 : y = PySem.Str.ofString "it"
        · subst e2; rfl
        · by_cases e3 : y = PySem.Str.ofString "function"
          · subst e3; rfl
          · by_cases e4 : y = PySem.Str.ofString "sequence"
            · subst e4; rfl
            · by_cases e5 : y = PySem.Str.ofString "initial"
              · subst e5; rfl
              · rw [if_neg e1, if_neg e2]
                refine Eq.trans (lookup3 e5 e4 e3) ?_
                simp only [rdM, if_neg e1, if_neg e2, if_neg e3, if_neg e4, if_neg e5, ite_self]
    · refine ⟨?_, ?_, ?_, ?_, ?_, ?_, ?_, ?_, ?_, ?_, ?_⟩ <;> (show @LT.lt Nat _ _ _; first | k_extra "MY pick" | omega)
  · intro n s' hI
    refine hI.open ?_
    clear hI
    intro lhs lts k1 c stack fr frs no dn rs nl h tk kst tst tt u hexs hns hno hc hst hdn hapL F1 N2
    try dsimp only
    k_fold
    dsimp only [lexHead, strmObjs, List.cons_append, List.nil_append] at N2
    k_extra "MY steps"
    refine stopGo ?_
    have hlen : stack.length ≤ 3 := by have := hdn.le; have := hst.length; omega
    k_dflt (refine' gt_use5 (l := ⟨_, _, _, _, lhs, lts, k1⟩) (c := c) (stack := stack) (gt_all stack c hc.ok hst.ok (by omega)) hapL ?k1 ?k2 ?k3 ?k4 ?k5 ?k6 ?k7 ?kF ?kG ?_)
    case k1 => k_asm
    case k2 => k_asm
    case k3 => k_asm
    case k4 => k_asm
    case k5 => k_asm
    case k6 => exact rfl
    case k7 => exact rfl
    case kF => dsimp only [AA, Around.deeper]; k_extra "MY lt"
    case kG => dsimp only [AA, Around.deeper]; k_extra "MY lt"
    intro h2 tk2 r c2 stack2 kst2 st2 tt2 rv F2 N4 hstep hapN hr
    have htn := turn_of hstep hc hst hdn hexs
    dsimp only [lexHead, strmObjs, List.cons_append, List.nil_append] at N4
    (try dsimp only at N4)
    rcases hr with ⟨rfl, rfl, rfl⟩ | ⟨z, t, tst2, rfl, rfl, rfl⟩
    · obtain ⟨hnsE, hcE, hlE⟩ := htn
      dsimp only [List.map_nil, tailObjs, List.flatMap_nil, List.nil_append] at N4
      k_extra "MY steps"
      refine stopGo ?_
      rename RaisedS _ _ _ _ _ _ _ _ _ => rsX
      rename Heap.UpToSlots _ _ => uX
      refine' owit_stop3 rsX uX ?F ?K ?FG ?KO rfl XB.1 XB.2 ?hsub ?_
      case F => assumption
      case K => assumption
      case FG => assumption
      case KO => assumption
      case hsub => kernel_rfl
      intro g1 g2 T1 TT Fi Ni Fo Ki Ko Xi Xo Ti To
      have CH2 := codeHd_of_K (c := 820) (P := 816) Xo (by kernel_rfl)
      have h816a := turn_816 T1 rfl hL816 ho816 hg816
      have h816b := Fi.keep _ _ h816a
      have hoffN := off_led (l := ⟨_, _, _, _, lhs, lts, k1⟩) (c := c2) Ni h816a
      have hapN2 := apart_tail12 (t := (816, tabObj ps8)) hapN hoffN
      obtain ⟨Fj, Nj⟩ := back_two Fo Fi Ni
      have Nk := news_tail12 (t := (816, tabObj ps8)) Nj ⟨h816b, hL816, TT.none_ _ hg0⟩
      clear Nj T1
      clear rsX uX CH B' X' T' Ba Xa Ta
      dsimp only [OwitTurn]
      k_extra "MY steps"
      dsimp only
      k_extra "MY steps"
      refine stopGo ?_
      k_dflt (refine' gt_none_use5 (l := ⟨_, _, _, _, lhs, lts, k1⟩) (c := c2) hcE.ok hlE hapN2 ?k1 ?k2 ?k3 ?k4 ?k5 ?k6 ?k7 ?kF ?kG ?_)
      case k1 => k_asm
      case k2 => k_asm
      case k3 => k_asm
      case k4 => k_asm
      case k5 => k_asm
      case k6 => exact rfl
      case k7 => exact rfl
      case kF => dsimp only [AA, Around.deeper]; k_extra "MY lt"
      case kG => dsimp only [AA, Around.deeper]; k_extra "MY lt"
      intro h5 tk5 tt5 F5 N5
      dsimp only [lexHead, strmObjs, List.cons_append, List.nil_append] at N5
      (try dsimp only at N5)
      k_extra "MY steps"
      rename Fr g2 L' _ _ => kF
      rename News g2 L' _ _ => kN
      have hg' : g = hideAll s.heap [bl, 816] := hg
      clear hg
      subst hg'
      have e1 := hcE.lineno
      have e2 := hcE.infile
      dsimp only at e1 e2
      rw [e1, e2] at kN
      have hdn2 : ns = dn := by rw [hns, hnsE, List.append_nil]
      refine ret _ _ _ (spLeft_of TT kF (hdn2 ▸ hno) kN (fun q hm => ?_) (ps := ps8) (by simp))
      simp only [List.mem_cons] at hm ⊢
      rcases hm with hm | hm <;> simp [hm]
    · cases htn with
      | @word c' stack' i r k' z rest ns' hi hcE hsE hdnE hnE heE hkE =>
        have hz := hwd i z (List.mem_of_getElem? hi)
        have hlE : stack2.length ≤ 3 := by have := hdnE.le; have := hsE.length; omega
        k_extra "MY steps"
        refine stopGo ?_
        k_dflt (refine' note_word_use (hs := lhs) (ts := lts) (inst := .ref c2.sx) (infile := c2.infile) (ti := c2.ti) (state := .str St.s.str tst2) (lineno := c2.lineno) (tl := c2.tl) (tt := tt2) (kst := kst2) (refs := stack2.map fun e => .ref e.1) (xs := (no.map fun p => Value.ref p.1).toArray) (n := 0) nall.1 hz ?hm ?hap ?k1 ?k2 ?k3 ?k4 ?k5 ?k6 ?k7 ?hr ?hx ?kF ?kG ?_)
        case k1 => k_asm
        case k2 => k_asm
        case k3 => k_asm
        case k4 => k_asm
        case k5 => k_asm
        case k6 => exact rfl
        case k7 => exact rfl
        case kF => dsimp only [AA, Around.deeper]; k_extra "MY lt"
        case kG => dsimp only [AA, Around.deeper]; k_extra "MY lt"
        case hr => rw [List.length_map]; omega
        case hx =>
          have := hno.length
          have := congrArg List.length hns
          rw [List.length_append] at this
          simp only [List.size_toArray, List.length_map]
          omega
        case hap => exact noteFoot_sub hapN rfl
        case hm => k_extra "MY nf"
        intro h6 tk6 a6 D6 tc6 F6 N6 hA6 hD6 hne6
        have hA7 := hA6
        have hD7 := hD6
        clear hA6 hD6
        k_extra "MY steps"
        rename Fr g3 L3 _ _ => kF
        rename News g3 L3 _ _ => kN
        refine stopGo ⟨k', hkE, ?_⟩
        refine loop_word (u := some (.str ⟨z.toArray⟩ t)) (lx := ⟨_, _, _, _, lhs, lts, k1⟩) (c := c2) (stack := stack2) (no := no) (hns.trans (by rw [hnE])) heE hcE hsE hdnE hno hapN hA7 hD7 hne6 ?hF kN rfl rfl rfl rfl
        case hF => exact rdM_next ▸ kF
      | @num c' stack' i r j k' rest hi hcE hsE hdnE heE hkE =>
        have hlE : stack2.length ≤ 3 := by have := hdnE.le; have := hsE.length; omega
        have hji := hnum i j (List.mem_of_getElem? hi)
        have hj3 : j < 3 := by have := hdnE.le; omega
        k_extra "MY steps"
        refine stopGo ?_
        obtain ⟨b, hk, hbj⟩ := nall.num hj3
        have hTb : b.cps.toList = bodyOf ((T j).map fun it => (sp it.word, it.word)) := by
          rcases hbj with ⟨e1, e2⟩ | ⟨e1, e2⟩ | ⟨e1, e2⟩ <;> (rw [e1, e2]; assumption)
        have hbb : b.length ≤ 4000 := by
          rcases hbj with ⟨e1, e2⟩ | ⟨e1, e2⟩ | ⟨e1, e2⟩ <;> (rw [e1]; assumption)
        k_dflt (refine' note_num_use (hs := lhs) (ts := lts) (sx0 := c2.sx) (infile := c2.infile) (ti := c2.ti) (state := .str St.s.str tst2) (lineno := c2.lineno) (tl := c2.tl) (tt := tt2) (kst := kst2) (refs := stack2.map fun e => .ref e.1) (xs := (no.map fun p => Value.ref p.1).toArray) (n := 0) hk ?hm ?hap ?U ?V ?k1 ?k2 ?k3 ?k4 ?k5 ?k6 ?k7 ?hr ?hx ?kF ?kG ?_)
        case k1 => k_asm
        case k2 => k_asm
        case k3 => k_asm
        case k4 => k_asm
        case k5 => k_asm
        case U => exact fun _ _ _ _ => num_upd1 (lx := ⟨_, _, _, _, lhs, lts, k1⟩) (k6 := [_, _, _, _, _, _]) hapN
        case V => exact fun _ _ _ _ => num_upd2 (lx := ⟨_, _, _, _, lhs, lts, k1⟩) (k6 := [_, _, _, _, _, _]) hapN
        case k6 => exact rfl
        case k7 => exact rfl
        case kF => dsimp only [AA, Around.deeper]; k_extra "MY lt"
        case kG => dsimp only [AA, Around.deeper]; k_extra "MY lt"
        case hr => rw [List.length_map]; omega
        case hx =>
          have := hno.length
          have := congrArg List.length hns
          rw [List.length_append] at this
          simp only [List.size_toArray, List.length_map]
          omega
        case hap => exact noteFoot_sub hapN rfl
        case hm => k_extra "MY nf"
        intro h6 tk6 ta6 sx6 sd6 hs6 ts6 tp6 ti6 tl6 F6 N6 hA6 hl61 hl62
        dsimp only [strmObjs, List.cons_append, List.nil_append] at N6
        have hA7 := hA6
        clear hA6
        k_extra "MY steps"
        rename Fr g3 L3 _ _ => kF
        rename News g3 L3 _ _ => kN
        refine stopGo ⟨k', hkE, ?_⟩
        refine loop_num (u := some (.str ⟨[48 + j].toArray⟩ t)) (lx := ⟨_, _, _, _, lhs, lts, k1⟩) (c := c2) (stack := stack2) (no := no) (nl := nl) hns heE hcE hsE hdnE hji hno hTb hsp hbb hapN hA7 hl61 hl62 ?hF kN rfl rfl rfl rfl
        case hF => exact rdM_next ▸ kF

end
section
/-- how many words an item spells, by the sums of the earlier texts -/
noncomputable def itv (S : List Nat) : Itm → Nat
  | .w _ => 1
  | .n j => S.getD j 0
noncomputable def sumsOf (T : Txs) : Nat → List Nat
  | 0 => []
  | i + 1 => sumsOf T i ++ [((T i).map (itv (sumsOf T i))).sum]
noncomputable def szs (T : Txs) (i : Nat) : List Nat := (T i).map (itv (sumsOf T i))
noncomputable def sz (T : Txs) (i : Nat) : Nat := (szs T i).sum
theorem sumsOf_length (T : Txs) : ∀ i, (sumsOf T i).length = i
  | 0 => rfl
  | i + 1 => by rw [sumsOf, List.length_append, sumsOf_length T i]; rfl
theorem sumsOf_get (T : Txs) {i j : Nat} (h : j < i) : (sumsOf T i)[j]? = some (sz T j) := by
  induction i with
  | zero => (first | lia | omega)
  | succ i ih =>
    rw [sumsOf]
    by_cases hj : j < i
    · rw [List.getElem?_append_left (by rw [sumsOf_length]; exact hj)]
      exact ih hj
    · obtain rfl : j = i := by (first | lia | omega)
      rw [List.getElem?_append_right (by rw [sumsOf_length]; (first | lia | omega)), sumsOf_length]
      simp [sz, szs]
theorem itv_n (T : Txs) {i j : Nat} (h : j < i) : itv (sumsOf T i) (.n j) = sz T j := by
  simp [itv, List.getD, sumsOf_get T h]
/-- the k-th word of text i, by the counts alone -/
inductive Fd (T : Txs) : Nat → Nat → Nat → Note → Prop
  | w {i d : Nat} {pre post : List Itm} {z : List Nat} (h : T i = pre ++ .w z :: post) : Fd T i d ((pre.map (itv (sumsOf T i))).sum) ⟨i, pre.length + 2, d, z⟩
  | n {i d j k : Nat} {pre post : List Itm} {nt : Note} (h : T i = pre ++ .n j :: post) (hk : k < sz T j) (hf : Fd T j (d + 1) k nt) : Fd T i d ((pre.map (itv (sumsOf T i))).sum + k) nt
noncomputable abbrev Down (T : Txs) : Prop := ∀ i j, .n j ∈ T i → j < i
theorem ex_all (T : Txs) (hT : Down T) : ∀ i d, ∃ ns k, Ex T i d 0 (T i) ns k ∧ ns.length = sz T i ∧ ∀ p n, ns[p]? = some n → Fd T i d p n := by
  intro i
  induction i using Nat.strongRecOn with
  | ind i ih =>
    intro d
    have key : ∀ (l pre : List Itm), T i = pre ++ l → ∃ ns k, Ex T i d pre.length l ns k ∧ ns.length = (l.map (itv (sumsOf T i))).sum ∧ ∀ p n, ns[p]? = some n → Fd T i d ((pre.map (itv (sumsOf T i))).sum + p) n := by
      intro l
      induction l with
      | nil => intro pre h; exact ⟨[], 0, .nil, rfl, fun p n hp => by simp at hp⟩
      | cons it l ihl =>
        intro pre h
        obtain ⟨ns, k, he, hl, hf⟩ := ihl (pre ++ [it]) (by rw [h]; simp)
        rw [List.length_append, List.length_singleton] at he
        cases it with
        | w z =>
          refine ⟨_, _, .w he, ?_, ?_⟩
          · simp [hl, itv]; (first | lia | omega)
          · intro p n hp
            cases p with
            | zero =>
              simp at hp
              subst hp
              exact .w h
            | succ p =>
              have := hf p n (by simpa using hp)
              rw [List.map_append, List.sum_append] at this
              simp only [List.map_cons, List.map_nil, List.sum_cons, List.sum_nil, itv] at this
              rw [show (pre.map (itv (sumsOf T i))).sum + (p + 1) = (pre.map (itv (sumsOf T i))).sum + (1 + 0) + p by (first | lia | omega)]
              exact this
        | n j =>
          have hj : j < i := hT i j (by rw [h]; simp)
          obtain ⟨ms, a, he1, hl1, hf1⟩ := ih j hj (d + 1)
          refine ⟨_, _, .n he1 he, ?_, ?_⟩
          · simp [hl, hl1, itv_n T hj]
          · intro p n hp
            by_cases hpl : p < ms.length
            · rw [List.getElem?_append_left hpl] at hp
              exact .n h (hl1 ▸ hpl) (hf1 p n hp)
            · rw [List.getElem?_append_right (by (first | lia | omega))] at hp
              have := hf _ n hp
              rw [List.map_append, List.sum_append] at this
              simp only [List.map_cons, List.map_nil, List.sum_cons, List.sum_nil, itv_n T hj] at this
              rw [show (pre.map (itv (sumsOf T i))).sum + p = (pre.map (itv (sumsOf T i))).sum + (sz T j + 0) + (p - ms.length) by (first | lia | omega)]
              exact this
    obtain ⟨ns, k, he, hl, hf⟩ := key (T i) [] rfl
    exact ⟨ns, k, he, hl, fun p n hp => by simpa using hf p n hp⟩
theorem exs_all (T : Txs) (hT : Down T) : ∃ ns k, Exs T [(3, 0)] ns k ∧ ns.length = sz T 3 ∧ ∀ p n, ns[p]? = some n → Fd T 3 0 p n := by
  obtain ⟨ns, k, he, hl, hf⟩ := ex_all T hT 3 0
  refine ⟨ns, k, ?_, hl, hf⟩
  have := Exs.cons (T := T) (i := 3) (r := 0) (rest := []) (by simpa using he) .nil
  simpa using this
/-- the signs in quotes, as quote writes them -/
noncomputable def spq (z : List Nat) : List Nat := 39 :: (z.flatMap fun c => if c = 39 then [39, 34, 39, 34, 39] else [c]) ++ [39]
noncomputable def wplain : List (List Nat) := [[51], [97, 49], [48], [49], [50]]
noncomputable def spOf (z : List Nat) : List Nat := if z ∈ wplain then z else spq z
/-- '', it's, a b, #, \, ", é, 3, tab, a1, ' -/
noncomputable def wordsL : List (List Nat) := [[], [105, 116, 39, 115], [97, 32, 98], [35], [92], [34], [233], [51], [9], [97, 49], [39]]
noncomputable def ItmOk (i : Nat) : Itm → Prop
  | .w z => z ∈ wordsL
  | .n j => j < i ∧ j < 3
structure WfT (T : Txs) (m : Nat) : Prop where
  ok : ∀ i, ∀ it ∈ T i, ItmOk i it
  few : ∀ i, (T i).length ≤ m
  ne : ∀ i, i < 4 → T i ≠ []
theorem WfT.down {T : Txs} {m : Nat} (h : WfT T m) : Down T := fun i j hj => (h.ok i _ hj).1
theorem sp_scan_words : ∀ z ∈ wordsL, scan (spOf z) .s false [] = some z := by decide +kernel
theorem sp_scan_nums : ∀ j < 3, scan (spOf [48 + j]) .s false [] = some [48 + j] := by decide +kernel
theorem sp_len_words : ∀ z ∈ wordsL, (spOf z).length ≤ 11 := by decide +kernel
theorem sp_len_nums : ∀ j < 3, (spOf [48 + j]).length ≤ 11 := by decide +kernel
theorem WfT.scan {T : Txs} {m : Nat} (h : WfT T m) : ∀ i, ∀ it ∈ T i, Mine.scan (spOf it.word) .s false [] = some it.word := by
  intro i it hit
  have := h.ok i it hit
  cases it with
  | w z => exact sp_scan_words z this
  | n j => exact sp_scan_nums j this.2
theorem WfT.nums {T : Txs} {m : Nat} (h : WfT T m) : ∀ i z, .w z ∈ T i → z ≠ [48] ∧ z ≠ [49] ∧ z ≠ [50] := by
  intro i z hz
  have : z ∈ wordsL := h.ok i _ hz
  have key : ∀ z ∈ wordsL, z ≠ [48] ∧ z ≠ [49] ∧ z ≠ [50] := by decide
  exact key z this
noncomputable def bodyT (T : Txs) (i : Nat) : List Nat := bodyOf ((T i).map fun it => (spOf it.word, it.word))
theorem body_len {l : List Itm} {i : Nat} (h : ∀ it ∈ l, ItmOk i it) : (bodyOf (l.map fun it => (spOf it.word, it.word))).length ≤ 12 * l.length := by
  induction l with
  | nil => simp [bodyOf]
  | cons it l ih =>
    have h1 := h it (.head _)
    have h2 := ih fun it' hit' => h it' (.tail _ hit')
    have h3 : (spOf it.word).length ≤ 11 := by
      cases it with
      | w z => exact sp_len_words z h1
      | n j => exact sp_len_nums j h1.2
    simp only [bodyOf, List.map_cons, List.flatMap_cons, List.length_append, List.length_cons, List.length_nil] at h2 ⊢
    (first | lia | omega)
theorem WfT.body {T : Txs} {m : Nat} (h : WfT T m) (i : Nat) : (bodyT T i).length ≤ 12 * m := by
  have := body_len (h.ok i)
  have := h.few i
  unfold bodyT
  (first | lia | omega)
theorem sp_lat_words : ∀ z ∈ wordsL, ∀ c ∈ spOf z, c < 256 := by decide +kernel
theorem sp_lat_nums : ∀ j < 3, ∀ c ∈ spOf [48 + j], c < 256 := by decide +kernel
theorem WfT.latin {T : Txs} {m : Nat} (h : WfT T m) (i : Nat) : ∀ c ∈ bodyT T i, c < 256 := by
  intro c hc
  simp only [bodyT, bodyOf, List.mem_flatMap, List.mem_map] at hc
  obtain ⟨p, ⟨it, hit, rfl⟩, hc⟩ := hc
  rcases List.mem_append.mp hc with hc | hc
  · have h1 := h.ok i it hit
    cases it with
    | w z => exact sp_lat_words z h1 c hc
    | n j => exact sp_lat_nums j h1.2 c hc
  · simp at hc
    (first | lia | omega)
/-- the counts are small -/
theorem sum_le_mul {l : List Nat} {b : Nat} (h : ∀ x ∈ l, x ≤ b) : l.sum ≤ l.length * b := by
  induction l with
  | nil => simp
  | cons x l ih =>
    have h1 := h x (.head _)
    have h2 := ih fun y hy => h y (.tail _ hy)
    rw [List.sum_cons, List.length_cons, Nat.add_mul]
    (first | lia | omega)
theorem WfT.small {T : Txs} {m : Nat} (h : WfT T m) (hm : 1 ≤ m) : ∀ i, sz T i ≤ m ^ (i + 1) := by
  intro i
  induction i using Nat.strongRecOn with
  | ind i ih =>
    have hb : ∀ x ∈ szs T i, x ≤ m ^ i := by
      intro x hx
      obtain ⟨it, hit, rfl⟩ := List.mem_map.mp hx
      have h1 := h.ok i it hit
      cases it with
      | w z => exact Nat.one_le_pow _ _ hm
      | n j =>
        rw [itv_n T h1.1]
        exact Nat.le_trans (ih j h1.1) (Nat.pow_le_pow_right hm h1.1)
    have h2 := sum_le_mul hb
    have h3 : (szs T i).length ≤ m := by rw [szs, List.length_map]; exact h.few i
    calc sz T i ≤ (szs T i).length * m ^ i := h2
      _ ≤ m * m ^ i := Nat.mul_le_mul_right _ h3
      _ = m ^ (i + 1) := by rw [Nat.pow_succ, Nat.mul_comm]

end
section
theorem q_call (P : Params) (S : Setting) (b : PySem.Str) (tb : Tok) : peek (hd.heap_39 P) S (callAny (.ref 737) ⟨[.str b tb], []⟩) = some (.again (.builtin "re.Pattern.search" ⟨[.ref 49, .str b tb], []⟩)) := by kernel_rfl
theorem entry_search : entryFor table "re.Pattern.search" = some Builtin.«re.Pattern.search» := entryFor_of_tree (by kernel_rfl)
noncomputable def SRun (z : List Nat) : Prop := ∀ (P : Params) (S : Setting) (tb : Tok) (n : Nat), if z ∈ wplain then peekA (hd.heap_39 P) S (Builtin.«re.Pattern.search» ⟨[.ref 49, .str ⟨z.toArray⟩ tb], []⟩) n = some (.done (.ret .none), []) else
  ∃ o o' : Obj, peekA (hd.heap_39 P) S (Builtin.«re.Pattern.search» ⟨[.ref 49, .str ⟨z.toArray⟩ tb], []⟩) n = some (.done (.ret (.ref (n + 1))), [o, o'])
theorem srun_p (z : List Nat) (h : z ∈ wplain) (e : ∀ (P : Params) (S : Setting) (tb : Tok) (n : Nat), peekA (hd.heap_39 P) S (Builtin.«re.Pattern.search» ⟨[.ref 49, .str ⟨z.toArray⟩ tb], []⟩) n = some (.done (.ret .none), [])) : SRun z := fun P S tb n => by
  rw [if_pos h]; exact e P S tb n
noncomputable def objAt (k : Nat) (x : Option (PySem.Fin × List Obj)) : Obj := match x with
  | some (_, l) => l.getD k emptyDict
  | _ => emptyDict
theorem srun_q (z : List Nat) (h : z ∉ wplain) (e : ∀ (P : Params) (S : Setting) (tb : Tok) (n : Nat), peekA (hd.heap_39 P) S (Builtin.«re.Pattern.search» ⟨[.ref 49, .str ⟨z.toArray⟩ tb], []⟩) n = some (.done (.ret (.ref (n + 1))), [objAt 0 (peekA (hd.heap_39 P) S (Builtin.«re.Pattern.search» ⟨[.ref 49, .str ⟨z.toArray⟩ tb], []⟩) n), objAt 1 (peekA (hd.heap_39 P) S (Builtin.«re.Pattern.search» ⟨[.ref 49, .str ⟨z.toArray⟩ tb], []⟩) n)])) : SRun z := fun P S tb n => by
  rw [if_neg h]; exact ⟨_, _, e P S tb n⟩
theorem srun1 : SRun [97, 49] := srun_p _ (by decide) (fun P S tb n => by kernel_rfl)
theorem srun2 : SRun [51] := srun_p _ (by decide) (fun P S tb n => by kernel_rfl)
theorem srun3 : SRun [48] := srun_p _ (by decide) (fun P S tb n => by kernel_rfl)
theorem srun4 : SRun [49] := srun_p _ (by decide) (fun P S tb n => by kernel_rfl)
theorem srun5 : SRun [50] := srun_p _ (by decide) (fun P S tb n => by kernel_rfl)
theorem srun6 : SRun [105, 116, 39, 115] := srun_q _ (by decide) (fun P S tb n => by kernel_rfl)
theorem srun7 : SRun [97, 32, 98] := srun_q _ (by decide) (fun P S tb n => by kernel_rfl)
theorem srun8 : SRun [35] := srun_q _ (by decide) (fun P S tb n => by kernel_rfl)
theorem srun9 : SRun [92] := srun_q _ (by decide) (fun P S tb n => by kernel_rfl)
theorem srun10 : SRun [34] := srun_q _ (by decide) (fun P S tb n => by kernel_rfl)
theorem srun11 : SRun [233] := srun_q _ (by decide) (fun P S tb n => by kernel_rfl)
theorem srun12 : SRun [9] := srun_q _ (by decide) (fun P S tb n => by kernel_rfl)
theorem srun13 : SRun [39] := srun_q _ (by decide) (fun P S tb n => by kernel_rfl)
noncomputable def allW : List (List Nat) := [[105, 116, 39, 115], [97, 32, 98], [35], [92], [34], [233], [51], [9], [97, 49], [39], [48], [49], [50]]
theorem srun_all : ∀ z ∈ allW, SRun z := by
  intro z hz
  simp only [allW, List.mem_cons, List.not_mem_nil, or_false] at hz
  rcases hz with rfl | rfl | rfl | rfl | rfl | rfl | rfl | rfl | rfl | rfl | rfl | rfl | rfl
  · exact srun6
  · exact srun7
  · exact srun8
  · exact srun9
  · exact srun10
  · exact srun11
  · exact srun2
  · exact srun12
  · exact srun1
  · exact srun13
  · exact srun3
  · exact srun4
  · exact srun5

end
section
theorem lines_14 : True := by
  k_with_none
  k_with "execs cons" => (first | (k_fold; (try dsimp only); (try (with_reducible refine gen_toks ?_; intro tk9))) | (with_reducible refine gen_toks ?_; intro tk9))
  k_with "MY nth" => (k_dflt (first | exact @rfl _ (nthO _ 0) | exact @rfl _ (nthO _ 1) | exact @rfl _ (nthO _ 2) | exact @rfl _ (nthO _ 3) | exact @rfl _ (nthO _ 4) | exact @rfl _ (nthO _ 5) | exact @rfl _ (nthO _ 6) | exact @rfl _ (nthO _ 7) | exact @rfl _ (nthO _ 8) | exact @rfl _ (nthO _ 9) | exact @rfl _ (nthO _ 10) | exact @rfl _ (nthO _ 11) | exact @rfl _ (nthO _ 12) | exact @rfl _ (nthO _ 13) | exact @rfl _ (nthO _ 14) | exact @rfl _ (nthO _ 15) | exact @rfl _ (nthO _ 16) | exact @rfl _ (nthO _ 17) | exact @rfl _ (nthO _ 18) | exact @rfl _ (nthO _ 19) | exact @rfl _ (nthO _ 20) | exact @rfl _ (nthO _ 21) | exact @rfl _ (nthO _ 22) | exact @rfl _ (nthO _ 23) | exact @rfl _ (nthO _ 24) | exact @rfl _ (nthO _ 25)))
  k_with "MY nlt" => (first
      | exact NeN.ne (by with_reducible assumption)
      | exact Ne.symm (NeN.ne (by with_reducible assumption))
      | exact Nat.ne_of_gt (by with_reducible assumption)
      | exact Nat.ne_of_lt (by with_reducible assumption)
      | (refine' LtA.ne ?qh ?qe; (case qh => with_reducible assumption); (case qe => k_extra "MY nth"))
      | (refine' LtA.ne' ?qh ?qe; (case qh => with_reducible assumption); (case qe => k_extra "MY nth"))
      | (refine' LtA.neS ?qh ?qe; (case qh => with_reducible assumption); (case qe => k_extra "MY nth"))
      | (refine' LtA.neS' ?qh ?qe; (case qh => with_reducible assumption); (case qe => k_extra "MY nth"))
      | (refine' LtA.neT ?qh ?qe; (case qh => with_reducible assumption); (case qe => k_extra "MY nth"))
      | (refine' LtA.neT' ?qh ?qe; (case qh => with_reducible assumption); (case qe => k_extra "MY nth"))
      | (refine' OffA.ne ?qh ?qe; (case qh => with_reducible assumption); (case qe => k_extra "MY nth"))
      | (refine' OffA.ne' ?qh ?qe; (case qh => with_reducible assumption); (case qe => k_extra "MY nth"))
      | (refine' Apart.at ?qh ?qe ?qf ?qn; (case qh => with_reducible assumption); (case qe => k_extra "MY nth"); (case qf => k_extra "MY nth"); (case qn => exact rfl)))
  k_with "k_all" => ((k_dflt (refine' ltA_off ?qh ?qe; (case qh => with_reducible assumption); (case qe => first | exact @rfl _ (dropO 0 _) | exact @rfl _ (dropO 1 _) | exact @rfl _ (dropO 2 _) | exact @rfl _ (dropO 3 _) | exact @rfl _ (dropO 4 _) | exact @rfl _ (dropO 5 _) | exact @rfl _ (dropO 6 _) | exact @rfl _ (dropO 7 _) | exact @rfl _ (dropO 8 _) | exact @rfl _ (dropO 9 _) | exact @rfl _ (dropO 10 _) | exact @rfl _ (dropO 11 _)))))
  k_with "MY lts" => ((k_dflt (refine' ltA_lts ?qh ?qe; (case qh => with_reducible assumption); (case qe => first | exact @rfl _ (dropO 0 _) | exact @rfl _ (dropO 1 _) | exact @rfl _ (dropO 2 _) | exact @rfl _ (dropO 3 _) | exact @rfl _ (dropO 4 _) | exact @rfl _ (dropO 5 _) | exact @rfl _ (dropO 6 _) | exact @rfl _ (dropO 7 _) | exact @rfl _ (dropO 8 _) | exact @rfl _ (dropO 9 _) | exact @rfl _ (dropO 10 _) | exact @rfl _ (dropO 11 _)))))
  k_with "MY pick" => (first | (refine' LtA.lt ?qh ?qe; (case qh => with_reducible assumption); (case qe => k_extra "MY nth")) | (refine Nat.lt_succ_of_lt ?_; (refine' LtA.lt ?qh ?qe; (case qh => with_reducible assumption); (case qe => k_extra "MY nth"))) | (refine Nat.lt_succ_of_lt (Nat.lt_succ_of_lt ?_); (refine' LtA.lt ?qh ?qe; (case qh => with_reducible assumption); (case qe => k_extra "MY nth"))))
  k_with "MY lt" => (first
      | (refine' lt_le ?qh ?qe; (case qh => assumption); (case qe => exact rfl))
      | (refine' lt_p ?qh ?qe; (case qh => assumption); (case qe => exact rfl))
      | (refine' lt_pp ?qh ?qe; (case qh => assumption); (case qe => exact rfl))
      | (refine' lt_ppp ?qh ?qe; (case qh => assumption); (case qe => exact rfl))
      | (refine' le_le ?qh ?qe; (case qh => assumption); (case qe => exact rfl))
      | decide
      | ((try simp only [LtA] at *); omega))
  k_with "k_ne" => ((refine neN ?_; (try dsimp only); first | k_extra "MY nlt" | omega | ((try simp only [LtA, List.forall_mem_cons] at *); omega)))
  k_with "k_room" => (((try simp only [depth_under_make, depth_under_kw, depth_in1, depth_deeper, depth_caller]); (show _ < 1000); k_dflt (k_extra "MY lt")))
  k_with "MY enterB" => ((refine' code_foot ?k1 ?k2 ?k3 ?k4 ?k5 ?k6 ?k7 ?_ ?c1 ?c2 ?c3 ?c4; (case k1 => assumption); (case k2 => assumption); (case k3 => k_is); (case k4 => k_is); (case k5 => k_room); (case k6 => first | exact BindsTo.of_eq rfl | exact binds_K (by k_in) rfl (by k_is) rfl rfl rfl); (case k7 => exact locs rfl); (case c1 => exact rfl); (case c2 => exact rfl); (case c3 => exact rfl); (case c4 => decide)))
  k_with "MY enter" => ((refine' on_foot ?k1 ?k3 ?k4 ?k5 ?k6 ?k7 ?_ ?c1 ?c2 ?c3 ?c4; (case k1 => assumption); (case k3 => k_is); (case k4 => k_is); (case k5 => k_room); (case k6 => first | exact BindsTo.of_eq rfl | exact binds_K (by k_in) rfl (by k_is) rfl rfl rfl); (case k7 => exact locs rfl); (case c1 => exact rfl); (case c2 => exact rfl); (case c3 => exact rfl); (case c4 => decide); intro bx9 px9 lx9 mx9 gx9 hx9))
  k_with "setAttr ref" => ((k_here; first | ((with_reducible refine' lex_set_state ?k1 ?k2 ?k3 ?k4 ?U ?_); k_dflt ((case k1 => k_asm); (case k2 => k_asm); (case k3 => k_asm); (case k4 => k_mem); (case U => k_upd)); k_whole; intro h' F' N'; (try k_sweep)) | ((with_reducible refine' lex_set_token ?k1 ?k2 ?k3 ?k4 ?U ?_); k_dflt ((case k1 => k_asm); (case k2 => k_asm); (case k3 => k_asm); (case k4 => k_mem); (case U => k_upd)); k_whole; intro h' F' N'; (try k_sweep)) | ((with_reducible refine' lex_set_lineno ?k1 ?k2 ?k3 ?k4 ?U ?_); k_dflt ((case k1 => k_asm); (case k2 => k_asm); (case k3 => k_asm); (case k4 => k_mem); (case U => k_upd)); k_whole; intro h' F' N'; (try k_sweep)) | ((with_reducible refine' lex_set_infile ?k1 ?k2 ?k3 ?k4 ?U ?_); k_dflt ((case k1 => k_asm); (case k2 => k_asm); (case k3 => k_asm); (case k4 => k_mem); (case U => k_upd)); k_whole; intro h' F' N'; (try k_sweep)) | ((with_reducible refine' lex_set_instream ?k1 ?k2 ?k3 ?k4 ?U ?_); k_dflt ((case k1 => k_asm); (case k2 => k_asm); (case k3 => k_asm); (case k4 => k_mem); (case U => k_upd)); k_whole; intro h' F' N'; (try k_sweep))))
  k_with "eval Attribute Name" => ((k_here; k_dflt (refine' self_own ?F ?X ?N ?hv ?h1 ?h2 ?hK ?hl ?hh ?_; (case F => k_asm); (case hv => exact rfl); (case X => k_asm); (case N => k_asm); (case h1 => k_mem); (case hK => first | (with_reducible exact own732_state _) | (with_reducible exact own732_debug _) | (with_reducible exact own732_whitespace _) | (with_reducible exact own732_posix _) | (with_reducible exact own732_token _) | (with_reducible exact own732_quotes _) | (with_reducible exact own732_escape _) | (with_reducible exact own732_wordchars _) | (with_reducible exact own732_commenters _) | (with_reducible exact own732_instream _) | (with_reducible exact own732_lineno _) | (with_reducible exact own732__punctuation_chars _) | (with_reducible exact own732_infile _) | (with_reducible exact own732_eof _) | (with_reducible exact own732_escapedquotes _) | (with_reducible exact own732_whitespace_split _) | (with_reducible exact own732_pushback _) | (with_reducible exact own732_filestack _) | (with_reducible exact own732_source _) | (with_reducible exact own597_buf _) | (with_reducible exact own597_pos _) | (with_reducible exact own597_newline _)); (case h2 => k_mem); (case hl => k_get); (case hh => k_handed); k_whole)))
  k_with "ite" => (first | with_reducible (refine iteT ?_) | with_reducible (refine iteF ?_))
  k_with "CompEnd" => (refine stopMark ?_)
  k_with "eval Name" => ((k_here; (with_reducible show wpAny _ _ (eval (Expr.Name _ _) (compEnvC _ _ _ _)) _ _ _); k_dflt (first
      | refine LCgL.ld_own (by k_asm) (by k_mem) (by assumption) (by assumption) ?_
      | refine LCgL.ld_global (by k_asm) (by k_asm) (by k_asm) (by k_is) ?_
      | refine LCgL.ld_built (by k_asm) (by k_asm) (by k_asm) (by k_is) (by boot_by_name) (by decide) ?_)))
  k_with "eval Name" => ((k_here; (fail_if_success (with_reducible show wpAny _ _ (eval (Expr.Name _ _) (compEnvC _ _ _ _)) _ _ _)); k_dflt (refine' nameX_L ?F ?hv ?_; (case F => k_asm); (case hv => exact rfl); k_whole)))
  k_with "callWith ref" => ((k_here; k_dflt (refine' callWith_K ?k1 ?k2 ?_; (case k1 => k_asm); (case k2 => k_is); k_whole)))
  k_with "exec While" => (refine stopMark ?_)
  k_with "Exists" => (refine stopMark ?_)
  k_with "exec If" => (refine wpAny_If ?_)
  k_with "compareOp In str str" => (first | refine in_yes (by first | assumption | decide +kernel) ?_ | refine in_no (by first | assumption | decide +kernel) ?_)
  k_with "compareOp Eq str str" => (first | refine eq_yes (by first | assumption | rfl) ?_ | refine eq_no (by first | assumption | decide +kernel) ?_ | refine stopMark ?_)
  k_with "truthy str" => (first | refine truthy_sgn ?_ | refine truthy_yes (by assumption) (by first | assumption | omega) ?_ | refine truthy_no (by assumption) ?_)
  k_with "MY steps" => (repeat' (first | (k_unfold; (try dsimp only)) | (k_end; wrow_close) | walk1 | (dsimp only; walk1) | (leave1; try dsimp only) | fail "no step"))
  k_with "MY fin" => (repeat (first | dsimp only | (k_unfold; (try dsimp only))))
  k_with "MY open" => ((
      rename On _ _ _ _ _ => aOn9
      have Gk9 := aOn9.k
      have hap9 := aOn9.apart
      dsimp only [List.map] at hap9
      refine wpAny_call ?_
      k_dflt (k_extra "MY enter")))
  k_with "MY ret" => ((
      rename _ = hideAll _ _ => hgX
      rename Fr _ _ _ _ => kF
      rename News _ _ _ _ => kN
      rename (∀ _ _ _, Kept _ _ _ → _) => retX
      refine' retX _ _ _ (fun b o e => kF.keep b o (hgX ▸ e)) ?_
      (first | exact (fun q hq => (kN q hq).1) | exact ⟨_, fun q hq => (kN q hq).1⟩)))
  trivial
section
variable {w : World} {A₀ A : Around} {s : Shared} {base h₀ : Heap} {outer : List Env} {env : Env} {L : Addr} {m : PySem.Str → Option Value} {news : List (Addr × Obj)} {p : Program} {loose : List PySem.Str} {mean : ExcName → Option Value} {mg mb : PySem.Str → Option Value}
  {dep un : Nat} {gs : Option (List Code)} {E Q : Value → Shared → Prop}
theorem q_search0 {z : List Nat} {t : Tok} (r : SRun z) (XS : (hd.heap_39 w.params).In s.heap)
    (h : if z ∈ wplain then Q .none s else ∀ o o', Q (.ref (s.heap.objs.size + 1)) { s with heap := (s.heap.push o).push o' }) : wpAny (model PR w) A (call (.ref 737) [.str ⟨z.toArray⟩ t]) Q E s := by
  refine wpAny_call (codeAny_of_tree ?_)
  show wpAny _ _ (callAny (.ref 737) ⟨[.str ⟨z.toArray⟩ t], []⟩) _ _ _
  refine (Looks.of_peek XS (q_call _ _ _ t)).here ⟨Code.quiet_builtin _ (by decide +kernel), ?_⟩
  refine codeAny_builtin entry_search ?_
  have := r w.params ⟨PR, w.params⟩ t s.heap.objs.size
  split at this
  · rename_i hz
    rw [if_pos hz] at h
    exact wp_of_peekA _ XS this h
  · rename_i hz
    rw [if_neg hz] at h
    obtain ⟨o, o', this⟩ := this
    exact wp_of_peekA _ XS this (h o o')
theorem q_keeper (P : Params) (S : Setting) : peek (hd.heap_39 P) S (keeperOf (.ref 737)) = some .machine := by kernel_rfl
theorem callWith_q {pos : Pos} {first : List Value} {e : Expr} {rest : List Expr} (_X : (hd.heap_39 w.params).In h₀) (h : wpAny (model PR w) A (spliced (backTo pos (starEach (e :: rest) env))) (fun vs s₁ => (hd.heap_39 w.params).In s₁.heap ∧ wpAny (model PR w) A (call (.ref 737) (first ++ vs)) Q E s₁) E s)
    (he : starEach (e :: rest) env = (false, eval e env) :: starEach rest env := by rfl) (hplain : (backTo pos (starEach rest env)).any (·.1) = false := by rfl) :
    wpAny (model PR w) A (callWith pos (.ref 737) first (backTo pos (starEach (e :: rest) env)) []) Q E s := by
  rw [he] at h ⊢
  exact callWith_of (by show ((false || (backTo pos (starEach rest env)).any (·.1)) || false) = false; rw [hplain]; rfl) (fun h X => ⟨.machine, .inr (.inl rfl), Looks.of_peek X (q_keeper _ _)⟩) (evalArgs_plain h)
theorem q_plain {z : List Nat} {t : Tok} (hw : z ∈ allW) (hz : z ∈ wplain) (F : Fr h₀ L s.heap m) (X : (hd.heap_39 w.params).In h₀) (h : Q .none s) :
    wpAny (model PR w) A (call (.ref 737) [.str ⟨z.toArray⟩ t]) Q E s := q_search0 (srun_all z hw) (X.keeps F.keep) (by rw [if_pos hz]; exact h)
theorem q_found {z : List Nat} {t : Tok} (hw : z ∈ allW) (hz : z ∉ wplain) (F : Fr h₀ L s.heap m) (X : (hd.heap_39 w.params).In h₀) (N : News h₀ L s.heap news)
    (h : ∀ x h', Fr h₀ L h' m → News h₀ L h' news → Q (.ref x) { s with heap := h' }) :
    wpAny (model PR w) A (call (.ref 737) [.str ⟨z.toArray⟩ t]) Q E s := q_search0 (srun_all z hw) (X.keeps F.keep) (by
  rw [if_neg hz]
  intro o o'
  exact h _ _ ((F.push _).push _) ((N.pushKeep o).pushKeep o'))
end
theorem lines_15 : True := by
  k_with "call ref" => (((with_reducible show wpAny _ _ (call (Value.ref 737) [Value.str _ _]) _ _ _); first
      | (k_dflt (refine' q_plain ?k1 ?k2 ?k3 ?k4 ?_; (case k1 => with_reducible assumption); (case k2 => with_reducible assumption); (case k3 => k_asm); (case k4 => k_asm); k_whole))
      | (k_dflt (refine' q_found ?k1 ?k2 ?k3 ?k4 ?k5 ?_; (case k1 => with_reducible assumption); (case k2 => with_reducible assumption); (case k3 => k_asm); (case k4 => k_asm); (case k5 => k_asm); k_whole); intro x' h' F' N')
      | refine stopMark ?_))
  k_with "callWith ref" => (((with_reducible show wpAny _ _ (callWith _ (Value.ref 737) _ _ _) _ _ _); k_dflt (refine' callWith_q ?k1 ?_; (case k1 => k_asm); k_whole)))
  k_with "binaryOp Add str str" => (((refine KOpn.add (by simp only [PySem.Str.length_append]; (first | lia | omega)) ?_); intro _ _ _))
  trivial
noncomputable def qrep (z : List Nat) : PySem.Str := Txt.replace ⟨z.toArray⟩ (PySem.Str.ofString "'") (PySem.Str.ofString "'\"'\"'")
theorem qrep_len : ∀ z ∈ allW, (qrep z).length ≤ 20 := by decide +kernel
theorem qrep_val : ∀ z ∈ allW, z ∉ wplain → PySem.Str.ofString "'" ++ qrep z ++ PySem.Str.ofString "'" = ⟨(spOf z).toArray⟩ := by decide +kernel
theorem allW_len : ∀ z ∈ allW, z.length ≠ 0 ∧ z.length ≤ 10 := by decide
set_option maxHeartbeats 8000000 in
theorem quote_walk {w : World} {dep un : Nat} {gs : Option (List Code)} {s : Shared} {outer : List Env} {E Q : Value → Shared → Prop} {z : List Nat} {t : Tok} (hw : z ∈ allW)
    (hD : dep < 690) (hU : un < 5000)
    (a : On w (AA none dep outer gs un) outer s [])
    (ret : ∀ h' tk' t', Kept s [] h' → Q (.str ⟨(spOf z).toArray⟩ t') { s with heap := h', toks := tk' }) :
    wpAny (model PR w) (AA none dep outer gs un) (call (.ref 744) [.str ⟨z.toArray⟩ t]) Q E s := by
  have hlz : (⟨z.toArray⟩ : PySem.Str).length = z.length := by simp [PySem.Str.length]
  have hlen : (⟨z.toArray⟩ : PySem.Str).length ≠ 0 := by rw [hlz]; exact (allW_len z hw).1
  have hl4 : (⟨z.toArray⟩ : PySem.Str).length ≤ 10 := by rw [hlz]; exact (allW_len z hw).2
  have hrl : (Txt.replace ⟨z.toArray⟩ (PySem.Str.ofString "'") (PySem.Str.ofString "'\"'\"'")).length ≤ 20 := qrep_len z hw
  have hq1 : (PySem.Str.ofString "'").length = 1 := rfl
  k_extra "MY open"
  intro g L' h₁ hg F' N' B' X' T' hlt
  (try dsimp only)
  k_fold
  by_cases hz : z ∈ wplain
  · k_extra "MY steps"
    k_extra "MY fin"
    have e : (⟨z.toArray⟩ : PySem.Str) = ⟨(spOf z).toArray⟩ := by rw [spOf, if_pos hz]
    rw [e]
    rename Fr _ _ _ _ => kF
    exact ret _ _ _ (fun b o e => kF.keep b o (hg ▸ e))
  · k_extra "MY steps"
    k_extra "MY fin"
    have e := qrep_val z hw hz
    unfold qrep at e
    rw [e]
    rename Fr _ _ _ _ => kF
    exact ret _ _ _ (fun b o e => kF.keep b o (hg ▸ e))
set_option maxHeartbeats 8000000 in
theorem quote_walk0 {w : World} {dep un : Nat} {gs : Option (List Code)} {s : Shared} {outer : List Env} {E Q : Value → Shared → Prop} {t : Tok}
    (hD : dep < 690) (hU : un < 5000)
    (a : On w (AA none dep outer gs un) outer s [])
    (ret : ∀ h' tk' t', Kept s [] h' → Q (.str ⟨(spOf []).toArray⟩ t') { s with heap := h', toks := tk' }) :
    wpAny (model PR w) (AA none dep outer gs un) (call (.ref 744) [.str ⟨([] : List Nat).toArray⟩ t]) Q E s := by
  have hlz : (⟨([] : List Nat).toArray⟩ : PySem.Str).length = 0 := rfl
  k_extra "MY open"
  intro g L' h₁ hg F' N' B' X' T' hlt
  (try dsimp only)
  k_fold
  k_extra "MY steps"
  k_extra "MY fin"
  have e : PySem.Str.ofString "''" = ⟨(spOf []).toArray⟩ := by decide +kernel
  rw [e]
  rename Fr _ _ _ _ => kF
  exact ret _ _ _ (fun b o e => kF.keep b o (hg ▸ e))
section
variable {w : World} {A₀ A : Around} {s : Shared} {base h₀ : Heap} {outer : List Env} {env : Env} {L : Addr} {m : PySem.Str → Option Value} {news : List (Addr × Obj)} {p : Program} {loose : List PySem.Str} {mean : ExcName → Option Value} {mg mb : PySem.Str → Option Value}
  {dep un : Nat} {gs : Option (List Code)} {E Q : Value → Shared → Prop}
theorem quote_use {z : List Nat} {t : Tok} (hw : z = [] ∨ z ∈ allW) (B : Below A₀ base outer h₀) (F : Fr h₀ L s.heap m) (X : (hd.heap_39 w.params).In h₀) (N : News h₀ L s.heap news) (T : Top p loose mean mg mb h₀) (hf : env.frame = some L) (hke : env.scope.kind = .function)
    (hD : dep < 690) (hU : un < 5000)
    (h : ∀ h' tk' t', Fr h₀ L h' m → News h₀ L h' news → Q (.str ⟨(spOf z).toArray⟩ t') { s with heap := h', toks := tk' }) :
    wpAny (model PR w) (AA none dep (env :: outer) gs un) (call (.ref 744) [.str ⟨z.toArray⟩ t]) Q E s := by
  have key : ∀ (ret : ∀ h' tk' t', Kept s [] h' → Q (.str ⟨(spOf z).toArray⟩ t') { s with heap := h', toks := tk' }) (a : On w (AA none dep (env :: outer) gs un) (env :: outer) s []), wpAny (model PR w) (AA none dep (env :: outer) gs un) (call (.ref 744) [.str ⟨z.toArray⟩ t]) Q E s := by
    intro ret a
    rcases hw with rfl | hw
    · exact quote_walk0 hD hU a ret
    · exact quote_walk hw hD hU a ret
  refine key ?_ (On.of B F X N T rfl hf hke (fun q hq => nomatch hq) trivial)
  intro h' tk' t' hk
  exact h h' tk' t' (back_fr (foot := []) F N (fun q hq => nomatch hq) hk) (back_same (foot := []) N (fun q hq => nomatch hq) hk (fun q hq => nomatch hq))
end

end
section
inductive ItmIs : Itm → Value → Prop
  | w (z : List Nat) (t : Tok) : ItmIs (.w z) (.str ⟨z.toArray⟩ t)
  | n (j : Nat) (t : Tok) : ItmIs (.n j) (.int (j : Int) t)
inductive ItmsAre : List Itm → List Value → Prop
  | nil : ItmsAre [] []
  | cons {it : Itm} {v : Value} {l : List Itm} {vs : List Value} (h : ItmIs it v) (r : ItmsAre l vs) : ItmsAre (it :: l) (v :: vs)
theorem ItmsAre.length {l : List Itm} {vs : List Value} (h : ItmsAre l vs) : vs.length = l.length := by
  induction h with
  | nil => rfl
  | cons _ _ ih => simp [ih]
theorem ItmsAre.get {l : List Itm} {vs : List Value} (h : ItmsAre l vs) : ∀ {i : Nat} {v : Value}, vs[i]? = some v → ∃ it, l[i]? = some it ∧ ItmIs it v := by
  induction h with
  | nil => intro i v e; simp at e
  | cons h r ih =>
    intro i v e
    cases i with
    | zero => simp at e; subst e; exact ⟨_, rfl, h⟩
    | succ i => exact ih (by simpa using e)
theorem ItmsAre.snoc {l : List Itm} {vs : List Value} {it : Itm} {v : Value} (h : ItmsAre l vs) (k : ItmIs it v) : ItmsAre (l ++ [it]) (vs ++ [v]) := by
  induction h with
  | nil => exact .cons k .nil
  | cons h r ih => exact .cons h ih
/-- the four texts, as the law's heap holds them -/
noncomputable abbrev txFoot (tl a0 a1 a2 a3 : Addr) (n n0 n1 n2 n3 : Nat) (v0 v1 v2 v3 : List Value) : List En :=
  [(tl, W.listOf #[.ref a0, .ref a1, .ref a2, .ref a3] n), (a0, W.listOf v0.toArray n0), (a1, W.listOf v1.toArray n1), (a2, W.listOf v2.toArray n2), (a3, W.listOf v3.toArray n3)]
structure TxAre (T : Txs) (v0 v1 v2 v3 : List Value) : Prop where
  t0 : ItmsAre (T 0) v0
  t1 : ItmsAre (T 1) v1
  t2 : ItmsAre (T 2) v2
  t3 : ItmsAre (T 3) v3
/-- the counts, as the law's heap holds them -/
noncomputable def szI (T : Txs) (i : Nat) : List Int := (szs T i).map (fun x : Nat => (x : Int))
inductive All2 {α : Type} (R : α → Value → Prop) : List α → List Value → Prop
  | nil : All2 R [] []
  | cons {a : α} {v : Value} {l : List α} {vs : List Value} (h : R a v) (r : All2 R l vs) : All2 R (a :: l) (v :: vs)
theorem All2.snoc {α : Type} {R : α → Value → Prop} {l : List α} {vs : List Value} {a : α} {v : Value} (h : All2 R l vs) (k : R a v) : All2 R (l ++ [a]) (vs ++ [v]) := by
  induction h with
  | nil => exact .cons k .nil
  | cons h r ih => exact .cons h ih
theorem All2.length {α : Type} {R : α → Value → Prop} {l : List α} {vs : List Value} (h : All2 R l vs) : vs.length = l.length := by
  induction h with
  | nil => rfl
  | cons _ _ ih => simp [ih]
section
variable {prog : Program} {w : World} {A : Around} {h₀ : Heap} {L : Addr} {m : PySem.Str → Option Value} {env : Env} {elt : Expr} {x : PySem.Str} {scope : Scope} {cl : List (PySem.Str × Addr)} {s : Shared} {S : List (Addr × Obj) → Prop} {P : Nat → Value → Prop} {Fin : List Value → List (Addr × Obj) → Prop} {news : List (Addr × Obj)}
/-- a comprehension's turns, each item's value told, the ledger as it was -/
theorem comp_map {α : Type} {n : Nat} {l : List α} (R : α → Value → Prop) (hn : l.length = n) (Pv : α → Value → Prop) (hP : ∀ i v, i < n → P i v → ∃ a, l[i]? = some a ∧ Pv a v)
    (turn : ∀ a v I oI C oC D m₂ ys h tk (E' : Value → Shared → Prop), a ∈ l → Pv a v → LCg.NsObj oC m₂ → m₂ x = some v → Fr h₀ L h m → News h₀ L h ((I, oI) :: (C, oC) :: (D, LCg.lst ys) :: news) → LCg.Off3 I C D news → ((@Ne Nat I C) ∧ (@Ne Nat I D) ∧ (@Ne Nat C D)) →
      wpAny (model prog w) A (eval elt (compEnvC scope cl C env)) (LCg.CompEnd h₀ L m { s with heap := h, toks := tk } I oI C oC D (LCg.lst ys) S (fun y news' => news' = news ∧ R a y)) E' { s with heap := h, toks := tk })
    (fin : ∀ ys, All2 R l ys → Fin ys news) : LCg.CompRest prog w A h₀ L m env elt x scope cl s S P Fin n 0 [] news := by
  have key : ∀ (j i : Nat) (ys : List Value), i + j = n → All2 R (l.take i) ys → LCg.CompRest prog w A h₀ L m env elt x scope cl s S P Fin j i ys news := by
    intro j
    induction j with
    | zero =>
      intro i ys hi hy
      have e : i = l.length := by (first | lia | omega)
      subst e
      rw [List.take_length] at hy
      exact LCg.CompRest.zero (fin ys hy)
    | succ j ih =>
      intro i ys hi hy
      refine LCg.CompRest.succ ?_
      intro v I oI C oC D m₂ h tk E' hv hC hx F N off ne
      obtain ⟨a, ha, hpv⟩ := hP i v (by (first | lia | omega)) hv
      refine wpAny_mono (turn a v I oI C oC D m₂ ys h tk E' (List.mem_of_getElem? ha) hpv hC hx F N off ne) (fun y s₂ hq => ?_) fun _ _ e => e
      obtain ⟨h', tk', nw, e, F', N', off', hS, hn', hr⟩ := hq
      rw [hn'] at N' off' hS
      refine ⟨h', tk', news, e, F', N', off', hS, ?_⟩
      refine ih (i + 1) _ (by (first | lia | omega)) ?_
      rw [List.take_add_one, ha]
      exact hy.snoc hr
  exact key n 0 [] (by (first | lia | omega)) (by simp only [List.take_zero]; exact .nil)
theorem comp_itms {l : List Itm} {vs : List Value} (R : Itm → Value → Prop) (hl : ItmsAre l vs)
    (turn : ∀ it v I oI C oC D m₂ ys h tk (E' : Value → Shared → Prop), it ∈ l → ItmIs it v → LCg.NsObj oC m₂ → m₂ x = some v → Fr h₀ L h m → News h₀ L h ((I, oI) :: (C, oC) :: (D, LCg.lst ys) :: news) → LCg.Off3 I C D news → ((@Ne Nat I C) ∧ (@Ne Nat I D) ∧ (@Ne Nat C D)) →
      wpAny (model prog w) A (eval elt (compEnvC scope cl C env)) (LCg.CompEnd h₀ L m { s with heap := h, toks := tk } I oI C oC D (LCg.lst ys) S (fun y news' => news' = news ∧ R it y)) E' { s with heap := h, toks := tk })
    (fin : ∀ ys, All2 R l ys → Fin ys news) : LCg.CompRest prog w A h₀ L m env elt x scope cl s S (fun i v => vs.toArray[i]? = some v) Fin vs.toArray.size 0 [] news :=
  comp_map R (by rw [List.size_toArray]; exact hl.length.symm) ItmIs (fun i v _ hv => hl.get (by simpa using hv)) turn fin
end
noncomputable def isInt (f : Itm → Int) (it : Itm) (v : Value) : Prop := ∃ t, v = .int (f it) t
theorem ints_of {f : Itm → Int} {l : List Itm} {ys : List Value} (h : All2 (isInt f) l ys) : IntsAre ys (l.map f) := by
  induction h with
  | nil => exact .nil
  | cons h r ih => obtain ⟨t, rfl⟩ := h; exact .cons _ _ ih
noncomputable def fI (T : Txs) (i : Nat) (it : Itm) : Int := (itv (sumsOf T i) it : Int)
theorem fI_sum (T : Txs) (i : Nat) : ((T i).map (fI T i)).sum = (sz T i : Int) := by
  have key : ∀ l : List Itm, (l.map (fI T i)).sum = (((l.map (itv (sumsOf T i))).sum : Nat) : Int) := by
    intro l
    induction l with
    | nil => rfl
    | cons it l ih => simp only [List.map_cons, List.sum_cons, ih, fI, Int.natCast_add]
  exact key (T i)
theorem szI_map (T : Txs) (i : Nat) : (T i).map (fI T i) = szI T i := by
  simp only [szI, szs, List.map_map]
  rfl
/-- hidden from (first | lia | omega) -/
noncomputable def LtN (a b : Nat) : Prop := @LT.lt Nat _ a b
theorem LtN.ne {a b : Nat} (h : LtN a b) : @Ne Nat a b := Nat.ne_of_lt h
theorem LtN.ne' {a b : Nat} (h : LtN a b) : @Ne Nat b a := Nat.ne_of_gt h
noncomputable def AllLtN (d : Nat) : List En → Prop
  | [] => True
  | p :: r => LtN p.1 d ∧ AllLtN d r
theorem allLtN_of {d : Addr} : ∀ {l : List En}, (∀ q ∈ l, q.1 < d) → AllLtN d l
  | [], _ => trivial
  | _ :: _, h => ⟨h _ (.head _), allLtN_of fun q hq => h q (.tail _ hq)⟩
theorem offA_of : ∀ {d : Addr} {l : List En}, LCg.Off1 d l → OffA d (l.map (·.1))
  | _, [], _ => fun _ h => nomatch h
  | _, _ :: _, h => fun a ha => (List.mem_cons.mp ha).elim (fun e => e ▸ h.1) (fun q => offA_of h.2 a q)
noncomputable abbrev szObjs (D D0 D1 D2 D3 : Addr) (n : Nat) (y0 y1 y2 y3 : List Value) : List En :=
  [(D, W.listOf #[.ref D0, .ref D1, .ref D2, .ref D3] n), (D0, LCg.lst y0), (D1, LCg.lst y1), (D2, LCg.lst y2), (D3, LCg.lst y3)]
structure SzAre (T : Txs) (y0 y1 y2 y3 : List Value) : Prop where
  t0 : IntsAre y0 (szI T 0)
  t1 : IntsAre y1 (szI T 1)
  t2 : IntsAre y2 (szI T 2)
  t3 : IntsAre y3 (szI T 3)
noncomputable def SzLeft (T : Txs) (s : Shared) (h' : Heap) (D : Addr) : Prop :=
  ∃ D0 D1 D2 D3 n y0 y1 y2 y3, (∀ q ∈ szObjs D D0 D1 D2 D3 n y0 y1 y2 y3, h'.get? q.1 = some q.2 ∧ s.heap.get? q.1 = none) ∧ SzAre T y0 y1 y2 y3 ∧ Apart [D, D0, D1, D2, D3]
theorem new_none' {s : Shared} {g h : Heap} {L a : Addr} {o : Obj} {foot news : List En} (hg : g = hideAll s.heap (foot.map (·.1))) (N : News g L h news) (hm : (a, o) ∈ news) (hlt : ∀ q ∈ foot, q.1 ≠ a) : h.get? a = some o ∧ s.heap.get? a = none := by
  refine ⟨(N _ hm).1, ?_⟩
  cases e : s.heap.get? a with
  | none => rfl
  | some o' =>
    have h1 := (N _ hm).2.2
    rw [hg] at h1
    have h2 : (hideAll s.heap (foot.map (·.1))).get? a = some o' := hideAll_iff.mpr ⟨e, fun hmm => by
      obtain ⟨q, hq, e2⟩ := List.mem_map.mp hmm
      exact hlt q hq e2⟩
    rw [h2] at h1
    cases h1
theorem back_none' {s : Shared} {h₀ h' : Heap} {L a : Addr} {o : Obj} {m : PySem.Str → Option Value} (F : Fr h₀ L s.heap m) (h : h'.get? a = some o ∧ s.heap.get? a = none) : h'.get? a = some o ∧ a ≠ L ∧ h₀.get? a = none := by
  obtain ⟨ha, hn⟩ := h
  refine ⟨ha, fun e => ?_, ?_⟩
  · obtain ⟨oL, es, ep, hL, r⟩ := F.ns
    rw [← e, hn] at hL
    cases hL
  · cases e : h₀.get? a with
    | none => rfl
    | some o' => have := F.keep _ _ e; rw [hn] at this; cases this
theorem sz_left {T : Txs} {s : Shared} {g h' : Heap} {L D D0 D1 D2 D3 : Addr} {n : Nat} {y0 y1 y2 y3 : List Value} {foot rest : List En} {tup sl : En} (hg : g = hideAll s.heap (foot.map (·.1)))
    (N : News g L h' ((D3, LCg.lst y3) :: (D2, LCg.lst y2) :: (D1, LCg.lst y1) :: (D0, LCg.lst y0) :: tup :: sl :: (D, W.listOf #[.ref D0, .ref D1, .ref D2, .ref D3] n) :: rest)) (sz : SzAre T y0 y1 y2 y3) (ap : Apart [D, D0, D1, D2, D3])
    (o : ∀ q ∈ foot, q.1 ≠ D) (o0 : ∀ q ∈ foot, q.1 ≠ D0) (o1 : ∀ q ∈ foot, q.1 ≠ D1) (o2 : ∀ q ∈ foot, q.1 ≠ D2) (o3 : ∀ q ∈ foot, q.1 ≠ D3) : SzLeft T s h' D :=
  ⟨D0, D1, D2, D3, n, y0, y1, y2, y3, List.forall_mem_cons.mpr ⟨new_none' hg N (.tail _ (.tail _ (.tail _ (.tail _ (.tail _ (.tail _ (.head _))))))) o, List.forall_mem_cons.mpr ⟨new_none' hg N (.tail _ (.tail _ (.tail _ (.head _)))) o0,
    List.forall_mem_cons.mpr ⟨new_none' hg N (.tail _ (.tail _ (.head _))) o1, List.forall_mem_cons.mpr ⟨new_none' hg N (.tail _ (.head _)) o2, List.forall_mem_cons.mpr ⟨new_none' hg N (.head _) o3, fun _ h => nomatch h⟩⟩⟩⟩⟩, sz, ap⟩
theorem comp_end {h₀ : Heap} {L I C D : Addr} {m : PySem.Str → Option Value} {s₁ : Shared} {oI oC oD : Obj} {S : List En → Prop} {rest : Value → List En → Prop} {y : Value} {h' : Heap} {tk : Nat} {news' : List En}
    (F : Fr h₀ L h' m) (N : News h₀ L h' ((I, oI) :: (C, oC) :: (D, oD) :: news')) (off : LCg.Off3 I C D news') (hS : S news') (r : rest y news') :
    LCg.CompEnd h₀ L m s₁ I oI C oC D oD S rest y { s₁ with heap := h', toks := tk } := LCg.CompEnd.intro F N news' (fun p hp => hp) off hS r

end
section
section
variable {prog : Program} {w : World} {A : Around} {E : Value → Shared → Prop} {s : Shared} {h₀ : Heap} {L : Addr} {m : PySem.Str → Option Value} {env : Env}
/-- a comprehension over a text's signs -/
theorem ListComp_S {elt iter : Expr} {x : PySem.Str} {px : Pos} {scope : Scope} {cl : List (PySem.Str × Addr)} {pos : Pos} {Q : Value → Shared → Prop} (_F₀ : Fr h₀ L s.heap m)
    (hclos : closureFor scope env = pure cl) (hcell : ∀ y ∈ scope.names, y.2 ≠ .cell) (hkind : scope.kind = .function)
    (hnames : ∀ y ∈ scope.names, y.2 = .local → scope.names.lookup y.1 = some .local) (hx : scope.names.lookup x = some .local)
    (h : wpAny (model prog w) A (eval iter env) (fun xv s₁ => ∃ xs t news, xv = .str xs t ∧ A.handled = none ∧ Fr h₀ L s₁.heap m ∧ News h₀ L s₁.heap news ∧ xs.cps.size ≤ sizeLine ∧
      ∀ s₂ : Shared, (∃ h, s₂ = { s₁ with heap := h }) → LCg.CompRest prog w A h₀ L m env elt x scope cl s₂ (fun _ => True) (SignAt xs) (LCg.FinE h₀ L m s₂ Q) xs.cps.size 0 [] news) E s)
    (hs : ∀ x, foldedSetIterable iter env x = pure x := by intro _; rfl) :
    wpAny (model prog w) A (eval (.ListComp elt [⟨.Name x px, iter, [], 0⟩] scope pos) env) Q E s := by
  rw [eval_ListComp]
  refine wpAny_comprehension_free (use := none) rfl hs hclos hkind hnames (wpAny_mono h (fun xv s₁ h₁ => ?_) fun _ _ e => e)
  obtain ⟨xs, t, news, rfl, hh, F, N, hsz, R⟩ := h₁
  cases ha : xs.cps.all (· < 128)
  · refine wpAny_pyIter_wide ha ?_
    refine LCg.block_U (Walks.strWide hh s₁.heap.objs.size xs t) hsz (fun i h st => by obtain ⟨o, e, _⟩ := st; exact ⟨o, e⟩)
      (fun i h h' o nw st e e' _ _ _ => by obtain ⟨o', h1, h2⟩ := st; rw [h1] at e; cases e; exact ⟨_, e', h2⟩) hcell hkind hx ⟨_, Heap.get?_push_size _ rfl, rfl, rfl⟩ (fun b hb => ?_)
      (F.keeps fun _ _ e => Heap.get?_push_of_some _ e) (N.grown fun _ _ e => Heap.get?_push_of_some _ e) (Nat.ne_of_lt F.ns.lt) (next_is_new F) (fun p hp => Nat.ne_of_lt (Heap.lt_size (N p hp).1)) trivial (R _ ⟨_, rfl⟩) ?_
    · rw [List.mem_singleton.mp hb]
      show s₁.heap.objs.size < (s₁.heap.push _).objs.size
      rw [Heap.size_push]; exact Nat.lt_succ_self _
    · intro D C h tk m' ys news' F' N' o1 hn hC₀ hD₀ hCL hDL hCD offC fin
      refine ⟨m', hn, fun h'' hs'' => fin D h'' tk (F'.change hs'' hCL hC₀) (fun p hp => ?_) o1⟩
      refine ⟨hs''.extBut _ _ ?_ (N' p hp).1, (N' p hp).2⟩
      rcases List.mem_cons.mp hp with rfl | hp
      · exact Ne.symm hCD
      · exact offC p hp
  · refine wpAny_pyIter_ascii ha ?_
    refine LCg.block_U (Walks.strAscii hh s₁.heap.objs.size xs t) hsz (fun i h st => by obtain ⟨o, e, _⟩ := st; exact ⟨o, e⟩)
      (fun i h h' o nw st e e' _ _ _ => by obtain ⟨o', h1, h2⟩ := st; rw [h1] at e; cases e; exact ⟨_, e', h2⟩) hcell hkind hx ⟨_, Heap.get?_push_size _ rfl, rfl, rfl⟩ (fun b hb => ?_)
      (F.keeps fun _ _ e => Heap.get?_push_of_some _ e) (N.grown fun _ _ e => Heap.get?_push_of_some _ e) (Nat.ne_of_lt F.ns.lt) (next_is_new F) (fun p hp => Nat.ne_of_lt (Heap.lt_size (N p hp).1)) trivial (R _ ⟨_, rfl⟩) ?_
    · rw [List.mem_singleton.mp hb]
      show s₁.heap.objs.size < (s₁.heap.push _).objs.size
      rw [Heap.size_push]; exact Nat.lt_succ_self _
    · intro D C h tk m' ys news' F' N' o1 hn hC₀ hD₀ hCL hDL hCD offC fin
      refine ⟨m', hn, fun h'' hs'' => fin D h'' tk (F'.change hs'' hCL hC₀) (fun p hp => ?_) o1⟩
      refine ⟨hs''.extBut _ _ ?_ (N' p hp).1, (N' p hp).2⟩
      rcases List.mem_cons.mp hp with rfl | hp
      · exact Ne.symm hCD
      · exact offC p hp
end

end
section
/-- the frame of _law_found -/
noncomputable abbrev fdM (ur : Option Value) (dv av kv : Value) (tl D : Addr) : PySem.Str → Option Value := fun y =>
  if y = PySem.Str.ofString "row" then ur else if y = PySem.Str.ofString "deep" then some dv else if y = PySem.Str.ofString "at" then some av else if y = PySem.Str.ofString "k" then some kv else if y = PySem.Str.ofString "sizes" then some (.ref D) else if y = PySem.Str.ofString "texts" then some (.ref tl) else none
theorem fdM_of {m : PySem.Str → Option Value} {dv av kv : Value} {tl D : Addr} (hd : m (PySem.Str.ofString "deep") = some dv) (ha : m (PySem.Str.ofString "at") = some av) (hk : m (PySem.Str.ofString "k") = some kv) (hs : m (PySem.Str.ofString "sizes") = some (.ref D)) (ht : m (PySem.Str.ofString "texts") = some (.ref tl))
    (hn : ∀ y, y ≠ PySem.Str.ofString "row" → y ≠ PySem.Str.ofString "deep" → y ≠ PySem.Str.ofString "at" → y ≠ PySem.Str.ofString "k" → y ≠ PySem.Str.ofString "sizes" → y ≠ PySem.Str.ofString "texts" → m y = none) :
    m = fdM (m (PySem.Str.ofString "row")) dv av kv tl D := by
  funext y
  unfold fdM
  by_cases h1 : y = PySem.Str.ofString "row"
  · rw [if_pos h1, h1]
  · rw [if_neg h1]
    by_cases h2 : y = PySem.Str.ofString "deep"
    · rw [if_pos h2, h2, hd]
    · rw [if_neg h2]
      by_cases h3 : y = PySem.Str.ofString "at"
      · rw [if_pos h3, h3, ha]
      · rw [if_neg h3]
        by_cases h4 : y = PySem.Str.ofString "k"
        · rw [if_pos h4, h4, hk]
        · rw [if_neg h4]
          by_cases h5 : y = PySem.Str.ofString "sizes"
          · rw [if_pos h5, h5, hs]
          · rw [if_neg h5]
            by_cases h6 : y = PySem.Str.ofString "texts"
            · rw [if_pos h6, h6, ht]
            · rw [if_neg h6]; exact hn y h1 h2 h3 h4 h5 h6
theorem lookup4 {y a b c d : PySem.Str} {u v w x : Value} (h1 : ¬ y = a) (h2 : ¬ y = b) (h3 : ¬ y = c) (h4 : ¬ y = d) : List.lookup y [(a, u), (b, v), (c, w), (d, x)] = none := by
  simp [List.lookup, beq_eq_false_iff_ne.mpr h1, beq_eq_false_iff_ne.mpr h2, beq_eq_false_iff_ne.mpr h3, beq_eq_false_iff_ne.mpr h4]
noncomputable abbrev fdLed (tl a0 a1 a2 a3 D D0 D1 D2 D3 : Addr) (n n0 n1 n2 n3 n5 : Nat) (v0 v1 v2 v3 y0 y1 y2 y3 : List Value) : List En :=
  szObjs D D0 D1 D2 D3 n5 y0 y1 y2 y3 ++ txFoot tl a0 a1 a2 a3 n n0 n1 n2 n3 v0 v1 v2 v3
theorem sz_pick {T : Txs} {y0 y1 y2 y3 : List Value} (sz : SzAre T y0 y1 y2 y3) {i : Nat} (hi : i < 4) (tl a0 a1 a2 a3 D D0 D1 D2 D3 : Addr) (n n0 n1 n2 n3 n5 : Nat) (v0 v1 v2 v3 : List Value) :
    ∃ Di yi ni, ([.ref D0, .ref D1, .ref D2, .ref D3] : List Value)[((i : Nat) : Int).toNat]? = some (.ref Di) ∧ (Di, W.listOf yi.toArray ni) ∈ fdLed tl a0 a1 a2 a3 D D0 D1 D2 D3 n n0 n1 n2 n3 n5 v0 v1 v2 v3 y0 y1 y2 y3 ∧ IntsAre yi (szI T i) := by
  match i, hi with
  | 0, _ => exact ⟨D0, y0, _, rfl, .tail _ (.head _), sz.t0⟩
  | 1, _ => exact ⟨D1, y1, _, rfl, .tail _ (.tail _ (.head _)), sz.t1⟩
  | 2, _ => exact ⟨D2, y2, _, rfl, .tail _ (.tail _ (.tail _ (.head _))), sz.t2⟩
  | 3, _ => exact ⟨D3, y3, _, rfl, .tail _ (.tail _ (.tail _ (.tail _ (.head _)))), sz.t3⟩
theorem tx_pick {T : Txs} {v0 v1 v2 v3 : List Value} (tx : TxAre T v0 v1 v2 v3) {i : Nat} (hi : i < 4) (tl a0 a1 a2 a3 D D0 D1 D2 D3 : Addr) (n n0 n1 n2 n3 n5 : Nat) (y0 y1 y2 y3 : List Value) :
    ∃ ai vi ni, ([.ref a0, .ref a1, .ref a2, .ref a3] : List Value)[((i : Nat) : Int).toNat]? = some (.ref ai) ∧ (ai, W.listOf vi.toArray ni) ∈ fdLed tl a0 a1 a2 a3 D D0 D1 D2 D3 n n0 n1 n2 n3 n5 v0 v1 v2 v3 y0 y1 y2 y3 ∧ ItmsAre (T i) vi := by
  match i, hi with
  | 0, _ => exact ⟨a0, v0, _, rfl, .tail _ (.tail _ (.tail _ (.tail _ (.tail _ (.tail _ (.head _)))))), tx.t0⟩
  | 1, _ => exact ⟨a1, v1, _, rfl, .tail _ (.tail _ (.tail _ (.tail _ (.tail _ (.tail _ (.tail _ (.head _))))))), tx.t1⟩
  | 2, _ => exact ⟨a2, v2, _, rfl, .tail _ (.tail _ (.tail _ (.tail _ (.tail _ (.tail _ (.tail _ (.tail _ (.head _)))))))), tx.t2⟩
  | 3, _ => exact ⟨a3, v3, _, rfl, .tail _ (.tail _ (.tail _ (.tail _ (.tail _ (.tail _ (.tail _ (.tail _ (.tail _ (.head _))))))))), tx.t3⟩
theorem drop_sum {l : List Nat} {r : Nat} (h : r < l.length) : (l.drop r).sum = l[r] + (l.drop (r + 1)).sum := by rw [List.drop_eq_getElem_cons h, List.sum_cons]
theorem int_at {T : Txs} {i r : Nat} {yi : List Value} {x : Nat} (h : IntsAre yi (szI T i)) (hx : (szs T i)[r]? = some x) : ∃ t, yi[((r : Nat) : Int).toNat]? = some (.int (x : Int) t) := by
  have h1 : (szI T i)[r]? = some (x : Int) := by simp [szI, hx]
  obtain ⟨t, ht⟩ := h.get r (x : Int) h1
  exact ⟨t, by simpa using ht⟩
theorem itm_at {l : List Itm} {vi : List Value} (h : ItmsAre l vi) {r : Nat} {it : Itm} (hx : l[r]? = some it) : ∃ v, vi[((r : Nat) : Int).toNat]? = some v ∧ ItmIs it v := by
  have hlt : r < vi.length := by rw [h.length]; exact (List.getElem?_eq_some_iff.mp hx).1
  obtain ⟨it', h1, h2⟩ := h.get (v := vi[r]) (i := r) (by simp [hlt])
  rw [hx] at h1
  cases h1
  exact ⟨_, by simp [hlt], h2⟩
theorem fd_open {T : Txs} (hd : Down T) {i d k : Nat} {nt : Note} (h : Fd T i d k nt) : ∃ pre it post rest, T i = pre ++ it :: post ∧ k = (pre.map (itv (sumsOf T i))).sum + rest ∧ rest < itv (sumsOf T i) it ∧
    ((∃ z, it = .w z ∧ nt = ⟨i, pre.length + 2, d, z⟩) ∨ ∃ j, it = .n j ∧ j < i ∧ Fd T j (d + 1) rest nt) := by
  cases h with
  | w h =>
    rename_i pre post z
    exact ⟨pre, .w z, post, 0, h, rfl, Nat.zero_lt_one, .inl ⟨z, rfl, rfl⟩⟩
  | n h hk hf =>
    rename_i j k' pre post
    have hj : j < i := hd i j (by rw [h]; simp)
    exact ⟨pre, .n j, post, k', h, rfl, by rw [itv_n T hj]; exact hk, .inr ⟨j, rfl, hj, hf⟩⟩
theorem szs_open {T : Txs} {i : Nat} {pre post : List Itm} {it : Itm} (h : T i = pre ++ it :: post) : szs T i = pre.map (itv (sumsOf T i)) ++ itv (sumsOf T i) it :: post.map (itv (sumsOf T i)) := by
  rw [szs, h]; simp
theorem szs_lt {T : Txs} {i r : Nat} {p q : List Nat} {x : Nat} (h : szs T i = p ++ x :: q) (hr : r < p.length) : (szs T i)[r]? = some p[r] := by
  rw [h, List.getElem?_append_left hr]; simp [hr]
theorem szs_eq {T : Txs} {i : Nat} {p q : List Nat} {x : Nat} (h : szs T i = p ++ x :: q) : (szs T i)[p.length]? = some x := by
  rw [h, List.getElem?_append_right (Nat.le_refl _)]; simp
theorem fd_fr {g h : Heap} {L : Addr} {m : PySem.Str → Option Value} {dv av kv : Value} {tl D : Addr} (F : Fr g L h m) (hd : m (PySem.Str.ofString "deep") = some dv) (ha : m (PySem.Str.ofString "at") = some av) (hk : m (PySem.Str.ofString "k") = some kv) (hs : m (PySem.Str.ofString "sizes") = some (.ref D)) (ht : m (PySem.Str.ofString "texts") = some (.ref tl))
    (hn : ∀ y, y ≠ PySem.Str.ofString "row" → y ≠ PySem.Str.ofString "deep" → y ≠ PySem.Str.ofString "at" → y ≠ PySem.Str.ofString "k" → y ≠ PySem.Str.ofString "sizes" → y ≠ PySem.Str.ofString "texts" → m y = none) :
    Fr g L h (fdM (m (PySem.Str.ofString "row")) dv av kv tl D) := fdM_of hd ha hk hs ht hn ▸ F
section
variable {prog : Program} {w : World} {A : Around} {E Q : Value → Shared → Prop} {s : Shared}
theorem str_small {i : Nat} {t : Tok} (hi : i < 4) (h : Q (.str ⟨#[48 + i]⟩ s.toks) { s with toks := s.toks + 1 }) : wpAny (model prog w) A (call (.type "str") [.int (i : Int) t]) Q E s := by
  match i, hi with
  | 0, _ => exact P.str_of_int (by decide +kernel) (by rw [show ((toString ((0 : Nat) : Int) : String) : PySem.Str) = ⟨#[48 + 0]⟩ by decide +kernel]; exact h)
  | 1, _ => exact P.str_of_int (by decide +kernel) (by rw [show ((toString ((1 : Nat) : Int) : String) : PySem.Str) = ⟨#[48 + 1]⟩ by decide +kernel]; exact h)
  | 2, _ => exact P.str_of_int (by decide +kernel) (by rw [show ((toString ((2 : Nat) : Int) : String) : PySem.Str) = ⟨#[48 + 2]⟩ by decide +kernel]; exact h)
  | 3, _ => exact P.str_of_int (by decide +kernel) (by rw [show ((toString ((3 : Nat) : Int) : String) : PySem.Str) = ⟨#[48 + 3]⟩ by decide +kernel]; exact h)
end

end
section
theorem allObj_mono : ∀ {ws : List (Addr × String)} {k k' : List En → Prop}, (∀ its, k its → k' its) → AllObj ws k → AllObj ws k'
  | [], _, _, m, h => m _ h
  | _ :: _, _, _, m, h => fun o hc => allObj_mono (fun its x => m _ x) (h o hc)
section
variable {prog : Program} {w : World} {A : Around} {E : Value → Shared → Prop} {s : Shared} {env : Env} {h₀ : Heap} {target : Expr} {body : List Stmt} {Q : Flow → Shared → Prop}
theorem unrPostW_mono {L : Addr} {s₁ : Shared} {its : List En} {P P' : (PySem.Str → Option Value) → List En → Prop} (m : ∀ a b, P a b → P' a b) {f : Flow} {s₂ : Shared} (h : UnrPostW h₀ L s₁ its P Q f s₂) : UnrPostW h₀ L s₁ its P' Q f s₂ := by
  have key : UnrEndW h₀ L s₁ its P s₂ → UnrEndW h₀ L s₁ its P' s₂ := by
    rintro ⟨h', tk, m', n', e, F, N, off, r⟩
    exact ⟨h', tk, m', n', e, F, N, off, m _ _ r⟩
  cases f with
  | ret v => exact h
  | brk => exact h
  | next => exact key h
  | cont => exact key h
/-- a loop over enumerate by an invariant over its frame and its ledger -/
theorem enum_rest {ws : List (Addr × String)} {keep : List En} {vs : List Value} (Inv : Nat → (PySem.Str → Option Value) → List En → Prop)
    (turn : ∀ i x m news T t h tk, vs[i]? = some x → Inv i m news → IsTup h T #[.int (i : Int) t, x] → Fr h₀ env.locals h m → AllObj ws (fun its => News h₀ env.locals h (its ++ news) →
      wpAny (model prog w) A (assign target env (.ref T)) (fun _ s₂ => wpAny (model prog w) A (execs body env) (UnrPostW h₀ env.locals { s with heap := h, toks := tk } its (fun m' n' => SubL keep n' ∧ Inv (i + 1) m' n') Q) E s₂) E { s with heap := h, toks := tk }))
    (done : ∀ m news h tk, Inv vs.length m news → Fr h₀ env.locals h m → News h₀ env.locals h news → Q .next { s with heap := h, toks := tk }) :
    ∀ (r : List Value) (i : Nat) (m : PySem.Str → Option Value) (news : List En), vs.drop i = r → i ≤ vs.length → Inv i m news → ItemsRest prog w A E h₀ env target body Q s ws keep (enumItems i r) m news := by
  intro r
  induction r with
  | nil =>
    intro i m news hd hi hI
    have e : i = vs.length := Nat.le_antisymm hi (List.drop_eq_nil_iff.mp hd)
    subst e
    exact ItemsRest.zero fun h tk F N => done m news h tk hI F N
  | cons x r ih =>
    intro i m news hd hi hI
    have hx : vs[i]? = some x := by
      have := congrArg List.head? hd
      simpa using this
    have hd' : vs.drop (i + 1) = r := by rw [← List.drop_drop, hd]; rfl
    have hi' : i + 1 ≤ vs.length := (List.getElem?_eq_some_iff.mp hx).1
    refine ItemsRest.pair fun T t h tk hT F => ?_
    refine allObj_mono (fun its q N => ?_) (turn i x m news T t h tk hx hI hT F)
    refine wpAny_mono (q N) (fun _ s₂ q₂ => wpAny_mono q₂ (fun f s₃ q₃ => unrPostW_mono (fun a b hab => ⟨hab.1, ih (i + 1) a b hd' hi' hab.2⟩) q₃) fun _ _ e => e) fun _ _ e => e
end

end
section
/-- the four names that the loop over the script stores -/
noncomputable def four (uk ux ua ui : Option Value) (m0 : PySem.Str → Option Value) : PySem.Str → Option Value := fun y =>
  if y = PySem.Str.ofString "item" then ui else if y = PySem.Str.ofString "at" then ua else if y = PySem.Str.ofString "x" then ux else if y = PySem.Str.ofString "k" then uk else m0 y
theorem four_of {m m0 : PySem.Str → Option Value} (h : ∀ y, y ≠ PySem.Str.ofString "item" → y ≠ PySem.Str.ofString "at" → y ≠ PySem.Str.ofString "x" → y ≠ PySem.Str.ofString "k" → m y = m0 y) :
    m = four (m (PySem.Str.ofString "k")) (m (PySem.Str.ofString "x")) (m (PySem.Str.ofString "at")) (m (PySem.Str.ofString "item")) m0 := by
  funext y
  unfold four
  by_cases h1 : y = PySem.Str.ofString "item"
  · rw [if_pos h1, h1]
  · rw [if_neg h1]
    by_cases h2 : y = PySem.Str.ofString "at"
    · rw [if_pos h2, h2]
    · rw [if_neg h2]
      by_cases h3 : y = PySem.Str.ofString "x"
      · rw [if_pos h3, h3]
      · rw [if_neg h3]
        by_cases h4 : y = PySem.Str.ofString "k"
        · rw [if_pos h4, h4]
        · rw [if_neg h4]; exact h y h1 h2 h3 h4
/-- the table of words -/
noncomputable def WordsAre (wv : List Value) : Prop := ∀ r : Int, 0 ≤ r → r < 10 → ∃ z t, z ∈ wordsL ∧ wv[r.toNat]? = some (.str ⟨z.toArray⟩ t)
theorem words_are (t0 t1 t2 t3 t4 t5 t6 t7 t8 t9 : Tok) : WordsAre [.str (PySem.Str.ofString "") t0, .str (PySem.Str.ofString "it's") t1, .str (PySem.Str.ofString "a b") t2, .str (PySem.Str.ofString "#") t3, .str (PySem.Str.ofString "\\") t4, .str (PySem.Str.ofString "\"") t5,
    .str (PySem.Str.ofString "é") t6, .str (PySem.Str.ofString "3") t7, .str (PySem.Str.ofString "\t") t8, .str (PySem.Str.ofString "a1") t9] := by
  intro r h0 h1
  obtain ⟨n, rfl⟩ := Int.eq_ofNat_of_zero_le h0
  match n, Int.ofNat_lt.mp h1 with
  | 0, _ => exact ⟨[], t0, by decide, rfl⟩
  | 1, _ => exact ⟨[105, 116, 39, 115], t1, by decide, rfl⟩
  | 2, _ => exact ⟨[97, 32, 98], t2, by decide, rfl⟩
  | 3, _ => exact ⟨[35], t3, by decide, rfl⟩
  | 4, _ => exact ⟨[92], t4, by decide, rfl⟩
  | 5, _ => exact ⟨[34], t5, by decide, rfl⟩
  | 6, _ => exact ⟨[233], t6, by decide, rfl⟩
  | 7, _ => exact ⟨[51], t7, by decide, rfl⟩
  | 8, _ => exact ⟨[9], t8, by decide, rfl⟩
  | 9, _ => exact ⟨[97, 49], t9, by decide, rfl⟩
noncomputable def setT (T : Txs) (j : Nat) (l : List Itm) : Txs := fun i => if i = j then l else T i
theorem WfT.push {T : Txs} {m : Nat} (h : WfT T m) {j : Nat} {it : Itm} (hit : ItmOk j it) : WfT (setT T j (T j ++ [it])) (m + 1) := by
  refine ⟨fun i x hx => ?_, fun i => ?_, fun i hi => ?_⟩
  · unfold setT at hx
    split at hx
    · rename_i e
      subst e
      rcases List.mem_append.mp hx with hx | hx
      · exact h.ok i x hx
      · rw [List.mem_singleton.mp hx]; exact hit
    · exact h.ok i x hx
  · unfold setT
    split
    · rw [List.length_append, List.length_singleton]
      exact Nat.succ_le_succ (h.few j)
    · exact Nat.le_succ_of_le (h.few i)
  · unfold setT
    split
    · simp
    · exact h.ne i hi
theorem WfT.up {T : Txs} {m n : Nat} (h : WfT T m) (hn : m ≤ n) : WfT T n := ⟨h.ok, fun i => Nat.le_trans (h.few i) hn, h.ne⟩
noncomputable abbrev txLed (D tl a0 a1 a2 a3 wl : Addr) (ws wv v0 v1 v2 v3 : List Value) (n0 n1 n2 n3 : Nat) : List En :=
  [(D, W.listOf ws.toArray 0), (tl, W.listOf #[.ref a0, .ref a1, .ref a2, .ref a3] 0), (a3, W.listOf v3.toArray n3), (a2, W.listOf v2.toArray n2), (a1, W.listOf v1.toArray n1), (a0, W.listOf v0.toArray n0), (wl, W.listOf wv.toArray 0)]
inductive TxInv (D tl a0 a1 a2 a3 wl : Addr) (ws wv : List Value) (m0 : PySem.Str → Option Value) (i : Nat) (m : PySem.Str → Option Value) (news : List En) : Prop
  | mk (T : Txs) (v0 v1 v2 v3 : List Value) (n0 n1 n2 n3 : Nat) (uk ux ua ui : Option Value) (e : m = four uk ux ua ui m0) (en : news = txLed D tl a0 a1 a2 a3 wl ws wv v0 v1 v2 v3 n0 n1 n2 n3) (hT : WfT T (2 + i)) (tx : TxAre T v0 v1 v2 v3) : TxInv D tl a0 a1 a2 a3 wl ws wv m0 i m news
section
variable {prog : Program} {w : World} {A : Around} {s : Shared} {E Q : Value → Shared → Prop}
theorem mod_known {a b c : Int} {t u : Tok} (e : a.fmod b = c) (hb : b ≠ 0) (h : Q (.int c s.toks) { s with toks := s.toks + 1 }) : wpAny (model prog w) A (binaryOp .Mod (.int a t) (.int b u)) Q E s := mod_int' hb (e ▸ h)
theorem div_known {a c : Int} {t u : Tok} (e : a.fdiv 16 = c) (h : Q (.int c s.toks) { s with toks := s.toks + 1 }) : wpAny (model prog w) A (binaryOp .FloorDiv (.int a t) (.int 16 u)) Q E s := floordiv_int (by decide) (e ▸ h)
theorem item_known {value slice : Expr} {h₀ : Heap} {L l : Addr} {news : List En} {vs : List Value} {n : Nat} {k : Int} {u : Tok} {v : Value} (N : News h₀ L s.heap news) (hm : (l, W.listOf vs.toArray n) ∈ news) (hx : vs[k.toNat]? = some v) (h0 : 0 ≤ k) (hhi : k < 2 ^ 63) (h : Q v s)
    (hs : subscripted slice false (.ref l) (.int k u) = operate [.ref l, .int k u] (getItem (.ref l) (.int k u)) := by with_unfolding_all rfl) : wpAny (model prog w) A (subscriptTail value slice (.ref l) (.int k u)) Q E s :=
  have hl : s.heap.IsList l vs.toArray := ⟨_, (N _ hm).1, rfl, _, rfl⟩
  tail_any hl.typeIs slot_list_getitem.lookup (wpAny_getItem_list hl h0 hhi (by simpa using hx) h) hs
end
theorem fmod4 (i : Nat) : (i : Int).fmod 4 = 0 ∨ (i : Int).fmod 4 = 1 ∨ (i : Int).fmod 4 = 2 ∨ (i : Int).fmod 4 = 3 := by
  rw [Int.fmod_eq_emod_of_nonneg _ (by decide)]; (first | lia | omega)
theorem fmod16 (x : Int) : 0 ≤ x.fmod 16 ∧ x.fmod 16 < 16 := by
  rw [Int.fmod_eq_emod_of_nonneg _ (by decide)]; (first | lia | omega)
theorem fmodc (q : Int) (c : Nat) (hc : 0 < c) : ∃ j : Nat, j < c ∧ q.fmod (c : Int) = (j : Int) := by
  rw [Int.fmod_eq_emod_of_nonneg _ (by (first | lia | omega))]
  have h1 := Int.emod_nonneg q (show (c : Int) ≠ 0 by (first | lia | omega))
  have h2 := Int.emod_lt_of_pos q (show (0 : Int) < c by (first | lia | omega))
  exact ⟨(q % (c : Int)).toNat, by (first | lia | omega), by (first | lia | omega)⟩
noncomputable def T00 (j : Nat) : Txs := fun i => if i = 0 then [.w [105, 116, 39, 115]] else if i = 1 then [.n 0, .w []] else if i = 2 then [.n 1, .n 0] else if i = 3 then [.n 2, .n j] else []
theorem T00_wf {j : Nat} (hj : j < 3) : WfT (T00 j) 2 := by
  refine ⟨fun i it hit => ?_, fun i => ?_, fun i hi => ?_⟩
  rotate_left 2
  · have h4 : i = 0 ∨ i = 1 ∨ i = 2 ∨ i = 3 := by (first | lia | omega)
    rcases h4 with rfl | rfl | rfl | rfl <;> simp [T00]
  · unfold T00 at hit
    split at hit
    · rename_i e; subst e
      simp only [List.mem_cons, List.not_mem_nil, or_false] at hit
      subst hit
      show [105, 116, 39, 115] ∈ wordsL
      decide
    · split at hit
      · rename_i e; subst e
        simp only [List.mem_cons, List.not_mem_nil, or_false] at hit
        rcases hit with rfl | rfl
        · exact ⟨by decide, by decide⟩
        · show [] ∈ wordsL
          decide
      · split at hit
        · rename_i e; subst e
          simp only [List.mem_cons, List.not_mem_nil, or_false] at hit
          rcases hit with rfl | rfl
          · exact ⟨by decide, by decide⟩
          · exact ⟨by decide, by decide⟩
        · split at hit
          · rename_i e; subst e
            simp only [List.mem_cons, List.not_mem_nil, or_false] at hit
            rcases hit with rfl | rfl
            · exact ⟨by decide, by decide⟩
            · exact ⟨hj, hj⟩
          · cases hit
  · unfold T00
    split
    · decide
    · split
      · decide
      · split
        · decide
        · split
          · exact Nat.le_refl 2
          · decide
theorem T00_tx (j : Nat) (t0 t1 t2 t3 t4 t5 t6 : Tok) : TxAre (T00 j) [.str (PySem.Str.ofString "it's") t0] [.int 0 t1, .str (PySem.Str.ofString "") t2] [.int 1 t3, .int 0 t4] [.int 2 t5, .int (j : Int) t6] :=
  ⟨.cons (ItmIs.w [105, 116, 39, 115] t0) .nil, .cons (ItmIs.n 0 t1) (.cons (ItmIs.w [] t2) .nil), .cons (ItmIs.n 1 t3) (.cons (ItmIs.n 0 t4) .nil), .cons (ItmIs.n 2 t5) (.cons (ItmIs.n j t6) .nil)⟩
section
variable {prog : Program} {w : World} {A : Around} {E : Value → Shared → Prop} {s : Shared} {env : Env} {h₀ : Heap} {body : List Stmt} {Q : Flow → Shared → Prop}
theorem tx_loop {elts : List Expr} {k : Nat} {pos : Pos} {D tl a0 a1 a2 a3 wl : Addr} {ws wv v0 v1 v2 v3 : List Value} {n0 n1 n2 n3 : Nat} {m0 : PySem.Str → Option Value} {T0 : Txs}
    (hh : A.handled = none) (F : Fr h₀ env.locals s.heap m0) (N : News h₀ env.locals s.heap (txLed D tl a0 a1 a2 a3 wl ws wv v0 v1 v2 v3 n0 n1 n2 n3)) (hap : Apart [tl, a0, a1, a2, a3]) (hw : WordsAre wv) (hT : WfT T0 2) (tx : TxAre T0 v0 v1 v2 v3)
    (turn : ∀ (wv : List Value) I i x Tt tt h tk T v0 v1 v2 v3 n0 n1 n2 n3 uk ux ua ui, Apart [tl, a0, a1, a2, a3] → WordsAre wv → (∀ p ∈ txLed D tl a0 a1 a2 a3 wl ws wv v0 v1 v2 v3 n0 n1 n2 n3, p.1 < I) → ws[i]? = some x → WfT T (2 + i) → TxAre T v0 v1 v2 v3 → IsTup h Tt #[.int (i : Int) tt, x] →
      Fr h₀ env.locals h (four uk ux ua ui m0) → AllObj [(I + 1, "enumerate"), (I, "list_iterator")] (fun its => News h₀ env.locals h (its ++ txLed D tl a0 a1 a2 a3 wl ws wv v0 v1 v2 v3 n0 n1 n2 n3) →
      wpAny (model prog w) A (assign (.Tuple elts k pos) env (.ref Tt)) (fun _ s₂ => wpAny (model prog w) A (execs body env) (UnrPostW h₀ env.locals { s with heap := h, toks := tk } its (fun m' n' => SubL [(D, W.listOf ws.toArray 0)] n' ∧ TxInv D tl a0 a1 a2 a3 wl ws wv m0 (i + 1) m' n') Q) E s₂) E { s with heap := h, toks := tk }))
    (done : ∀ T v0 v1 v2 v3 n0 n1 n2 n3 uk ux ua ui h tk, Apart [tl, a0, a1, a2, a3] → WfT T (2 + ws.length) → TxAre T v0 v1 v2 v3 → Fr h₀ env.locals h (four uk ux ua ui m0) → News h₀ env.locals h (txLed D tl a0 a1 a2 a3 wl ws wv v0 v1 v2 v3 n0 n1 n2 n3) → Q .next { s with heap := h, toks := tk }) :
    wpAny (model prog w) A (call (.type "enumerate") [.ref D]) (fun xv s₁ => wpAny (model prog w) A (pyIter xv) (fun it s₂ => TurnsAt prog w A h₀ env (.Tuple elts k pos) body Q E it s₂) E s₁) E s := by
  refine ktu_enum hh F N (.head _) rfl rfl rfl fun I hI => ?_
  refine enum_rest (TxInv D tl a0 a1 a2 a3 wl ws wv m0) ?_ ?_ _ 0 _ _ rfl (Nat.zero_le _) ⟨T0, v0, v1, v2, v3, n0, n1, n2, n3, m0 (PySem.Str.ofString "k"), m0 (PySem.Str.ofString "x"), m0 (PySem.Str.ofString "at"), m0 (PySem.Str.ofString "item"), four_of fun _ _ _ _ _ => rfl, rfl, hT, tx⟩
  · rintro i x m news Tt tt h tk hx ⟨T, u0, u1, u2, u3, k0, k1, k2, k3, uk, ux, ua, ui, rfl, rfl, hT', tx'⟩ hTt F'
    have hI' : ∀ p ∈ txLed D tl a0 a1 a2 a3 wl ws wv u0 u1 u2 u3 k0 k1 k2 k3, p.1 < I := by
      simp only [txLed, List.forall_mem_cons] at hI ⊢
      exact hI
    exact turn wv I i x Tt tt h tk T u0 u1 u2 u3 k0 k1 k2 k3 uk ux ua ui hap hw hI' hx hT' tx' hTt F'
  · rintro m news h tk ⟨T, u0, u1, u2, u3, k0, k1, k2, k3, uk, ux, ua, ui, rfl, rfl, hT', tx'⟩ F' N'
    exact done T u0 u1 u2 u3 k0 k1 k2 k3 uk ux ua ui h tk hap hT' tx' F' N'
end
section
variable {prog : Program} {w : World} {A : Around} {E : Value → Shared → Prop} {s : Shared} {h₀ : Heap} {L D : Addr} {m : PySem.Str → Option Value} {news news' : List En} {n : Nat} {Q : Value → Shared → Prop}
theorem app_lst {vs : List Value} {x : Value} (F : Fr h₀ L s.heap m) (N : News h₀ L s.heap news) (U : Upd D (W.listOf vs.toArray n) (W.listOf (vs ++ [x]).toArray (n + 1)) news news') (hz : vs.length ≤ 1000)
    (h : ∀ h', Fr h₀ L h' m → News h₀ L h' news' → Q .none { s with heap := h' }) : wpAny (model prog w) A (call (.builtin "list.append") [.ref D, x]) Q E s := by
  refine append_K (its := vs.toArray) (n := n) (news' := news') F N ?_ h (by rw [sizeLine_eq, List.size_toArray]; (first | lia | omega))
  rw [List.push_toArray]
  exact U
theorem pop_lst {vs : List Value} {x : Value} (F : Fr h₀ L s.heap m) (N : News h₀ L s.heap news) (U : Upd D (W.listOf (vs ++ [x]).toArray n) (W.listOf vs.toArray (n + 1)) news news') (hz : vs.length ≤ 1000)
    (h : ∀ h', Fr h₀ L h' m → News h₀ L h' news' → Q x { s with heap := h' }) : wpAny (model prog w) A (call (.builtin "list.pop") [.ref D]) Q E s :=
  kl_pop (p := vs) (y := x) F N (by simpa using kpa_last x vs) U (by rw [sizeLine_eq]; simp; (first | lia | omega)) h
end
theorem tx_close {h₀ h' : Heap} {L : Addr} {s₁ : Shared} {tk : Nat} {m' m0 : PySem.Str → Option Value} {D tl a0 a1 a2 a3 wl I : Addr} {ws wv v0 v1 v2 v3 : List Value} {n0 n1 n2 n3 i : Nat} {p1 p0 : En} {T : Txs} {h1' : List En}
    (F : Fr h₀ L h' m') (N : News h₀ L h' (p1 :: p0 :: txLed D tl a0 a1 a2 a3 wl ws wv v0 v1 v2 v3 n0 n1 n2 n3)) (hI : ∀ p ∈ h1', p.1 < I) (hA : h1'.map (·.1) = [D, tl, a3, a2, a1, a0, wl]) (e1 : p1.1 = I + 1) (e0 : p0.1 = I)
    (hT : WfT T (2 + (i + 1))) (tx : TxAre T v0 v1 v2 v3) (hm : ∀ y, y ≠ PySem.Str.ofString "item" → y ≠ PySem.Str.ofString "at" → y ≠ PySem.Str.ofString "x" → y ≠ PySem.Str.ofString "k" → m' y = m0 y) :
    UnrEndW h₀ L s₁ [p1, p0] (fun m' n' => SubL [(D, W.listOf ws.toArray 0)] n' ∧ TxInv D tl a0 a1 a2 a3 wl ws wv m0 (i + 1) m' n') { s₁ with heap := h', toks := tk } := by
  refine ⟨h', tk, m', txLed D tl a0 a1 a2 a3 wl ws wv v0 v1 v2 v3 n0 n1 n2 n3, rfl, F, fun p hp => N p hp, ?_, ⟨.head _, trivial⟩, T, v0, v1, v2, v3, n0, n1, n2, n3, _, _, _, _, four_of hm, rfl, hT, tx⟩
  intro p hp q hq
  have hlt : p.1 < I := by
    have h1 : p.1 ∈ h1'.map (·.1) := by
      rw [hA]
      exact List.mem_map_of_mem (f := (·.1)) hp
    obtain ⟨q', hq', e⟩ := List.mem_map.mp h1
    exact e ▸ hI q' hq'
  rcases List.mem_cons.mp hq with rfl | hq
  · rw [e1]; exact Nat.ne_of_lt (Nat.lt_succ_of_lt hlt)
  · rw [List.mem_singleton.mp hq, e0]; exact Nat.ne_of_lt hlt
theorem tx_set0 {T : Txs} {v0 v1 v2 v3 : List Value} (tx : TxAre T v0 v1 v2 v3) {it : Itm} {v : Value} (h : ItmIs it v) : TxAre (setT T 0 (T 0 ++ [it])) (v0 ++ [v]) v1 v2 v3 := ⟨tx.t0.snoc h, tx.t1, tx.t2, tx.t3⟩
theorem tx_set1 {T : Txs} {v0 v1 v2 v3 : List Value} (tx : TxAre T v0 v1 v2 v3) {it : Itm} {v : Value} (h : ItmIs it v) : TxAre (setT T 1 (T 1 ++ [it])) v0 (v1 ++ [v]) v2 v3 := ⟨tx.t0, tx.t1.snoc h, tx.t2, tx.t3⟩
theorem tx_set2 {T : Txs} {v0 v1 v2 v3 : List Value} (tx : TxAre T v0 v1 v2 v3) {it : Itm} {v : Value} (h : ItmIs it v) : TxAre (setT T 2 (T 2 ++ [it])) v0 v1 (v2 ++ [v]) v3 := ⟨tx.t0, tx.t1, tx.t2.snoc h, tx.t3⟩
theorem tx_set3 {T : Txs} {v0 v1 v2 v3 : List Value} (tx : TxAre T v0 v1 v2 v3) {it : Itm} {v : Value} (h : ItmIs it v) : TxAre (setT T 3 (T 3 ++ [it])) v0 v1 v2 (v3 ++ [v]) := ⟨tx.t0, tx.t1, tx.t2, tx.t3.snoc h⟩
theorem tx_at0 {g h : Heap} {L D tl a0 a1 a2 a3 wl : Addr} {ws wv : List Value} {n0 n1 n2 n3 : Nat} {p1 p0 : En} {T : Txs} {v0 v1 v2 v3 : List Value} {v : Value} {it : Itm} (_N : News g L h (p1 :: p0 :: txLed D tl a0 a1 a2 a3 wl ws wv (v0 ++ [v]) v1 v2 v3 (n0 + 1) n1 n2 n3)) (tx : TxAre T v0 v1 v2 v3) (h : ItmIs it v) : TxAre (setT T 0 (T 0 ++ [it])) (v0 ++ [v]) v1 v2 v3 := tx_set0 tx h
theorem tx_at1 {g h : Heap} {L D tl a0 a1 a2 a3 wl : Addr} {ws wv : List Value} {n0 n1 n2 n3 : Nat} {p1 p0 : En} {T : Txs} {v0 v1 v2 v3 : List Value} {v : Value} {it : Itm} (_N : News g L h (p1 :: p0 :: txLed D tl a0 a1 a2 a3 wl ws wv v0 (v1 ++ [v]) v2 v3 n0 (n1 + 1) n2 n3)) (tx : TxAre T v0 v1 v2 v3) (h : ItmIs it v) : TxAre (setT T 1 (T 1 ++ [it])) v0 (v1 ++ [v]) v2 v3 := tx_set1 tx h
theorem tx_at2 {g h : Heap} {L D tl a0 a1 a2 a3 wl : Addr} {ws wv : List Value} {n0 n1 n2 n3 : Nat} {p1 p0 : En} {T : Txs} {v0 v1 v2 v3 : List Value} {v : Value} {it : Itm} (_N : News g L h (p1 :: p0 :: txLed D tl a0 a1 a2 a3 wl ws wv v0 v1 (v2 ++ [v]) v3 n0 n1 (n2 + 1) n3)) (tx : TxAre T v0 v1 v2 v3) (h : ItmIs it v) : TxAre (setT T 2 (T 2 ++ [it])) v0 v1 (v2 ++ [v]) v3 := tx_set2 tx h
theorem tx_at3 {g h : Heap} {L D tl a0 a1 a2 a3 wl : Addr} {ws wv : List Value} {n0 n1 n2 n3 : Nat} {p1 p0 : En} {T : Txs} {v0 v1 v2 v3 : List Value} {v : Value} {it : Itm} (_N : News g L h (p1 :: p0 :: txLed D tl a0 a1 a2 a3 wl ws wv v0 v1 v2 (v3 ++ [v]) n0 n1 n2 (n3 + 1))) (tx : TxAre T v0 v1 v2 v3) (h : ItmIs it v) : TxAre (setT T 3 (T 3 ++ [it])) v0 v1 v2 (v3 ++ [v]) := tx_set3 tx h
theorem news_drop5 {h₀ h : Heap} {L : Addr} {a b c d e : En} {r : List En} (N : News h₀ L h (a :: b :: c :: d :: e :: r)) : News h₀ L h r := fun q hq => N q (.tail _ (.tail _ (.tail _ (.tail _ (.tail _ hq)))))
/-- what _law_texts leaves -/
inductive TxLeft (s : Shared) (h' : Heap) (D : Addr) : Prop
  | mk (T : Txs) (a0 a1 a2 a3 : Addr) (n0 n1 n2 n3 : Nat) (v0 v1 v2 v3 : List Value) (hT : WfT T 20) (tx : TxAre T v0 v1 v2 v3) (hap : Apart [D, a0, a1, a2, a3]) (ho : ∀ q ∈ txFoot D a0 a1 a2 a3 0 n0 n1 n2 n3 v0 v1 v2 v3, h'.get? q.1 = some q.2 ∧ s.heap.get? q.1 = none) : TxLeft s h' D
theorem tx_left {s : Shared} {g h' : Heap} {L D tl a0 a1 a2 a3 wl : Addr} {ws wv v0 v1 v2 v3 : List Value} {n0 n1 n2 n3 : Nat} {T : Txs} (hg : g = hideAll s.heap (([] : List En).map (·.1)))
    (N : News g L h' (txLed D tl a0 a1 a2 a3 wl ws wv v0 v1 v2 v3 n0 n1 n2 n3)) (hT : WfT T (2 + ws.length)) (hw : ws.length ≤ 16) (tx : TxAre T v0 v1 v2 v3) (hap : Apart [tl, a0, a1, a2, a3]) : TxLeft s h' tl := by
  refine ⟨T, a0, a1, a2, a3, n0, n1, n2, n3, v0, v1, v2, v3, hT.up (by (first | lia | omega)), tx, hap, ?_⟩
  have z : ∀ {a : Addr} {o : Obj}, (a, o) ∈ txLed D tl a0 a1 a2 a3 wl ws wv v0 v1 v2 v3 n0 n1 n2 n3 → h'.get? a = some o ∧ s.heap.get? a = none := fun hm => new_none' (foot := []) hg N hm (fun q hq => nomatch hq)
  exact List.forall_mem_cons.mpr ⟨z (.tail _ (.head _)), List.forall_mem_cons.mpr ⟨z (.tail _ (.tail _ (.tail _ (.tail _ (.tail _ (.head _)))))), List.forall_mem_cons.mpr ⟨z (.tail _ (.tail _ (.tail _ (.tail _ (.head _))))),
    List.forall_mem_cons.mpr ⟨z (.tail _ (.tail _ (.tail _ (.head _)))), List.forall_mem_cons.mpr ⟨z (.tail _ (.tail _ (.head _))), fun _ h => nomatch h⟩⟩⟩⟩⟩

end
section
section
variable {prog : Program} {w : World} {A : Around} {env : Env} {E : Value → Shared → Prop}
theorem execs_app {b : List Stmt} {Q : Flow → Shared → Prop} : ∀ {a : List Stmt} {s : Shared}, wpAny (model prog w) A (execs a env) (fun f s' => match f with | .next => wpAny (model prog w) A (execs b env) Q E s' | f => Q f s') E s → wpAny (model prog w) A (execs (a ++ b) env) Q E s := by
  intro a s h Γ p hΓ
  have h1 := h Γ p hΓ
  clear h
  induction a generalizing s p with
  | nil =>
    rw [execs_nil] at h1
    exact h1 Γ p hΓ
  | cons st r ih =>
    rw [List.cons_append, execs_cons, Sem.wp_bind']
    rw [execs_cons, Sem.wp_bind'] at h1
    refine Sem.wp_mono (model prog w) Γ _ (fun f p' s' h' => ?_) (fun _ _ _ h' => h') p s h1
    cases f with
    | next => exact ih _ h'
    | _ => exact h'
/-- what is kept where a list of statements is cut -/
noncomputable def CutPost (Mid : Shared → Prop) (f : Flow) (s' : Shared) : Prop := f = .next ∧ Mid s'
theorem execs_cut3 {s1 s2 s3 : Stmt} {rest : List Stmt} {Q : Flow → Shared → Prop} {s : Shared} (Mid : Shared → Prop) (h2 : ∀ s', Mid s' → wpAny (model prog w) A (execs rest env) Q E s')
    (h1 : wpAny (model prog w) A (execs [s1, s2, s3] env) (CutPost Mid) E s) : wpAny (model prog w) A (execs (s1 :: s2 :: s3 :: rest) env) Q E s := by
  refine execs_app (a := [s1, s2, s3]) (wpAny_mono h1 (fun f s' h => ?_) (fun _ _ h => h))
  obtain ⟨rfl, hm⟩ := h
  exact h2 s' hm
end
theorem upd_splitW {d : Addr} {o o' : Obj} : ∀ {pre post : List En}, ((pre ++ (d, o) :: post).map (·.1)).Nodup → Upd d o o' (pre ++ (d, o) :: post) (pre ++ (d, o') :: post)
  | [], post, h => .head fun p hp e => (List.nodup_cons.mp (show (d :: post.map (·.1)).Nodup from h)).1 (List.mem_map.mpr ⟨p, hp, e⟩)
  | q :: pre, post, h => by
    have h' := List.nodup_cons.mp (show (q.1 :: (pre ++ (d, o) :: post).map (·.1)).Nodup from h)
    exact .tail (fun e => h'.1 (List.mem_map.mpr ⟨(d, o), List.mem_append_right _ (.head _), e.symm⟩)) (upd_splitW h'.2)
section
variable {D tl a0 a1 a2 a3 wl : Addr} {ws wv : List Value} {p1 p0 : En} {T : Txs} {v0 v1 v2 v3 : List Value} {n0 n1 n2 n3 : Nat} {c : Nat} {it : Itm} {v : Value}
/-- the list that a turn takes, by its number -/
inductive AtCase (D tl a0 a1 a2 a3 wl : Addr) (ws wv : List Value) (p1 p0 : En) (T : Txs) (v0 v1 v2 v3 : List Value) (n0 n1 n2 n3 c : Nat) (it : Itm) (v : Value) : Prop
  | mk (aa : Addr) (vv : List Value) (nn : Nat) (w0 w1 w2 w3 : List Value) (x0 x1 x2 x3 y0 y1 y2 y3 : Nat)
    (h1 : ([.ref a0, .ref a1, .ref a2, .ref a3] : List Value)[((c : Nat) : Int).toNat]? = some (.ref aa))
    (h2 : (aa, W.listOf vv.toArray nn) ∈ p1 :: p0 :: txLed D tl a0 a1 a2 a3 wl ws wv v0 v1 v2 v3 n0 n1 n2 n3)
    (h3 : Upd aa (W.listOf vv.toArray nn) (W.listOf (vv ++ [v]).toArray (nn + 1)) (p1 :: p0 :: txLed D tl a0 a1 a2 a3 wl ws wv v0 v1 v2 v3 n0 n1 n2 n3) (p1 :: p0 :: txLed D tl a0 a1 a2 a3 wl ws wv w0 w1 w2 w3 x0 x1 x2 x3))
    (h4 : (aa, W.listOf (vv ++ [v]).toArray (nn + 1)) ∈ p1 :: p0 :: txLed D tl a0 a1 a2 a3 wl ws wv w0 w1 w2 w3 x0 x1 x2 x3)
    (h5 : Upd aa (W.listOf (vv ++ [v]).toArray (nn + 1)) (W.listOf vv.toArray (nn + 1 + 1)) (p1 :: p0 :: txLed D tl a0 a1 a2 a3 wl ws wv w0 w1 w2 w3 x0 x1 x2 x3) (p1 :: p0 :: txLed D tl a0 a1 a2 a3 wl ws wv v0 v1 v2 v3 y0 y1 y2 y3))
    (h6 : TxAre (setT T c (T c ++ [it])) w0 w1 w2 w3) (h7 : vv.length ≤ 1000) : AtCase D tl a0 a1 a2 a3 wl ws wv p1 p0 T v0 v1 v2 v3 n0 n1 n2 n3 c it v
theorem at_mk {aa : Addr} {vv w0 w1 w2 w3 : List Value} {nn x0 x1 x2 x3 y0 y1 y2 y3 : Nat} {pre post : List En} (hn : ((p1 :: p0 :: txLed D tl a0 a1 a2 a3 wl ws wv v0 v1 v2 v3 n0 n1 n2 n3).map (·.1)).Nodup)
    (h1 : ([.ref a0, .ref a1, .ref a2, .ref a3] : List Value)[((c : Nat) : Int).toNat]? = some (.ref aa))
    (e0 : p1 :: p0 :: txLed D tl a0 a1 a2 a3 wl ws wv v0 v1 v2 v3 n0 n1 n2 n3 = pre ++ (aa, W.listOf vv.toArray nn) :: post)
    (e1 : p1 :: p0 :: txLed D tl a0 a1 a2 a3 wl ws wv w0 w1 w2 w3 x0 x1 x2 x3 = pre ++ (aa, W.listOf (vv ++ [v]).toArray (nn + 1)) :: post)
    (e2 : p1 :: p0 :: txLed D tl a0 a1 a2 a3 wl ws wv v0 v1 v2 v3 y0 y1 y2 y3 = pre ++ (aa, W.listOf vv.toArray (nn + 1 + 1)) :: post)
    (h6 : TxAre (setT T c (T c ++ [it])) w0 w1 w2 w3) (h7 : vv.length ≤ 1000) : AtCase D tl a0 a1 a2 a3 wl ws wv p1 p0 T v0 v1 v2 v3 n0 n1 n2 n3 c it v := by
  rw [e0] at hn
  refine ⟨aa, vv, nn, w0, w1, w2, w3, x0, x1, x2, x3, y0, y1, y2, y3, h1, ?_, ?_, ?_, ?_, h6, h7⟩
  · rw [e0]; simp
  · rw [e0, e1]; exact upd_splitW hn
  · rw [e1]; simp
  · rw [e1, e2]; exact upd_splitW (by simpa using hn)
theorem at_case (hc : c < 4) (hnd : Apart [p1.1, p0.1, D, tl, a3, a2, a1, a0, wl]) (tx : TxAre T v0 v1 v2 v3) (hT : WfT T 18) (h : ItmIs it v) : AtCase D tl a0 a1 a2 a3 wl ws wv p1 p0 T v0 v1 v2 v3 n0 n1 n2 n3 c it v := by
  have hn := apart_iff.mp hnd
  have hf : ∀ {i : Nat} {l : List Value}, ItmsAre (T i) l → l.length ≤ 1000 := fun {i l} k => by have := k.length; have := hT.few i; (first | lia | omega)
  match c, hc with
  | 0, _ => exact at_mk (pre := [p1, p0, _, _, _, _, _]) hn rfl rfl rfl rfl (tx_set0 tx h) (hf tx.t0)
  | 1, _ => exact at_mk (pre := [p1, p0, _, _, _, _]) hn rfl rfl rfl rfl (tx_set1 tx h) (hf tx.t1)
  | 2, _ => exact at_mk (pre := [p1, p0, _, _, _]) hn rfl rfl rfl rfl (tx_set2 tx h) (hf tx.t2)
  | 3, _ => exact at_mk (pre := [p1, p0, _, _]) hn rfl rfl rfl rfl (tx_set3 tx h) (hf tx.t3)
end
section
variable {prog : Program} {w : World} {A : Around} {env : Env} {E : Value → Shared → Prop} {s : Shared} {g hX : Heap} {L : Addr} {news : List En} {m0 : PySem.Str → Option Value} {c : Nat}
inductive M0Is (m0 : PySem.Str → Option Value) : Prop
  | mk : M0Is m0
theorem m0_of {h : Heap} {uk ux ua ui : Option Value} (_F : Fr g L h (four uk ux ua ui m0)) : M0Is m0 := .mk
inductive TxMid (s : Shared) (g : Heap) (L : Addr) (news : List En) (m0 : PySem.Str → Option Value) (c : Nat) (s' : Shared) : Prop
  | mk (h : Heap) (tk : Nat) (m : PySem.Str → Option Value) (ta : Tok) (it : Itm) (v : Value) (e : s' = { s with heap := h, toks := tk }) (hok : ItmOk c it) (hit : ItmIs it v)
    (hat : m (PySem.Str.ofString "at") = some (.int (c : Int) ta)) (hitem : m (PySem.Str.ofString "item") = some v)
    (hoff : ∀ y, y ≠ PySem.Str.ofString "item" → y ≠ PySem.Str.ofString "at" → y ≠ PySem.Str.ofString "x" → y ≠ PySem.Str.ofString "k" → m y = m0 y) (F : Fr g L h m) (N : News g L h news) : TxMid s g L news m0 c s'
theorem cut_tx {s1 s2 s3 : Stmt} {rest : List Stmt} {Q : Flow → Shared → Prop} (_F0 : M0Is m0) (_N : News g L s.heap news) (c : Nat)
    (h2 : ∀ h tk uk ux ta it v, ItmOk c it → ItmIs it v → Fr g L h (four uk ux (some (.int (c : Int) ta)) (some v) m0) → News g L h news → wpAny (model prog w) A (execs rest env) Q E { s with heap := h, toks := tk })
    (h1 : wpAny (model prog w) A (execs [s1, s2, s3] env) (CutPost (TxMid s g L news m0 c)) E s) : wpAny (model prog w) A (execs (s1 :: s2 :: s3 :: rest) env) Q E s := by
  refine execs_cut3 _ (fun s' hm => ?_) h1
  obtain ⟨h, tk, m, ta, it, v, rfl, hok, hit, hat, hitem, hoff, F, N⟩ := hm
  have e := four_of hoff
  rw [hat, hitem] at e
  rw [e] at F
  exact h2 h tk _ _ ta it v hok hit F N
theorem cut_end {h : Heap} {tk : Nat} {m : PySem.Str → Option Value} {ta : Tok} {it : Itm} {v : Value} (hok : ItmOk c it) (hit : ItmIs it v) (F : Fr g L h m) (N : News g L h news)
    (hat : m (PySem.Str.ofString "at") = some (.int (c : Int) ta)) (hitem : m (PySem.Str.ofString "item") = some v)
    (hoff : ∀ y, y ≠ PySem.Str.ofString "item" → y ≠ PySem.Str.ofString "at" → y ≠ PySem.Str.ofString "x" → y ≠ PySem.Str.ofString "k" → m y = m0 y) : CutPost (TxMid s g L news m0 c) .next { s with heap := h, toks := tk } :=
  ⟨rfl, h, tk, m, ta, it, v, rfl, hok, hit, hat, hitem, hoff, F, N⟩
end
theorem at_caseN {g h : Heap} {L D tl a0 a1 a2 a3 wl : Addr} {ws wv : List Value} {p1 p0 : En} {T : Txs} {v0 v1 v2 v3 : List Value} {n0 n1 n2 n3 : Nat} {c : Nat} {it : Itm} {v : Value} (_N : News g L h (p1 :: p0 :: txLed D tl a0 a1 a2 a3 wl ws wv v0 v1 v2 v3 n0 n1 n2 n3))
    (hc : c < 4) (hnd : Apart [p1.1, p0.1, D, tl, a3, a2, a1, a0, wl]) (tx : TxAre T v0 v1 v2 v3) (hT : WfT T 18) (h : ItmIs it v) :
    AtCase D tl a0 a1 a2 a3 wl ws wv p1 p0 T v0 v1 v2 v3 n0 n1 n2 n3 c it v := at_case hc hnd tx hT h
theorem hnd_of {g h : Heap} {L D tl a0 a1 a2 a3 wl : Addr} {ws wv : List Value} {p1 p0 : En} {v0 v1 v2 v3 : List Value} {n0 n1 n2 n3 : Nat} (_N : News g L h (p1 :: p0 :: txLed D tl a0 a1 a2 a3 wl ws wv v0 v1 v2 v3 n0 n1 n2 n3))
    (hnd : Apart [p1.1, p0.1, D, tl, a3, a2, a1, a0, wl]) : Apart [p1.1, p0.1, D, tl, a3, a2, a1, a0, wl] := hnd

end
section
theorem lines_16 : True := by
  k_with_none
  k_with "execs cons" => (first | (k_fold; (try dsimp only); (try (with_reducible refine gen_toks ?_; intro tk9))) | (with_reducible refine gen_toks ?_; intro tk9))
  k_with "MY nth" => (k_dflt (first | exact @rfl _ (nthO _ 0) | exact @rfl _ (nthO _ 1) | exact @rfl _ (nthO _ 2) | exact @rfl _ (nthO _ 3) | exact @rfl _ (nthO _ 4) | exact @rfl _ (nthO _ 5) | exact @rfl _ (nthO _ 6) | exact @rfl _ (nthO _ 7) | exact @rfl _ (nthO _ 8) | exact @rfl _ (nthO _ 9) | exact @rfl _ (nthO _ 10) | exact @rfl _ (nthO _ 11) | exact @rfl _ (nthO _ 12) | exact @rfl _ (nthO _ 13) | exact @rfl _ (nthO _ 14) | exact @rfl _ (nthO _ 15) | exact @rfl _ (nthO _ 16) | exact @rfl _ (nthO _ 17) | exact @rfl _ (nthO _ 18) | exact @rfl _ (nthO _ 19) | exact @rfl _ (nthO _ 20) | exact @rfl _ (nthO _ 21) | exact @rfl _ (nthO _ 22) | exact @rfl _ (nthO _ 23) | exact @rfl _ (nthO _ 24) | exact @rfl _ (nthO _ 25)))
  k_with "MY nlt" => (first
      | exact NeN.ne (by with_reducible assumption)
      | exact Ne.symm (NeN.ne (by with_reducible assumption))
      | exact Nat.ne_of_gt (by with_reducible assumption)
      | exact Nat.ne_of_lt (by with_reducible assumption)
      | (refine' LtA.ne ?qh ?qe; (case qh => with_reducible assumption); (case qe => k_extra "MY nth"))
      | (refine' LtA.ne' ?qh ?qe; (case qh => with_reducible assumption); (case qe => k_extra "MY nth"))
      | (refine' LtA.neS ?qh ?qe; (case qh => with_reducible assumption); (case qe => k_extra "MY nth"))
      | (refine' LtA.neS' ?qh ?qe; (case qh => with_reducible assumption); (case qe => k_extra "MY nth"))
      | (refine' LtA.neT ?qh ?qe; (case qh => with_reducible assumption); (case qe => k_extra "MY nth"))
      | (refine' LtA.neT' ?qh ?qe; (case qh => with_reducible assumption); (case qe => k_extra "MY nth"))
      | (refine' OffA.ne ?qh ?qe; (case qh => with_reducible assumption); (case qe => k_extra "MY nth"))
      | (refine' OffA.ne' ?qh ?qe; (case qh => with_reducible assumption); (case qe => k_extra "MY nth"))
      | (refine' Apart.at ?qh ?qe ?qf ?qn; (case qh => with_reducible assumption); (case qe => k_extra "MY nth"); (case qf => k_extra "MY nth"); (case qn => exact rfl)))
  k_with "k_all" => ((k_dflt (refine' ltA_off ?qh ?qe; (case qh => with_reducible assumption); (case qe => first | exact @rfl _ (dropO 0 _) | exact @rfl _ (dropO 1 _) | exact @rfl _ (dropO 2 _) | exact @rfl _ (dropO 3 _) | exact @rfl _ (dropO 4 _) | exact @rfl _ (dropO 5 _) | exact @rfl _ (dropO 6 _) | exact @rfl _ (dropO 7 _) | exact @rfl _ (dropO 8 _) | exact @rfl _ (dropO 9 _) | exact @rfl _ (dropO 10 _) | exact @rfl _ (dropO 11 _)))))
  k_with "MY lts" => ((k_dflt (refine' ltA_lts ?qh ?qe; (case qh => with_reducible assumption); (case qe => first | exact @rfl _ (dropO 0 _) | exact @rfl _ (dropO 1 _) | exact @rfl _ (dropO 2 _) | exact @rfl _ (dropO 3 _) | exact @rfl _ (dropO 4 _) | exact @rfl _ (dropO 5 _) | exact @rfl _ (dropO 6 _) | exact @rfl _ (dropO 7 _) | exact @rfl _ (dropO 8 _) | exact @rfl _ (dropO 9 _) | exact @rfl _ (dropO 10 _) | exact @rfl _ (dropO 11 _)))))
  k_with "MY pick" => (first | (refine' LtA.lt ?qh ?qe; (case qh => with_reducible assumption); (case qe => k_extra "MY nth")) | (refine Nat.lt_succ_of_lt ?_; (refine' LtA.lt ?qh ?qe; (case qh => with_reducible assumption); (case qe => k_extra "MY nth"))) | (refine Nat.lt_succ_of_lt (Nat.lt_succ_of_lt ?_); (refine' LtA.lt ?qh ?qe; (case qh => with_reducible assumption); (case qe => k_extra "MY nth"))))
  k_with "MY lt" => (first
      | (refine' lt_le ?qh ?qe; (case qh => assumption); (case qe => exact rfl))
      | (refine' lt_p ?qh ?qe; (case qh => assumption); (case qe => exact rfl))
      | (refine' lt_pp ?qh ?qe; (case qh => assumption); (case qe => exact rfl))
      | (refine' lt_ppp ?qh ?qe; (case qh => assumption); (case qe => exact rfl))
      | (refine' le_le ?qh ?qe; (case qh => assumption); (case qe => exact rfl))
      | decide
      | ((try simp only [LtA] at *); omega))
  k_with "k_ne" => ((refine neN ?_; (try dsimp only); first | k_extra "MY nlt" | omega | ((try simp only [LtA, List.forall_mem_cons] at *); omega)))
  k_with "k_room" => (((try simp only [depth_under_make, depth_under_kw, depth_in1, depth_deeper, depth_caller]); (show _ < 1000); k_dflt (k_extra "MY lt")))
  k_with "MY enterB" => ((refine' code_foot ?k1 ?k2 ?k3 ?k4 ?k5 ?k6 ?k7 ?_ ?c1 ?c2 ?c3 ?c4; (case k1 => assumption); (case k2 => assumption); (case k3 => k_is); (case k4 => k_is); (case k5 => k_room); (case k6 => first | exact BindsTo.of_eq rfl | exact binds_K (by k_in) rfl (by k_is) rfl rfl rfl); (case k7 => exact locs rfl); (case c1 => exact rfl); (case c2 => exact rfl); (case c3 => exact rfl); (case c4 => decide)))
  k_with "MY enter" => ((refine' on_foot ?k1 ?k3 ?k4 ?k5 ?k6 ?k7 ?_ ?c1 ?c2 ?c3 ?c4; (case k1 => assumption); (case k3 => k_is); (case k4 => k_is); (case k5 => k_room); (case k6 => first | exact BindsTo.of_eq rfl | exact binds_K (by k_in) rfl (by k_is) rfl rfl rfl); (case k7 => exact locs rfl); (case c1 => exact rfl); (case c2 => exact rfl); (case c3 => exact rfl); (case c4 => decide); intro bx9 px9 lx9 mx9 gx9 hx9))
  k_with "setAttr ref" => ((k_here; first | ((with_reducible refine' lex_set_state ?k1 ?k2 ?k3 ?k4 ?U ?_); k_dflt ((case k1 => k_asm); (case k2 => k_asm); (case k3 => k_asm); (case k4 => k_mem); (case U => k_upd)); k_whole; intro h' F' N'; (try k_sweep)) | ((with_reducible refine' lex_set_token ?k1 ?k2 ?k3 ?k4 ?U ?_); k_dflt ((case k1 => k_asm); (case k2 => k_asm); (case k3 => k_asm); (case k4 => k_mem); (case U => k_upd)); k_whole; intro h' F' N'; (try k_sweep)) | ((with_reducible refine' lex_set_lineno ?k1 ?k2 ?k3 ?k4 ?U ?_); k_dflt ((case k1 => k_asm); (case k2 => k_asm); (case k3 => k_asm); (case k4 => k_mem); (case U => k_upd)); k_whole; intro h' F' N'; (try k_sweep)) | ((with_reducible refine' lex_set_infile ?k1 ?k2 ?k3 ?k4 ?U ?_); k_dflt ((case k1 => k_asm); (case k2 => k_asm); (case k3 => k_asm); (case k4 => k_mem); (case U => k_upd)); k_whole; intro h' F' N'; (try k_sweep)) | ((with_reducible refine' lex_set_instream ?k1 ?k2 ?k3 ?k4 ?U ?_); k_dflt ((case k1 => k_asm); (case k2 => k_asm); (case k3 => k_asm); (case k4 => k_mem); (case U => k_upd)); k_whole; intro h' F' N'; (try k_sweep))))
  k_with "eval Attribute Name" => ((k_here; k_dflt (refine' self_own ?F ?X ?N ?hv ?h1 ?h2 ?hK ?hl ?hh ?_; (case F => k_asm); (case hv => exact rfl); (case X => k_asm); (case N => k_asm); (case h1 => k_mem); (case hK => first | (with_reducible exact own732_state _) | (with_reducible exact own732_debug _) | (with_reducible exact own732_whitespace _) | (with_reducible exact own732_posix _) | (with_reducible exact own732_token _) | (with_reducible exact own732_quotes _) | (with_reducible exact own732_escape _) | (with_reducible exact own732_wordchars _) | (with_reducible exact own732_commenters _) | (with_reducible exact own732_instream _) | (with_reducible exact own732_lineno _) | (with_reducible exact own732__punctuation_chars _) | (with_reducible exact own732_infile _) | (with_reducible exact own732_eof _) | (with_reducible exact own732_escapedquotes _) | (with_reducible exact own732_whitespace_split _) | (with_reducible exact own732_pushback _) | (with_reducible exact own732_filestack _) | (with_reducible exact own732_source _) | (with_reducible exact own597_buf _) | (with_reducible exact own597_pos _) | (with_reducible exact own597_newline _)); (case h2 => k_mem); (case hl => k_get); (case hh => k_handed); k_whole)))
  k_with "ite" => (first | with_reducible (refine iteT ?_) | with_reducible (refine iteF ?_))
  k_with "CompEnd" => (refine stopMark ?_)
  k_with "eval Name" => ((k_here; (with_reducible show wpAny _ _ (eval (Expr.Name _ _) (compEnvC _ _ _ _)) _ _ _); k_dflt (first
      | refine LCgL.ld_own (by k_asm) (by k_mem) (by assumption) (by assumption) ?_
      | refine LCgL.ld_global (by k_asm) (by k_asm) (by k_asm) (by k_is) ?_
      | refine LCgL.ld_built (by k_asm) (by k_asm) (by k_asm) (by k_is) (by boot_by_name) (by decide) ?_)))
  k_with "eval Name" => ((k_here; (fail_if_success (with_reducible show wpAny _ _ (eval (Expr.Name _ _) (compEnvC _ _ _ _)) _ _ _)); k_dflt (refine' nameX_L ?F ?hv ?_; (case F => k_asm); (case hv => exact rfl); k_whole)))
  k_with "callWith ref" => ((k_here; k_dflt (refine' callWith_K ?k1 ?k2 ?_; (case k1 => k_asm); (case k2 => k_is); k_whole)))
  k_with "exec While" => (refine stopMark ?_)
  k_with "Exists" => (refine stopMark ?_)
  k_with "exec If" => (refine wpAny_If ?_)
  k_with "compareOp In str str" => (first | refine in_yes (by first | assumption | decide +kernel) ?_ | refine in_no (by first | assumption | decide +kernel) ?_)
  k_with "compareOp Eq str str" => (first | refine eq_yes (by first | assumption | rfl) ?_ | refine eq_no (by first | assumption | decide +kernel) ?_ | refine stopMark ?_)
  k_with "truthy str" => (first | refine truthy_sgn ?_ | refine truthy_yes (by assumption) (by first | assumption | omega) ?_ | refine truthy_no (by assumption) ?_)
  k_with "MY steps" => (repeat' (first | (k_unfold; (try dsimp only)) | (k_end; wrow_close) | walk1 | (dsimp only; walk1) | (leave1; try dsimp only) | fail "no step"))
  k_with "MY fin" => (repeat (first | dsimp only | (k_unfold; (try dsimp only))))
  k_with "MY open" => ((
      rename On _ _ _ _ _ => aOn9
      have Gk9 := aOn9.k
      have hap9 := aOn9.apart
      dsimp only [List.map] at hap9
      refine wpAny_call ?_
      k_dflt (k_extra "MY enter")))
  k_with "MY ret" => ((
      rename _ = hideAll _ _ => hgX
      rename Fr _ _ _ _ => kF
      rename News _ _ _ _ => kN
      rename (∀ _ _ _, Kept _ _ _ → _) => retX
      refine' retX _ _ _ (fun b o e => kF.keep b o (hgX ▸ e)) ?_
      (first | exact (fun q hq => (kN q hq).1) | exact ⟨_, fun q hq => (kN q hq).1⟩)))
  k_with "FinE" => (((unfold LCg.FinE); intro D' h' tk' F' N' o1'; (replace o1' := offA_of o1'); (try dsimp only [List.map] at o1'); (try dsimp only [List.nil_append, List.cons_append] at N'); (try dsimp only)))
  k_with "k_all" => (with_reducible assumption)
  k_with "MY openC" => ((
      rename On _ _ _ _ _ => aOn
      have Gk := aOn.k
      obtain ⟨⟨base, p, loose, mean, mg, mb, G⟩, Nf, hap⟩ := aOn
      dsimp only [List.map] at hap
      refine wpAny_call ?_
      k_dflt (refine' code_footC G Nf ?k3 ?k4 ?k5 ?k6 ?k7 ?k8 ?_ ?c1 ?c2 ?c3; (case k3 => k_is); (case k4 => k_is); (case k5 => k_room); (case k6 => exact BindsTo.of_eq rfl); (case k7 => exact rfl); (case k8 => decide +kernel); (case c1 => exact rfl); (case c2 => exact rfl); (case c3 => exact rfl))))
  k_with "eval ListComp" => ((k_here; k_dflt (refine LCg.ListComp_U (F₀ := by k_asm) (by rfl) (by decide) (by rfl) (by decide) (by rfl) ?_); k_dflt lcg_toSrc))
  k_with "CompSrc" => ((k_dflt (refine LCg.CompSrc.ledger (by rfl) (by k_asm) (by k_asm) (by k_mem) (by simp only [List.size_toArray, sizeLine_eq]; (first | lia | omega)) ?_); intro g'; refine stopMark ?_))
  k_with "call builtin:sum" => ((k_dflt (refine' sumK ?k0 ?k1 ?k2 ?k3 ?k4 ?_; (case k0 => with_unfolding_all rfl); (case k1 => k_asm); (case k2 => k_asm); (case k3 => exact News.isList (by k_asm) (by k_mem)); (case k4 => with_reducible assumption); k_whole); intro h' tk' t' F' N'))
  k_with "MY end" => (((try refine stopGo ?_); rename Fr _ _ _ _ => kF; rename News _ _ _ _ => kN; rename LCg.Off3 _ _ _ _ => kO; refine' comp_end ?fF ?nN ?oO ?sx ?_; (case fF => exact kF); (case nN => exact kN); (case oO => exact kO); (case sx => exact Or.inr ⟨_, (by k_mem), rfl, _, rfl⟩)))
  trivial
set_option maxHeartbeats 8000000 in
theorem sizes_walk {w : World} {dep un : Nat} {gs : Option (List Code)} {s : Shared} {outer : List Env} {E Q : Value → Shared → Prop} {T : Txs} {tl a0 a1 a2 a3 : Addr} {n n0 n1 n2 n3 : Nat} {v0 v1 v2 v3 : List Value}
    (hT : WfT T 20) (tx : TxAre T v0 v1 v2 v3) (hD : dep < 690) (hU : un < 5000)
    (a : On w (AA none dep outer gs un) outer s (txFoot tl a0 a1 a2 a3 n n0 n1 n2 n3 v0 v1 v2 v3))
    (ret : ∀ h' tk' D, Kept s (txFoot tl a0 a1 a2 a3 n n0 n1 n2 n3 v0 v1 v2 v3) h' → (∀ q ∈ txFoot tl a0 a1 a2 a3 n n0 n1 n2 n3 v0 v1 v2 v3, h'.get? q.1 = some q.2) → SzLeft T s h' D → Q (.ref D) { s with heap := h', toks := tk' }) :
    wpAny (model PR w) (AA none dep outer gs un) (call (.ref 807) [.ref tl]) Q E s := by
  have hcl := cLine_is
  have hl0 : v0.length ≤ 20 := by have := tx.t0.length; have := hT.few 0; (first | lia | omega)
  have hl1 : v1.length ≤ 20 := by have := tx.t1.length; have := hT.few 1; (first | lia | omega)
  have hl2 : v2.length ≤ 20 := by have := tx.t2.length; have := hT.few 2; (first | lia | omega)
  have hl3 : v3.length ≤ 20 := by have := tx.t3.length; have := hT.few 3; (first | lia | omega)
  k_extra "MY openC"
  intro g L' h₁ tk cells hg F' N' Y' B' X' T' hlt
  have l1 := hlt
  dsimp only [txFoot] at l1
  k_lt l1
  k_cells Y'
  dsimp only [txFoot, List.cons_append, List.nil_append] at N'
  (try dsimp only)
  (try k_fold)
  k_extra "MY steps"
  refine stopGo ?_
  refine comp_itms (isInt (fI T 0)) tx.t0 ?turn0 ?fin0
  case turn0 =>
    intro it v I oI C oC D m₂ ys h tk E' hit hv hC hx F1 N1 off ne
    replace ne : NeN I C ∧ NeN I D ∧ NeN C D := ne
    cases hv with
    | w z t =>
      k_extra "MY steps"
      k_extra "MY end"
      exact ⟨rfl, _, rfl⟩
    | n j t => exact absurd (hT.ok 0 _ hit).1 (Nat.not_lt_zero _)
  case fin0 =>
    intro ys0 hys
    have hi0 := ints_of hys
    clear hys
    k_extra "MY steps"
    refine stopGo ?_
    refine comp_itms (isInt (fI T 1)) tx.t1 ?turn1 ?fin1
    case turn1 =>
      intro it v I oI C oC D m₂ ys h tk E' hit hv hC hx F1 N1 off ne
      replace ne : NeN I C ∧ NeN I D ∧ NeN C D := ne
      cases hv with
      | w z t =>
        k_extra "MY steps"
        k_extra "MY end"
        exact ⟨rfl, _, rfl⟩
      | n j t =>
        have hj : j = 0 := by have := (hT.ok 1 _ hit).1; (first | lia | omega)
        rcases hj with rfl
        · have hx0 : m₂ _ = some (.int 0 t) := hx
          clear hx
          k_extra "MY steps"
          k_extra "MY end"
          exact ⟨rfl, _, congrArg (Value.int · _) ((fI_sum T 0).trans (by simp only [fI, itv_n T (show 0 < 1 by decide)]))⟩
    case fin1 =>
      intro ys1 hys
      have hi1 := ints_of hys
      clear hys
      k_extra "MY steps"
      refine stopGo ?_
      refine comp_itms (isInt (fI T 2)) tx.t2 ?turn2 ?fin2
      case turn2 =>
        intro it v I oI C oC D m₂ ys h tk E' hit hv hC hx F1 N1 off ne
        replace ne : NeN I C ∧ NeN I D ∧ NeN C D := ne
        cases hv with
        | w z t =>
          k_extra "MY steps"
          k_extra "MY end"
          exact ⟨rfl, _, rfl⟩
        | n j t =>
          have hj : j = 0 ∨ j = 1 := by have := (hT.ok 2 _ hit).1; (first | lia | omega)
          rcases hj with rfl | rfl
          · have hx0 : m₂ _ = some (.int 0 t) := hx
            clear hx
            k_extra "MY steps"
            k_extra "MY end"
            exact ⟨rfl, _, congrArg (Value.int · _) ((fI_sum T 0).trans (by simp only [fI, itv_n T (show 0 < 2 by decide)]))⟩
          · have hx0 : m₂ _ = some (.int 1 t) := hx
            clear hx
            k_extra "MY steps"
            k_extra "MY end"
            exact ⟨rfl, _, congrArg (Value.int · _) ((fI_sum T 1).trans (by simp only [fI, itv_n T (show 1 < 2 by decide)]))⟩
      case fin2 =>
        intro ys2 hys
        have hi2 := ints_of hys
        clear hys
        k_extra "MY steps"
        refine stopGo ?_
        refine comp_itms (isInt (fI T 3)) tx.t3 ?turn3 ?fin3
        case turn3 =>
          intro it v I oI C oC D m₂ ys h tk E' hit hv hC hx F1 N1 off ne
          replace ne : NeN I C ∧ NeN I D ∧ NeN C D := ne
          cases hv with
          | w z t =>
            k_extra "MY steps"
            k_extra "MY end"
            exact ⟨rfl, _, rfl⟩
          | n j t =>
            have hj : j = 0 ∨ j = 1 ∨ j = 2 := by have := (hT.ok 3 _ hit).1; (first | lia | omega)
            rcases hj with rfl | rfl | rfl
            · have hx0 : m₂ _ = some (.int 0 t) := hx
              clear hx
              k_extra "MY steps"
              k_extra "MY end"
              exact ⟨rfl, _, congrArg (Value.int · _) ((fI_sum T 0).trans (by simp only [fI, itv_n T (show 0 < 3 by decide)]))⟩
            · have hx0 : m₂ _ = some (.int 1 t) := hx
              clear hx
              k_extra "MY steps"
              k_extra "MY end"
              exact ⟨rfl, _, congrArg (Value.int · _) ((fI_sum T 1).trans (by simp only [fI, itv_n T (show 1 < 3 by decide)]))⟩
            · have hx0 : m₂ _ = some (.int 2 t) := hx
              clear hx
              k_extra "MY steps"
              k_extra "MY end"
              exact ⟨rfl, _, congrArg (Value.int · _) ((fI_sum T 2).trans (by simp only [fI, itv_n T (show 2 < 3 by decide)]))⟩
        case fin3 =>
          intro ys3 hys
          have hi3 := ints_of hys
          clear hys
          k_extra "MY steps"
          show Q (.ref _) _
          rename Fr g _ _ _ => kF
          rename News g _ _ _ => kN
          refine ret _ _ _ (fun b o e => kF.keep b o (hg ▸ e)) (fun q hq => (kN q (.tail _ (.tail _ (.tail _ (.tail _ (.tail _ (.tail _ (.tail _ (.tail _ hq))))))))).1) (sz_left hg kN ⟨szI_map T 0 ▸ hi0, szI_map T 1 ▸ hi1, szI_map T 2 ▸ hi2, szI_map T 3 ▸ hi3⟩ ?ap ?_ ?_ ?_ ?_ ?_)
          case ap => exact ⟨⟨by (show @Ne Nat _ _); k_ne, by (show @Ne Nat _ _); k_ne, by (show @Ne Nat _ _); k_ne, by (show @Ne Nat _ _); k_ne, trivial⟩, ⟨by (show @Ne Nat _ _); k_ne, by (show @Ne Nat _ _); k_ne, by (show @Ne Nat _ _); k_ne, trivial⟩, ⟨by (show @Ne Nat _ _); k_ne, by (show @Ne Nat _ _); k_ne, trivial⟩, ⟨by (show @Ne Nat _ _); k_ne, trivial⟩, trivial, trivial⟩
          all_goals (repeat (first | exact List.forall_mem_nil _ | (refine' List.forall_mem_cons.mpr ⟨?qa, ?_⟩; (case qa => k_ne))))
section
variable {w : World} {A₀ A : Around} {s : Shared} {base h₀ : Heap} {outer : List Env} {env : Env} {L : Addr} {m : PySem.Str → Option Value} {news : List (Addr × Obj)} {p : Program} {loose : List PySem.Str} {mean : ExcName → Option Value} {mg mb : PySem.Str → Option Value}
  {dep un : Nat} {gs : Option (List Code)} {E Q : Value → Shared → Prop} {T : Txs} {tl a0 a1 a2 a3 : Addr} {n n0 n1 n2 n3 : Nat} {v0 v1 v2 v3 : List Value}
theorem sizes_useA (hT : WfT T 20) (tx : TxAre T v0 v1 v2 v3)
    (hm : ∀ q ∈ txFoot tl a0 a1 a2 a3 n n0 n1 n2 n3 v0 v1 v2 v3, q ∈ news) (hap : Apart [tl, a0, a1, a2, a3])
    (B : Below A₀ base outer h₀) (F : Fr h₀ L s.heap m) (X : (hd.heap_39 w.params).In h₀) (N : News h₀ L s.heap news) (T' : Top p loose mean mg mb h₀) (hf : env.frame = some L) (hke : env.scope.kind = .function)
    (hD : dep < 690) (hU : un < 5000)
    (h : ∀ h' tk' D D0 D1 D2 D3 n' y0 y1 y2 y3, Fr h₀ L h' m → News h₀ L h' (szObjs D D0 D1 D2 D3 n' y0 y1 y2 y3 ++ news) → SzAre T y0 y1 y2 y3 → Apart [D, D0, D1, D2, D3] → (∀ q ∈ news, ∀ b ∈ [D, D0, D1, D2, D3], q.1 ≠ b) → Q (.ref D) { s with heap := h', toks := tk' }) :
    wpAny (model PR w) (AA none dep (env :: outer) gs un) (call (.ref 807) [.ref tl]) Q E s := by
  refine sizes_walk hT tx hD hU (On.of B F X N T' rfl hf hke hm hap) fun h' tk' D hk hst hl => ?_
  obtain ⟨D0, D1, D2, D3, n', y0, y1, y2, y3, hobj, hsz, hapD⟩ := hl
  refine h h' tk' D D0 D1 D2 D3 n' y0 y1 y2 y3 (back_fr F N hm hk) (fun q hq => ?_) hsz hapD (fun q hq b hb e => ?_)
  · rcases List.mem_append.mp hq with hq | hq
    · exact back_none' F (hobj q hq)
    · exact back_same N hm hk hst q hq
  · have h1 := List.mem_map.mp (show b ∈ (szObjs D D0 D1 D2 D3 n' y0 y1 y2 y3).map (·.1) from hb)
    obtain ⟨q', hq', e'⟩ := h1
    have h2 := (hobj q' hq').2
    have h3 := (N q hq).1
    rw [e, ← e', h2] at h3
    cases h3
theorem sizes_use (hT : WfT T 20) (tx : TxAre T v0 v1 v2 v3)
    (hm : ∀ q ∈ txFoot tl a0 a1 a2 a3 n n0 n1 n2 n3 v0 v1 v2 v3, q ∈ news) (hap : Apart [tl, a0, a1, a2, a3])
    (B : Below A₀ base outer h₀) (F : Fr h₀ L s.heap m) (X : (hd.heap_39 w.params).In h₀) (N : News h₀ L s.heap news) (T' : Top p loose mean mg mb h₀) (hf : env.frame = some L) (hke : env.scope.kind = .function)
    (hD : dep < 690) (hU : un < 5000)
    (h : ∀ h' tk' D D0 D1 D2 D3 n' y0 y1 y2 y3, Fr h₀ L h' m → News h₀ L h' (szObjs D D0 D1 D2 D3 n' y0 y1 y2 y3 ++ news) → SzAre T y0 y1 y2 y3 → Q (.ref D) { s with heap := h', toks := tk' }) :
    wpAny (model PR w) (AA none dep (env :: outer) gs un) (call (.ref 807) [.ref tl]) Q E s :=
  sizes_useA hT tx hm hap B F X N T' hf hke hD hU fun h' tk' D D0 D1 D2 D3 n' y0 y1 y2 y3 F' N' sz _ _ => h h' tk' D D0 D1 D2 D3 n' y0 y1 y2 y3 F' N' sz
end

end
section
theorem lines_17 : True := by
  k_with_none
  k_with "execs cons" => (first | (k_fold; (try dsimp only); (try (with_reducible refine gen_toks ?_; intro tk9))) | (with_reducible refine gen_toks ?_; intro tk9))
  k_with "MY nth" => (k_dflt (first | exact @rfl _ (nthO _ 0) | exact @rfl _ (nthO _ 1) | exact @rfl _ (nthO _ 2) | exact @rfl _ (nthO _ 3) | exact @rfl _ (nthO _ 4) | exact @rfl _ (nthO _ 5) | exact @rfl _ (nthO _ 6) | exact @rfl _ (nthO _ 7) | exact @rfl _ (nthO _ 8) | exact @rfl _ (nthO _ 9) | exact @rfl _ (nthO _ 10) | exact @rfl _ (nthO _ 11) | exact @rfl _ (nthO _ 12) | exact @rfl _ (nthO _ 13) | exact @rfl _ (nthO _ 14) | exact @rfl _ (nthO _ 15) | exact @rfl _ (nthO _ 16) | exact @rfl _ (nthO _ 17) | exact @rfl _ (nthO _ 18) | exact @rfl _ (nthO _ 19) | exact @rfl _ (nthO _ 20) | exact @rfl _ (nthO _ 21) | exact @rfl _ (nthO _ 22) | exact @rfl _ (nthO _ 23) | exact @rfl _ (nthO _ 24) | exact @rfl _ (nthO _ 25)))
  k_with "MY nlt" => (first
      | exact NeN.ne (by with_reducible assumption)
      | exact Ne.symm (NeN.ne (by with_reducible assumption))
      | exact Nat.ne_of_gt (by with_reducible assumption)
      | exact Nat.ne_of_lt (by with_reducible assumption)
      | (refine' LtA.ne ?qh ?qe; (case qh => with_reducible assumption); (case qe => k_extra "MY nth"))
      | (refine' LtA.ne' ?qh ?qe; (case qh => with_reducible assumption); (case qe => k_extra "MY nth"))
      | (refine' LtA.neS ?qh ?qe; (case qh => with_reducible assumption); (case qe => k_extra "MY nth"))
      | (refine' LtA.neS' ?qh ?qe; (case qh => with_reducible assumption); (case qe => k_extra "MY nth"))
      | (refine' LtA.neT ?qh ?qe; (case qh => with_reducible assumption); (case qe => k_extra "MY nth"))
      | (refine' LtA.neT' ?qh ?qe; (case qh => with_reducible assumption); (case qe => k_extra "MY nth"))
      | (refine' OffA.ne ?qh ?qe; (case qh => with_reducible assumption); (case qe => k_extra "MY nth"))
      | (refine' OffA.ne' ?qh ?qe; (case qh => with_reducible assumption); (case qe => k_extra "MY nth"))
      | (refine' Apart.at ?qh ?qe ?qf ?qn; (case qh => with_reducible assumption); (case qe => k_extra "MY nth"); (case qf => k_extra "MY nth"); (case qn => exact rfl)))
  k_with "k_all" => ((k_dflt (refine' ltA_off ?qh ?qe; (case qh => with_reducible assumption); (case qe => first | exact @rfl _ (dropO 0 _) | exact @rfl _ (dropO 1 _) | exact @rfl _ (dropO 2 _) | exact @rfl _ (dropO 3 _) | exact @rfl _ (dropO 4 _) | exact @rfl _ (dropO 5 _) | exact @rfl _ (dropO 6 _) | exact @rfl _ (dropO 7 _) | exact @rfl _ (dropO 8 _) | exact @rfl _ (dropO 9 _) | exact @rfl _ (dropO 10 _) | exact @rfl _ (dropO 11 _)))))
  k_with "MY lts" => ((k_dflt (refine' ltA_lts ?qh ?qe; (case qh => with_reducible assumption); (case qe => first | exact @rfl _ (dropO 0 _) | exact @rfl _ (dropO 1 _) | exact @rfl _ (dropO 2 _) | exact @rfl _ (dropO 3 _) | exact @rfl _ (dropO 4 _) | exact @rfl _ (dropO 5 _) | exact @rfl _ (dropO 6 _) | exact @rfl _ (dropO 7 _) | exact @rfl _ (dropO 8 _) | exact @rfl _ (dropO 9 _) | exact @rfl _ (dropO 10 _) | exact @rfl _ (dropO 11 _)))))
  k_with "MY pick" => (first | (refine' LtA.lt ?qh ?qe; (case qh => with_reducible assumption); (case qe => k_extra "MY nth")) | (refine Nat.lt_succ_of_lt ?_; (refine' LtA.lt ?qh ?qe; (case qh => with_reducible assumption); (case qe => k_extra "MY nth"))) | (refine Nat.lt_succ_of_lt (Nat.lt_succ_of_lt ?_); (refine' LtA.lt ?qh ?qe; (case qh => with_reducible assumption); (case qe => k_extra "MY nth"))))
  k_with "MY lt" => (first
      | (refine' lt_le ?qh ?qe; (case qh => assumption); (case qe => exact rfl))
      | (refine' lt_p ?qh ?qe; (case qh => assumption); (case qe => exact rfl))
      | (refine' lt_pp ?qh ?qe; (case qh => assumption); (case qe => exact rfl))
      | (refine' lt_ppp ?qh ?qe; (case qh => assumption); (case qe => exact rfl))
      | (refine' le_le ?qh ?qe; (case qh => assumption); (case qe => exact rfl))
      | decide
      | ((try simp only [LtA] at *); omega))
  k_with "k_ne" => ((refine neN ?_; (try dsimp only); first | k_extra "MY nlt" | omega | ((try simp only [LtA, List.forall_mem_cons] at *); omega)))
  k_with "k_room" => (((try simp only [depth_under_make, depth_under_kw, depth_in1, depth_deeper, depth_caller]); (show _ < 1000); k_dflt (k_extra "MY lt")))
  k_with "MY enterB" => ((refine' code_foot ?k1 ?k2 ?k3 ?k4 ?k5 ?k6 ?k7 ?_ ?c1 ?c2 ?c3 ?c4; (case k1 => assumption); (case k2 => assumption); (case k3 => k_is); (case k4 => k_is); (case k5 => k_room); (case k6 => first | exact BindsTo.of_eq rfl | exact binds_K (by k_in) rfl (by k_is) rfl rfl rfl); (case k7 => exact locs rfl); (case c1 => exact rfl); (case c2 => exact rfl); (case c3 => exact rfl); (case c4 => decide)))
  k_with "MY enter" => ((refine' on_foot ?k1 ?k3 ?k4 ?k5 ?k6 ?k7 ?_ ?c1 ?c2 ?c3 ?c4; (case k1 => assumption); (case k3 => k_is); (case k4 => k_is); (case k5 => k_room); (case k6 => first | exact BindsTo.of_eq rfl | exact binds_K (by k_in) rfl (by k_is) rfl rfl rfl); (case k7 => exact locs rfl); (case c1 => exact rfl); (case c2 => exact rfl); (case c3 => exact rfl); (case c4 => decide); intro bx9 px9 lx9 mx9 gx9 hx9))
  k_with "setAttr ref" => ((k_here; first | ((with_reducible refine' lex_set_state ?k1 ?k2 ?k3 ?k4 ?U ?_); k_dflt ((case k1 => k_asm); (case k2 => k_asm); (case k3 => k_asm); (case k4 => k_mem); (case U => k_upd)); k_whole; intro h' F' N'; (try k_sweep)) | ((with_reducible refine' lex_set_token ?k1 ?k2 ?k3 ?k4 ?U ?_); k_dflt ((case k1 => k_asm); (case k2 => k_asm); (case k3 => k_asm); (case k4 => k_mem); (case U => k_upd)); k_whole; intro h' F' N'; (try k_sweep)) | ((with_reducible refine' lex_set_lineno ?k1 ?k2 ?k3 ?k4 ?U ?_); k_dflt ((case k1 => k_asm); (case k2 => k_asm); (case k3 => k_asm); (case k4 => k_mem); (case U => k_upd)); k_whole; intro h' F' N'; (try k_sweep)) | ((with_reducible refine' lex_set_infile ?k1 ?k2 ?k3 ?k4 ?U ?_); k_dflt ((case k1 => k_asm); (case k2 => k_asm); (case k3 => k_asm); (case k4 => k_mem); (case U => k_upd)); k_whole; intro h' F' N'; (try k_sweep)) | ((with_reducible refine' lex_set_instream ?k1 ?k2 ?k3 ?k4 ?U ?_); k_dflt ((case k1 => k_asm); (case k2 => k_asm); (case k3 => k_asm); (case k4 => k_mem); (case U => k_upd)); k_whole; intro h' F' N'; (try k_sweep))))
  k_with "eval Attribute Name" => ((k_here; k_dflt (refine' self_own ?F ?X ?N ?hv ?h1 ?h2 ?hK ?hl ?hh ?_; (case F => k_asm); (case hv => exact rfl); (case X => k_asm); (case N => k_asm); (case h1 => k_mem); (case hK => first | (with_reducible exact own732_state _) | (with_reducible exact own732_debug _) | (with_reducible exact own732_whitespace _) | (with_reducible exact own732_posix _) | (with_reducible exact own732_token _) | (with_reducible exact own732_quotes _) | (with_reducible exact own732_escape _) | (with_reducible exact own732_wordchars _) | (with_reducible exact own732_commenters _) | (with_reducible exact own732_instream _) | (with_reducible exact own732_lineno _) | (with_reducible exact own732__punctuation_chars _) | (with_reducible exact own732_infile _) | (with_reducible exact own732_eof _) | (with_reducible exact own732_escapedquotes _) | (with_reducible exact own732_whitespace_split _) | (with_reducible exact own732_pushback _) | (with_reducible exact own732_filestack _) | (with_reducible exact own732_source _) | (with_reducible exact own597_buf _) | (with_reducible exact own597_pos _) | (with_reducible exact own597_newline _)); (case h2 => k_mem); (case hl => k_get); (case hh => k_handed); k_whole)))
  k_with "ite" => (first | with_reducible (refine iteT ?_) | with_reducible (refine iteF ?_))
  k_with "CompEnd" => (refine stopMark ?_)
  k_with "eval Name" => ((k_here; (with_reducible show wpAny _ _ (eval (Expr.Name _ _) (compEnvC _ _ _ _)) _ _ _); k_dflt (first
      | refine LCgL.ld_own (by k_asm) (by k_mem) (by assumption) (by assumption) ?_
      | refine LCgL.ld_global (by k_asm) (by k_asm) (by k_asm) (by k_is) ?_
      | refine LCgL.ld_built (by k_asm) (by k_asm) (by k_asm) (by k_is) (by boot_by_name) (by decide) ?_)))
  k_with "eval Name" => ((k_here; (fail_if_success (with_reducible show wpAny _ _ (eval (Expr.Name _ _) (compEnvC _ _ _ _)) _ _ _)); k_dflt (refine' nameX_L ?F ?hv ?_; (case F => k_asm); (case hv => exact rfl); k_whole)))
  k_with "callWith ref" => ((k_here; k_dflt (refine' callWith_K ?k1 ?k2 ?_; (case k1 => k_asm); (case k2 => k_is); k_whole)))
  k_with "exec While" => (refine stopMark ?_)
  k_with "Exists" => (refine stopMark ?_)
  k_with "exec If" => (refine wpAny_If ?_)
  k_with "compareOp In str str" => (first | refine in_yes (by first | assumption | decide +kernel) ?_ | refine in_no (by first | assumption | decide +kernel) ?_)
  k_with "compareOp Eq str str" => (first | refine eq_yes (by first | assumption | rfl) ?_ | refine eq_no (by first | assumption | decide +kernel) ?_ | refine stopMark ?_)
  k_with "truthy str" => (first | refine truthy_sgn ?_ | refine truthy_yes (by assumption) (by first | assumption | omega) ?_ | refine truthy_no (by assumption) ?_)
  k_with "MY steps" => (repeat' (first | (k_unfold; (try dsimp only)) | (k_end; wrow_close) | walk1 | (dsimp only; walk1) | (leave1; try dsimp only) | fail "no step"))
  k_with "MY fin" => (repeat (first | dsimp only | (k_unfold; (try dsimp only))))
  k_with "MY open" => ((
      rename On _ _ _ _ _ => aOn9
      have Gk9 := aOn9.k
      have hap9 := aOn9.apart
      dsimp only [List.map] at hap9
      refine wpAny_call ?_
      k_dflt (k_extra "MY enter")))
  k_with "MY ret" => ((
      rename _ = hideAll _ _ => hgX
      rename Fr _ _ _ _ => kF
      rename News _ _ _ _ => kN
      rename (∀ _ _ _, Kept _ _ _ → _) => retX
      refine' retX _ _ _ (fun b o e => kF.keep b o (hgX ▸ e)) ?_
      (first | exact (fun q hq => (kN q hq).1) | exact ⟨_, fun q hq => (kN q hq).1⟩)))
  k_with "k_all" => (with_reducible assumption)
  k_with "call ref" => (((with_reducible show wpAny _ _ (call (Value.ref 807) _) _ _ _); refine stopMark ?_))
  k_with "UnrEndW" => (refine stopMark ?_)
  k_with "call type:enumerate" => (refine stopMark ?_)
  k_with "exec For Tuple Call cons nil" => ((k_here; (rename Fr _ _ _ _ => lF'); (with_unfolding_all refine' For_turns lF' ?_; k_whole)))
  k_with "binaryOp Mod int int" => ((refine mod_known (by with_reducible assumption) (by first | with_reducible assumption | decide) ?_))
  k_with "binaryOp FloorDiv int int" => ((refine div_known (by with_reducible assumption) ?_))
  k_with "subscriptTail" => (((with_reducible show wpAny _ _ (subscriptTail _ _ (Value.ref _) (Value.int _ _)) _ _ _); (with_unfolding_all refine' item_known ?k1 ?k2 ?k3 ?k4 ?k5 ?_ ?k6; (case k1 => k_asm); (case k3 => with_reducible assumption); (case k2 => k_mem); (case k4 => (first | lia | omega)); (case k5 => (first | lia | omega)); (case k6 => with_unfolding_all rfl); k_whole)))
  k_with "call builtin:list.append" => ((k_dflt (refine' app_lst ?k1 ?k2 ?k3 ?z ?_; (case k1 => k_asm); (case k2 => k_asm); (case k3 => first | with_reducible assumption | k_upd); (case z => first | assumption | (first | lia | omega)); k_whole); intro h' F' N'))
  k_with "call builtin:list.pop" => ((k_here; (with_reducible show wpAny _ _ (call (Value.builtin _) [Value.ref _]) _ _ _); k_dflt (refine' pop_lst ?k1 ?k2 ?k3 ?z ?_; (case k1 => k_asm); (case k2 => k_asm); (case k3 => first | with_reducible assumption | k_upd); (case z => first | assumption | (first | lia | omega)); k_whole); intro h' F' N'))
  k_with "call builtin:sum" => ((k_dflt (refine' sumK ?k0 ?k1 ?k2 ?k3 ?k4 ?_; (case k0 => with_unfolding_all rfl); (case k1 => k_asm); (case k2 => k_asm); (case k3 => exact News.isList (by k_asm) (by k_mem)); (case k4 => with_reducible assumption); k_whole); intro h' tk' t' F' N'; replace N' := news_drop5 N'))
  k_with "getMethod ref" => (((with_reducible show wpAny _ _ (getMethod (Value.ref _) (PySem.Str.ofString "append") _) _ _ _); k_dflt (refine' listMethod_K ?N ?m PySem.F.slot_list_append PySem.F.type_list_append ?_; (case N => k_asm); (case m => with_reducible assumption))))
  k_with "getMethod ref" => (((with_reducible show wpAny _ _ (getMethod (Value.ref _) (PySem.Str.ofString "pop") _) _ _ _); k_dflt (refine' kl_method ?N ?m PySem.F.slot_list_pop PySem.F.type_list_pop ?_; (case N => k_asm); (case m => with_reducible assumption))))
  k_with "execs cons" => (((have hcx := hcutNow); clear hcx; refine stopMark ?_))
  k_with "CutPost" => (refine stopMark ?_)
  trivial
set_option maxHeartbeats 8000000 in
theorem texts_walk {w : World} {dep un : Nat} {gs : Option (List Code)} {s : Shared} {outer : List Env} {E Q : Value → Shared → Prop} {ls : Addr} {vs : List Value} {ns : List Int}
    (hl : (hideAll s.heap []).IsList ls vs.toArray) (hi : IntsAre vs ns) (hns : ns.length ≤ 63) (hD : dep < 600) (hU : un < 4000)
    (a : On w (AA none dep outer gs un) outer s [])
    (ret : ∀ h' tk' D, Kept s [] h' → TxLeft s h' D → Q (.ref D) { s with heap := h', toks := tk' }) :
    wpAny (model PR w) (AA none dep outer gs un) (call (.ref 814) [.ref ls]) Q E s := by
  have hcl := cLine_is
  obtain ⟨jn, hjn, hj⟩ := fmodc ns.sum 3 (by decide)
  have hj' : ns.sum.fmod 3 = (jn : Int) := hj
  clear hj
  k_extra "MY open"
  intro g L' h₁ hg F' N' B' X' T' hlt
  (try dsimp only)
  k_fold
  have lifted : g.IsList ls vs.toArray := hg ▸ hl
  k_extra "MY steps"
  refine stopGo ?_
  rename IntsAre _ (List.take 16 ns) => hi16
  rename Fr g L' _ _ => kF
  rename News g L' _ _ => kN
  refine tx_loop (by rfl) kF kN ?hap (words_are _ _ _ _ _ _ _ _ _ _) (T00_wf hjn) (T00_tx _ _ _ _ _ _ _ _) ?turn ?done
  case hap => refine ⟨⟨?_, ?_, ?_, ?_, trivial⟩, ⟨?_, ?_, ?_, trivial⟩, ⟨?_, ?_, trivial⟩, ⟨?_, trivial⟩, trivial, trivial⟩ <;> (show @Ne Nat _ _; first | k_extra "MY nlt" | (first | lia | omega))
  case done =>
    have hlw := hi16.length
    clear kN kF
    intro T v0 v1 v2 v3 n0 n1 n2 n3 uk ux ua ui h tk hap hT tx F1 N1
    dsimp only [four] at F1
    k_extra "MY steps"
    k_extra "MY fin"
    rename Fr g L' _ _ => kF
    exact ret _ _ _ (fun b o e => kF.keep b o (hg ▸ e)) (tx_left hg N1 hT (by rw [hlw, List.length_take]; (first | lia | omega)) tx hap)
  case turn =>
    clear kN kF
    intro wv I i x Tt tt h tk T v0 v1 v2 v3 n0 n1 n2 n3 uk ux ua ui hap hw hI hx hT tx hTt F1
    have hlw := hi16.length
    have hi20 : i < 16 := by
      have h1 := (List.getElem?_eq_some_iff.mp hx).1
      rw [hlw, List.length_take] at h1
      (first | lia | omega)
    obtain ⟨xi, tx', rfl⟩ : ∃ xi t, x = .int xi t := by
      obtain ⟨k, t, e, hk⟩ := IntsAre.at hi16 i x hx
      exact ⟨k, t, e⟩
    obtain ⟨hr0, hr1⟩ := fmod16 xi
    obtain ⟨r, hr⟩ : ∃ r, xi.fmod 16 = r := ⟨_, rfl⟩
    rw [hr] at hr0 hr1
    obtain ⟨q, hq⟩ : ∃ q, xi.fdiv 16 = q := ⟨_, rfl⟩
    have hI0 := hI
    dsimp only [txLed] at hI
    k_lt hI
    ktu_objs
    have F0 := m0_of F1
    dsimp only [four] at F1
    obtain ⟨c, hc4, hcm⟩ := fmodc (i : Int) 4 (by decide)
    have hcm4 : (i : Int).fmod 4 = (c : Int) := hcm
    clear hcm
    have hcutNow : True := trivial
    k_extra "MY steps"
    refine stopGo ?_
    clear hcutNow
    rename News g L' _ _ => kN0
    refine cut_tx F0 kN0 c ?post ?pre
    case pre =>
      clear F0
      try dsimp only
      rcases Nat.eq_zero_or_pos c with hc0 | hc0
      · subst hc0
        have hcm0 : (i : Int).fmod 4 = 0 := hcm4
        clear hcm4
        by_cases h10 : r < 10
        · obtain ⟨z, tz, hz, hzv⟩ := hw r hr0 h10
          k_extra "MY steps"
          refine stopGo ?_
          rename Fr g L' _ _ => kF
          rename News g L' _ _ => kN
          exact cut_end (it := .w z) hz (ItmIs.w z tz) kF kN rfl rfl (by intro y h1 h2 h3 h4; simp only [four, if_neg h1, if_neg h2, if_neg h3, if_neg h4])
        · k_extra "MY steps"
          refine stopGo ?_
          rename Fr g L' _ _ => kF
          rename News g L' _ _ => kN
          exact cut_end (it := .w [39]) (by decide : [39] ∈ wordsL) (ItmIs.w [39] _) kF kN rfl rfl (by intro y h1 h2 h3 h4; simp only [four, if_neg h1, if_neg h2, if_neg h3, if_neg h4])
      · by_cases h10 : r < 10
        · obtain ⟨z, tz, hz, hzv⟩ := hw r hr0 h10
          k_extra "MY steps"
          refine stopGo ?_
          rename Fr g L' _ _ => kF
          rename News g L' _ _ => kN
          exact cut_end (it := .w z) hz (ItmIs.w z tz) kF kN rfl rfl (by intro y h1 h2 h3 h4; simp only [four, if_neg h1, if_neg h2, if_neg h3, if_neg h4])
        · obtain ⟨j, hjc, hj⟩ := fmodc q c hc0
          have hcne : (c : Int) ≠ 0 := by (first | lia | omega)
          k_extra "MY steps"
          refine stopGo ?_
          rename Fr g L' _ _ => kF
          rename News g L' _ _ => kN
          exact cut_end (it := .n j) ⟨hjc, by (first | lia | omega)⟩ (ItmIs.n j _) kF kN rfl rfl (by intro y h1 h2 h3 h4; simp only [four, if_neg h1, if_neg h2, if_neg h3, if_neg h4])
    case post =>
      clear F0
      intro h5 tk5 uk5 ux5 ta it v hok hit F5 N5
      have hnd := hnd_of N5 (by refine ⟨⟨?_, ?_, ?_, ?_, ?_, ?_, ?_, ?_, trivial⟩, ⟨?_, ?_, ?_, ?_, ?_, ?_, ?_, trivial⟩, ⟨?_, ?_, ?_, ?_, ?_, ?_, trivial⟩, ⟨?_, ?_, ?_, ?_, ?_, trivial⟩, ⟨?_, ?_, ?_, ?_, trivial⟩, ⟨?_, ?_, ?_, trivial⟩, ⟨?_, ?_, trivial⟩, ⟨?_, trivial⟩, trivial, trivial⟩ <;> (show @Ne Nat _ _; (try dsimp only); first | k_extra "MY nlt" | (first | lia | omega)))
      obtain ⟨aa, vv, nn, w0, w1, w2, w3, x0, x1, x2, x3, y0, y1, y2, y3, hxa, hm1, hU1, hm2, hU2, txn, hvz⟩ := at_caseN N5 hc4 hnd tx (hT.up (by (first | lia | omega))) hit
      dsimp only [four] at F5
      try dsimp only
      try k_fold
      k_extra "MY steps"
      refine stopGo ?_
      have hTn : WfT (setT T c (T c ++ [it])) (2 + (i + 1)) := hT.push hok
      k_dflt (refine' sizes_use (hTn.up (by (first | lia | omega))) txn ?hm hap ?k1 ?k2 ?k3 ?k4 ?k5 ?k6 ?k7 ?kF ?kG ?_)
      case k1 => k_asm
      case k2 => k_asm
      case k3 => k_asm
      case k4 => k_asm
      case k5 => k_asm
      case k6 => exact rfl
      case k7 => exact rfl
      case kF => dsimp only [AA, Around.deeper]; k_extra "MY lt"
      case kG => dsimp only [AA, Around.deeper]; k_extra "MY lt"
      case hm => (repeat (first | exact List.forall_mem_nil _ | (refine' List.forall_mem_cons.mpr ⟨?qa, ?_⟩; (case qa => k_mem))))
      intro h2 tk2 D5 D50 D51 D52 D53 n5 z0 z1 z2 z3 F2 N2 sz
      dsimp only [szObjs, List.cons_append, List.nil_append] at N2
      have hy3 := sz.t3
      k_extra "MY steps"
      all_goals refine stopGo ?_
      all_goals ((rename Fr g L' _ _ => kF; rename News g L' _ _ => kN; first | refine tx_close kF kN hI0 rfl rfl rfl (hT.up (by (first | lia | omega))) tx ?_ | refine tx_close kF kN hI0 rfl rfl rfl hTn txn ?_); (intro y h1 h2 h3 h4; simp only [four, if_neg h1, if_neg h2, if_neg h3, if_neg h4]))

end
section
section
variable {w : World} {A₀ A : Around} {s : Shared} {base h₀ : Heap} {outer : List Env} {env : Env} {L : Addr} {m : PySem.Str → Option Value} {news : List (Addr × Obj)} {p : Program} {loose : List PySem.Str} {mean : ExcName → Option Value} {mg mb : PySem.Str → Option Value}
  {dep un : Nat} {gs : Option (List Code)} {E Q : Value → Shared → Prop} {ls : Addr} {vs : List Value} {ns : List Int}
theorem texts_use (hl : h₀.IsList ls vs.toArray) (hi : IntsAre vs ns) (hns : ns.length ≤ 63)
    (B : Below A₀ base outer h₀) (F : Fr h₀ L s.heap m) (X : (hd.heap_39 w.params).In h₀) (N : News h₀ L s.heap news) (T' : Top p loose mean mg mb h₀) (hfr : env.frame = some L) (hke : env.scope.kind = .function)
    (hD : dep < 600) (hU : un < 4000)
    (h : ∀ h' tk' D T a0 a1 a2 a3 n0 n1 n2 n3 v0 v1 v2 v3, Fr h₀ L h' m → News h₀ L h' (txFoot D a0 a1 a2 a3 0 n0 n1 n2 n3 v0 v1 v2 v3 ++ news) → WfT T 20 → TxAre T v0 v1 v2 v3 → Apart [D, a0, a1, a2, a3] → (∀ q ∈ news, ∀ b ∈ [D, a0, a1, a2, a3], q.1 ≠ b) → Q (.ref D) { s with heap := h', toks := tk' }) :
    wpAny (model PR w) (AA none dep (env :: outer) gs un) (call (.ref 814) [.ref ls]) Q E s := by
  have hl' : (hideAll s.heap []).IsList ls vs.toArray := by
    obtain ⟨o, ho, r⟩ := hl
    exact ⟨o, hideAll_iff.mpr ⟨F.keep _ _ ho, fun hm => nomatch hm⟩, r⟩
  refine texts_walk hl' hi hns hD hU (On.of (foot := []) B F X N T' rfl hfr hke (fun q hq => nomatch hq) trivial) fun h' tk' D hk hlft => ?_
  obtain ⟨T, a0, a1, a2, a3, n0, n1, n2, n3, v0, v1, v2, v3, hT, tx, hap, hobj⟩ := hlft
  refine h h' tk' D T a0 a1 a2 a3 n0 n1 n2 n3 v0 v1 v2 v3 (back_fr (foot := []) F N (fun q hq => nomatch hq) hk) (fun q hq => ?_) hT tx hap (fun q hq b hb e => ?_)
  · rcases List.mem_append.mp hq with hq | hq
    · exact back_none' F (hobj q hq)
    · exact back_same (foot := []) N (fun q hq => nomatch hq) hk (fun q hq => nomatch hq) q hq
  · have h1 := List.mem_map.mp (show b ∈ (txFoot D a0 a1 a2 a3 0 n0 n1 n2 n3 v0 v1 v2 v3).map (·.1) from hb)
    obtain ⟨q', hq', e'⟩ := h1
    have h2 := (hobj q' hq').2
    have h3 := (N q hq).1
    rw [e, ← e', h2] at h3
    cases h3
end

end
section
theorem lines_18 : True := by
  k_with_none
  k_with "execs cons" => (first | (k_fold; (try dsimp only); (try (with_reducible refine gen_toks ?_; intro tk9))) | (with_reducible refine gen_toks ?_; intro tk9))
  k_with "MY nth" => (k_dflt (first | exact @rfl _ (nthO _ 0) | exact @rfl _ (nthO _ 1) | exact @rfl _ (nthO _ 2) | exact @rfl _ (nthO _ 3) | exact @rfl _ (nthO _ 4) | exact @rfl _ (nthO _ 5) | exact @rfl _ (nthO _ 6) | exact @rfl _ (nthO _ 7) | exact @rfl _ (nthO _ 8) | exact @rfl _ (nthO _ 9) | exact @rfl _ (nthO _ 10) | exact @rfl _ (nthO _ 11) | exact @rfl _ (nthO _ 12) | exact @rfl _ (nthO _ 13) | exact @rfl _ (nthO _ 14) | exact @rfl _ (nthO _ 15) | exact @rfl _ (nthO _ 16) | exact @rfl _ (nthO _ 17) | exact @rfl _ (nthO _ 18) | exact @rfl _ (nthO _ 19) | exact @rfl _ (nthO _ 20) | exact @rfl _ (nthO _ 21) | exact @rfl _ (nthO _ 22) | exact @rfl _ (nthO _ 23) | exact @rfl _ (nthO _ 24) | exact @rfl _ (nthO _ 25)))
  k_with "MY nlt" => (first
      | exact NeN.ne (by with_reducible assumption)
      | exact Ne.symm (NeN.ne (by with_reducible assumption))
      | exact Nat.ne_of_gt (by with_reducible assumption)
      | exact Nat.ne_of_lt (by with_reducible assumption)
      | (refine' LtA.ne ?qh ?qe; (case qh => with_reducible assumption); (case qe => k_extra "MY nth"))
      | (refine' LtA.ne' ?qh ?qe; (case qh => with_reducible assumption); (case qe => k_extra "MY nth"))
      | (refine' LtA.neS ?qh ?qe; (case qh => with_reducible assumption); (case qe => k_extra "MY nth"))
      | (refine' LtA.neS' ?qh ?qe; (case qh => with_reducible assumption); (case qe => k_extra "MY nth"))
      | (refine' LtA.neT ?qh ?qe; (case qh => with_reducible assumption); (case qe => k_extra "MY nth"))
      | (refine' LtA.neT' ?qh ?qe; (case qh => with_reducible assumption); (case qe => k_extra "MY nth"))
      | (refine' OffA.ne ?qh ?qe; (case qh => with_reducible assumption); (case qe => k_extra "MY nth"))
      | (refine' OffA.ne' ?qh ?qe; (case qh => with_reducible assumption); (case qe => k_extra "MY nth"))
      | (refine' Apart.at ?qh ?qe ?qf ?qn; (case qh => with_reducible assumption); (case qe => k_extra "MY nth"); (case qf => k_extra "MY nth"); (case qn => exact rfl)))
  k_with "k_all" => ((k_dflt (refine' ltA_off ?qh ?qe; (case qh => with_reducible assumption); (case qe => first | exact @rfl _ (dropO 0 _) | exact @rfl _ (dropO 1 _) | exact @rfl _ (dropO 2 _) | exact @rfl _ (dropO 3 _) | exact @rfl _ (dropO 4 _) | exact @rfl _ (dropO 5 _) | exact @rfl _ (dropO 6 _) | exact @rfl _ (dropO 7 _) | exact @rfl _ (dropO 8 _) | exact @rfl _ (dropO 9 _) | exact @rfl _ (dropO 10 _) | exact @rfl _ (dropO 11 _)))))
  k_with "MY lts" => ((k_dflt (refine' ltA_lts ?qh ?qe; (case qh => with_reducible assumption); (case qe => first | exact @rfl _ (dropO 0 _) | exact @rfl _ (dropO 1 _) | exact @rfl _ (dropO 2 _) | exact @rfl _ (dropO 3 _) | exact @rfl _ (dropO 4 _) | exact @rfl _ (dropO 5 _) | exact @rfl _ (dropO 6 _) | exact @rfl _ (dropO 7 _) | exact @rfl _ (dropO 8 _) | exact @rfl _ (dropO 9 _) | exact @rfl _ (dropO 10 _) | exact @rfl _ (dropO 11 _)))))
  k_with "MY pick" => (first | (refine' LtA.lt ?qh ?qe; (case qh => with_reducible assumption); (case qe => k_extra "MY nth")) | (refine Nat.lt_succ_of_lt ?_; (refine' LtA.lt ?qh ?qe; (case qh => with_reducible assumption); (case qe => k_extra "MY nth"))) | (refine Nat.lt_succ_of_lt (Nat.lt_succ_of_lt ?_); (refine' LtA.lt ?qh ?qe; (case qh => with_reducible assumption); (case qe => k_extra "MY nth"))))
  k_with "MY lt" => (first
      | (refine' lt_le ?qh ?qe; (case qh => assumption); (case qe => exact rfl))
      | (refine' lt_p ?qh ?qe; (case qh => assumption); (case qe => exact rfl))
      | (refine' lt_pp ?qh ?qe; (case qh => assumption); (case qe => exact rfl))
      | (refine' lt_ppp ?qh ?qe; (case qh => assumption); (case qe => exact rfl))
      | (refine' le_le ?qh ?qe; (case qh => assumption); (case qe => exact rfl))
      | decide
      | ((try simp only [LtA] at *); omega))
  k_with "k_ne" => ((refine neN ?_; (try dsimp only); first | k_extra "MY nlt" | omega | ((try simp only [LtA, List.forall_mem_cons] at *); omega)))
  k_with "k_room" => (((try simp only [depth_under_make, depth_under_kw, depth_in1, depth_deeper, depth_caller]); (show _ < 1000); k_dflt (k_extra "MY lt")))
  k_with "MY enterB" => ((refine' code_foot ?k1 ?k2 ?k3 ?k4 ?k5 ?k6 ?k7 ?_ ?c1 ?c2 ?c3 ?c4; (case k1 => assumption); (case k2 => assumption); (case k3 => k_is); (case k4 => k_is); (case k5 => k_room); (case k6 => first | exact BindsTo.of_eq rfl | exact binds_K (by k_in) rfl (by k_is) rfl rfl rfl); (case k7 => exact locs rfl); (case c1 => exact rfl); (case c2 => exact rfl); (case c3 => exact rfl); (case c4 => decide)))
  k_with "MY enter" => ((refine' on_foot ?k1 ?k3 ?k4 ?k5 ?k6 ?k7 ?_ ?c1 ?c2 ?c3 ?c4; (case k1 => assumption); (case k3 => k_is); (case k4 => k_is); (case k5 => k_room); (case k6 => first | exact BindsTo.of_eq rfl | exact binds_K (by k_in) rfl (by k_is) rfl rfl rfl); (case k7 => exact locs rfl); (case c1 => exact rfl); (case c2 => exact rfl); (case c3 => exact rfl); (case c4 => decide); intro bx9 px9 lx9 mx9 gx9 hx9))
  k_with "setAttr ref" => ((k_here; first | ((with_reducible refine' lex_set_state ?k1 ?k2 ?k3 ?k4 ?U ?_); k_dflt ((case k1 => k_asm); (case k2 => k_asm); (case k3 => k_asm); (case k4 => k_mem); (case U => k_upd)); k_whole; intro h' F' N'; (try k_sweep)) | ((with_reducible refine' lex_set_token ?k1 ?k2 ?k3 ?k4 ?U ?_); k_dflt ((case k1 => k_asm); (case k2 => k_asm); (case k3 => k_asm); (case k4 => k_mem); (case U => k_upd)); k_whole; intro h' F' N'; (try k_sweep)) | ((with_reducible refine' lex_set_lineno ?k1 ?k2 ?k3 ?k4 ?U ?_); k_dflt ((case k1 => k_asm); (case k2 => k_asm); (case k3 => k_asm); (case k4 => k_mem); (case U => k_upd)); k_whole; intro h' F' N'; (try k_sweep)) | ((with_reducible refine' lex_set_infile ?k1 ?k2 ?k3 ?k4 ?U ?_); k_dflt ((case k1 => k_asm); (case k2 => k_asm); (case k3 => k_asm); (case k4 => k_mem); (case U => k_upd)); k_whole; intro h' F' N'; (try k_sweep)) | ((with_reducible refine' lex_set_instream ?k1 ?k2 ?k3 ?k4 ?U ?_); k_dflt ((case k1 => k_asm); (case k2 => k_asm); (case k3 => k_asm); (case k4 => k_mem); (case U => k_upd)); k_whole; intro h' F' N'; (try k_sweep))))
  k_with "eval Attribute Name" => ((k_here; k_dflt (refine' self_own ?F ?X ?N ?hv ?h1 ?h2 ?hK ?hl ?hh ?_; (case F => k_asm); (case hv => exact rfl); (case X => k_asm); (case N => k_asm); (case h1 => k_mem); (case hK => first | (with_reducible exact own732_state _) | (with_reducible exact own732_debug _) | (with_reducible exact own732_whitespace _) | (with_reducible exact own732_posix _) | (with_reducible exact own732_token _) | (with_reducible exact own732_quotes _) | (with_reducible exact own732_escape _) | (with_reducible exact own732_wordchars _) | (with_reducible exact own732_commenters _) | (with_reducible exact own732_instream _) | (with_reducible exact own732_lineno _) | (with_reducible exact own732__punctuation_chars _) | (with_reducible exact own732_infile _) | (with_reducible exact own732_eof _) | (with_reducible exact own732_escapedquotes _) | (with_reducible exact own732_whitespace_split _) | (with_reducible exact own732_pushback _) | (with_reducible exact own732_filestack _) | (with_reducible exact own732_source _) | (with_reducible exact own597_buf _) | (with_reducible exact own597_pos _) | (with_reducible exact own597_newline _)); (case h2 => k_mem); (case hl => k_get); (case hh => k_handed); k_whole)))
  k_with "ite" => (first | with_reducible (refine iteT ?_) | with_reducible (refine iteF ?_))
  k_with "CompEnd" => (refine stopMark ?_)
  k_with "eval Name" => ((k_here; (with_reducible show wpAny _ _ (eval (Expr.Name _ _) (compEnvC _ _ _ _)) _ _ _); k_dflt (first
      | refine LCgL.ld_own (by k_asm) (by k_mem) (by assumption) (by assumption) ?_
      | refine LCgL.ld_global (by k_asm) (by k_asm) (by k_asm) (by k_is) ?_
      | refine LCgL.ld_built (by k_asm) (by k_asm) (by k_asm) (by k_is) (by boot_by_name) (by decide) ?_)))
  k_with "eval Name" => ((k_here; (fail_if_success (with_reducible show wpAny _ _ (eval (Expr.Name _ _) (compEnvC _ _ _ _)) _ _ _)); k_dflt (refine' nameX_L ?F ?hv ?_; (case F => k_asm); (case hv => exact rfl); k_whole)))
  k_with "callWith ref" => ((k_here; k_dflt (refine' callWith_K ?k1 ?k2 ?_; (case k1 => k_asm); (case k2 => k_is); k_whole)))
  k_with "exec While" => (refine stopMark ?_)
  k_with "Exists" => (refine stopMark ?_)
  k_with "exec If" => (refine wpAny_If ?_)
  k_with "compareOp In str str" => (first | refine in_yes (by first | assumption | decide +kernel) ?_ | refine in_no (by first | assumption | decide +kernel) ?_)
  k_with "compareOp Eq str str" => (first | refine eq_yes (by first | assumption | rfl) ?_ | refine eq_no (by first | assumption | decide +kernel) ?_ | refine stopMark ?_)
  k_with "truthy str" => (first | refine truthy_sgn ?_ | refine truthy_yes (by assumption) (by first | assumption | omega) ?_ | refine truthy_no (by assumption) ?_)
  k_with "MY steps" => (repeat' (first | (k_unfold; (try dsimp only)) | (k_end; wrow_close) | walk1 | (dsimp only; walk1) | (leave1; try dsimp only) | fail "no step"))
  k_with "MY fin" => (repeat (first | dsimp only | (k_unfold; (try dsimp only))))
  k_with "MY open" => ((
      rename On _ _ _ _ _ => aOn9
      have Gk9 := aOn9.k
      have hap9 := aOn9.apart
      dsimp only [List.map] at hap9
      refine wpAny_call ?_
      k_dflt (k_extra "MY enter")))
  k_with "MY ret" => ((
      rename _ = hideAll _ _ => hgX
      rename Fr _ _ _ _ => kF
      rename News _ _ _ _ => kN
      rename (∀ _ _ _, Kept _ _ _ → _) => retX
      refine' retX _ _ _ (fun b o e => kF.keep b o (hgX ▸ e)) ?_
      (first | exact (fun q hq => (kN q hq).1) | exact ⟨_, fun q hq => (kN q hq).1⟩)))
  k_with "k_all" => (with_reducible assumption)
  k_with "exec While" => (refine stopMark ?_)
  k_with "subscriptTail" => (((with_reducible show wpAny _ _ (subscriptTail _ _ (Value.ref _) (Value.int _ _)) _ _ _); (with_unfolding_all refine' item_known ?k1 ?k2 ?k3 ?k4 ?k5 ?_ ?k6; (case k1 => k_asm); (case k2 => first | with_reducible assumption | k_mem); (case k3 => with_reducible assumption); (case k4 => (first | lia | omega)); (case k5 => (first | lia | omega)); (case k6 => with_unfolding_all rfl); k_whole)))
  k_with "call type:str" => ((k_here; (with_reducible show wpAny _ _ (call (Value.type "str") [Value.int _ _]) _ _ _); refine str_small (by with_reducible assumption) ?_))
  k_with "Exists" => (refine stopMark ?_)
  trivial
set_option maxHeartbeats 8000000 in
theorem found_walk {w : World} {dep un : Nat} {gs : Option (List Code)} {s : Shared} {outer : List Env} {E Q : Value → Shared → Prop} {T : Txs} {tl a0 a1 a2 a3 D D0 D1 D2 D3 : Addr} {n n0 n1 n2 n3 n5 k : Nat} {v0 v1 v2 v3 y0 y1 y2 y3 : List Value} {nt : Note} {tk tk' : Tok}
    (hT : WfT T 20) (tx : TxAre T v0 v1 v2 v3) (sz : SzAre T y0 y1 y2 y3) (hf : Fd T 3 0 k nt) (hD : dep < 600) (hU : un < 4000)
    (a : On w (AA none dep outer gs un) outer s (fdLed tl a0 a1 a2 a3 D D0 D1 D2 D3 n n0 n1 n2 n3 n5 v0 v1 v2 v3 y0 y1 y2 y3))
    (ret : ∀ h' tk' A ta tb tc td, Kept s (fdLed tl a0 a1 a2 a3 D D0 D1 D2 D3 n n0 n1 n2 n3 n5 v0 v1 v2 v3 y0 y1 y2 y3) h' → (∀ q ∈ fdLed tl a0 a1 a2 a3 D D0 D1 D2 D3 n n0 n1 n2 n3 n5 v0 v1 v2 v3 y0 y1 y2 y3, h'.get? q.1 = some q.2) →
      h'.get? A = some { cls := .type "tuple", data := .seq #[.str ⟨#[48 + nt.at_]⟩ ta, .int (nt.line : Int) tb, .int (nt.deep : Int) tc, .str ⟨nt.word.toArray⟩ td] } → s.heap.get? A = none → Q (.ref A) { s with heap := h', toks := tk' }) :
    wpAny (model PR w) (AA none dep outer gs un) (call (.ref 828) [.ref tl, .ref D, .int 3 tk, .int (k : Int) tk']) Q E s := by
  have hcl := cLine_is
  simp only [fdLed, szObjs, txFoot, List.cons_append, List.nil_append] at a
  k_extra "MY open"
  intro g L' h₁ hg F' N' B' X' T' hlt
  (try dsimp only)
  k_fold
  k_extra "MY steps"
  refine stopGo ?_
  rename Fr g L' _ _ => kF
  rename News g L' _ _ => kN
  refine wpAny_While (codeAny_whileLoop (fun N s' => ∃ (d kk : Nat) (h : Heap) (tk : Nat) (ur : Option Value) (t1 t2 t3 : Tok), s' = { s with heap := h, toks := tk } ∧ Fd T N d kk nt ∧ N < 4 ∧
    Fr g L' h (fdM ur (.int (d : Int) t1) (.int (N : Int) t2) (.int (kk : Int) t3) tl D) ∧ News g L' h (fdLed tl a0 a1 a2 a3 D D0 D1 D2 D3 n n0 n1 n2 n3 n5 v0 v1 v2 v3 y0 y1 y2 y3)) ?_ 3 ?_)
  case refine_2 =>
    refine ⟨0, k, _, _, _, _, _, _, rfl, hf, by decide, fd_fr kF rfl rfl rfl rfl rfl ?_, kN⟩
    intro y h1 h2 h3 h4 h5 h6
    rw [if_neg h2]
    exact lookup4 h4 h3 h5 h6
  case refine_1 =>
    clear kF kN
    rintro N s' ⟨d, kk, h, tk, ur, t1, t2, t3, rfl, hfd, hN, F1, N1⟩
    k_fold
    obtain ⟨pre, it, post, rest, hTi, hkk, hrest, hcase⟩ := fd_open hT.down hfd
    obtain ⟨Di, yi, ni, hDi, hmDi, hyi⟩ := sz_pick sz hN tl a0 a1 a2 a3 D D0 D1 D2 D3 n n0 n1 n2 n3 n5 v0 v1 v2 v3
    obtain ⟨ai, vi, mi, hai, hmai, hvi⟩ := tx_pick tx hN tl a0 a1 a2 a3 D D0 D1 D2 D3 n n0 n1 n2 n3 n5 y0 y1 y2 y3
    have hsz := szs_open hTi
    generalize hp : pre.map (itv (sumsOf T N)) = p at hsz hkk
    have hpl : p.length = pre.length := by rw [← hp, List.length_map]
    have hpb : p.length ≤ 20 := by
      have := hT.few N
      rw [hTi, List.length_append, List.length_cons] at this
      (first | lia | omega)
    simp only [fdLed, szObjs, txFoot, List.cons_append, List.nil_append] at hmDi hmai N1
    k_extra "MY steps"
    refine stopGo ?_
    rename Fr g L' _ _ => kF
    rename News g L' _ _ => kN
    refine wpAny_While (codeAny_whileLoop (fun M s' => ∃ (r : Nat) (h : Heap) (tk : Nat) (t1 t2 t3 t4 : Tok), s' = { s with heap := h, toks := tk } ∧ M = p.length - r ∧ r ≤ p.length ∧
      Fr g L' h (fdM (some (.int (r : Int) t4)) (.int (d : Int) t1) (.int (N : Int) t2) (.int (((p.drop r).sum + rest : Nat) : Int) t3) tl D) ∧ News g L' h (fdLed tl a0 a1 a2 a3 D D0 D1 D2 D3 n n0 n1 n2 n3 n5 v0 v1 v2 v3 y0 y1 y2 y3)) ?_ p.length ?_)
    case refine_2 =>
      subst hkk
      exact ⟨0, _, _, _, _, _, _, rfl, rfl, Nat.zero_le _, fd_fr kF rfl rfl rfl rfl rfl (by intro y h1 h2 h3 h4 h5 h6; simp only [fdM, if_neg h1, if_neg h2, if_neg h3, if_neg h4, if_neg h5, if_neg h6]), kN⟩
    case refine_1 =>
      clear kF kN
      rintro M s' ⟨r, h, tk, t1, t2, t3, t4, rfl, hM, hr, F2, N2⟩
      k_fold
      simp only [fdLed, szObjs, txFoot, List.cons_append, List.nil_append] at N2
      by_cases hlt : r < p.length
      · obtain ⟨t5, hy⟩ := int_at hyi (szs_lt hsz hlt)
        have hge : (p[r] : Int) ≤ (((p.drop r).sum + rest : Nat) : Int) := by rw [drop_sum hlt]; (first | lia | omega)
        have hk2 : (((p.drop r).sum + rest : Nat) : Int) - (p[r] : Int) = (((p.drop (r + 1)).sum + rest : Nat) : Int) := by rw [drop_sum hlt]; (first | lia | omega)
        k_extra "MY steps"
        refine stopGo ?_
        rename Fr g L' _ _ => kF
        rename News g L' _ _ => kN
        exact ⟨p.length - (r + 1), by (first | lia | omega), r + 1, _, _, _, _, _, _, rfl, rfl, hlt, fd_fr kF rfl rfl (congrArg (fun z => some (Value.int z _)) hk2) rfl rfl (by intro y h1 h2 h3 h4 h5 h6; simp only [fdM, if_neg h1, if_neg h2, if_neg h3, if_neg h4, if_neg h5, if_neg h6]), kN⟩
      · have hre : r = p.length := by (first | lia | omega)
        subst hre
        obtain ⟨t5, hy⟩ := int_at hyi (szs_eq hsz)
        have hltk : (((p.drop p.length).sum + rest : Nat) : Int) < (itv (sumsOf T N) it : Int) := by rw [List.drop_length]; simpa using hrest
        have hTp : (T N)[p.length]? = some it := by rw [hTi, hpl]; simp
        obtain ⟨v, hv, hit⟩ := itm_at hvi hTp
        rcases hcase with ⟨z, rfl, rfl⟩ | ⟨j, rfl, hjN, hfd2⟩
        · cases hit with
          | w z t6 =>
            k_extra "MY steps"
            show Q (.ref _) _
            rename Fr g L' _ _ => kF
            rename News g L' _ _ => kN
            rw [show ((p.length : Int) + 2) = ((pre.length + 2 : Nat) : Int) by (first | lia | omega)] at kN
            refine ret _ _ _ _ _ _ _ (fun b o e => kF.keep b o (hg ▸ e)) (fun q hq => (kN q (.tail _ hq)).1) (kN _ (.head _)).1 (new_none' hg kN (.head _) ?_).2
            repeat (first | exact List.forall_mem_nil _ | (refine' List.forall_mem_cons.mpr ⟨?qa, ?_⟩; (case qa => k_ne)))
        · cases hit with
          | n j t6 =>
            have hk3 : (((p.drop p.length).sum + rest : Nat) : Int) = (rest : Int) := by rw [List.drop_length]; simp
            k_extra "MY steps"
            rename Fr g L' _ _ => kF
            rename News g L' _ _ => kN
            refine stopGo ⟨j, hjN, d + 1, rest, _, _, _, _, _, _, rfl, hfd2, by (first | lia | omega), fd_fr kF rfl rfl (congrArg (fun z => some (Value.int z _)) hk3) rfl rfl (by intro y h1 h2 h3 h4 h5 h6; simp only [fdM, if_neg h1, if_neg h2, if_neg h3, if_neg h4, if_neg h5, if_neg h6]), kN⟩
section
variable {w : World} {A₀ A : Around} {s : Shared} {base h₀ : Heap} {outer : List Env} {env : Env} {L : Addr} {m : PySem.Str → Option Value} {news : List (Addr × Obj)} {p : Program} {loose : List PySem.Str} {mean : ExcName → Option Value} {mg mb : PySem.Str → Option Value}
  {dep un : Nat} {gs : Option (List Code)} {E Q : Value → Shared → Prop} {T : Txs} {tl a0 a1 a2 a3 D D0 D1 D2 D3 : Addr} {n n0 n1 n2 n3 n5 k : Nat} {v0 v1 v2 v3 y0 y1 y2 y3 : List Value} {nt : Note} {tk tk' : Tok}
theorem found_use (hT : WfT T 20) (tx : TxAre T v0 v1 v2 v3) (sz : SzAre T y0 y1 y2 y3) (hf : Fd T 3 0 k nt)
    (hm : ∀ q ∈ fdLed tl a0 a1 a2 a3 D D0 D1 D2 D3 n n0 n1 n2 n3 n5 v0 v1 v2 v3 y0 y1 y2 y3, q ∈ news) (hap : Apart [D, D0, D1, D2, D3, tl, a0, a1, a2, a3])
    (B : Below A₀ base outer h₀) (F : Fr h₀ L s.heap m) (X : (hd.heap_39 w.params).In h₀) (N : News h₀ L s.heap news) (T' : Top p loose mean mg mb h₀) (hfr : env.frame = some L) (hke : env.scope.kind = .function)
    (hD : dep < 600) (hU : un < 4000)
    (h : ∀ h' tk' A ta tb tc td, Fr h₀ L h' m → News h₀ L h' ((A, { cls := .type "tuple", data := .seq #[.str ⟨#[48 + nt.at_]⟩ ta, .int (nt.line : Int) tb, .int (nt.deep : Int) tc, .str ⟨nt.word.toArray⟩ td] }) :: news) → (∀ q ∈ news, q.1 ≠ A) → Q (.ref A) { s with heap := h', toks := tk' }) :
    wpAny (model PR w) (AA none dep (env :: outer) gs un) (call (.ref 828) [.ref tl, .ref D, .int 3 tk, .int (k : Int) tk']) Q E s := by
  refine found_walk hT tx sz hf hD hU (On.of B F X N T' rfl hfr hke hm hap) fun h' tk' A ta tb tc td hk hst hA hn => ?_
  refine h h' tk' A ta tb tc td (back_fr F N hm hk) (fun q hq => ?_) (fun q hq e => ?_)
  · rcases List.mem_cons.mp hq with rfl | hq
    · exact back_none' F ⟨hA, hn⟩
    · exact back_same N hm hk hst q hq
  · have := (N q hq).1
    rw [e, hn] at this
    cases this
end

end
section
noncomputable abbrev exD (hs : Nat → Int) (ts : Nat → Tok) (p : Int) (tp : Tok) (f : Addr) : List DictEntry := [⟨hs 0, .str (PySem.Str.ofString "value") (ts 0), .int p tp⟩, ⟨hs 1, .str (PySem.Str.ofString "read") (ts 1), .ref f⟩]
noncomputable abbrev tkFoot (f c' x d cl cb : Addr) (fo oc ol ob : Obj) (hs : Nat → Int) (ts : Nat → Tok) (p : Int) (tp : Tok) : List En := [(f, fo), (c', oc), (x, instObj 784 d), (d, dictOf (exD hs ts p tp f) 2), (cl, ol), (cb, ob)]
/-- take hands out the next octets -/
noncomputable def TakeSpec (w : World) (f c' x d cl cb : Addr) (fo oc ol ob : Obj) (oct : Array UInt8) : Prop :=
  ∀ {dep un : Nat} {gs : Option (List Code)} {s : Shared} {outer : List Env} {hs : Nat → Int} {ts : Nat → Tok} {tp t : Tok} {p n q : Nat} {E Q : Value → Shared → Prop},
    p ≤ oct.size → q = min (p + n) oct.size → oct.size ≤ 100000 → n ≤ 100000 → dep < 620 → un < 4200 →
    On w (AA none dep outer gs un) outer s (tkFoot f c' x d cl cb fo oc ol ob hs ts (p : Int) tp) →
    (∀ h' tk' t' tp', Kept s (tkFoot f c' x d cl cb fo oc ol ob hs ts (p : Int) tp) h' → (∀ q' ∈ tkFoot f c' x d cl cb fo oc ol ob hs ts (q : Int) tp', h'.get? q'.1 = some q'.2) → Q (.bytes (oct.extract p q) t') { s with heap := h', toks := tk' }) →
    wpAny (model PR w) (AA none dep outer gs un) (call (.ref f) [.int (n : Int) t]) Q E s
theorem take_pick {w : World} {oct : Array UInt8} {g h : Heap} {L f c' x d cl cb : Addr} {fo oc od ol ob : Obj} {tb : En} (_N : News g L h [(f, fo), (c', oc), (x, instObj 784 d), (d, od), (cl, ol), (cb, ob), tb])
    (k : TakeSpec w f c' x d cl cb fo oc ol ob oct) : True ∧ TakeSpec w f c' x d cl cb fo oc ol ob oct := ⟨trivial, k⟩
theorem picked_ext {b : Array UInt8} {p q : Nat} (hpq : p ≤ q) (hq : q ≤ b.size) : KBy.picked b (some (p : Int)) (some (q : Int)) = b.extract p q := by
  rw [KBc.picked_eq]
  simp only [Option.elim, clipAt_nat]
  rw [Nat.min_eq_left (Nat.le_trans hpq hq), Nat.min_eq_left hq]
  apply Array.toList_inj.mp
  simp
inductive StreamLeft (w : World) (oct : Array UInt8) (s : Shared) (h' : Heap) (x : Addr) : Prop
  | mk (f c' d cl cb : Addr) (fd : FuncData) (oc ol ob : Obj) (hs : Nat → Int) (ts : Nat → Tok) (tp : Tok) (k : TakeSpec w f c' x d cl cb { cls := .type "function", data := .func fd } oc ol ob oct) (hap : Apart [f, c', x, d, cl, cb])
    (ho : ∀ q ∈ tkFoot f c' x d cl cb { cls := .type "function", data := .func fd } oc ol ob hs ts 0 tp, h'.get? q.1 = some q.2 ∧ s.heap.get? q.1 = none) (ps : Array Value) (hps : h'.get? 790 = some (tabObj ps)) : StreamLeft w oct s h' x
theorem stream_left {w : World} {oct : Array UInt8} {s : Shared} {g h' : Heap} {L f c' x d cl cb : Addr} {fd : FuncData} {oc ol ob : Obj} {h0 h1 : Int} {t0 t1 : Tok} {tp : Tok} {ps : Array Value} (hg : g = hideAll s.heap (([(790, tabObj #[])] : List En).map (·.1)))
    (N : News g L h' [(f, { cls := .type "function", data := .func fd }), (c', oc), (x, instObj 784 d), (d, dictOf [⟨h0, .str (PySem.Str.ofString "value") t0, .int 0 tp⟩, ⟨h1, .str (PySem.Str.ofString "read") t1, .ref f⟩] 2), (cl, ol), (cb, ob), (790, tabObj ps)])
    (k : TakeSpec w f c' x d cl cb { cls := .type "function", data := .func fd } oc ol ob oct) (hap : Apart [f, c', x, d, cl, cb]) (o1 : NeN f 790) (o2 : NeN c' 790) (o3 : NeN x 790) (o4 : NeN d 790) (o5 : NeN cl 790) (o6 : NeN cb 790) : StreamLeft w oct s h' x := by
  refine ⟨f, c', d, cl, cb, fd, oc, ol, ob, fun i => if i = 0 then h0 else h1, fun i => if i = 0 then t0 else t1, tp, k, hap, ?_, ps, (N (790, tabObj ps) (by simp)).1⟩
  have z : ∀ {a : Addr} {o : Obj}, (a, o) ∈ [(f, ({ cls := .type "function", data := .func fd } : Obj)), (c', oc), (x, instObj 784 d), (d, dictOf [⟨h0, .str (PySem.Str.ofString "value") t0, .int 0 tp⟩, ⟨h1, .str (PySem.Str.ofString "read") t1, .ref f⟩] 2), (cl, ol), (cb, ob), (790, tabObj ps)] → NeN a 790 → h'.get? a = some o ∧ s.heap.get? a = none := fun {a o} hm hn => by
    refine ⟨(N _ hm).1, ?_⟩
    cases e : s.heap.get? a with
    | none => rfl
    | some o' =>
      have h1 := (N _ hm).2.2
      rw [hg] at h1
      have h2 : (hideAll s.heap (([(790, tabObj #[])] : List En).map (·.1))).get? a = some o' := hideAll_iff.mpr ⟨e, fun hmm => hn (by simpa using hmm)⟩
      rw [h2] at h1
      cases h1
  exact List.forall_mem_cons.mpr ⟨z (.head _) o1, List.forall_mem_cons.mpr ⟨z (.tail _ (.head _)) o2, List.forall_mem_cons.mpr ⟨z (.tail _ (.tail _ (.head _))) o3, List.forall_mem_cons.mpr ⟨z (.tail _ (.tail _ (.tail _ (.head _)))) o4,
    List.forall_mem_cons.mpr ⟨z (.tail _ (.tail _ (.tail _ (.tail _ (.head _))))) o5, List.forall_mem_cons.mpr ⟨z (.tail _ (.tail _ (.tail _ (.tail _ (.tail _ (.head _)))))) o6, fun _ h => nomatch h⟩⟩⟩⟩⟩⟩

end
section
theorem lines_19 : True := by
  k_with_none
  k_with "execs cons" => (first | (k_fold; (try dsimp only); (try (with_reducible refine gen_toks ?_; intro tk9))) | (with_reducible refine gen_toks ?_; intro tk9))
  k_with "MY nth" => (k_dflt (first | exact @rfl _ (nthO _ 0) | exact @rfl _ (nthO _ 1) | exact @rfl _ (nthO _ 2) | exact @rfl _ (nthO _ 3) | exact @rfl _ (nthO _ 4) | exact @rfl _ (nthO _ 5) | exact @rfl _ (nthO _ 6) | exact @rfl _ (nthO _ 7) | exact @rfl _ (nthO _ 8) | exact @rfl _ (nthO _ 9) | exact @rfl _ (nthO _ 10) | exact @rfl _ (nthO _ 11) | exact @rfl _ (nthO _ 12) | exact @rfl _ (nthO _ 13) | exact @rfl _ (nthO _ 14) | exact @rfl _ (nthO _ 15) | exact @rfl _ (nthO _ 16) | exact @rfl _ (nthO _ 17) | exact @rfl _ (nthO _ 18) | exact @rfl _ (nthO _ 19) | exact @rfl _ (nthO _ 20) | exact @rfl _ (nthO _ 21) | exact @rfl _ (nthO _ 22) | exact @rfl _ (nthO _ 23) | exact @rfl _ (nthO _ 24) | exact @rfl _ (nthO _ 25)))
  k_with "MY nlt" => (first
      | exact NeN.ne (by with_reducible assumption)
      | exact Ne.symm (NeN.ne (by with_reducible assumption))
      | exact Nat.ne_of_gt (by with_reducible assumption)
      | exact Nat.ne_of_lt (by with_reducible assumption)
      | (refine' LtA.ne ?qh ?qe; (case qh => with_reducible assumption); (case qe => k_extra "MY nth"))
      | (refine' LtA.ne' ?qh ?qe; (case qh => with_reducible assumption); (case qe => k_extra "MY nth"))
      | (refine' LtA.neS ?qh ?qe; (case qh => with_reducible assumption); (case qe => k_extra "MY nth"))
      | (refine' LtA.neS' ?qh ?qe; (case qh => with_reducible assumption); (case qe => k_extra "MY nth"))
      | (refine' LtA.neT ?qh ?qe; (case qh => with_reducible assumption); (case qe => k_extra "MY nth"))
      | (refine' LtA.neT' ?qh ?qe; (case qh => with_reducible assumption); (case qe => k_extra "MY nth"))
      | (refine' OffA.ne ?qh ?qe; (case qh => with_reducible assumption); (case qe => k_extra "MY nth"))
      | (refine' OffA.ne' ?qh ?qe; (case qh => with_reducible assumption); (case qe => k_extra "MY nth"))
      | (refine' Apart.at ?qh ?qe ?qf ?qn; (case qh => with_reducible assumption); (case qe => k_extra "MY nth"); (case qf => k_extra "MY nth"); (case qn => exact rfl)))
  k_with "k_all" => ((k_dflt (refine' ltA_off ?qh ?qe; (case qh => with_reducible assumption); (case qe => first | exact @rfl _ (dropO 0 _) | exact @rfl _ (dropO 1 _) | exact @rfl _ (dropO 2 _) | exact @rfl _ (dropO 3 _) | exact @rfl _ (dropO 4 _) | exact @rfl _ (dropO 5 _) | exact @rfl _ (dropO 6 _) | exact @rfl _ (dropO 7 _) | exact @rfl _ (dropO 8 _) | exact @rfl _ (dropO 9 _) | exact @rfl _ (dropO 10 _) | exact @rfl _ (dropO 11 _)))))
  k_with "MY lts" => ((k_dflt (refine' ltA_lts ?qh ?qe; (case qh => with_reducible assumption); (case qe => first | exact @rfl _ (dropO 0 _) | exact @rfl _ (dropO 1 _) | exact @rfl _ (dropO 2 _) | exact @rfl _ (dropO 3 _) | exact @rfl _ (dropO 4 _) | exact @rfl _ (dropO 5 _) | exact @rfl _ (dropO 6 _) | exact @rfl _ (dropO 7 _) | exact @rfl _ (dropO 8 _) | exact @rfl _ (dropO 9 _) | exact @rfl _ (dropO 10 _) | exact @rfl _ (dropO 11 _)))))
  k_with "MY pick" => (first | (refine' LtA.lt ?qh ?qe; (case qh => with_reducible assumption); (case qe => k_extra "MY nth")) | (refine Nat.lt_succ_of_lt ?_; (refine' LtA.lt ?qh ?qe; (case qh => with_reducible assumption); (case qe => k_extra "MY nth"))) | (refine Nat.lt_succ_of_lt (Nat.lt_succ_of_lt ?_); (refine' LtA.lt ?qh ?qe; (case qh => with_reducible assumption); (case qe => k_extra "MY nth"))))
  k_with "MY lt" => (first
      | (refine' lt_le ?qh ?qe; (case qh => assumption); (case qe => exact rfl))
      | (refine' lt_p ?qh ?qe; (case qh => assumption); (case qe => exact rfl))
      | (refine' lt_pp ?qh ?qe; (case qh => assumption); (case qe => exact rfl))
      | (refine' lt_ppp ?qh ?qe; (case qh => assumption); (case qe => exact rfl))
      | (refine' le_le ?qh ?qe; (case qh => assumption); (case qe => exact rfl))
      | decide
      | ((try simp only [LtA] at *); omega))
  k_with "k_ne" => ((refine neN ?_; (try dsimp only); first | k_extra "MY nlt" | omega | ((try simp only [LtA, List.forall_mem_cons] at *); omega)))
  k_with "k_room" => (((try simp only [depth_under_make, depth_under_kw, depth_in1, depth_deeper, depth_caller]); (show _ < 1000); k_dflt (k_extra "MY lt")))
  k_with "MY enterB" => ((refine' code_foot ?k1 ?k2 ?k3 ?k4 ?k5 ?k6 ?k7 ?_ ?c1 ?c2 ?c3 ?c4; (case k1 => assumption); (case k2 => assumption); (case k3 => k_is); (case k4 => k_is); (case k5 => k_room); (case k6 => first | exact BindsTo.of_eq rfl | exact binds_K (by k_in) rfl (by k_is) rfl rfl rfl); (case k7 => exact locs rfl); (case c1 => exact rfl); (case c2 => exact rfl); (case c3 => exact rfl); (case c4 => decide)))
  k_with "MY enter" => ((refine' on_foot ?k1 ?k3 ?k4 ?k5 ?k6 ?k7 ?_ ?c1 ?c2 ?c3 ?c4; (case k1 => assumption); (case k3 => k_is); (case k4 => k_is); (case k5 => k_room); (case k6 => first | exact BindsTo.of_eq rfl | exact binds_K (by k_in) rfl (by k_is) rfl rfl rfl); (case k7 => exact locs rfl); (case c1 => exact rfl); (case c2 => exact rfl); (case c3 => exact rfl); (case c4 => decide); intro bx9 px9 lx9 mx9 gx9 hx9))
  k_with "setAttr ref" => ((k_here; first | ((with_reducible refine' lex_set_state ?k1 ?k2 ?k3 ?k4 ?U ?_); k_dflt ((case k1 => k_asm); (case k2 => k_asm); (case k3 => k_asm); (case k4 => k_mem); (case U => k_upd)); k_whole; intro h' F' N'; (try k_sweep)) | ((with_reducible refine' lex_set_token ?k1 ?k2 ?k3 ?k4 ?U ?_); k_dflt ((case k1 => k_asm); (case k2 => k_asm); (case k3 => k_asm); (case k4 => k_mem); (case U => k_upd)); k_whole; intro h' F' N'; (try k_sweep)) | ((with_reducible refine' lex_set_lineno ?k1 ?k2 ?k3 ?k4 ?U ?_); k_dflt ((case k1 => k_asm); (case k2 => k_asm); (case k3 => k_asm); (case k4 => k_mem); (case U => k_upd)); k_whole; intro h' F' N'; (try k_sweep)) | ((with_reducible refine' lex_set_infile ?k1 ?k2 ?k3 ?k4 ?U ?_); k_dflt ((case k1 => k_asm); (case k2 => k_asm); (case k3 => k_asm); (case k4 => k_mem); (case U => k_upd)); k_whole; intro h' F' N'; (try k_sweep)) | ((with_reducible refine' lex_set_instream ?k1 ?k2 ?k3 ?k4 ?U ?_); k_dflt ((case k1 => k_asm); (case k2 => k_asm); (case k3 => k_asm); (case k4 => k_mem); (case U => k_upd)); k_whole; intro h' F' N'; (try k_sweep))))
  k_with "eval Attribute Name" => ((k_here; k_dflt (refine' self_own ?F ?X ?N ?hv ?h1 ?h2 ?hK ?hl ?hh ?_; (case F => k_asm); (case hv => exact rfl); (case X => k_asm); (case N => k_asm); (case h1 => k_mem); (case hK => first | (with_reducible exact own732_state _) | (with_reducible exact own732_debug _) | (with_reducible exact own732_whitespace _) | (with_reducible exact own732_posix _) | (with_reducible exact own732_token _) | (with_reducible exact own732_quotes _) | (with_reducible exact own732_escape _) | (with_reducible exact own732_wordchars _) | (with_reducible exact own732_commenters _) | (with_reducible exact own732_instream _) | (with_reducible exact own732_lineno _) | (with_reducible exact own732__punctuation_chars _) | (with_reducible exact own732_infile _) | (with_reducible exact own732_eof _) | (with_reducible exact own732_escapedquotes _) | (with_reducible exact own732_whitespace_split _) | (with_reducible exact own732_pushback _) | (with_reducible exact own732_filestack _) | (with_reducible exact own732_source _) | (with_reducible exact own597_buf _) | (with_reducible exact own597_pos _) | (with_reducible exact own597_newline _)); (case h2 => k_mem); (case hl => k_get); (case hh => k_handed); k_whole)))
  k_with "ite" => (first | with_reducible (refine iteT ?_) | with_reducible (refine iteF ?_))
  k_with "CompEnd" => (refine stopMark ?_)
  k_with "eval Name" => ((k_here; (with_reducible show wpAny _ _ (eval (Expr.Name _ _) (compEnvC _ _ _ _)) _ _ _); k_dflt (first
      | refine LCgL.ld_own (by k_asm) (by k_mem) (by assumption) (by assumption) ?_
      | refine LCgL.ld_global (by k_asm) (by k_asm) (by k_asm) (by k_is) ?_
      | refine LCgL.ld_built (by k_asm) (by k_asm) (by k_asm) (by k_is) (by boot_by_name) (by decide) ?_)))
  k_with "eval Name" => ((k_here; (fail_if_success (with_reducible show wpAny _ _ (eval (Expr.Name _ _) (compEnvC _ _ _ _)) _ _ _)); k_dflt (refine' nameX_L ?F ?hv ?_; (case F => k_asm); (case hv => exact rfl); k_whole)))
  k_with "callWith ref" => ((k_here; k_dflt (refine' callWith_K ?k1 ?k2 ?_; (case k1 => k_asm); (case k2 => k_is); k_whole)))
  k_with "exec While" => (refine stopMark ?_)
  k_with "Exists" => (refine stopMark ?_)
  k_with "exec If" => (refine wpAny_If ?_)
  k_with "compareOp In str str" => (first | refine in_yes (by first | assumption | decide +kernel) ?_ | refine in_no (by first | assumption | decide +kernel) ?_)
  k_with "compareOp Eq str str" => (first | refine eq_yes (by first | assumption | rfl) ?_ | refine eq_no (by first | assumption | decide +kernel) ?_ | refine stopMark ?_)
  k_with "truthy str" => (first | refine truthy_sgn ?_ | refine truthy_yes (by assumption) (by first | assumption | omega) ?_ | refine truthy_no (by assumption) ?_)
  k_with "MY steps" => (repeat' (first | (k_unfold; (try dsimp only)) | (k_end; wrow_close) | walk1 | (dsimp only; walk1) | (leave1; try dsimp only) | fail "no step"))
  k_with "MY fin" => (repeat (first | dsimp only | (k_unfold; (try dsimp only))))
  k_with "MY open" => ((
      rename On _ _ _ _ _ => aOn9
      have Gk9 := aOn9.k
      have hap9 := aOn9.apart
      dsimp only [List.map] at hap9
      refine wpAny_call ?_
      k_dflt (k_extra "MY enter")))
  k_with "MY ret" => ((
      rename _ = hideAll _ _ => hgX
      rename Fr _ _ _ _ => kF
      rename News _ _ _ _ => kN
      rename (∀ _ _ _, Kept _ _ _ → _) => retX
      refine' retX _ _ _ (fun b o e => kF.keep b o (hgX ▸ e)) ?_
      (first | exact (fun q hq => (kN q hq).1) | exact ⟨_, fun q hq => (kN q hq).1⟩)))
  k_with "k_all" => (with_reducible assumption)
  k_with "subscriptTail" => ((k_here; (with_reducible show wpAny _ _ (subscriptTail _ (Expr.Slice _ _ none _) (Value.bytes _ _) (Value.ref _)) _ _ _); (with_reducible rename Fr _ _ _ _ => F'); (with_reducible rename News _ _ _ _ => N'); (refine KBc.slice_K (s := ⟨_, _, _, _, _⟩) F' N' rfl (by constructor) (by constructor) (by rw [KBw.ints_length]; omega) ?_); intro h' t' tk' F' N' bsz'))
  k_with "MY note" => ((
      rename On _ _ _ _ _ => ab9
      obtain ⟨⟨bx9, px9, lx9, mx9, gx9, hx9, Gx9⟩, Nx9, hap9⟩ := ab9
      dsimp only [tkFoot, List.map] at hap9
      refine wpAny_call ?_
      k_dflt (refine' code_nest_foot Gx9 Nx9 ?k3 ?k4 ?k5 ?k6 ?k7 ?k8 ?k9 ?_ ?c1 ?c2 ?c3 ?c4; (case k3 => exact .head _); (case k4 => exact .tail _ (.head _)); (case k5 => assumption); (case k6 => assumption); (case k7 => k_room); (case k8 => exact BindsTo.of_eq rfl); (case k9 => exact locs rfl); (case c1 => exact rfl); (case c2 => exact rfl); (case c3 => exact rfl); (case c4 => decide))))
  trivial
set_option maxHeartbeats 8000000 in
theorem stream_walk {w : World} {dep un : Nat} {gs : Option (List Code)} {s : Shared} {outer : List Env} {oct : Array UInt8} {t : Tok} {E Q : Value → Shared → Prop}
    (hD : dep < 600) (hU : un < 4000)
    (a : On w (AA none dep outer gs un) outer s [(790, tabObj #[])])
    (ret : ∀ x h' tk', Kept s [(790, tabObj #[])] h' → StreamLeft w oct s h' x → Q (.ref x) { s with heap := h', toks := tk' }) :
    wpAny (model PR w) (AA none dep outer gs un) (call (.ref 795) [.bytes oct t]) Q E s := by
  obtain ⟨⟨base, p, loose, mean, mg, mb, G⟩, Nf, hap⟩ := a
  refine wpAny_call ?_
  k_dflt (refine' code_footC G Nf ?k3 ?k4 ?k5 ?k6 ?k7 ?k8 ?_ ?c1 ?c2 ?c3)
  case k3 => k_is
  case k4 => k_is
  case k5 => k_room
  case k6 => exact BindsTo.of_eq rfl
  case k7 => exact rfl
  case k8 => decide +kernel
  case c1 => exact rfl
  case c2 => exact rfl
  case c3 => exact rfl
  intro g L' h₁ tk cells hg F' N' Y' B' X' T' hlt
  (try dsimp only)
  k_fold
  have CH := codeHd_of_K (c := 794) (P := 790) X' (by kernel_rfl)
  have l1 := hlt
  k_lt l1
  k_cells Y'
  dsimp only [List.cons_append, List.nil_append] at N'
  k_extra "MY steps"
  rename Fr g L' _ _ => kF0
  rename News g L' _ _ => kN0
  have tall := take_pick (w := w) (oct := oct) kN0 (by
    clear kF0 kN0 ret
    repeat (rename Fr _ _ _ _ => zF; clear zF)
    repeat (rename News _ _ _ _ => zF; clear zF)
    repeat (rename Below _ _ _ _ => zF; clear zF)
    repeat (rename Top _ _ _ _ _ _ => zF; clear zF)
    repeat (rename Frag.In _ _ => zF; clear zF)
    repeat (rename Gd _ _ _ _ _ _ _ _ _ _ => zF; clear zF)
    intro dep un gs s outer hs ts tp t p n q E Q hp hq hz hn hD hU ab ret
    k_extra "MY note"
    intro g L' h₁ hg F' N' B' X' T' hlt
    dsimp only [tkFoot] at N'
    (try dsimp only)
    k_fold
    k_extra "MY steps"
    have hq2 : (if (oct.size : Int) < (p : Int) + (n : Int) then (oct.size : Int) else (p : Int) + (n : Int)) = (q : Int) := by subst hq; split <;> omega
    have hq3 : p ≤ q ∧ q ≤ oct.size := by omega
    show Q (.bytes _ _) _
    rename Fr g L' _ _ => kF
    rename News g L' _ _ => kN
    rw [hq2] at kN
    rw [hq2, picked_ext hq3.1 hq3.2]
    exact ret _ _ _ _ (fun b o e => kF.keep b o (hg ▸ e)) (fun q hq => (kN q hq).1))
  show Q (.ref _) _
  refine ret _ _ _ (fun b o e => kF0.keep b o (hg ▸ e)) (stream_left hg kN0 tall.2 ?_ ?_ ?_ ?_ ?_ ?_ ?_)
  · refine ⟨⟨?_, ?_, ?_, ?_, ?_, trivial⟩, ⟨?_, ?_, ?_, ?_, trivial⟩, ⟨?_, ?_, ?_, trivial⟩, ⟨?_, ?_, trivial⟩, ⟨?_, trivial⟩, trivial, trivial⟩ <;> (show @Ne Nat _ _; first | k_extra "MY nlt" | omega)
  all_goals (show @Ne Nat _ _; first | k_extra "MY nlt" | omega)

end
section
theorem lines_20 : True := by
  k_with_none
  k_with "execs cons" => (first | (k_fold; (try dsimp only); (try (with_reducible refine gen_toks ?_; intro tk9))) | (with_reducible refine gen_toks ?_; intro tk9))
  k_with "MY nth" => (k_dflt (first | exact @rfl _ (nthO _ 0) | exact @rfl _ (nthO _ 1) | exact @rfl _ (nthO _ 2) | exact @rfl _ (nthO _ 3) | exact @rfl _ (nthO _ 4) | exact @rfl _ (nthO _ 5) | exact @rfl _ (nthO _ 6) | exact @rfl _ (nthO _ 7) | exact @rfl _ (nthO _ 8) | exact @rfl _ (nthO _ 9) | exact @rfl _ (nthO _ 10) | exact @rfl _ (nthO _ 11) | exact @rfl _ (nthO _ 12) | exact @rfl _ (nthO _ 13) | exact @rfl _ (nthO _ 14) | exact @rfl _ (nthO _ 15) | exact @rfl _ (nthO _ 16) | exact @rfl _ (nthO _ 17) | exact @rfl _ (nthO _ 18) | exact @rfl _ (nthO _ 19) | exact @rfl _ (nthO _ 20) | exact @rfl _ (nthO _ 21) | exact @rfl _ (nthO _ 22) | exact @rfl _ (nthO _ 23) | exact @rfl _ (nthO _ 24) | exact @rfl _ (nthO _ 25)))
  k_with "MY nlt" => (first
      | exact NeN.ne (by with_reducible assumption)
      | exact Ne.symm (NeN.ne (by with_reducible assumption))
      | exact Nat.ne_of_gt (by with_reducible assumption)
      | exact Nat.ne_of_lt (by with_reducible assumption)
      | (refine' LtA.ne ?qh ?qe; (case qh => with_reducible assumption); (case qe => k_extra "MY nth"))
      | (refine' LtA.ne' ?qh ?qe; (case qh => with_reducible assumption); (case qe => k_extra "MY nth"))
      | (refine' LtA.neS ?qh ?qe; (case qh => with_reducible assumption); (case qe => k_extra "MY nth"))
      | (refine' LtA.neS' ?qh ?qe; (case qh => with_reducible assumption); (case qe => k_extra "MY nth"))
      | (refine' LtA.neT ?qh ?qe; (case qh => with_reducible assumption); (case qe => k_extra "MY nth"))
      | (refine' LtA.neT' ?qh ?qe; (case qh => with_reducible assumption); (case qe => k_extra "MY nth"))
      | (refine' OffA.ne ?qh ?qe; (case qh => with_reducible assumption); (case qe => k_extra "MY nth"))
      | (refine' OffA.ne' ?qh ?qe; (case qh => with_reducible assumption); (case qe => k_extra "MY nth"))
      | (refine' Apart.at ?qh ?qe ?qf ?qn; (case qh => with_reducible assumption); (case qe => k_extra "MY nth"); (case qf => k_extra "MY nth"); (case qn => exact rfl)))
  k_with "k_all" => ((k_dflt (refine' ltA_off ?qh ?qe; (case qh => with_reducible assumption); (case qe => first | exact @rfl _ (dropO 0 _) | exact @rfl _ (dropO 1 _) | exact @rfl _ (dropO 2 _) | exact @rfl _ (dropO 3 _) | exact @rfl _ (dropO 4 _) | exact @rfl _ (dropO 5 _) | exact @rfl _ (dropO 6 _) | exact @rfl _ (dropO 7 _) | exact @rfl _ (dropO 8 _) | exact @rfl _ (dropO 9 _) | exact @rfl _ (dropO 10 _) | exact @rfl _ (dropO 11 _)))))
  k_with "MY lts" => ((k_dflt (refine' ltA_lts ?qh ?qe; (case qh => with_reducible assumption); (case qe => first | exact @rfl _ (dropO 0 _) | exact @rfl _ (dropO 1 _) | exact @rfl _ (dropO 2 _) | exact @rfl _ (dropO 3 _) | exact @rfl _ (dropO 4 _) | exact @rfl _ (dropO 5 _) | exact @rfl _ (dropO 6 _) | exact @rfl _ (dropO 7 _) | exact @rfl _ (dropO 8 _) | exact @rfl _ (dropO 9 _) | exact @rfl _ (dropO 10 _) | exact @rfl _ (dropO 11 _)))))
  k_with "MY pick" => (first | (refine' LtA.lt ?qh ?qe; (case qh => with_reducible assumption); (case qe => k_extra "MY nth")) | (refine Nat.lt_succ_of_lt ?_; (refine' LtA.lt ?qh ?qe; (case qh => with_reducible assumption); (case qe => k_extra "MY nth"))) | (refine Nat.lt_succ_of_lt (Nat.lt_succ_of_lt ?_); (refine' LtA.lt ?qh ?qe; (case qh => with_reducible assumption); (case qe => k_extra "MY nth"))))
  k_with "MY lt" => (first
      | (refine' lt_le ?qh ?qe; (case qh => assumption); (case qe => exact rfl))
      | (refine' lt_p ?qh ?qe; (case qh => assumption); (case qe => exact rfl))
      | (refine' lt_pp ?qh ?qe; (case qh => assumption); (case qe => exact rfl))
      | (refine' lt_ppp ?qh ?qe; (case qh => assumption); (case qe => exact rfl))
      | (refine' le_le ?qh ?qe; (case qh => assumption); (case qe => exact rfl))
      | decide
      | ((try simp only [LtA] at *); omega))
  k_with "k_ne" => ((refine neN ?_; (try dsimp only); first | k_extra "MY nlt" | omega | ((try simp only [LtA, List.forall_mem_cons] at *); omega)))
  k_with "k_room" => (((try simp only [depth_under_make, depth_under_kw, depth_in1, depth_deeper, depth_caller]); (show _ < 1000); k_dflt (k_extra "MY lt")))
  k_with "MY enterB" => ((refine' code_foot ?k1 ?k2 ?k3 ?k4 ?k5 ?k6 ?k7 ?_ ?c1 ?c2 ?c3 ?c4; (case k1 => assumption); (case k2 => assumption); (case k3 => k_is); (case k4 => k_is); (case k5 => k_room); (case k6 => first | exact BindsTo.of_eq rfl | exact binds_K (by k_in) rfl (by k_is) rfl rfl rfl); (case k7 => exact locs rfl); (case c1 => exact rfl); (case c2 => exact rfl); (case c3 => exact rfl); (case c4 => decide)))
  k_with "MY enter" => ((refine' on_foot ?k1 ?k3 ?k4 ?k5 ?k6 ?k7 ?_ ?c1 ?c2 ?c3 ?c4; (case k1 => assumption); (case k3 => k_is); (case k4 => k_is); (case k5 => k_room); (case k6 => first | exact BindsTo.of_eq rfl | exact binds_K (by k_in) rfl (by k_is) rfl rfl rfl); (case k7 => exact locs rfl); (case c1 => exact rfl); (case c2 => exact rfl); (case c3 => exact rfl); (case c4 => decide); intro bx9 px9 lx9 mx9 gx9 hx9))
  k_with "setAttr ref" => ((k_here; first | ((with_reducible refine' lex_set_state ?k1 ?k2 ?k3 ?k4 ?U ?_); k_dflt ((case k1 => k_asm); (case k2 => k_asm); (case k3 => k_asm); (case k4 => k_mem); (case U => k_upd)); k_whole; intro h' F' N'; (try k_sweep)) | ((with_reducible refine' lex_set_token ?k1 ?k2 ?k3 ?k4 ?U ?_); k_dflt ((case k1 => k_asm); (case k2 => k_asm); (case k3 => k_asm); (case k4 => k_mem); (case U => k_upd)); k_whole; intro h' F' N'; (try k_sweep)) | ((with_reducible refine' lex_set_lineno ?k1 ?k2 ?k3 ?k4 ?U ?_); k_dflt ((case k1 => k_asm); (case k2 => k_asm); (case k3 => k_asm); (case k4 => k_mem); (case U => k_upd)); k_whole; intro h' F' N'; (try k_sweep)) | ((with_reducible refine' lex_set_infile ?k1 ?k2 ?k3 ?k4 ?U ?_); k_dflt ((case k1 => k_asm); (case k2 => k_asm); (case k3 => k_asm); (case k4 => k_mem); (case U => k_upd)); k_whole; intro h' F' N'; (try k_sweep)) | ((with_reducible refine' lex_set_instream ?k1 ?k2 ?k3 ?k4 ?U ?_); k_dflt ((case k1 => k_asm); (case k2 => k_asm); (case k3 => k_asm); (case k4 => k_mem); (case U => k_upd)); k_whole; intro h' F' N'; (try k_sweep))))
  k_with "eval Attribute Name" => ((k_here; k_dflt (refine' self_own ?F ?X ?N ?hv ?h1 ?h2 ?hK ?hl ?hh ?_; (case F => k_asm); (case hv => exact rfl); (case X => k_asm); (case N => k_asm); (case h1 => k_mem); (case hK => first | (with_reducible exact own732_state _) | (with_reducible exact own732_debug _) | (with_reducible exact own732_whitespace _) | (with_reducible exact own732_posix _) | (with_reducible exact own732_token _) | (with_reducible exact own732_quotes _) | (with_reducible exact own732_escape _) | (with_reducible exact own732_wordchars _) | (with_reducible exact own732_commenters _) | (with_reducible exact own732_instream _) | (with_reducible exact own732_lineno _) | (with_reducible exact own732__punctuation_chars _) | (with_reducible exact own732_infile _) | (with_reducible exact own732_eof _) | (with_reducible exact own732_escapedquotes _) | (with_reducible exact own732_whitespace_split _) | (with_reducible exact own732_pushback _) | (with_reducible exact own732_filestack _) | (with_reducible exact own732_source _) | (with_reducible exact own597_buf _) | (with_reducible exact own597_pos _) | (with_reducible exact own597_newline _)); (case h2 => k_mem); (case hl => k_get); (case hh => k_handed); k_whole)))
  k_with "ite" => (first | with_reducible (refine iteT ?_) | with_reducible (refine iteF ?_))
  k_with "CompEnd" => (refine stopMark ?_)
  k_with "eval Name" => ((k_here; (with_reducible show wpAny _ _ (eval (Expr.Name _ _) (compEnvC _ _ _ _)) _ _ _); k_dflt (first
      | refine LCgL.ld_own (by k_asm) (by k_mem) (by assumption) (by assumption) ?_
      | refine LCgL.ld_global (by k_asm) (by k_asm) (by k_asm) (by k_is) ?_
      | refine LCgL.ld_built (by k_asm) (by k_asm) (by k_asm) (by k_is) (by boot_by_name) (by decide) ?_)))
  k_with "eval Name" => ((k_here; (fail_if_success (with_reducible show wpAny _ _ (eval (Expr.Name _ _) (compEnvC _ _ _ _)) _ _ _)); k_dflt (refine' nameX_L ?F ?hv ?_; (case F => k_asm); (case hv => exact rfl); k_whole)))
  k_with "callWith ref" => ((k_here; k_dflt (refine' callWith_K ?k1 ?k2 ?_; (case k1 => k_asm); (case k2 => k_is); k_whole)))
  k_with "exec While" => (refine stopMark ?_)
  k_with "Exists" => (refine stopMark ?_)
  k_with "exec If" => (refine wpAny_If ?_)
  k_with "compareOp In str str" => (first | refine in_yes (by first | assumption | decide +kernel) ?_ | refine in_no (by first | assumption | decide +kernel) ?_)
  k_with "compareOp Eq str str" => (first | refine eq_yes (by first | assumption | rfl) ?_ | refine eq_no (by first | assumption | decide +kernel) ?_ | refine stopMark ?_)
  k_with "truthy str" => (first | refine truthy_sgn ?_ | refine truthy_yes (by assumption) (by first | assumption | omega) ?_ | refine truthy_no (by assumption) ?_)
  k_with "MY steps" => (repeat' (first | (k_unfold; (try dsimp only)) | (k_end; wrow_close) | walk1 | (dsimp only; walk1) | (leave1; try dsimp only) | fail "no step"))
  k_with "MY fin" => (repeat (first | dsimp only | (k_unfold; (try dsimp only))))
  k_with "MY open" => ((
      rename On _ _ _ _ _ => aOn9
      have Gk9 := aOn9.k
      have hap9 := aOn9.apart
      dsimp only [List.map] at hap9
      refine wpAny_call ?_
      k_dflt (k_extra "MY enter")))
  k_with "MY ret" => ((
      rename _ = hideAll _ _ => hgX
      rename Fr _ _ _ _ => kF
      rename News _ _ _ _ => kN
      rename (∀ _ _ _, Kept _ _ _ → _) => retX
      refine' retX _ _ _ (fun b o e => kF.keep b o (hgX ▸ e)) ?_
      (first | exact (fun q hq => (kN q hq).1) | exact ⟨_, fun q hq => (kN q hq).1⟩)))
  k_with "getMethod ref" => ((k_here; (with_reducible show wpAny _ _ (getMethod (Value.ref _) (PySem.Str.ofString "read") _) _ _ _); k_dflt (refine' kmu_own ?k1 ?k2 ?k3 ?k4 ?k5 ?_; (case k1 => k_asm); (case k2 => k_asm); (case k3 => k_inst); (case k4 => k_is); (case k5 => k_is); k_whole)))
  trivial
section
variable {w : World} {A₀ A : Around} {s : Shared} {base h₀ : Heap} {outer : List Env} {env : Env} {L : Addr} {m : PySem.Str → Option Value} {news : List (Addr × Obj)} {nw : Tok → List En} {p0 : Program} {loose : List PySem.Str} {mean : ExcName → Option Value} {mg mb : PySem.Str → Option Value}
  {dep un : Nat} {gs : Option (List Code)} {E Q : Value → Shared → Prop} {f c' x d cl cb : Addr} {fo oc ol ob : Obj} {oct bs : Array UInt8} {hs : Nat → Int} {ts : Nat → Tok} {tp t : Tok} {p n q : Nat} {pi ni qi : Int}
theorem take_use (k : TakeSpec w f c' x d cl cb fo oc ol ob oct) (hp : p ≤ oct.size) (hq : q = min (p + n) oct.size) (hbs : oct.extract p q = bs) (hz : oct.size ≤ 100000) (hn : n ≤ 100000)
    (hm : ∀ q' ∈ tkFoot f c' x d cl cb fo oc ol ob hs ts pi tp, q' ∈ news) (hap : Apart [f, c', x, d, cl, cb]) (U : ∀ tp', Upd d (dictOf (exD hs ts pi tp f) 2) (dictOf (exD hs ts qi tp' f) 2) news (nw tp'))
    (hpi : pi = (p : Int)) (hqi : qi = (q : Int)) (hni : ni = (n : Int))
    (B : Below A₀ base outer h₀) (F : Fr h₀ L s.heap m) (X : (hd.heap_39 w.params).In h₀) (N : News h₀ L s.heap news) (T' : Top p0 loose mean mg mb h₀) (hfr : env.frame = some L) (hke : env.scope.kind = .function)
    (hD : dep < 620) (hU : un < 4200)
    (h : ∀ h' tk' t' tp', Fr h₀ L h' m → News h₀ L h' (nw tp') → Q (.bytes bs t') { s with heap := h', toks := tk' }) :
    wpAny (model PR w) (AA none dep (env :: outer) gs un) (call (.ref f) [.int ni t]) Q E s := by
  subst hpi hqi hni hbs
  refine k hp hq hz hn hD hU (On.of B F X N T' rfl hfr hke hm hap) fun h' tk' t' tp' hk hst => ?_
  refine h h' tk' t' tp' (back_fr F N hm hk) (back_upd F N hm hk (U tp') (hst _ (.tail _ (.tail _ (.tail _ (.head _))))) fun q' hq' hne => ?_)
  simp only [tkFoot, List.mem_cons, List.not_mem_nil, or_false] at hq'
  rcases hq' with rfl | rfl | rfl | rfl | rfl | rfl
  · exact hst _ (.head _)
  · exact hst _ (.tail _ (.head _))
  · exact hst _ (.tail _ (.tail _ (.head _)))
  · exact absurd rfl hne
  · exact hst _ (.tail _ (.tail _ (.tail _ (.tail _ (.head _)))))
  · exact hst _ (.tail _ (.tail _ (.tail _ (.tail _ (.tail _ (.head _))))))
end
theorem lines_21 : True := by
  k_with "k_all" => (with_reducible assumption)
  k_with "call ref" => (((with_reducible show wpAny _ _ (call (Value.ref _) [Value.int _ _]) _ _ _); refine stopMark ?_))
  k_with "callWith ref" => ((k_here; k_dflt (refine' callWith_F ?k1 ?_; (case k1 => exact FnAt.of (by k_asm) (by k_mem)); k_whole)))
  k_with "And" => (((with_reducible show FnAt _ _ ∧ _); refine ⟨FnAt.of (by k_asm) (by k_mem), ?_⟩; (try dsimp only [List.nil_append, List.cons_append])))
  trivial
section
variable {prog : Program} {w : World} {A : Around} {s : Shared} {E : Value → Shared → Prop} {c : UInt8} {t : Tok}
theorem truthy_b1 {Q : Bool → Shared → Prop} (h : ∀ k, Q true { s with toks := k }) : wpAny (model prog w) A (truthy (.bytes #[c] t)) Q E s :=
  KBw.truthy_K (ks := [(c.toNat : Int)]) rfl (by show 1 ≤ 1099511627776; decide) (h _)
theorem item_b1 {value slice : PySem.Expr} {ui : Tok} {Q : Value → Shared → Prop} (h : ∀ t' k, Q (.int (c.toNat : Int) t') { s with toks := k })
    (hs : subscripted slice false (.bytes #[c] t) (.int 0 ui) = operate [.bytes #[c] t, .int 0 ui] (getItem (.bytes #[c] t) (.int 0 ui)) := by with_unfolding_all rfl)
    (ht : ∀ r, letTemporaryGo value (.bytes #[c] t) r = pure () := by intro _; with_unfolding_all rfl) : wpAny (model prog w) A (subscriptTail value slice (.bytes #[c] t) (.int 0 ui)) Q E s :=
  KBw.item_K (ks := [(c.toNat : Int)]) rfl (by show 1 ≤ 1099511627776; decide) (Int.le_refl 0) (by show (0 : Int) < 1; decide) (fun t' k _ _ => h t' k) hs ht
end
theorem lines_22 : True := by
  k_with "truthy bytes" => ((k_here; refine truthy_b1 (fun _ => ?_)))
  k_with "subscriptTail" => ((k_here; (with_reducible show wpAny _ _ (subscriptTail _ _ (Value.bytes _ _) (Value.int _ _)) _ _ _); refine item_b1 (fun _ _ => ?_)))
  trivial
set_option maxHeartbeats 8000000 in
theorem ru_walk {w : World} {dep un : Nat} {gs : Option (List Code)} {s : Shared} {outer : List Env} {E Q : Value → Shared → Prop} {f c' x d cl cb : Addr} {fd : FuncData} {oc ol ob : Obj} {oct : Array UInt8} {hs : Nat → Int} {ts : Nat → Tok} {tp : Tok} {p : Nat} {b : UInt8}
    (k : TakeSpec w f c' x d cl cb { cls := .type "function", data := .func fd } oc ol ob oct) (hb : oct[p]? = some b) (hz : oct.size ≤ 100000) (hD : dep < 600) (hU : un < 4000)
    (a : On w (AA none dep outer gs un) outer s (tkFoot f c' x d cl cb { cls := .type "function", data := .func fd } oc ol ob hs ts (p : Int) tp))
    (ret : ∀ h' tk' t' tp', Kept s (tkFoot f c' x d cl cb { cls := .type "function", data := .func fd } oc ol ob hs ts (p : Int) tp) h' → (∀ q' ∈ tkFoot f c' x d cl cb { cls := .type "function", data := .func fd } oc ol ob hs ts ((p + 1 : Nat) : Int) tp', h'.get? q'.1 = some q'.2) → Q (.int (b.toNat : Int) t') { s with heap := h', toks := tk' }) :
    wpAny (model PR w) (AA none dep outer gs un) (call (.ref 760) [.ref x]) Q E s := by
  have hp : p < oct.size := (Array.getElem?_eq_some_iff.mp hb).1
  have hbs : oct.extract p (p + 1) = #[b] := by
    apply Array.toList_inj.mp
    have h1 : oct.toList[p]? = some b := by simpa using hb
    obtain ⟨h2, h3⟩ := List.getElem?_eq_some_iff.mp h1
    simp only [Array.toList_extract, List.extract_eq_drop_take, Nat.add_sub_cancel_left]
    rw [List.drop_eq_getElem_cons h2, h3]
    simp
  have hap6 : Apart [f, c', x, d, cl, cb] := a.apart
  k_extra "MY open"
  intro g L' h₁ hg F' N' B' X' T' hlt
  (try dsimp only)
  k_fold
  k_extra "MY steps"
  refine stopGo ?_
  k_dflt (refine' take_use (p := p) (n := 1) (q := p + 1) k (Nat.le_of_lt hp) (by omega) hbs hz (by decide) ?hm hap6 ?U rfl rfl rfl ?k1 ?k2 ?k3 ?k4 ?k5 ?k6 ?k7 ?kF ?kG ?_)
  case k4 => k_asm
  case U => (intro _; k_upd)
  case k1 => k_asm
  case k2 => k_asm
  case k3 => k_asm
  case k5 => k_asm
  case k6 => exact rfl
  case k7 => exact rfl
  case kF => dsimp only [AA, Around.deeper]; k_extra "MY lt"
  case kG => dsimp only [AA, Around.deeper]; k_extra "MY lt"
  case hm => (repeat (first | exact List.forall_mem_nil _ | (refine' List.forall_mem_cons.mpr ⟨?qa, ?_⟩; (case qa => k_mem))))
  intro h2 tk2 t2 tp2 F2 N2
  k_extra "MY steps"
  rename Fr g L' _ _ => kF
  rename News g L' _ _ => kN
  exact ret _ _ _ _ (fun b o e => kF.keep b o (hg ▸ e)) (fun q hq => (kN q hq).1)
section
variable {w : World} {A₀ A : Around} {s : Shared} {base h₀ : Heap} {outer : List Env} {env : Env} {L : Addr} {m : PySem.Str → Option Value} {news : List (Addr × Obj)} {nw : Tok → List En} {p0 : Program} {loose : List PySem.Str} {mean : ExcName → Option Value} {mg mb : PySem.Str → Option Value}
  {dep un : Nat} {gs : Option (List Code)} {E Q : Value → Shared → Prop} {f c' x d cl cb : Addr} {fd : FuncData} {oc ol ob : Obj} {oct : Array UInt8} {hs : Nat → Int} {ts : Nat → Tok} {tp t : Tok} {p : Nat} {b : UInt8}
theorem ru_use (k : TakeSpec w f c' x d cl cb { cls := .type "function", data := .func fd } oc ol ob oct) (hb : oct[p]? = some b) (hz : oct.size ≤ 100000)
    (hm : ∀ q' ∈ tkFoot f c' x d cl cb { cls := .type "function", data := .func fd } oc ol ob hs ts (p : Int) tp, q' ∈ news) (hap : Apart [f, c', x, d, cl, cb]) (U : ∀ tp', Upd d (dictOf (exD hs ts (p : Int) tp f) 2) (dictOf (exD hs ts ((p + 1 : Nat) : Int) tp' f) 2) news (nw tp'))
    (B : Below A₀ base outer h₀) (F : Fr h₀ L s.heap m) (X : (hd.heap_39 w.params).In h₀) (N : News h₀ L s.heap news) (T' : Top p0 loose mean mg mb h₀) (hfr : env.frame = some L) (hke : env.scope.kind = .function)
    (hD : dep < 600) (hU : un < 4000)
    (h : ∀ h' tk' t' tp', Fr h₀ L h' m → News h₀ L h' (nw tp') → Q (.int (b.toNat : Int) t') { s with heap := h', toks := tk' }) :
    wpAny (model PR w) (AA none dep (env :: outer) gs un) (call (.ref 760) [.ref x]) Q E s := by
  refine ru_walk k hb hz hD hU (On.of B F X N T' rfl hfr hke hm hap) fun h' tk' t' tp' hk hst => ?_
  refine h h' tk' t' tp' (back_fr F N hm hk) (back_upd F N hm hk (U tp') (hst _ (.tail _ (.tail _ (.tail _ (.head _))))) fun q' hq' hne => ?_)
  simp only [tkFoot, List.mem_cons, List.not_mem_nil, or_false] at hq'
  rcases hq' with rfl | rfl | rfl | rfl | rfl | rfl
  · exact hst _ (.head _)
  · exact hst _ (.tail _ (.head _))
  · exact hst _ (.tail _ (.tail _ (.head _)))
  · exact absurd rfl hne
  · exact hst _ (.tail _ (.tail _ (.tail _ (.tail _ (.head _)))))
  · exact hst _ (.tail _ (.tail _ (.tail _ (.tail _ (.tail _ (.head _))))))
end

end
section
open Builtin in
theorem road_latin {id : String} {b : Array UInt8} : _codecs.decodeRoad id b (PySem.Str.ofString "latin-1") none [] = (_codecs.runDecoder id _codecs.latin1Decoder none true b 0 [] >>= fun r => mkStr ⟨r.1⟩) := by kernel_rfl
open Builtin in
theorem entry_latin {c : UInt8} {cs : List UInt8} {t t1 : Tok} : «bytes.decode» ⟨[.bytes (c :: cs).toArray t, .str (PySem.Str.ofString "latin-1") t1], []⟩ = (mkStr (PySem.Str.ofString "utf-8") >>= fun _ => mkStr (PySem.Str.ofString "latin-1") >>= fun e => mkStr (PySem.Str.ofString "bytes.decode") >>= fun d =>
    call (.builtin "_codecs.decode.text") [.bytes (c :: cs).toArray t, e, .none, d] >>= fun v => ret v) := by kernel_rfl
theorem forIn_take {β : Type} {b : Array UInt8} {st0 : β} (F : Nat → Nat × Array Nat × β → Sem (ForInStep (Nat × Array Nat × β)))
    (hF : ∀ x j out, j < b.size → out.size = j → F x (j, out, st0) = pure (.yield (j + 1, out ++ [(b.getD j 0).toNat].toArray, st0))) :
    ∀ (k a j : Nat) (out : Array Nat), j + k = b.size → out.size = j → (forIn (List.range' a k) (j, out, st0) F : Sem (Nat × Array Nat × β)) = pure (b.size, out ++ ((b.toList.drop j).map (·.toNat)).toArray, st0) := by
  intro k
  induction k with
  | zero =>
    intro a j out hj ho
    have e : j = b.size := by (first | lia | omega)
    subst e
    rw [List.range'_zero, List.forIn_nil, List.drop_of_length_le (by simp)]
    simp
  | succ k ih =>
    intro a j out hj ho
    have hlt : j < b.size := by (first | lia | omega)
    rw [List.range'_succ, List.forIn_cons, hF a j out hlt ho]
    show (forIn (List.range' (a + 1) k) (j + 1, out ++ [(b.getD j 0).toNat].toArray, st0) F : Sem _) = _
    rw [ih (a + 1) (j + 1) _ (by (first | lia | omega)) (by simp [ho])]
    have hd : b.toList.drop j = b.getD j 0 :: b.toList.drop (j + 1) := by
      rw [List.drop_eq_getElem_cons (by simpa using hlt)]
      congr 1
      simp [Array.getD, hlt]
    rw [hd]
    simp
open Builtin in
theorem run_latin {id : String} {b : Array UInt8} (hz : b.size ≤ 100000) : _codecs.runDecoder id _codecs.latin1Decoder none true b 0 [] = pure (b.map (·.toNat), b.size) := by
  unfold _codecs.runDecoder
  simp only [Std.Legacy.Range.forIn_eq_forIn_range', Std.Legacy.Range.size]
  rw [show (b.size - 0 + 1 - 1) / 1 = b.size by simp]
  rw [forIn_take (b := b) (st0 := ({} : _codecs.Faults)) _ ?_ b.size 0 0 #[] (by (first | lia | omega)) rfl]
  · show (pure _ : Sem _) = _
    congr 1
    simp only [List.drop_zero, Array.empty_append, List.nil_append]
    refine Prod.ext ?_ rfl
    refine Array.toList_inj.mp ?_
    simp
  · intro x j out hj ho
    have h1 : ¬ out.size > sizeLine := by rw [sizeLine_eq]; (first | lia | omega)
    have h2 : ¬ j ≥ b.size := by (first | lia | omega)
    simp only [h1, if_false, h2]
    rfl
open Builtin in
theorem meets_text_latin {b : Array UInt8} {t t1 t2 : Tok} {d : PySem.Str} (hz : b.size ≤ 100000) :
    Meets («_codecs.decode.text» ⟨[.bytes b t, .str (PySem.Str.ofString "latin-1") t1, .none, .str d t2], []⟩) (fun _ R s => R (.ok (.ret (.str ⟨b.map (·.toNat)⟩ s.toks))) { s with toks := s.toks + 1 }) := by
  refine .of_wp fun prog w A R s h => ?_
  show wpAny _ _ (Bytes.bytesLike _ (.bytes b t) >>= fun r => _) _ _ s
  refine wpAny_bind (wpAny_of_eq KBd.like_eq ?_)
  refine wpAny_bind (wpAny_of_eq KBd.held_eq ?_)
  show wpAny _ _ (_codecs.decodeRoad _ b (PySem.Str.ofString "latin-1") none [] >>= fun v => _) _ _ s
  rw [road_latin, run_latin hz]
  refine wpAny_bind (wpAny_bind (wpAny_pure ?_))
  exact wpAny_mkStr (wpAny_pure ⟨_, rfl, h⟩) (by show (b.map _).size ≤ sizeLine; rw [Array.size_map, sizeLine_eq]; (first | lia | omega))
open Builtin in
theorem meets_latin {c : UInt8} {cs : List UInt8} {t t1 : Tok} (hz : (c :: cs).length ≤ 100000) :
    Meets («bytes.decode» ⟨[.bytes (c :: cs).toArray t, .str (PySem.Str.ofString "latin-1") t1], []⟩) (fun _ R s => ∀ t' k, R (.ok (.ret (.str ⟨(c :: cs).toArray.map (·.toNat)⟩ t'))) { s with toks := k }) := by
  refine .of_wp fun prog w A R s h => ?_
  rw [entry_latin]
  refine wpAny_bind (wpAny_mkStr ?_ (by decide))
  refine wpAny_bind (wpAny_mkStr ?_ (by decide))
  refine wpAny_bind (wpAny_mkStr ?_ (by decide))
  exact wpAny_bind (call_function_meets KBd.kind_text KBd.plain_text KBd.entry_text (KBd.args_text _ _ _ _) (meets_text_latin hz) (wpAny_pure ⟨_, rfl, h _ _⟩))
theorem args_decode2 (a b : Value) : argsOk "bytes.decode" ⟨[a, b], []⟩ := by unfold argsOk; kernel_rfl
theorem decode_latin {prog : Program} {w : World} {A : Around} {E Q : Value → Shared → Prop} {s : Shared} {bs : Array UInt8} {t t1 : Tok} (hne : 0 < bs.size) (hz : bs.size ≤ 100000) (h : ∀ t' k, Q (.str ⟨bs.map (·.toNat)⟩ t') { s with toks := k }) :
    wpAny (model prog w) A (call (.builtin "bytes.decode") [.bytes bs t, .str (PySem.Str.ofString "latin-1") t1]) Q E s := by
  obtain ⟨l⟩ := bs
  cases l with
  | nil => exact absurd hne (Nat.lt_irrefl 0)
  | cons c cs => exact call_meets FB.slot_bytes_decode (typeIs_bytes _ _ _) FB.entry_bytes_decode (args_decode2 _ _) (meets_latin hz) h

end
section
theorem lines_23 : True := by
  k_with_none
  k_with "execs cons" => (first | (k_fold; (try dsimp only); (try (with_reducible refine gen_toks ?_; intro tk9))) | (with_reducible refine gen_toks ?_; intro tk9))
  k_with "MY nth" => (k_dflt (first | exact @rfl _ (nthO _ 0) | exact @rfl _ (nthO _ 1) | exact @rfl _ (nthO _ 2) | exact @rfl _ (nthO _ 3) | exact @rfl _ (nthO _ 4) | exact @rfl _ (nthO _ 5) | exact @rfl _ (nthO _ 6) | exact @rfl _ (nthO _ 7) | exact @rfl _ (nthO _ 8) | exact @rfl _ (nthO _ 9) | exact @rfl _ (nthO _ 10) | exact @rfl _ (nthO _ 11) | exact @rfl _ (nthO _ 12) | exact @rfl _ (nthO _ 13) | exact @rfl _ (nthO _ 14) | exact @rfl _ (nthO _ 15) | exact @rfl _ (nthO _ 16) | exact @rfl _ (nthO _ 17) | exact @rfl _ (nthO _ 18) | exact @rfl _ (nthO _ 19) | exact @rfl _ (nthO _ 20) | exact @rfl _ (nthO _ 21) | exact @rfl _ (nthO _ 22) | exact @rfl _ (nthO _ 23) | exact @rfl _ (nthO _ 24) | exact @rfl _ (nthO _ 25)))
  k_with "MY nlt" => (first
      | exact NeN.ne (by with_reducible assumption)
      | exact Ne.symm (NeN.ne (by with_reducible assumption))
      | exact Nat.ne_of_gt (by with_reducible assumption)
      | exact Nat.ne_of_lt (by with_reducible assumption)
      | (refine' LtA.ne ?qh ?qe; (case qh => with_reducible assumption); (case qe => k_extra "MY nth"))
      | (refine' LtA.ne' ?qh ?qe; (case qh => with_reducible assumption); (case qe => k_extra "MY nth"))
      | (refine' LtA.neS ?qh ?qe; (case qh => with_reducible assumption); (case qe => k_extra "MY nth"))
      | (refine' LtA.neS' ?qh ?qe; (case qh => with_reducible assumption); (case qe => k_extra "MY nth"))
      | (refine' LtA.neT ?qh ?qe; (case qh => with_reducible assumption); (case qe => k_extra "MY nth"))
      | (refine' LtA.neT' ?qh ?qe; (case qh => with_reducible assumption); (case qe => k_extra "MY nth"))
      | (refine' OffA.ne ?qh ?qe; (case qh => with_reducible assumption); (case qe => k_extra "MY nth"))
      | (refine' OffA.ne' ?qh ?qe; (case qh => with_reducible assumption); (case qe => k_extra "MY nth"))
      | (refine' Apart.at ?qh ?qe ?qf ?qn; (case qh => with_reducible assumption); (case qe => k_extra "MY nth"); (case qf => k_extra "MY nth"); (case qn => exact rfl)))
  k_with "k_all" => ((k_dflt (refine' ltA_off ?qh ?qe; (case qh => with_reducible assumption); (case qe => first | exact @rfl _ (dropO 0 _) | exact @rfl _ (dropO 1 _) | exact @rfl _ (dropO 2 _) | exact @rfl _ (dropO 3 _) | exact @rfl _ (dropO 4 _) | exact @rfl _ (dropO 5 _) | exact @rfl _ (dropO 6 _) | exact @rfl _ (dropO 7 _) | exact @rfl _ (dropO 8 _) | exact @rfl _ (dropO 9 _) | exact @rfl _ (dropO 10 _) | exact @rfl _ (dropO 11 _)))))
  k_with "MY lts" => ((k_dflt (refine' ltA_lts ?qh ?qe; (case qh => with_reducible assumption); (case qe => first | exact @rfl _ (dropO 0 _) | exact @rfl _ (dropO 1 _) | exact @rfl _ (dropO 2 _) | exact @rfl _ (dropO 3 _) | exact @rfl _ (dropO 4 _) | exact @rfl _ (dropO 5 _) | exact @rfl _ (dropO 6 _) | exact @rfl _ (dropO 7 _) | exact @rfl _ (dropO 8 _) | exact @rfl _ (dropO 9 _) | exact @rfl _ (dropO 10 _) | exact @rfl _ (dropO 11 _)))))
  k_with "MY pick" => (first | (refine' LtA.lt ?qh ?qe; (case qh => with_reducible assumption); (case qe => k_extra "MY nth")) | (refine Nat.lt_succ_of_lt ?_; (refine' LtA.lt ?qh ?qe; (case qh => with_reducible assumption); (case qe => k_extra "MY nth"))) | (refine Nat.lt_succ_of_lt (Nat.lt_succ_of_lt ?_); (refine' LtA.lt ?qh ?qe; (case qh => with_reducible assumption); (case qe => k_extra "MY nth"))))
  k_with "MY lt" => (first
      | (refine' lt_le ?qh ?qe; (case qh => assumption); (case qe => exact rfl))
      | (refine' lt_p ?qh ?qe; (case qh => assumption); (case qe => exact rfl))
      | (refine' lt_pp ?qh ?qe; (case qh => assumption); (case qe => exact rfl))
      | (refine' lt_ppp ?qh ?qe; (case qh => assumption); (case qe => exact rfl))
      | (refine' le_le ?qh ?qe; (case qh => assumption); (case qe => exact rfl))
      | decide
      | ((try simp only [LtA] at *); omega))
  k_with "k_ne" => ((refine neN ?_; (try dsimp only); first | k_extra "MY nlt" | omega | ((try simp only [LtA, List.forall_mem_cons] at *); omega)))
  k_with "k_room" => (((try simp only [depth_under_make, depth_under_kw, depth_in1, depth_deeper, depth_caller]); (show _ < 1000); k_dflt (k_extra "MY lt")))
  k_with "MY enterB" => ((refine' code_foot ?k1 ?k2 ?k3 ?k4 ?k5 ?k6 ?k7 ?_ ?c1 ?c2 ?c3 ?c4; (case k1 => assumption); (case k2 => assumption); (case k3 => k_is); (case k4 => k_is); (case k5 => k_room); (case k6 => first | exact BindsTo.of_eq rfl | exact binds_K (by k_in) rfl (by k_is) rfl rfl rfl); (case k7 => exact locs rfl); (case c1 => exact rfl); (case c2 => exact rfl); (case c3 => exact rfl); (case c4 => decide)))
  k_with "MY enter" => ((refine' on_foot ?k1 ?k3 ?k4 ?k5 ?k6 ?k7 ?_ ?c1 ?c2 ?c3 ?c4; (case k1 => assumption); (case k3 => k_is); (case k4 => k_is); (case k5 => k_room); (case k6 => first | exact BindsTo.of_eq rfl | exact binds_K (by k_in) rfl (by k_is) rfl rfl rfl); (case k7 => exact locs rfl); (case c1 => exact rfl); (case c2 => exact rfl); (case c3 => exact rfl); (case c4 => decide); intro bx9 px9 lx9 mx9 gx9 hx9))
  k_with "setAttr ref" => ((k_here; first | ((with_reducible refine' lex_set_state ?k1 ?k2 ?k3 ?k4 ?U ?_); k_dflt ((case k1 => k_asm); (case k2 => k_asm); (case k3 => k_asm); (case k4 => k_mem); (case U => k_upd)); k_whole; intro h' F' N'; (try k_sweep)) | ((with_reducible refine' lex_set_token ?k1 ?k2 ?k3 ?k4 ?U ?_); k_dflt ((case k1 => k_asm); (case k2 => k_asm); (case k3 => k_asm); (case k4 => k_mem); (case U => k_upd)); k_whole; intro h' F' N'; (try k_sweep)) | ((with_reducible refine' lex_set_lineno ?k1 ?k2 ?k3 ?k4 ?U ?_); k_dflt ((case k1 => k_asm); (case k2 => k_asm); (case k3 => k_asm); (case k4 => k_mem); (case U => k_upd)); k_whole; intro h' F' N'; (try k_sweep)) | ((with_reducible refine' lex_set_infile ?k1 ?k2 ?k3 ?k4 ?U ?_); k_dflt ((case k1 => k_asm); (case k2 => k_asm); (case k3 => k_asm); (case k4 => k_mem); (case U => k_upd)); k_whole; intro h' F' N'; (try k_sweep)) | ((with_reducible refine' lex_set_instream ?k1 ?k2 ?k3 ?k4 ?U ?_); k_dflt ((case k1 => k_asm); (case k2 => k_asm); (case k3 => k_asm); (case k4 => k_mem); (case U => k_upd)); k_whole; intro h' F' N'; (try k_sweep))))
  k_with "eval Attribute Name" => ((k_here; k_dflt (refine' self_own ?F ?X ?N ?hv ?h1 ?h2 ?hK ?hl ?hh ?_; (case F => k_asm); (case hv => exact rfl); (case X => k_asm); (case N => k_asm); (case h1 => k_mem); (case hK => first | (with_reducible exact own732_state _) | (with_reducible exact own732_debug _) | (with_reducible exact own732_whitespace _) | (with_reducible exact own732_posix _) | (with_reducible exact own732_token _) | (with_reducible exact own732_quotes _) | (with_reducible exact own732_escape _) | (with_reducible exact own732_wordchars _) | (with_reducible exact own732_commenters _) | (with_reducible exact own732_instream _) | (with_reducible exact own732_lineno _) | (with_reducible exact own732__punctuation_chars _) | (with_reducible exact own732_infile _) | (with_reducible exact own732_eof _) | (with_reducible exact own732_escapedquotes _) | (with_reducible exact own732_whitespace_split _) | (with_reducible exact own732_pushback _) | (with_reducible exact own732_filestack _) | (with_reducible exact own732_source _) | (with_reducible exact own597_buf _) | (with_reducible exact own597_pos _) | (with_reducible exact own597_newline _)); (case h2 => k_mem); (case hl => k_get); (case hh => k_handed); k_whole)))
  k_with "ite" => (first | with_reducible (refine iteT ?_) | with_reducible (refine iteF ?_))
  k_with "CompEnd" => (refine stopMark ?_)
  k_with "eval Name" => ((k_here; (with_reducible show wpAny _ _ (eval (Expr.Name _ _) (compEnvC _ _ _ _)) _ _ _); k_dflt (first
      | refine LCgL.ld_own (by k_asm) (by k_mem) (by assumption) (by assumption) ?_
      | refine LCgL.ld_global (by k_asm) (by k_asm) (by k_asm) (by k_is) ?_
      | refine LCgL.ld_built (by k_asm) (by k_asm) (by k_asm) (by k_is) (by boot_by_name) (by decide) ?_)))
  k_with "eval Name" => ((k_here; (fail_if_success (with_reducible show wpAny _ _ (eval (Expr.Name _ _) (compEnvC _ _ _ _)) _ _ _)); k_dflt (refine' nameX_L ?F ?hv ?_; (case F => k_asm); (case hv => exact rfl); k_whole)))
  k_with "callWith ref" => ((k_here; k_dflt (refine' callWith_K ?k1 ?k2 ?_; (case k1 => k_asm); (case k2 => k_is); k_whole)))
  k_with "exec While" => (refine stopMark ?_)
  k_with "Exists" => (refine stopMark ?_)
  k_with "exec If" => (refine wpAny_If ?_)
  k_with "compareOp In str str" => (first | refine in_yes (by first | assumption | decide +kernel) ?_ | refine in_no (by first | assumption | decide +kernel) ?_)
  k_with "compareOp Eq str str" => (first | refine eq_yes (by first | assumption | rfl) ?_ | refine eq_no (by first | assumption | decide +kernel) ?_ | refine stopMark ?_)
  k_with "truthy str" => (first | refine truthy_sgn ?_ | refine truthy_yes (by assumption) (by first | assumption | omega) ?_ | refine truthy_no (by assumption) ?_)
  k_with "MY steps" => (repeat' (first | (k_unfold; (try dsimp only)) | (k_end; wrow_close) | walk1 | (dsimp only; walk1) | (leave1; try dsimp only) | fail "no step"))
  k_with "MY fin" => (repeat (first | dsimp only | (k_unfold; (try dsimp only))))
  k_with "MY open" => ((
      rename On _ _ _ _ _ => aOn9
      have Gk9 := aOn9.k
      have hap9 := aOn9.apart
      dsimp only [List.map] at hap9
      refine wpAny_call ?_
      k_dflt (k_extra "MY enter")))
  k_with "MY ret" => ((
      rename _ = hideAll _ _ => hgX
      rename Fr _ _ _ _ => kF
      rename News _ _ _ _ => kN
      rename (∀ _ _ _, Kept _ _ _ → _) => retX
      refine' retX _ _ _ (fun b o e => kF.keep b o (hgX ▸ e)) ?_
      (first | exact (fun q hq => (kN q hq).1) | exact ⟨_, fun q hq => (kN q hq).1⟩)))
  k_with "getMethod ref" => ((k_here; (with_reducible show wpAny _ _ (getMethod (Value.ref _) (PySem.Str.ofString "read") _) _ _ _); k_dflt (refine' kmu_own ?k1 ?k2 ?k3 ?k4 ?k5 ?_; (case k1 => k_asm); (case k2 => k_asm); (case k3 => k_inst); (case k4 => k_is); (case k5 => k_is); k_whole)))
  k_with "k_all" => (with_reducible assumption)
  k_with "call ref" => (((with_reducible show wpAny _ _ (call (Value.ref _) [Value.int _ _]) _ _ _); refine stopMark ?_))
  k_with "call ref" => (((with_reducible show wpAny _ _ (call (Value.ref 760) _) _ _ _); refine stopMark ?_))
  k_with "callWith ref" => ((k_here; k_dflt (refine' callWith_F ?k1 ?_; (case k1 => exact FnAt.of (by k_asm) (by k_mem)); k_whole)))
  k_with "And" => (((with_reducible show FnAt _ _ ∧ _); refine ⟨FnAt.of (by k_asm) (by k_mem), ?_⟩; (try dsimp only [List.nil_append, List.cons_append])))
  trivial
theorem len_bs {prog : Program} {w : World} {A : Around} {s : Shared} {E Q : Value → Shared → Prop} {b : Array UInt8} {t : Tok} {n : Nat} (e : b.size = n) (hz : b.size ≤ 100000) (h : Q (.int (n : Int) (s.toks + 1)) { s with toks := s.toks + 1 + 1 }) : wpAny (model prog w) A (call (.builtin "len") [.bytes b t]) Q E s := by
  subst e
  exact len_bytes (by (first | lia | omega)) h
theorem ge_nat {prog : Program} {w : World} {A : Around} {s : Shared} {E Q : Value → Shared → Prop} {n : Nat} {t u : Tok} (h : Q (.bool true) s) : wpAny (model prog w) A (compareOp .GtE (.int (n : Int) t) (.int 0 u)) Q E s :=
  PyProof.Rows.ge_int (by rw [decide_eq_true (show (n : Int) ≥ 0 by (first | lia | omega))]; exact h)
theorem eq_nat {prog : Program} {w : World} {A : Around} {s : Shared} {E Q : Value → Shared → Prop} {n : Nat} {t u : Tok} (h : Q (.bool true) s) : wpAny (model prog w) A (compareOp .Eq (.int (n : Int) t) (.int (n : Int) u)) Q E s :=
  PyProof.Rows.eq_int (by rw [beq_self_eq_true]; exact h)
theorem lines_24 : True := by
  k_with "compareOp GtE int int" => ((refine ge_nat ?_))
  k_with "compareOp Eq int int" => ((refine eq_nat ?_))
  k_with "call builtin:len" => ((k_here; (with_reducible show wpAny _ _ (call (Value.builtin "len") [Value.bytes _ _]) _ _ _); refine len_bs (by with_reducible assumption) (by (first | lia | omega)) ?_))
  k_with "call builtin:bytes.decode" => ((k_here; refine decode_latin (by (first | lia | omega)) (by (first | lia | omega)) (fun _ _ => ?_)))
  trivial
set_option maxHeartbeats 8000000 in
theorem rs_walk {w : World} {dep un : Nat} {gs : Option (List Code)} {s : Shared} {outer : List Env} {E Q : Value → Shared → Prop} {f c' x d cl cb : Addr} {fd : FuncData} {oc ol ob : Obj} {oct bs : Array UInt8} {hs : Nat → Int} {ts : Nat → Tok} {tp : Tok} {p n : Nat} {b : UInt8}
    (k : TakeSpec w f c' x d cl cb { cls := .type "function", data := .func fd } oc ol ob oct) (hb : oct[p]? = some b) (hbn : b.toNat = n) (hbs : oct.extract (p + 1) (p + 1 + n) = bs) (hle : p + 1 + n ≤ oct.size) (hn : 0 < n) (hz : oct.size ≤ 100000) (hD : dep < 580) (hU : un < 3900)
    (a : On w (AA none dep outer gs un) outer s (tkFoot f c' x d cl cb { cls := .type "function", data := .func fd } oc ol ob hs ts (p : Int) tp))
    (ret : ∀ h' tk' t' tp', Kept s (tkFoot f c' x d cl cb { cls := .type "function", data := .func fd } oc ol ob hs ts (p : Int) tp) h' → (∀ q' ∈ tkFoot f c' x d cl cb { cls := .type "function", data := .func fd } oc ol ob hs ts ((p + 1 + n : Nat) : Int) tp', h'.get? q'.1 = some q'.2) → Q (.str ⟨bs.map (·.toNat)⟩ t') { s with heap := h', toks := tk' }) :
    wpAny (model PR w) (AA none dep outer gs un) (call (.ref 767) [.ref x]) Q E s := by
  have hsz : bs.size = n := by rw [← hbs]; simp; (first | lia | omega)
  have hap6 : Apart [f, c', x, d, cl, cb] := a.apart
  k_extra "MY open"
  intro g L' h₁ hg F' N' B' X' T' hlt
  (try dsimp only)
  k_fold
  k_extra "MY steps"
  refine stopGo ?_
  k_dflt (refine' ru_use (p := p) k hb hz ?hm hap6 ?U ?k1 ?k2 ?k3 ?k4 ?k5 ?k6 ?k7 ?kF ?kG ?_)
  case k4 => k_asm
  case U => (intro _; k_upd)
  case k1 => k_asm
  case k2 => k_asm
  case k3 => k_asm
  case k5 => k_asm
  case k6 => exact rfl
  case k7 => exact rfl
  case kF => dsimp only [AA, Around.deeper]; k_extra "MY lt"
  case kG => dsimp only [AA, Around.deeper]; k_extra "MY lt"
  case hm => (repeat (first | exact List.forall_mem_nil _ | (refine' List.forall_mem_cons.mpr ⟨?qa, ?_⟩; (case qa => k_mem))))
  intro h2 tk2 t2 tp2 F2 N2
  rw [hbn]
  k_extra "MY steps"
  refine stopGo ?_
  k_dflt (refine' take_use (p := p + 1) (n := n) (q := p + 1 + n) k (by (first | lia | omega)) (by (first | lia | omega)) hbs hz (by (first | lia | omega)) ?hm hap6 ?U rfl rfl rfl ?k1 ?k2 ?k3 ?k4 ?k5 ?k6 ?k7 ?kF ?kG ?_)
  case k4 => k_asm
  case U => (intro _; k_upd)
  case k1 => k_asm
  case k2 => k_asm
  case k3 => k_asm
  case k5 => k_asm
  case k6 => exact rfl
  case k7 => exact rfl
  case kF => dsimp only [AA, Around.deeper]; k_extra "MY lt"
  case kG => dsimp only [AA, Around.deeper]; k_extra "MY lt"
  case hm => (repeat (first | exact List.forall_mem_nil _ | (refine' List.forall_mem_cons.mpr ⟨?qa, ?_⟩; (case qa => k_mem))))
  intro h3 tk3 t3 tp3 F3 N3
  k_extra "MY steps"
  rename Fr g L' _ _ => kF
  rename News g L' _ _ => kN
  exact ret _ _ _ _ (fun b o e => kF.keep b o (hg ▸ e)) (fun q hq => (kN q hq).1)

end
section
section
variable {w : World} {A₀ A : Around} {s : Shared} {base h₀ g' h' : Heap} {L : Addr} {m : PySem.Str → Option Value} {news foot : List En} {outer : List Env} {env : Env} {p : Program} {loose : List PySem.Str} {mean : ExcName → Option Value} {mg mb : PySem.Str → Option Value}
theorem foot_off (N : News h₀ L s.heap news) (hs : ∀ q ∈ foot, q ∈ news) : ∀ b, b ∈ foot.map (·.1) → b ≠ L ∧ h₀.get? b = none := fun b hb => by
  obtain ⟨q, hq, rfl⟩ := List.mem_map.mp hb
  exact (N q (hs q hq)).2
/-- the caller's frame behind a call that turned its slots -/
theorem turn_fr (F : Fr h₀ L s.heap m) (N : News h₀ L s.heap news) (hs : ∀ q ∈ foot, q ∈ news) (T : KtsTurn [L] (hideAll s.heap (foot.map (·.1))) g') (S : g'.StaysIn h') : Fr h₀ L h' m := by
  have nf := foot_off N hs
  obtain ⟨oL, es, ep, hL, hLd, hLr⟩ := F.ns
  obtain ⟨sl, hsl⟩ := T.up (hideAll_iff.mpr ⟨hL, fun q => (nf L q).1 rfl⟩)
  refine ⟨⟨_, es, ep, S _ _ hsl, hLd, hLr⟩, fun b o e => ?_, F.above⟩
  refine S _ _ (T.other b o (hideAll_iff.mpr ⟨F.keep b o e, fun q => ?_⟩) ?_)
  · rw [(nf b q).2] at e; cases e
  · intro q
    rw [List.mem_singleton.mp q, kts_self F] at e
    cases e
theorem turn_old (F : Fr h₀ L s.heap m) (N : News h₀ L s.heap news) (T : KtsTurn [L] (hideAll s.heap (foot.map (·.1))) g') (S : g'.StaysIn h') {q : En} (hq : q ∈ news) (hn : q.1 ∉ foot.map (·.1)) : h'.get? q.1 = some q.2 ∧ q.1 ≠ L ∧ h₀.get? q.1 = none := by
  refine ⟨S _ _ (T.other q.1 q.2 (hideAll_iff.mpr ⟨(N q hq).1, hn⟩) ?_), (N q hq).2⟩
  intro z
  exact (N q hq).2.1 (List.mem_singleton.mp z)
theorem turn_new (F : Fr h₀ L s.heap m) (N : News h₀ L s.heap news) (hs : ∀ q ∈ foot, q ∈ news) {q : En} (hh : h'.get? q.1 = some q.2) (hn : (hideAll s.heap (foot.map (·.1))).get? q.1 = none) : h'.get? q.1 = some q.2 ∧ q.1 ≠ L ∧ h₀.get? q.1 = none := by
  have nf := foot_off N hs
  refine ⟨hh, fun e => ?_, ?_⟩
  · obtain ⟨oL, es, ep, hL, _⟩ := F.ns
    rw [e, hideAll_iff.mpr ⟨hL, fun z => (nf L z).1 rfl⟩] at hn
    cases hn
  · cases e : h₀.get? q.1 with
    | none => rfl
    | some o =>
      rw [hideAll_iff.mpr ⟨F.keep _ _ e, fun z => by rw [(nf _ z).2] at e; cases e⟩] at hn
      cases hn
theorem turn_ne (N : News h₀ L s.heap news) {a : Addr} (hn : (hideAll s.heap (foot.map (·.1))).get? a = none) {q : En} (hq : q ∈ news) (hf : q.1 ∉ foot.map (·.1)) : q.1 ≠ a := fun e => by
  have := hideAll_iff.mpr ⟨(N q hq).1, hf⟩
  rw [e, hn] at this
  cases this
theorem OnB.of (B : Below A₀ base outer h₀) (F : Fr h₀ L s.heap m) (X : (hd.heap_39 w.params).In h₀) (N : News h₀ L s.heap news) (T : Top p loose mean mg mb h₀) (XB : (hd.heap_39 w.params).In base) (TB : Top p loose mean mg mb base) (hA : A.frames = some (env :: outer)) (hf : env.frame = some L) (hke : env.scope.kind = .function)
    (hs : ∀ q ∈ foot, q ∈ news) (hap : Apart (foot.map (·.1))) : OnB w A (env :: outer) s foot :=
  ⟨⟨_, _, _, _, _, _, Gd.of B F X N T hA hf hke (foot.map (·.1)) (fun a ha => by obtain ⟨q, hq, rfl⟩ := List.mem_map.mp ha; exact List.mem_map_of_mem (hs q hq)), XB, TB⟩, fun q hq => (N q (hs q hq)).1, hap⟩
theorem dicts_one (F : Fr h₀ L s.heap m) (N : News h₀ L s.heap news) (hs : ∀ q ∈ foot, q ∈ news) : KtsDicts [L] (hideAll s.heap (foot.map (·.1))) := fun b hb => by
  obtain ⟨oL, es, ep, hL, hLd, _⟩ := F.ns
  rw [List.mem_singleton.mp hb]
  exact ⟨oL, es, ep, hideAll_iff.mpr ⟨hL, fun z => (foot_off N hs L z).1 rfl⟩, hLd⟩
end
/-- what _law_read leaves: the ground up to the frames' slots, and the answer's objects, fresh -/
noncomputable def RdLeft (g : Heap) (fs : List Addr) (b0 b1 b2 b3 : PySem.Str) (a : Addr) (h' : Heap) : Prop :=
  ∃ (g' : Heap) (nl : Addr) (n : Nat) (t t0 t1 t2 t3 : Tok), KtsTurn fs g g' ∧ g'.StaysIn h' ∧
    (∀ q ∈ [(a, ({ cls := .type "tuple", data := .seq #[.ref nl, .str (PySem.Str.ofString "not enough data in stream to read uint1") t] } : Obj)), (nl, W.listOf #[.str b0 t0, .str b1 t1, .str b2 t2, .str b3 t3] n)], h'.get? q.1 = some q.2 ∧ g.get? q.1 = none) ∧ NeN a nl
theorem rdLeft_of {g g2 h' : Heap} {fs : List Addr} {b0 b1 b2 b3 : PySem.Str} {l : List En} {L a nl : Addr} {n : Nat} {t t0 t1 t2 t3 : Tok} {m : PySem.Str → Option Value} (TT : KtsTurn fs g g2) (F : Fr g2 L h' m)
    (N : News g2 L h' ((a, { cls := .type "tuple", data := .seq #[.ref nl, .str (PySem.Str.ofString "not enough data in stream to read uint1") t] }) :: (nl, W.listOf #[.str b0 t0, .str b1 t1, .str b2 t2, .str b3 t3] n) :: l)) (hne : @Ne Nat a nl) : RdLeft g fs b0 b1 b2 b3 a h' := by
  refine ⟨g2, nl, n, t, t0, t1, t2, t3, TT, fun b o e => F.keep b o e, fun q hq => ?_, hne⟩
  have hq' : q ∈ ((a, ({ cls := .type "tuple", data := .seq #[.ref nl, .str (PySem.Str.ofString "not enough data in stream to read uint1") t] } : Obj)) :: (nl, W.listOf #[.str b0 t0, .str b1 t1, .str b2 t2, .str b3 t3] n) :: l) := by
    rcases List.mem_cons.mp hq with rfl | hq
    · exact .head _
    · rcases List.mem_cons.mp hq with rfl | hq
      · exact .tail _ (.head _)
      · exact nomatch hq
  refine ⟨(N q hq').1, ?_⟩
  cases hc : g.get? q.1 with
  | none => rfl
  | some o => obtain ⟨sl, hs⟩ := TT.up hc; rw [(N q hq').2.2] at hs; cases hs

end
section
theorem slot_bytes_join : Slot "bytes" "join" "bytes.join" :=
  .of (owner := "bytes") (n := "join") (by rw [typeLookup_type, builtinLookup_eq_fast]; kernel_rfl) (by decide +kernel) (by decide +kernel) (by decide +kernel)
    (by first | exact .inl (by decide +kernel) | exact .inr (by decide +kernel)) (by rw [isSubtype_type]; kernel_rfl)
theorem type_bytes_join : typeOf (.builtin "bytes.join") = pure (.type "method_descriptor") := by show builtinType _ = _; rw [builtinType_eq_fast]; kernel_rfl
theorem entry_bytes_join : entryFor table "bytes.join" = some Builtin.«bytes.join» := entryFor_of_tree (by kernel_rfl)
theorem args_bytes_join (a b : Value) : argsOk "bytes.join" ⟨[a, b], []⟩ := by unfold argsOk; kernel_rfl
theorem take_eq {id : String} {b : Array UInt8} {t : Tok} : Builtin.Bytes.takeBufferQuiet? id (.bytes b t) 0 = pure (some (b, none)) := by
  unfold Builtin.Bytes.takeBufferQuiet? Builtin.Bytes.takeBuffer?
  rw [KBy.special_eq KBy.look_buffer, KBy.own_buffer]
  have e : ((0 : Int) == Builtin.Bytes.fullReadOnly) = false := by decide +kernel
  rw [e, KBy.buffer_eq]
  rfl
theorem joined4 {b0 b1 b2 b3 : Array UInt8} : Builtin.Bytes.joined #[] [b0, b1, b2, b3] = b0 ++ b1 ++ b2 ++ b3 := by
  simp [Builtin.Bytes.joined]
theorem onHeap_bytes {b : Array UInt8} {t : Tok} : (Value.bytes b t).onHeap = false := rfl
theorem forIn4 {β : Type} (st : β) (F : Nat → β → Sem (ForInStep β)) : (forIn [:4] st F : Sem β) = forIn [0, 1, 2, 3] st F := by
  rw [Std.Legacy.Range.forIn_eq_forIn_range']; rfl
theorem wp_forIn_cons {β : Type} {M : Model} {A : Around} {E : Value → Shared → Prop} {s : Shared} {Q : β → Shared → Prop} {i : Nat} {r : List Nat} {st : β} {F : Nat → β → Sem (ForInStep β)}
    (h : wpAny M A (F i st) (fun x s' => match x with | .yield b => wpAny M A (forIn r b F) Q E s' | .done b => Q b s') E s) : wpAny M A (forIn (i :: r) st F) Q E s := by
  rw [List.forIn_cons]
  refine wpAny_bind (wpAny_mono h (fun x s' hx => ?_) fun _ _ e => e)
  cases x with
  | done b => exact wpAny_pure hx
  | yield b => exact hx
theorem wp_joinLetGo {M : Model} {A : Around} {E : Value → Shared → Prop} {s : Shared} {Q : Unit → Shared → Prop} : ∀ (xs : List Value) (keep : List Value), Q () s → wpAny M A (Builtin.Bytes.joinLetGo (xs.map (fun x => (x, none))) keep) Q E s
  | [], _, h => wpAny_pure h
  | x :: r, keep, h => by
    rw [List.map_cons, Builtin.Bytes.joinLetGo]
    · exact wpAny_bind (wpAny_letGo (wp_joinLetGo r keep h))
    · intro _ e; cases e
theorem meets_join4 {b0 b1 b2 b3 : Array UInt8} {t0 t1 t2 t3 t : Tok} {l : Addr} (hz : b0.size + b1.size + b2.size + b3.size ≤ 100000) :
    Meets (Builtin.«bytes.join» ⟨[.bytes #[] t, .ref l], []⟩) (fun _ R s => s.heap.IsList l #[.bytes b0 t0, .bytes b1 t1, .bytes b2 t2, .bytes b3 t3] ∧ ∀ t' k, R (.ok (.ret (.bytes (b0 ++ b1 ++ b2 ++ b3) t'))) { s with toks := k }) := by
  refine .of_wp fun prog w A R s hS => ?_
  obtain ⟨hl, h⟩ := hS
  have hT : s.TypeIs (.ref l) "list" := hl.typeIs
  obtain ⟨ol, hol, hoc, nl, hod⟩ := hl
  unfold Builtin.«bytes.join» Builtin.Bytes.joinM
  refine wpAny_bind (wpAny_of_eq (a := (Value.bytes #[] t, Value.ref l)) rfl ?_)
  dsimp only
  rw [if_pos (by decide)]
  unfold Builtin.Bytes.joinItems
  refine wpAny_bind (wpAny_bind (wpAny_typeOf hT ?_))
  rw [if_pos (by decide)]
  refine wpAny_pure ?_
  refine wpAny_bind (wpAny_seqItems hol hod ?_)
  show wpAny _ _ ((forIn [:4] (#[], []) _) >>= _) _ _ _
  rw [forIn4]
  refine wpAny_bind (wp_forIn_cons ?_)
  refine wpAny_bind (wpAny_seqItems hol hod ?_)
  refine bm_if_false (by rfl) ?_
  refine wpAny_bind (wpAny_holding (wpAny_of_eq (take_eq (b := b0) (t := t0)) ?_))
  refine wpAny_bind (wpAny_seqItems hol hod ?_)
  refine bm_if_false (by rfl) ?_
  refine wpAny_pure ?_
  refine wp_forIn_cons ?_
  refine wpAny_bind (wpAny_seqItems hol hod ?_)
  refine bm_if_false (by rfl) ?_
  refine wpAny_bind (wpAny_holding (wpAny_of_eq (take_eq (b := b1) (t := t1)) ?_))
  refine wpAny_bind (wpAny_seqItems hol hod ?_)
  refine bm_if_false (by rfl) ?_
  refine wpAny_pure ?_
  refine wp_forIn_cons ?_
  refine wpAny_bind (wpAny_seqItems hol hod ?_)
  refine bm_if_false (by rfl) ?_
  refine wpAny_bind (wpAny_holding (wpAny_of_eq (take_eq (b := b2) (t := t2)) ?_))
  refine wpAny_bind (wpAny_seqItems hol hod ?_)
  refine bm_if_false (by rfl) ?_
  refine wpAny_pure ?_
  refine wp_forIn_cons ?_
  refine wpAny_bind (wpAny_seqItems hol hod ?_)
  refine bm_if_false (by rfl) ?_
  refine wpAny_bind (wpAny_holding (wpAny_of_eq (take_eq (b := b3) (t := t3)) ?_))
  refine wpAny_bind (wpAny_seqItems hol hod ?_)
  refine bm_if_false (by rfl) ?_
  refine wpAny_pure ?_
  refine wpAny_pure ?_
  refine wpAny_bind (wpAny_of_eq (a := #[]) rfl ?_)
  refine bm_if_false (KBy.tooLong_not ?_) ?_
  · simp
    (first | lia | omega)
  show wpAny _ _ (mkBytes (Builtin.Bytes.joined #[] [b0, b1, b2, b3]) >>= _) _ _ _
  rw [joined4]
  refine wpAny_bind (wpAny_mkBytes ?_ (by rw [sizeLine_eq]; simp; (first | lia | omega)))
  refine wpAny_bind (wpAny_holding (wpAny_point ?_))
  refine wpAny_bind ?_
  refine wp_joinLetGo [.bytes b0 t0, .bytes b1 t1, .bytes b2 t2, .bytes b3 t3] _ ?_
  exact wpAny_pure ⟨_, rfl, h _ _⟩
theorem getMethod_join {M : Model} {A : Around} {E : Value → Shared → Prop} {s : Shared} {b : Array UInt8} {t : Tok} {pl : Sem Bool} {Q : Value × List Value → Shared → Prop} (h : Q (.builtin "bytes.join", [.bytes b t]) s) : wpAny M A (getMethod (.bytes b t) (PySem.Str.ofString "join") pl) Q E s :=
  KBd.method_of (.bytes b t) (typeIs_bytes _ _ _) slot_bytes_join type_bytes_join KBd.noRef h
theorem bjoin4 {prog : Program} {w : World} {A : Around} {E Q : Value → Shared → Prop} {s : Shared} {b0 b1 b2 b3 : Array UInt8} {t0 t1 t2 t3 t : Tok} {l : Addr} (hl : s.heap.IsList l #[.bytes b0 t0, .bytes b1 t1, .bytes b2 t2, .bytes b3 t3])
    (hz : b0.size + b1.size + b2.size + b3.size ≤ 100000) (h : ∀ t' k, Q (.bytes (b0 ++ b1 ++ b2 ++ b3) t') { s with toks := k }) : wpAny (model prog w) A (call (.builtin "bytes.join") [.bytes #[] t, .ref l]) Q E s :=
  call_meets slot_bytes_join (typeIs_bytes _ _ _) entry_bytes_join (args_bytes_join _ _) (meets_join4 hz) ⟨hl, h⟩

end
section
structure GoodAt (oct : Array UInt8) (p n q : Nat) (bs : Array UInt8) : Prop where
  at_ : ∃ b, oct[p]? = some b ∧ b.toNat = n
  part : oct.extract (p + 1) (p + 1 + n) = bs
  le : p + 1 + n ≤ oct.size
  pos : 0 < n
  next : q = p + 1 + n
noncomputable abbrev lat (bs : Array UInt8) : PySem.Str := ⟨bs.map (·.toNat)⟩
noncomputable abbrev bodyS (T : Txs) (i : Nat) : PySem.Str := ⟨(bodyT T i).toArray⟩
theorem bodyS_list (T : Txs) (i : Nat) : (bodyS T i).cps.toList = bodyT T i := rfl
theorem bodyS_len {T : Txs} (hT : WfT T 20) (i : Nat) : (bodyS T i).length ≤ 240 := by
  have h := hT.body i
  have e : (bodyS T i).length = (bodyT T i).length := by simp [PySem.Str.length]
  (first | lia | omega)

noncomputable def encI (z : List Nat) : List Int := (z.length : Int) :: z.map (fun c : Nat => (c : Int))
noncomputable def enc (z : List Nat) : Array UInt8 := byteArr (encI z)
noncomputable def bsOf (z : List Nat) : Array UInt8 := (z.map Nat.toUInt8).toArray
theorem enc_list (z : List Nat) : (enc z).toList = z.length.toUInt8 :: (bsOf z).toList := by
  simp [enc, encI, byteArr, bsOf]
theorem u8_id {c : Nat} (h : c < 256) : c.toUInt8.toNat = c := by
  simp only [Nat.toUInt8, UInt8.toNat_ofNat']
  (first | lia | omega)
theorem lat_bs {z : List Nat} (h : ∀ c ∈ z, c < 256) : lat (bsOf z) = ⟨z.toArray⟩ := by
  have e : z.map (fun c => c.toUInt8.toNat) = z := by
    conv => rhs; rw [← List.map_id z]
    exact List.map_congr_left fun c hc => u8_id (h c hc)
  show PySem.Str.mk _ = _
  congr 1
  apply Array.toList_inj.mp
  rw [Array.toList_map]
  show List.map _ (z.map Nat.toUInt8).toArray.toList = z
  rw [List.map_map]
  exact e
theorem enc_size (z : List Nat) : (enc z).size = z.length + 1 := by
  have := congrArg List.length (enc_list z)
  simpa [bsOf] using this
theorem good_at {oct : Array UInt8} {pre post : List UInt8} {z : List Nat} {p n q : Nat} (h : oct.toList = pre ++ ((enc z).toList ++ post)) (hp : p = pre.length) (hn : n = z.length) (hq : q = p + 1 + n) (hz : z.length < 256) (h0 : 0 < z.length) : GoodAt oct p n q (bsOf z) := by
  subst hp hn hq
  rw [enc_list] at h
  have hl : oct.size = pre.length + (z.length + 1 + post.length) := by
    have := congrArg List.length h
    simpa [bsOf, Nat.add_assoc, Nat.add_comm, Nat.add_left_comm] using this
  refine ⟨⟨z.length.toUInt8, ?_, u8_id hz⟩, ?_, by (first | lia | omega), h0, rfl⟩
  · rw [← Array.getElem?_toList, h, List.getElem?_append_right (Nat.le_refl _)]
    simp
  · apply Array.toList_inj.mp
    rw [Array.toList_extract, List.extract_eq_drop_take, h]
    have e1 : (pre ++ (z.length.toUInt8 :: (bsOf z).toList ++ post)) = (pre ++ [z.length.toUInt8]) ++ ((bsOf z).toList ++ post) := by simp
    have hb : (bsOf z).toList.length = z.length := by simp [bsOf]
    rw [e1, List.drop_append_of_le_length (by simp), List.drop_of_length_le (by simp), List.nil_append, show pre.length + 1 + z.length - (pre.length + 1) = (bsOf z).toList.length by rw [hb]; (first | lia | omega), List.take_left]
/-- the tape holds the four texts -/
noncomputable def Goods (T : Txs) (oct : Array UInt8) : Prop :=
  ∃ p1 p2 p3 p n0 n1 n2 n3, GoodAt oct 0 n0 p1 (bsOf (bodyT T 0)) ∧ GoodAt oct p1 n1 p2 (bsOf (bodyT T 1)) ∧ GoodAt oct p2 n2 p3 (bsOf (bodyT T 2)) ∧ GoodAt oct p3 n3 p (bsOf (bodyT T 3)) ∧ p = oct.size ∧ oct.size ≤ 100000
theorem body_pos {T : Txs} {m i : Nat} (hT : WfT T m) (hi : i < 4) : 0 < (bodyT T i).length := by
  have h := hT.ne i hi
  unfold bodyT bodyOf
  cases e : T i with
  | nil => exact absurd e h
  | cons it l => simp; (first | lia | omega)
theorem goods_of {T : Txs} (hT : WfT T 20) : Goods T (enc (bodyT T 0) ++ enc (bodyT T 1) ++ enc (bodyT T 2) ++ enc (bodyT T 3)) := by
  have hb : ∀ i, i < 4 → (bodyT T i).length < 256 := fun i _ => Nat.lt_of_le_of_lt (hT.body i) (by decide)
  have h0 := hb 0 (by decide)
  have h1 := hb 1 (by decide)
  have h2 := hb 2 (by decide)
  have h3 := hb 3 (by decide)
  refine ⟨_, _, _, _, _, _, _, _,
    good_at (pre := []) (post := (enc (bodyT T 1)).toList ++ (enc (bodyT T 2)).toList ++ (enc (bodyT T 3)).toList) ?_ rfl rfl rfl h0 (body_pos hT (by decide)),
    good_at (pre := (enc (bodyT T 0)).toList) (post := (enc (bodyT T 2)).toList ++ (enc (bodyT T 3)).toList) ?_ ?_ rfl rfl h1 (body_pos hT (by decide)),
    good_at (pre := (enc (bodyT T 0)).toList ++ (enc (bodyT T 1)).toList) (post := (enc (bodyT T 3)).toList) ?_ ?_ rfl rfl h2 (body_pos hT (by decide)),
    good_at (pre := (enc (bodyT T 0)).toList ++ (enc (bodyT T 1)).toList ++ (enc (bodyT T 2)).toList) (post := []) ?_ ?_ rfl rfl h3 (body_pos hT (by decide)), ?_, ?_⟩
  · simp
  · simp
  · simp [enc_size]; (first | lia | omega)
  · simp
  · simp [enc_size]; (first | lia | omega)
  · simp
  · simp [enc_size]; (first | lia | omega)
  · simp [enc_size]; (first | lia | omega)
  · simp [enc_size]; (first | lia | omega)
theorem word_ok {i : Nat} {it : Itm} (h : ItmOk i it) : it.word = [] ∨ it.word ∈ allW := by
  have key : ∀ z ∈ wordsL, z = [] ∨ z ∈ allW := by decide
  have key2 : ∀ j < 3, ([48 + j] : List Nat) ∈ allW := by decide
  cases it with
  | w z => exact key z h
  | n j => exact .inr (key2 j h.2)
noncomputable def rowS (it : Itm) : PySem.Str := ⟨(spOf it.word ++ [10]).toArray⟩
theorem row_add (z : List Nat) : (⟨z.toArray⟩ : PySem.Str) ++ PySem.Str.ofString "\n" = ⟨(z ++ [10]).toArray⟩ := by
  have e : PySem.Str.ofString "\n" = ⟨#[10]⟩ := by decide
  rw [e]
  exact sgn_app z 10
theorem glued_cps : ∀ (l : List PySem.Str) (a : Array Nat), (l.foldl (fun acc p => acc ++ (PySem.Str.ofString "").cps ++ p.cps) a).toList = a.toList ++ l.flatMap fun p => p.cps.toList
  | [], a => by simp
  | p :: l, a => by
    rw [List.foldl_cons, glued_cps l]
    have e : (PySem.Str.ofString "").cps = #[] := rfl
    simp [e]
theorem join_nil (l : List PySem.Str) : (PySem.Txt.join (PySem.Str.ofString "") l).cps.toList = l.flatMap fun p => p.cps.toList := by
  show (Builtin.Str.glued (PySem.Str.ofString "") l).cps.toList = _
  unfold Builtin.Str.glued
  dsimp only
  rw [glued_cps]
  cases l with
  | nil => rfl
  | cons p l => simp
theorem join_body (T : Txs) (i : Nat) : PySem.Txt.join (PySem.Str.ofString "") ((T i).map rowS) = bodyS T i := by
  have h := join_nil ((T i).map rowS)
  have e : ((T i).map rowS).flatMap (fun p => p.cps.toList) = bodyT T i := by
    simp only [bodyT, bodyOf, List.flatMap_map]
    rfl
  rw [e] at h
  show _ = PySem.Str.mk _
  rw [← h]
theorem row_len {i : Nat} {it : Itm} (h : ItmOk i it) : (rowS it).length ≤ 12 := by
  have h3 : (spOf it.word).length ≤ 11 := by
    cases it with
    | w z => exact sp_len_words z h
    | n j => exact sp_len_nums j h.2
  simp [rowS, PySem.Str.length]
  (first | lia | omega)
theorem rows_total {T : Txs} (hT : WfT T 20) (i : Nat) : (((T i).map rowS).map (·.length)).sum + ((T i).map rowS).length * (PySem.Str.ofString "").length ≤ 16777216 := by
  have h1 : (((T i).map rowS).map (·.length)).sum ≤ (((T i).map rowS).map (·.length)).length * 12 := sum_le_mul (fun x hx => by
    simp only [List.map_map, List.mem_map] at hx
    obtain ⟨it, hit, rfl⟩ := hx
    exact row_len (hT.ok i it hit))
  have h2 := hT.few i
  have e : (PySem.Str.ofString "").length = 0 := rfl
  rw [e]
  simp only [List.length_map] at h1
  simp only [Nat.mul_zero]
  (first | lia | omega)
noncomputable def isRow (it : Itm) (v : Value) : Prop := ∃ t, v = .str (rowS it) t
theorem rows_strs {l : List Itm} {ys : List Value} (h : All2 isRow l ys) : StrsAre ys (l.map rowS) := by
  induction h with
  | nil => exact .nil
  | cons h r ih => obtain ⟨t, rfl⟩ := h; exact .cons _ _ ih
/-- the four bodies -/
noncomputable def isBody (T : Txs) (i : Nat) (v : Value) : Prop := ∃ t, v = .str (bodyS T i) t
theorem bodies_are {T : Txs} {ys : List Value} (h : All2 (isBody T) [0, 1, 2, 3] ys) : ∃ t0 t1 t2 t3, ys = [.str (bodyS T 0) t0, .str (bodyS T 1) t1, .str (bodyS T 2) t2, .str (bodyS T 3) t3] := by
  cases h with | cons h0 r => cases r with | cons h1 r => cases r with | cons h2 r => cases r with | cons h3 r => cases r with | nil =>
    obtain ⟨t0, rfl⟩ := h0
    obtain ⟨t1, rfl⟩ := h1
    obtain ⟨t2, rfl⟩ := h2
    obtain ⟨t3, rfl⟩ := h3
    exact ⟨t0, t1, t2, t3, rfl⟩
noncomputable def isEnc (T : Txs) (i : Nat) (v : Value) : Prop := ∃ t, v = .bytes (enc (bodyT T i)) t
theorem encs_are {T : Txs} {ys : List Value} (h : All2 (isEnc T) [0, 1, 2, 3] ys) : ∃ t0 t1 t2 t3, ys = [.bytes (enc (bodyT T 0)) t0, .bytes (enc (bodyT T 1)) t1, .bytes (enc (bodyT T 2)) t2, .bytes (enc (bodyT T 3)) t3] := by
  cases h with | cons h0 r => cases r with | cons h1 r => cases r with | cons h2 r => cases r with | cons h3 r => cases r with | nil =>
    obtain ⟨t0, rfl⟩ := h0
    obtain ⟨t1, rfl⟩ := h1
    obtain ⟨t2, rfl⟩ := h2
    obtain ⟨t3, rfl⟩ := h3
    exact ⟨t0, t1, t2, t3, rfl⟩
noncomputable def isCode (c : Nat) (v : Value) : Prop := ∃ t, v = .int (c : Int) t
theorem codes_ints {l : List Nat} {ys : List Value} (h : All2 isCode l ys) : IntsAre ys (l.map fun c : Nat => (c : Int)) := by
  induction h with
  | nil => exact .nil
  | cons h r ih => obtain ⟨t, rfl⟩ := h; exact .cons _ _ ih
theorem enc_ints {z : List Nat} {ys : List Value} {t : Tok} (h : All2 isCode z ys) : IntsAre (Value.int (z.length : Int) t :: ys) (encI z) := .cons _ _ (codes_ints h)
theorem enc_range {T : Txs} (hT : WfT T 20) (i : Nat) : ∀ n ∈ encI (bodyT T i), 0 ≤ n ∧ n < 256 := by
  intro n hn
  rcases List.mem_cons.mp hn with rfl | hn
  · have := hT.body i; (first | lia | omega)
  · obtain ⟨c, hc, rfl⟩ := List.mem_map.mp hn
    have := hT.latin i c hc
    (first | lia | omega)
theorem tx_ref {T : Txs} {v0 v1 v2 v3 : List Value} {g h : Heap} {L : Addr} {te : En} {rest : List En} {a0 a1 a2 a3 : Addr} {n0 n1 n2 n3 : Nat} (_N : News g L h (te :: (a0, W.listOf v0.toArray n0) :: (a1, W.listOf v1.toArray n1) :: (a2, W.listOf v2.toArray n2) :: (a3, W.listOf v3.toArray n3) :: rest)) (tx : TxAre T v0 v1 v2 v3) (i : Nat) (v : Value) (hi : i < 4) (h : (#[.ref a0, .ref a1, .ref a2, .ref a3] : Array Value)[i]? = some v) :
    ∃ j, ([0, 1, 2, 3] : List Nat)[i]? = some j ∧ ∃ a vi n, v = .ref a ∧ (a, W.listOf vi.toArray n) ∈ (te :: (a0, W.listOf v0.toArray n0) :: (a1, W.listOf v1.toArray n1) :: (a2, W.listOf v2.toArray n2) :: (a3, W.listOf v3.toArray n3) :: rest) ∧ ItmsAre (T j) vi := by
  match i, hi with
  | 0, _ => cases h; exact ⟨0, rfl, _, _, _, rfl, .tail _ (.head _), tx.t0⟩
  | 1, _ => cases h; exact ⟨1, rfl, _, _, _, rfl, .tail _ (.tail _ (.head _)), tx.t1⟩
  | 2, _ => cases h; exact ⟨2, rfl, _, _, _, rfl, .tail _ (.tail _ (.tail _ (.head _))), tx.t2⟩
  | 3, _ => cases h; exact ⟨3, rfl, _, _, _, rfl, .tail _ (.tail _ (.tail _ (.tail _ (.head _)))), tx.t3⟩
theorem body_val {T : Txs} {t0 t1 t2 t3 : Tok} (i : Nat) (v : Value) (hi : i < 4) (h : (#[.str (bodyS T 0) t0, .str (bodyS T 1) t1, .str (bodyS T 2) t2, .str (bodyS T 3) t3] : Array Value)[i]? = some v) :
    ∃ j, ([0, 1, 2, 3] : List Nat)[i]? = some j ∧ isBody T j v := by
  match i, hi with
  | 0, _ => cases h; exact ⟨0, rfl, _, rfl⟩
  | 1, _ => cases h; exact ⟨1, rfl, _, rfl⟩
  | 2, _ => cases h; exact ⟨2, rfl, _, rfl⟩
  | 3, _ => cases h; exact ⟨3, rfl, _, rfl⟩
section
variable {prog : Program} {w : World} {A : Around} {E Q : Value → Shared → Prop} {s : Shared}
theorem str_str {x : PySem.Str} {t : Tok} (h : Q (.str x t) s) : wpAny (model prog w) A (call (.type "str") [.str x t]) Q E s := P.str_of_str h
theorem row_plus {z : List Nat} {t u : Tok} (hz : z.length ≤ 11) (h : ∀ t' k, Q (.str ⟨(z ++ [10]).toArray⟩ t') { s with toks := k }) : wpAny (model prog w) A (binaryOp .Add (.str ⟨z.toArray⟩ t) (.str (PySem.Str.ofString "\n") u)) Q E s := by
  have e : (⟨z.toArray⟩ : PySem.Str).length = z.length := by simp [PySem.Str.length]
  have e2 : (PySem.Str.ofString "\n").length = 1 := by decide
  refine KOpn.add (by (first | lia | omega)) fun t' k _ => ?_
  rw [row_add]
  exact h t' k
theorem join_rows {T : Txs} {i : Nat} {D : Addr} {ys : List Value} {t : Tok} {h₀ : Heap} {L : Addr} {news : List En} (hT : WfT T 20) (N : News h₀ L s.heap news) (hm : (D, LCg.lst ys) ∈ news) (hy : All2 isRow (T i) ys)
    (h : ∀ t' k, Q (.str (bodyS T i) t') { s with toks := k }) : wpAny (model prog w) A (call (.builtin "str.join") [.str (PySem.Str.ofString "") t, .ref D]) Q E s :=
  join_list (items := ys.toArray) (ys := (T i).map rowS) (News.isList N hm) (by simpa using rows_strs hy) (rows_total hT i) fun t' k => by rw [join_body]; exact h t' k
end
theorem sp_len {i : Nat} {it : Itm} (h : ItmOk i it) : (spOf it.word).length ≤ 11 := by
  cases it with
  | w z => exact sp_len_words z h
  | n j => exact sp_len_nums j h.2
section
variable {prog : Program} {w : World} {A : Around} {E Q : Value → Shared → Prop} {s : Shared}
theorem len_body {T : Txs} {i : Nat} {t : Tok} (hT : WfT T 20) (h : ∀ t' k, Q (.int ((bodyT T i).length : Int) t') { s with toks := k }) : wpAny (model prog w) A (call (.builtin "len") [.str (bodyS T i) t]) Q E s := by
  have hl := bodyS_len hT i
  have e : (bodyS T i).length = (bodyT T i).length := by simp [PySem.Str.length]
  exact len_str (by (first | lia | omega)) (by rw [e]; exact h _ _)
theorem sign_at {T : Txs} {i : Nat} (j : Nat) (v : Value) (_ : j < (bodyS T i).cps.size) (h : SignAt (bodyS T i) j v) : ∃ c, (bodyT T i)[j]? = some c ∧ ∃ u, v = .str ⟨#[c]⟩ u := by
  obtain ⟨c, u, hc, rfl⟩ := h
  exact ⟨c, by simpa using hc, u, rfl⟩
theorem bytes_enc {T : Txs} {i : Nat} {D : Addr} {ys : List Value} {t : Tok} {k : Nat} {h₀ : Heap} {L : Addr} {m : PySem.Str → Option Value} {news : List En} (hT : WfT T 20) (hh : A.handled = none) (F : Fr h₀ L s.heap m) (N : News h₀ L s.heap news) (hm : (D, W.listOf (#[.int ((bodyT T i).length : Int) t] ++ ys.toArray) k) ∈ news) (hy : All2 isCode (bodyT T i) ys)
    (h : ∀ h' t' tk, Fr h₀ L h' m → News h₀ L h' news → Q (.bytes (enc (bodyT T i)) t') { s with heap := h', toks := tk }) : wpAny (model prog w) A (call (.type "bytes") [.ref D]) Q E s := by
  have hl : s.heap.IsList D (Value.int ((bodyT T i).length : Int) t :: ys).toArray := by
    have := News.isList (items := #[.int ((bodyT T i).length : Int) t] ++ ys.toArray) N hm
    simpa using this
  refine call_bytes_ints hl (enc_ints hy) (enc_range hT i) ?_ hh fun h' t' tk' hk => h h' t' tk' (F.keeps hk) (N.grown hk)
  have h1 := hy.length
  have h2 := hT.body i
  rw [sizeLine_eq, List.length_cons]
  (first | lia | omega)
theorem join_encs {T : Txs} {l : Addr} {t0 t1 t2 t3 t : Tok} {h₀ : Heap} {L : Addr} {news : List En} (hT : WfT T 20) (N : News h₀ L s.heap news) (hm : (l, LCg.lst [.bytes (enc (bodyT T 0)) t0, .bytes (enc (bodyT T 1)) t1, .bytes (enc (bodyT T 2)) t2, .bytes (enc (bodyT T 3)) t3]) ∈ news)
    (h : ∀ oct t' k, Goods T oct → Q (.bytes oct t') { s with toks := k }) : wpAny (model prog w) A (call (.builtin "bytes.join") [.bytes #[] t, .ref l]) Q E s := by
  refine bjoin4 (News.isList N hm) ?_ fun t' k => h _ t' k (goods_of hT)
  have h0 := hT.body 0
  have h1 := hT.body 1
  have h2 := hT.body 2
  have h3 := hT.body 3
  simp only [enc_size]
  (first | lia | omega)
end

end
section
section
variable {w : World} {A₀ A : Around} {s : Shared} {base h₀ : Heap} {outer : List Env} {env : Env} {L : Addr} {m : PySem.Str → Option Value} {news : List (Addr × Obj)} {nw : Tok → List En} {p0 : Program} {loose : List PySem.Str} {mean : ExcName → Option Value} {mg mb : PySem.Str → Option Value}
  {dep un : Nat} {gs : Option (List Code)} {E Q : Value → Shared → Prop} {f c' x d cl cb : Addr} {fd : FuncData} {oc ol ob : Obj} {oct bs : Array UInt8} {hs : Nat → Int} {ts : Nat → Tok} {tp t : Tok} {p n : Nat} {b : UInt8} {pi qi : Int}
theorem rs_use (k : TakeSpec w f c' x d cl cb { cls := .type "function", data := .func fd } oc ol ob oct) (hb : oct[p]? = some b) (hbn : b.toNat = n) (hbs : oct.extract (p + 1) (p + 1 + n) = bs) (hle : p + 1 + n ≤ oct.size) (hn : 0 < n) (hz : oct.size ≤ 100000)
    (hm : ∀ q' ∈ tkFoot f c' x d cl cb { cls := .type "function", data := .func fd } oc ol ob hs ts pi tp, q' ∈ news) (hap : Apart [f, c', x, d, cl, cb]) (U : ∀ tp', Upd d (dictOf (exD hs ts pi tp f) 2) (dictOf (exD hs ts qi tp' f) 2) news (nw tp'))
    (hpi : pi = (p : Int)) (hqi : qi = ((p + 1 + n : Nat) : Int))
    (B : Below A₀ base outer h₀) (F : Fr h₀ L s.heap m) (X : (hd.heap_39 w.params).In h₀) (N : News h₀ L s.heap news) (T' : Top p0 loose mean mg mb h₀) (hfr : env.frame = some L) (hke : env.scope.kind = .function)
    (hD : dep < 580) (hU : un < 3900)
    (h : ∀ h' tk' t' tp', Fr h₀ L h' m → News h₀ L h' (nw tp') → Q (.str ⟨bs.map (·.toNat)⟩ t') { s with heap := h', toks := tk' }) :
    wpAny (model PR w) (AA none dep (env :: outer) gs un) (call (.ref 767) [.ref x]) Q E s := by
  subst hpi hqi
  refine rs_walk k hb hbn hbs hle hn hz hD hU (On.of B F X N T' rfl hfr hke hm hap) fun h' tk' t' tp' hk hst => ?_
  refine h h' tk' t' tp' (back_fr F N hm hk) (back_upd F N hm hk (U tp') (hst _ (.tail _ (.tail _ (.tail _ (.head _))))) fun q' hq' hne => ?_)
  simp only [tkFoot, List.mem_cons, List.not_mem_nil, or_false] at hq'
  rcases hq' with rfl | rfl | rfl | rfl | rfl | rfl
  · exact hst _ (.head _)
  · exact hst _ (.tail _ (.head _))
  · exact hst _ (.tail _ (.tail _ (.head _)))
  · exact absurd rfl hne
  · exact hst _ (.tail _ (.tail _ (.tail _ (.tail _ (.head _)))))
  · exact hst _ (.tail _ (.tail _ (.tail _ (.tail _ (.tail _ (.head _))))))
theorem stream_use (hm : (790, tabObj #[]) ∈ news)
    (B : Below A₀ base outer h₀) (F : Fr h₀ L s.heap m) (X : (hd.heap_39 w.params).In h₀) (N : News h₀ L s.heap news) (T' : Top p0 loose mean mg mb h₀) (hfr : env.frame = some L) (hke : env.scope.kind = .function)
    (hD : dep < 600) (hU : un < 4000)
    (h : ∀ h' tk' f c' x d cl cb fd oc ol ob hs ts tp ps, TakeSpec w f c' x d cl cb { cls := .type "function", data := .func fd } oc ol ob oct → Apart [f, c', x, d, cl, cb] → Fr h₀ L h' m →
      News h₀ L h' (tkFoot f c' x d cl cb { cls := .type "function", data := .func fd } oc ol ob hs ts 0 tp ++ (news.filter (fun q => q.1 != 790) ++ [(790, tabObj ps)])) → (∀ q ∈ news, ∀ b ∈ [f, c', x, d, cl, cb], q.1 ≠ b) → Q (.ref x) { s with heap := h', toks := tk' }) :
    wpAny (model PR w) (AA none dep (env :: outer) gs un) (call (.ref 795) [.bytes oct t]) Q E s := by
  have hs' : ∀ q ∈ [((790 : Addr), tabObj #[])], q ∈ news := fun q hq => (List.mem_singleton.mp hq) ▸ hm
  refine stream_walk hD hU (On.of B F X N T' rfl hfr hke hs' ⟨trivial, trivial⟩) fun x h' tk' hk hl => ?_
  obtain ⟨f, c', d, cl, cb, fd, oc, ol, ob, hs, ts, tp, k, hap, hobj, ps, hps⟩ := hl
  refine h h' tk' f c' x d cl cb fd oc ol ob hs ts tp ps k hap (back_fr F N hs' hk) (fun q hq => ?_) (fun q hq b hb e => ?_)
  · rcases List.mem_append.mp hq with hq | hq
    · exact back_none' F (hobj q hq)
    · rcases List.mem_append.mp hq with hq | hq
      rotate_left
      · rw [List.mem_singleton.mp hq]
        exact ⟨hps, (N _ hm).2⟩
      obtain ⟨h1, h2⟩ := List.mem_filter.mp hq
      exact back_old N hk h1 (fun hmm => by simp only [List.map_cons, List.map_nil, List.mem_singleton] at hmm; rw [hmm] at h2; simp at h2)
  · have h1 := List.mem_map.mp (show b ∈ (tkFoot f c' x d cl cb { cls := .type "function", data := .func fd } oc ol ob hs ts 0 tp).map (·.1) from hb)
    obtain ⟨q', hq', e'⟩ := h1
    have h2 := (hobj q' hq').2
    have h3 := (N q hq).1
    rw [e, ← e', h2] at h3
    cases h3
end

end
section
theorem lines_25 : True := by
  k_with_none
  k_with "execs cons" => (first | (k_fold; (try dsimp only); (try (with_reducible refine gen_toks ?_; intro tk9))) | (with_reducible refine gen_toks ?_; intro tk9))
  k_with "MY nth" => (k_dflt (first | exact @rfl _ (nthO _ 0) | exact @rfl _ (nthO _ 1) | exact @rfl _ (nthO _ 2) | exact @rfl _ (nthO _ 3) | exact @rfl _ (nthO _ 4) | exact @rfl _ (nthO _ 5) | exact @rfl _ (nthO _ 6) | exact @rfl _ (nthO _ 7) | exact @rfl _ (nthO _ 8) | exact @rfl _ (nthO _ 9) | exact @rfl _ (nthO _ 10) | exact @rfl _ (nthO _ 11) | exact @rfl _ (nthO _ 12) | exact @rfl _ (nthO _ 13) | exact @rfl _ (nthO _ 14) | exact @rfl _ (nthO _ 15) | exact @rfl _ (nthO _ 16) | exact @rfl _ (nthO _ 17) | exact @rfl _ (nthO _ 18) | exact @rfl _ (nthO _ 19) | exact @rfl _ (nthO _ 20) | exact @rfl _ (nthO _ 21) | exact @rfl _ (nthO _ 22) | exact @rfl _ (nthO _ 23) | exact @rfl _ (nthO _ 24) | exact @rfl _ (nthO _ 25)))
  k_with "MY nlt" => (first
      | exact NeN.ne (by with_reducible assumption)
      | exact Ne.symm (NeN.ne (by with_reducible assumption))
      | exact Nat.ne_of_gt (by with_reducible assumption)
      | exact Nat.ne_of_lt (by with_reducible assumption)
      | (refine' LtA.ne ?qh ?qe; (case qh => with_reducible assumption); (case qe => k_extra "MY nth"))
      | (refine' LtA.ne' ?qh ?qe; (case qh => with_reducible assumption); (case qe => k_extra "MY nth"))
      | (refine' LtA.neS ?qh ?qe; (case qh => with_reducible assumption); (case qe => k_extra "MY nth"))
      | (refine' LtA.neS' ?qh ?qe; (case qh => with_reducible assumption); (case qe => k_extra "MY nth"))
      | (refine' LtA.neT ?qh ?qe; (case qh => with_reducible assumption); (case qe => k_extra "MY nth"))
      | (refine' LtA.neT' ?qh ?qe; (case qh => with_reducible assumption); (case qe => k_extra "MY nth"))
      | (refine' OffA.ne ?qh ?qe; (case qh => with_reducible assumption); (case qe => k_extra "MY nth"))
      | (refine' OffA.ne' ?qh ?qe; (case qh => with_reducible assumption); (case qe => k_extra "MY nth"))
      | (refine' Apart.at ?qh ?qe ?qf ?qn; (case qh => with_reducible assumption); (case qe => k_extra "MY nth"); (case qf => k_extra "MY nth"); (case qn => exact rfl)))
  k_with "k_all" => ((k_dflt (refine' ltA_off ?qh ?qe; (case qh => with_reducible assumption); (case qe => first | exact @rfl _ (dropO 0 _) | exact @rfl _ (dropO 1 _) | exact @rfl _ (dropO 2 _) | exact @rfl _ (dropO 3 _) | exact @rfl _ (dropO 4 _) | exact @rfl _ (dropO 5 _) | exact @rfl _ (dropO 6 _) | exact @rfl _ (dropO 7 _) | exact @rfl _ (dropO 8 _) | exact @rfl _ (dropO 9 _) | exact @rfl _ (dropO 10 _) | exact @rfl _ (dropO 11 _)))))
  k_with "MY lts" => ((k_dflt (refine' ltA_lts ?qh ?qe; (case qh => with_reducible assumption); (case qe => first | exact @rfl _ (dropO 0 _) | exact @rfl _ (dropO 1 _) | exact @rfl _ (dropO 2 _) | exact @rfl _ (dropO 3 _) | exact @rfl _ (dropO 4 _) | exact @rfl _ (dropO 5 _) | exact @rfl _ (dropO 6 _) | exact @rfl _ (dropO 7 _) | exact @rfl _ (dropO 8 _) | exact @rfl _ (dropO 9 _) | exact @rfl _ (dropO 10 _) | exact @rfl _ (dropO 11 _)))))
  k_with "MY pick" => (first | (refine' LtA.lt ?qh ?qe; (case qh => with_reducible assumption); (case qe => k_extra "MY nth")) | (refine Nat.lt_succ_of_lt ?_; (refine' LtA.lt ?qh ?qe; (case qh => with_reducible assumption); (case qe => k_extra "MY nth"))) | (refine Nat.lt_succ_of_lt (Nat.lt_succ_of_lt ?_); (refine' LtA.lt ?qh ?qe; (case qh => with_reducible assumption); (case qe => k_extra "MY nth"))))
  k_with "MY lt" => (first
      | (refine' lt_le ?qh ?qe; (case qh => assumption); (case qe => exact rfl))
      | (refine' lt_p ?qh ?qe; (case qh => assumption); (case qe => exact rfl))
      | (refine' lt_pp ?qh ?qe; (case qh => assumption); (case qe => exact rfl))
      | (refine' lt_ppp ?qh ?qe; (case qh => assumption); (case qe => exact rfl))
      | (refine' le_le ?qh ?qe; (case qh => assumption); (case qe => exact rfl))
      | decide
      | ((try simp only [LtA] at *); omega))
  k_with "k_ne" => ((refine neN ?_; (try dsimp only); first | k_extra "MY nlt" | omega | ((try simp only [LtA, List.forall_mem_cons] at *); omega)))
  k_with "k_room" => (((try simp only [depth_under_make, depth_under_kw, depth_in1, depth_deeper, depth_caller]); (show _ < 1000); k_dflt (k_extra "MY lt")))
  k_with "MY enterB" => ((refine' code_foot ?k1 ?k2 ?k3 ?k4 ?k5 ?k6 ?k7 ?_ ?c1 ?c2 ?c3 ?c4; (case k1 => assumption); (case k2 => assumption); (case k3 => k_is); (case k4 => k_is); (case k5 => k_room); (case k6 => first | exact BindsTo.of_eq rfl | exact binds_K (by k_in) rfl (by k_is) rfl rfl rfl); (case k7 => exact locs rfl); (case c1 => exact rfl); (case c2 => exact rfl); (case c3 => exact rfl); (case c4 => decide)))
  k_with "MY enter" => ((refine' on_foot ?k1 ?k3 ?k4 ?k5 ?k6 ?k7 ?_ ?c1 ?c2 ?c3 ?c4; (case k1 => assumption); (case k3 => k_is); (case k4 => k_is); (case k5 => k_room); (case k6 => first | exact BindsTo.of_eq rfl | exact binds_K (by k_in) rfl (by k_is) rfl rfl rfl); (case k7 => exact locs rfl); (case c1 => exact rfl); (case c2 => exact rfl); (case c3 => exact rfl); (case c4 => decide); intro bx9 px9 lx9 mx9 gx9 hx9))
  k_with "setAttr ref" => ((k_here; first | ((with_reducible refine' lex_set_state ?k1 ?k2 ?k3 ?k4 ?U ?_); k_dflt ((case k1 => k_asm); (case k2 => k_asm); (case k3 => k_asm); (case k4 => k_mem); (case U => k_upd)); k_whole; intro h' F' N'; (try k_sweep)) | ((with_reducible refine' lex_set_token ?k1 ?k2 ?k3 ?k4 ?U ?_); k_dflt ((case k1 => k_asm); (case k2 => k_asm); (case k3 => k_asm); (case k4 => k_mem); (case U => k_upd)); k_whole; intro h' F' N'; (try k_sweep)) | ((with_reducible refine' lex_set_lineno ?k1 ?k2 ?k3 ?k4 ?U ?_); k_dflt ((case k1 => k_asm); (case k2 => k_asm); (case k3 => k_asm); (case k4 => k_mem); (case U => k_upd)); k_whole; intro h' F' N'; (try k_sweep)) | ((with_reducible refine' lex_set_infile ?k1 ?k2 ?k3 ?k4 ?U ?_); k_dflt ((case k1 => k_asm); (case k2 => k_asm); (case k3 => k_asm); (case k4 => k_mem); (case U => k_upd)); k_whole; intro h' F' N'; (try k_sweep)) | ((with_reducible refine' lex_set_instream ?k1 ?k2 ?k3 ?k4 ?U ?_); k_dflt ((case k1 => k_asm); (case k2 => k_asm); (case k3 => k_asm); (case k4 => k_mem); (case U => k_upd)); k_whole; intro h' F' N'; (try k_sweep))))
  k_with "eval Attribute Name" => ((k_here; k_dflt (refine' self_own ?F ?X ?N ?hv ?h1 ?h2 ?hK ?hl ?hh ?_; (case F => k_asm); (case hv => exact rfl); (case X => k_asm); (case N => k_asm); (case h1 => k_mem); (case hK => first | (with_reducible exact own732_state _) | (with_reducible exact own732_debug _) | (with_reducible exact own732_whitespace _) | (with_reducible exact own732_posix _) | (with_reducible exact own732_token _) | (with_reducible exact own732_quotes _) | (with_reducible exact own732_escape _) | (with_reducible exact own732_wordchars _) | (with_reducible exact own732_commenters _) | (with_reducible exact own732_instream _) | (with_reducible exact own732_lineno _) | (with_reducible exact own732__punctuation_chars _) | (with_reducible exact own732_infile _) | (with_reducible exact own732_eof _) | (with_reducible exact own732_escapedquotes _) | (with_reducible exact own732_whitespace_split _) | (with_reducible exact own732_pushback _) | (with_reducible exact own732_filestack _) | (with_reducible exact own732_source _) | (with_reducible exact own597_buf _) | (with_reducible exact own597_pos _) | (with_reducible exact own597_newline _)); (case h2 => k_mem); (case hl => k_get); (case hh => k_handed); k_whole)))
  k_with "ite" => (first | with_reducible (refine iteT ?_) | with_reducible (refine iteF ?_))
  k_with "CompEnd" => (refine stopMark ?_)
  k_with "eval Name" => ((k_here; (with_reducible show wpAny _ _ (eval (Expr.Name _ _) (compEnvC _ _ _ _)) _ _ _); k_dflt (first
      | refine LCgL.ld_own (by k_asm) (by k_mem) (by assumption) (by assumption) ?_
      | refine LCgL.ld_global (by k_asm) (by k_asm) (by k_asm) (by k_is) ?_
      | refine LCgL.ld_built (by k_asm) (by k_asm) (by k_asm) (by k_is) (by boot_by_name) (by decide) ?_)))
  k_with "eval Name" => ((k_here; (fail_if_success (with_reducible show wpAny _ _ (eval (Expr.Name _ _) (compEnvC _ _ _ _)) _ _ _)); k_dflt (refine' nameX_L ?F ?hv ?_; (case F => k_asm); (case hv => exact rfl); k_whole)))
  k_with "callWith ref" => ((k_here; k_dflt (refine' callWith_K ?k1 ?k2 ?_; (case k1 => k_asm); (case k2 => k_is); k_whole)))
  k_with "exec While" => (refine stopMark ?_)
  k_with "Exists" => (refine stopMark ?_)
  k_with "exec If" => (refine wpAny_If ?_)
  k_with "compareOp In str str" => (first | refine in_yes (by first | assumption | decide +kernel) ?_ | refine in_no (by first | assumption | decide +kernel) ?_)
  k_with "compareOp Eq str str" => (first | refine eq_yes (by first | assumption | rfl) ?_ | refine eq_no (by first | assumption | decide +kernel) ?_ | refine stopMark ?_)
  k_with "truthy str" => (first | refine truthy_sgn ?_ | refine truthy_yes (by assumption) (by first | assumption | omega) ?_ | refine truthy_no (by assumption) ?_)
  k_with "MY steps" => (repeat' (first | (k_unfold; (try dsimp only)) | (k_end; wrow_close) | walk1 | (dsimp only; walk1) | (leave1; try dsimp only) | fail "no step"))
  k_with "MY fin" => (repeat (first | dsimp only | (k_unfold; (try dsimp only))))
  k_with "MY open" => ((
      rename On _ _ _ _ _ => aOn9
      have Gk9 := aOn9.k
      have hap9 := aOn9.apart
      dsimp only [List.map] at hap9
      refine wpAny_call ?_
      k_dflt (k_extra "MY enter")))
  k_with "MY ret" => ((
      rename _ = hideAll _ _ => hgX
      rename Fr _ _ _ _ => kF
      rename News _ _ _ _ => kN
      rename (∀ _ _ _, Kept _ _ _ → _) => retX
      refine' retX _ _ _ (fun b o e => kF.keep b o (hgX ▸ e)) ?_
      (first | exact (fun q hq => (kN q hq).1) | exact ⟨_, fun q hq => (kN q hq).1⟩)))
  k_with "getMethod ref" => ((k_here; (with_reducible show wpAny _ _ (getMethod (Value.ref _) (PySem.Str.ofString "read") _) _ _ _); k_dflt (refine' kmu_own ?k1 ?k2 ?k3 ?k4 ?k5 ?_; (case k1 => k_asm); (case k2 => k_asm); (case k3 => k_inst); (case k4 => k_is); (case k5 => k_is); k_whole)))
  k_with "k_all" => (with_reducible assumption)
  k_with "call ref" => (((with_reducible show wpAny _ _ (call (Value.ref _) [Value.int _ _]) _ _ _); refine stopMark ?_))
  k_with "callWith ref" => ((k_here; k_dflt (refine' callWith_F ?k1 ?_; (case k1 => exact FnAt.of (by k_asm) (by k_mem)); k_whole)))
  k_with "And" => (((with_reducible show FnAt _ _ ∧ _); refine ⟨FnAt.of (by k_asm) (by k_mem), ?_⟩; (try dsimp only [List.nil_append, List.cons_append])))
  trivial
theorem truthy_b0 {prog : Program} {w : World} {A : Around} {s : Shared} {E : Value → Shared → Prop} {t : Tok} {Q : Bool → Shared → Prop} (h : ∀ k, Q false { s with toks := k }) : wpAny (model prog w) A (truthy (.bytes #[] t)) Q E s :=
  KBw.truthy_K (ks := []) rfl (by show 0 ≤ 1099511627776; decide) (h _)
theorem lines_26 : True := by
  k_with "truthy bytes" => ((k_here; refine truthy_b0 (fun _ => ?_)))
  trivial
theorem call_excM {prog : Program} {w : World} {A : Around} {s : Shared} {E : Value → Shared → Prop} {rest : List Value}
    (h : ∀ h' e, Heap.MadeExc s.heap h' e "ValueError" rest → E (.ref e) { s with heap := h' }) (hrest : rest.length ≤ sizeLine := by size_fits) : wpAny (model prog w) A (call (.type "ValueError") rest) (Raisable E) E s :=
  wpAny_call_exc PySem.F.excCall_ValueError (fun h' e hx => raisable_of_new excClass_ValueError (s₁ := { s with heap := h' }) hx.newExc (h h' e hx)) hrest
theorem lines_27 : True := by
  k_with "call type:ValueError" => ((refine call_excM ?_; intro _ _ _))
  k_with "leaving ref" => ((refine' leave_raiseS ?k1 ?k0 ?k2 ?k3 ?_; (case k0 => first | assumption | exact Heap.MadeExc.of (by assumption)); (case k2 => assumption); (case k1 => assumption); (case k3 => k_asm); k_whole; intro h' t' S' R' U'; (try dsimp only at S' R' U' ⊢)))
  k_with "noteFrame ref" => ((k_here; (rename RaisedS _ _ _ _ _ _ _ _ _ => rsX); k_dflt (refine' caught_SB (T' := "ValueError") ?R ?F ?K ?U ?XB ?TB ?D ?T0 ?ex PyProof.Rows.Boot.«ValueError» ?hn PySem.F.isExc_ValueError PySem.F.notTuple_ValueError ?hs ?_; (case R => assumption); (case F => assumption); (case K => assumption); (case U => assumption); (case XB => assumption); (case TB => assumption); (case D => assumption); (case T0 => first | assumption | exact KtsTurn.refl); (case hs => kts_sub); (case ex => k_is); (case hn => decide); k_whole); intro h' g' n₂ tk' T' F' N₂ G' N' K' X' P' D'; (try k_lift K')))
  k_with "call type:str" => ((k_here; (with_reducible show wpAny _ _ (call (Value.type "str") [Value.ref _]) _ _ _); (refine' str_got_one PySem.F.excStr_ValueError ?N ?G ?hu ?_; (case G => with_reducible assumption); (case N => with_reducible assumption); (case hu => (rw [cLine_is]; (show _ < 9900); (try simp only [units_in1, units_deeper, Around.mark_units]); (try dsimp only [AA, Around.deeper, Around.mark]); omega)))))
  trivial
section
variable {w : World} {A₀ A : Around} {s : Shared} {base h₀ : Heap} {outer : List Env} {env : Env} {L : Addr} {m : PySem.Str → Option Value} {news : List (Addr × Obj)} {nw : Tok → List En} {p0 : Program} {loose : List PySem.Str} {mean : ExcName → Option Value} {mg mb : PySem.Str → Option Value}
  {dep un : Nat} {gs : Option (List Code)} {E Q : Value → Shared → Prop} {f c' x d cl cb : Addr} {fd : FuncData} {oc ol ob : Obj} {oct bs : Array UInt8} {hs : Nat → Int} {ts : Nat → Tok} {tp t : Tok} {p n q : Nat}
theorem rs_good (k : TakeSpec w f c' x d cl cb { cls := .type "function", data := .func fd } oc ol ob oct) (_hd0 : (d, dictOf (exD hs ts (p : Int) tp f) 2) ∈ news) (hg : GoodAt oct p n q bs) (hz : oct.size ≤ 100000)
    (hm : ∀ q' ∈ tkFoot f c' x d cl cb { cls := .type "function", data := .func fd } oc ol ob hs ts (p : Int) tp, q' ∈ news) (hap : Apart [f, c', x, d, cl, cb]) (U : ∀ tp', Upd d (dictOf (exD hs ts (p : Int) tp f) 2) (dictOf (exD hs ts (q : Int) tp' f) 2) news (nw tp'))
    (B : Below A₀ base outer h₀) (F : Fr h₀ L s.heap m) (X : (hd.heap_39 w.params).In h₀) (N : News h₀ L s.heap news) (T' : Top p0 loose mean mg mb h₀) (hfr : env.frame = some L) (hke : env.scope.kind = .function)
    (hD : dep < 580) (hU : un < 3900)
    (h : ∀ h' tk' t' tp', Fr h₀ L h' m → News h₀ L h' (nw tp') → Q (.str (lat bs) t') { s with heap := h', toks := tk' }) :
    wpAny (model PR w) (AA none dep (env :: outer) gs un) (call (.ref 767) [.ref x]) Q E s := by
  obtain ⟨⟨b, hb, hbn⟩, hbs, hle, hn, hq⟩ := hg
  exact rs_use (p := p) (n := n) k hb hbn hbs hle hn hz hm hap U rfl (by rw [hq]) B F X N T' hfr hke hD hU h
end
theorem lines_28 : True := by
  k_with "call ref" => (((with_reducible show wpAny _ _ (call (Value.ref 767) _) _ _ _); k_dflt (refine' rs_good ?k ?hd0 ?hg ?hz ?hm ?hap6 ?U ?k1 ?k2 ?k3 ?k4 ?k5 ?k6 ?k7 ?kF ?kG ?_; (case k => with_reducible assumption); (case k4 => k_asm); (case hd0 => k_mem); (case hg => with_reducible assumption); (case U => (intro _; k_upd)); (case k1 => k_asm); (case k2 => k_asm); (case k3 => k_asm); (case k5 => k_asm); (case k6 => exact rfl); (case k7 => exact rfl); (case hz => with_reducible assumption); (case hap6 => with_reducible assumption); (case kF => ((try simp only [depth_under_make, depth_under_kw, depth_in1, depth_deeper, depth_caller, Around.mark_depth]); (try dsimp only [AA, Around.deeper, Around.mark]); omega)); (case kG => ((try simp only [units_under_kw, units_in1, units_deeper, Around.mark_units]); (try dsimp only [AA, Around.deeper, Around.mark]); omega)); (case hm => (repeat (first | exact List.forall_mem_nil _ | (refine' List.forall_mem_cons.mpr ⟨?qa, ?_⟩; (case qa => k_mem))))); k_whole); intro h' tk' t' tp' F' N'))
  trivial
set_option maxHeartbeats 8000000 in
theorem read_walk {w : World} {dep un : Nat} {gs : Option (List Code)} {s : Shared} {outer : List Env} {E Q : Value → Shared → Prop} {f c' x d cl cb : Addr} {fd : FuncData} {oc ol ob : Obj} {oct bs0 bs1 bs2 bs3 : Array UInt8} {hs : Nat → Int} {ts : Nat → Tok} {tp : Tok} {p0 p1 p2 p3 p n0 n1 n2 n3 : Nat}
    (k : TakeSpec w f c' x d cl cb { cls := .type "function", data := .func fd } oc ol ob oct) (g0 : GoodAt oct p0 n0 p1 bs0) (g1 : GoodAt oct p1 n1 p2 bs1) (g2 : GoodAt oct p2 n2 p3 bs2) (g3 : GoodAt oct p3 n3 p bs3) (hp : p = oct.size) (hz : oct.size ≤ 100000) (hD : dep < 500) (hU : un < 3500)
    (kd : KtsDicts (outer.filterMap (·.frame)) (hideAll s.heap ([f, c', x, d, cl, cb])))
    (a : OnB w (AA none dep outer gs un) outer s (tkFoot f c' x d cl cb { cls := .type "function", data := .func fd } oc ol ob hs ts (p0 : Int) tp))
    (ret : ∀ a h' tk', RdLeft (hideAll s.heap ([f, c', x, d, cl, cb])) (outer.filterMap (·.frame)) (lat bs0) (lat bs1) (lat bs2) (lat bs3) a h' → Q (.ref a) { s with heap := h', toks := tk' }) :
    wpAny (model PR w) (AA none dep outer gs un) (call (.ref 802) [.ref x]) Q E s := by
  have hap6 : Apart [f, c', x, d, cl, cb] := a.apart
  obtain ⟨⟨base, pp, loose, mean, mg, mb, G, XB⟩, Nf, hap⟩ := a
  dsimp only [List.map] at hap
  refine wpAny_call ?_
  k_dflt (k_extra "MY enterB")
  intro g L' h₁ hg F' N' B' X' T' hlt
  (try dsimp only)
  k_fold
  have kd' : KtsDicts (outer.filterMap (·.frame)) g := hg ▸ kd
  obtain ⟨XB1, TB1⟩ := XB
  k_extra "MY steps"
  refine stopGo ?_
  refine wpAny_While (while_once ?_)
  k_extra "MY steps"
  refine while_once ?_
  k_extra "MY steps"
  refine while_once ?_
  k_extra "MY steps"
  refine while_once ?_
  k_extra "MY steps"
  refine while_once ?_
  k_extra "MY steps"
  refine stopGo ?_
  k_dflt (refine' take_use (p := p) (n := 1) (q := p) (bs := #[]) k (by omega) (by omega) (by subst hp; apply Array.toList_inj.mp; simp) hz (by decide) ?hm hap6 ?U rfl rfl rfl ?k1 ?k2 ?k3 ?k4 ?k5 ?k6 ?k7 ?kF ?kG ?_)
  case k4 => k_asm
  case U => (intro _; k_upd)
  case k1 => k_asm
  case k2 => k_asm
  case k3 => k_asm
  case k5 => k_asm
  case k6 => exact rfl
  case k7 => exact rfl
  case kF => dsimp only [AA, Around.deeper]; k_extra "MY lt"
  case kG => dsimp only [AA, Around.deeper]; k_extra "MY lt"
  case hm => (repeat (first | exact List.forall_mem_nil _ | (refine' List.forall_mem_cons.mpr ⟨?qa, ?_⟩; (case qa => k_mem))))
  intro h3 tk3 t3 tp3 F3 N3
  k_extra "MY steps"
  rename KtsTurn _ _ _ => TT
  rename Fr _ L' _ _ => kF
  rename News _ L' _ _ => kN
  rw [hg] at TT
  exact ret _ _ _ (rdLeft_of TT kF kN (by first | k_extra "MY pick" | k_extra "MY nlt" | omega))

end
section
section
variable {w : World} {A₀ A : Around} {s : Shared} {base h₀ : Heap} {outer : List Env} {env : Env} {L : Addr} {m : PySem.Str → Option Value} {news rest : List (Addr × Obj)} {pp : Program} {loose : List PySem.Str} {mean : ExcName → Option Value} {mg mb : PySem.Str → Option Value}
  {dep un : Nat} {gs : Option (List Code)} {E Q : Value → Shared → Prop} {f c' x d cl cb : Addr} {fd : FuncData} {oc ol ob : Obj} {oct bs0 bs1 bs2 bs3 : Array UInt8} {hs : Nat → Int} {ts : Nat → Tok} {tp : Tok} {p1 p2 p3 p n0 n1 n2 n3 : Nat} {pi : Int}
theorem lread_use (k : TakeSpec w f c' x d cl cb { cls := .type "function", data := .func fd } oc ol ob oct) (g0 : GoodAt oct 0 n0 p1 bs0) (g1 : GoodAt oct p1 n1 p2 bs1) (g2 : GoodAt oct p2 n2 p3 bs2) (g3 : GoodAt oct p3 n3 p bs3) (hp : p = oct.size) (hz : oct.size ≤ 100000)
    (hap : Apart [f, c', x, d, cl, cb]) (hr : ∀ q ∈ rest, ∀ b ∈ [f, c', x, d, cl, cb], q.1 ≠ b)
    (B : Below A₀ base [] h₀) (F : Fr h₀ L s.heap m) (X : (hd.heap_39 w.params).In h₀)
    (N : News h₀ L s.heap (tkFoot f c' x d cl cb { cls := .type "function", data := .func fd } oc ol ob hs ts pi tp ++ rest)) (hpi : pi = ((0 : Nat) : Int)) (T' : Top pp loose mean mg mb h₀) (XB : (hd.heap_39 w.params).In base) (TB : Top pp loose mean mg mb base) (hfr : env.frame = some L) (hke : env.scope.kind = .function)
    (hD : dep < 500) (hU : un < 3500)
    (h : ∀ h' tk' a nl n t t0 t1 t2 t3, Fr h₀ L h' m → News h₀ L h' ((a, { cls := .type "tuple", data := .seq #[.ref nl, .str (PySem.Str.ofString "not enough data in stream to read uint1") t] }) :: (nl, W.listOf #[.str (lat bs0) t0, .str (lat bs1) t1, .str (lat bs2) t2, .str (lat bs3) t3] n) :: rest) →
      NeN a nl → (∀ q ∈ rest, NeN q.1 nl) → (∀ q ∈ rest, NeN q.1 a) → Q (.ref a) { s with heap := h', toks := tk' }) :
    wpAny (model PR w) (AA none dep [env] gs un) (call (.ref 802) [.ref x]) Q E s := by
  subst hpi
  obtain ⟨foot, hft⟩ : ∃ foot, foot = tkFoot f c' x d cl cb { cls := .type "function", data := .func fd } oc ol ob hs ts ((0 : Nat) : Int) tp := ⟨_, rfl⟩
  rw [← hft] at N
  have hs' : ∀ q ∈ foot, q ∈ foot ++ rest := fun q hq => List.mem_append_left _ hq
  have hfm : foot.map (·.1) = [f, c', x, d, cl, cb] := by rw [hft]; rfl
  have hfs : [env].filterMap (·.frame) = [L] := by simp [hfr]
  have kd : KtsDicts [L] (hideAll s.heap [f, c', x, d, cl, cb]) := hfm ▸ dicts_one F N hs'
  have onb : OnB w (AA none dep [env] gs un) [env] s foot := OnB.of B F X N T' XB TB rfl hfr hke hs' (hfm ▸ hap)
  refine read_walk (p0 := 0) k g0 g1 g2 g3 hp hz hD hU (by rw [hfs]; exact kd) (hft ▸ onb) fun a h' tk' hl => ?_
  obtain ⟨g', nl, n, t, t0, t1, t2, t3, TT, SS, hob, hne⟩ := hl
  obtain ⟨ha, hob⟩ := List.forall_mem_cons.mp hob
  obtain ⟨hb, hob⟩ := List.forall_mem_cons.mp hob
  rw [hfs, ← hfm] at TT
  rw [← hfm] at ha hb
  have off : ∀ q ∈ rest, q.1 ∉ foot.map (·.1) := fun q hq hm => hr q hq q.1 (hfm ▸ hm) rfl
  refine h h' tk' a nl n t t0 t1 t2 t3 (turn_fr F N hs' TT SS) (fun q hq => ?_) hne (fun q hq => ?_) (fun q hq => ?_)
  · rcases List.mem_cons.mp hq with e | hq
    · rw [e]; exact turn_new F N hs' ha.1 ha.2
    · rcases List.mem_cons.mp hq with e | hq
      · rw [e]; exact turn_new F N hs' hb.1 hb.2
      · exact turn_old F N TT SS (List.mem_append_right _ hq) (off q hq)
  · exact turn_ne N hb.2 (List.mem_append_right _ hq) (off q hq)
  · exact turn_ne N ha.2 (List.mem_append_right _ hq) (off q hq)
end

end
section
section
variable {w : World} {A₀ A : Around} {s : Shared} {base h₀ : Heap} {outer : List Env} {env : Env} {L : Addr} {m : PySem.Str → Option Value} {news rest : List (Addr × Obj)} {pp : Program} {loose : List PySem.Str} {mean : ExcName → Option Value} {mg mb : PySem.Str → Option Value}
  {dep un : Nat} {gs : Option (List Code)} {E Q : Value → Shared → Prop} {oct : Array UInt8} {t : Tok} {T : Txs}
theorem stream_law {e1 b tl a0 a1 a2 a3 c2 c1 : En}
    (B : Below A₀ base outer h₀) (F : Fr h₀ L s.heap m) (X : (hd.heap_39 w.params).In h₀) (N : News h₀ L s.heap [e1, b, tl, a0, a1, a2, a3, c2, c1, (816, tabObj #[]), (790, tabObj #[])]) (T' : Top pp loose mean mg mb h₀) (hfr : env.frame = some L) (hke : env.scope.kind = .function)
    (hne : AllNe 790 [b.1, tl.1, a0.1, a1.1, a2.1, a3.1, c2.1, c1.1])
    (hD : dep < 600) (hU : un < 4000)
    (h : ∀ h' tk' f c' x d cl cb fd oc ol ob hs ts tp ps, TakeSpec w f c' x d cl cb { cls := .type "function", data := .func fd } oc ol ob oct → Apart [f, c', x, d, cl, cb] → Fr h₀ L h' m →
      News h₀ L h' (tkFoot f c' x d cl cb { cls := .type "function", data := .func fd } oc ol ob hs ts 0 tp ++ [b, tl, a0, a1, a2, a3, c2, c1, (816, tabObj #[]), (790, tabObj ps)]) → (∀ q ∈ [b, tl, a0, a1, a2, a3, c2, c1, (816, tabObj #[]), (790, tabObj ps)], ∀ z ∈ [f, c', x, d, cl, cb], q.1 ≠ z) → Q (.ref x) { s with heap := h', toks := tk' }) :
    wpAny (model PR w) (AA none dep (env :: outer) gs un) (call (.ref 795) [.bytes oct t]) Q E s := by
  have hsub : ∀ q ∈ [b, tl, a0, a1, a2, a3, c2, c1, (816, tabObj #[])], q ∈ [e1, b, tl, a0, a1, a2, a3, c2, c1, (816, tabObj #[]), (790, tabObj #[])] := fun q hq =>
    List.mem_cons_of_mem e1 (List.mem_append_left [((790 : Addr), tabObj #[])] hq)
  have h790 : ∀ q ∈ [b, tl, a0, a1, a2, a3, c2, c1, ((816 : Addr), tabObj #[])], (q.1 != 790) = true := fun q hq => by
    have hq' : q ∈ [b, tl, a0, a1, a2, a3, c2, c1] ++ [((816 : Addr), tabObj #[])] := hq
    rcases List.mem_append.mp hq' with hq | hq
    · exact bne_iff_ne.mpr fun e => allNe_iff.mp hne q.1 (List.mem_map_of_mem (f := (·.1)) hq) e.symm
    · rw [List.mem_singleton.mp hq]; decide
  refine stream_use (by simp) B F X N T' hfr hke hD hU fun h' tk' f c' x d cl cb fd oc ol ob hs ts tp ps k hap F' N' hfar => ?_
  refine h h' tk' f c' x d cl cb fd oc ol ob hs ts tp ps k hap F' (fun q hq => ?_) (fun q hq z hz => ?_)
  · rcases List.mem_append.mp hq with hq | hq
    · exact N' q (List.mem_append_left _ hq)
    · refine N' q (List.mem_append_right _ ?_)
      have hq' : q ∈ [b, tl, a0, a1, a2, a3, c2, c1, ((816 : Addr), tabObj #[])] ++ [((790 : Addr), tabObj ps)] := hq
      rcases List.mem_append.mp hq' with hq | hq
      · exact List.mem_append_left _ (List.mem_filter.mpr ⟨hsub q hq, h790 q hq⟩)
      · exact List.mem_append_right _ hq
  · have hq' : q ∈ [b, tl, a0, a1, a2, a3, c2, c1, ((816 : Addr), tabObj #[])] ++ [((790 : Addr), tabObj ps)] := hq
    rcases List.mem_append.mp hq' with hq | hq
    · exact hfar q (hsub q hq) z hz
    · rw [List.mem_singleton.mp hq]
      exact hfar (790, tabObj #[]) (by simp) z hz
theorem read_law {f c' x d cl cb : Addr} {fd : FuncData} {oc ol ob : Obj} {hs : Nat → Int} {ts : Nat → Tok} {tp : Tok} (hT : WfT T 20) (k : TakeSpec w f c' x d cl cb { cls := .type "function", data := .func fd } oc ol ob oct) (hgo : Goods T oct)
    (hap : Apart [f, c', x, d, cl, cb]) (hr : ∀ q ∈ rest, ∀ b ∈ [f, c', x, d, cl, cb], q.1 ≠ b)
    (B : Below A₀ base [] h₀) (F : Fr h₀ L s.heap m) (X : (hd.heap_39 w.params).In h₀)
    (N : News h₀ L s.heap (tkFoot f c' x d cl cb { cls := .type "function", data := .func fd } oc ol ob hs ts 0 tp ++ rest)) (T' : Top pp loose mean mg mb h₀) (XB : (hd.heap_39 w.params).In base) (TB : Top pp loose mean mg mb base) (hfr : env.frame = some L) (hke : env.scope.kind = .function)
    (hD : dep < 500) (hU : un < 3500)
    (h : ∀ h' tk' a nl n t t0 t1 t2 t3, Fr h₀ L h' m → News h₀ L h' ((a, { cls := .type "tuple", data := .seq #[.ref nl, .str (PySem.Str.ofString "not enough data in stream to read uint1") t] }) :: (nl, W.listOf #[.str (bodyS T 0) t0, .str (bodyS T 1) t1, .str (bodyS T 2) t2, .str (bodyS T 3) t3] n) :: rest) →
      NeN a nl → (∀ q ∈ rest, NeN q.1 nl) → (∀ q ∈ rest, NeN q.1 a) → Q (.ref a) { s with heap := h', toks := tk' }) :
    wpAny (model PR w) (AA none dep [env] gs un) (call (.ref 802) [.ref x]) Q E s := by
  obtain ⟨p1, p2, p3, p, n0, n1, n2, n3, g0, g1, g2, g3, hp, hz⟩ := hgo
  refine lread_use k g0 g1 g2 g3 hp hz hap hr B F X N rfl T' XB TB hfr hke hD hU fun h' tk' a nl n t t0 t1 t2 t3 F' N' hne hrest hrest2 => ?_
  rw [lat_bs (hT.latin 0), lat_bs (hT.latin 1), lat_bs (hT.latin 2), lat_bs (hT.latin 3)] at N'
  exact h h' tk' a nl n t t0 t1 t2 t3 F' N' hne hrest hrest2
/-- a text list is what was written -/
theorem told_ne {A : Around} {a b : Addr} {b0 b1 b2 b3 : PySem.Str} {t0 t1 t2 t3 u0 u1 u2 u3 : Tok} {n1 : Nat} (N : News h₀ L s.heap news) (ma : (a, W.listOf #[.str b0 t0, .str b1 t1, .str b2 t2, .str b3 t3] n1) ∈ news) (mb : (b, LCg.lst [.str b0 u0, .str b1 u1, .str b2 u2, .str b3 u3]) ∈ news)
    (h0 : PyData.strOk b0 = true) (h1 : PyData.strOk b1 = true) (h2 : PyData.strOk b2 = true) (h3 : PyData.strOk b3 = true) (hu : A.units + 64 < cLine) (h : Q (.bool false) s) : wpAny (model PR w) A (compareOp .NotEq (.ref a) (.ref b)) Q E s := by
  have ok : ∀ d ∈ [Dat.str b0, .str b1, .str b2, .str b3], kqdOk 8 d = true := by
    intro d hd
    simp only [List.mem_cons, List.not_mem_nil, or_false] at hd
    rcases hd with rfl | rfl | rfl | rfl <;> assumption
  refine kqd_ne (xs := [.str b0 t0, .str b1 t1, .str b2 t2, .str b3 t3]) (ys := [.str b0 u0, .str b1 u1, .str b2 u2, .str b3 u3]) (n₁ := []) (n₂ := []) N ma rfl rfl (.cons (.str _ _) (.cons (.str _ _) (.cons (.str _ _) (.cons (.str _ _) .nil)))) (fun p hp => nomatch hp) mb rfl rfl
    (.cons (.str _ _) (.cons (.str _ _) (.cons (.str _ _) (.cons (.str _ _) .nil)))) (fun p hp => nomatch hp) ok ok hu ?_
  simp only [decide_true]
  exact h
theorem bodyS_ok {T : Txs} {m : Nat} (hT : WfT T m) (i : Nat) : PyData.strOk (bodyS T i) = true := by
  show (bodyT T i).toArray.all (· < 0x110000) = true
  have := hT.latin i
  simp only [List.all_toArray, List.all_eq_true]
  intro c hc
  have := this c hc
  simp
  (first | lia | omega)
/-- the end is what was asked -/
theorem end_ne {A : Around} {a b : Addr} {x y : PySem.Str} {i : Int} {t1 t2 t3 u1 u2 u3 : Tok} {n1 n2 : Nat} (N : News h₀ L s.heap news) (ma : (a, ({ cls := .type "tuple", data := .seq #[.none, .str x t1, .int i t2, .int 0 t3] n1 } : Obj)) ∈ news) (mb : (b, ({ cls := .type "tuple", data := .seq #[.none, .str y u1, .int i u2, .int 0 u3] n2 } : Obj)) ∈ news) (hy : y = x)
    (hx : PyData.strOk x = true) (hu : A.units + 64 < cLine) (h : Q (.bool false) s) : wpAny (model PR w) A (compareOp .NotEq (.ref a) (.ref b)) Q E s := by
  subst hy
  have ok : kqdOk 8 (.tuple [.none, .str y, .int i, .int 0]) = true := by simp [kqdOk, hx]
  have da : ∀ {a : Addr} {n : Nat} {t1 t2 t3 : Tok}, (a, ({ cls := .type "tuple", data := .seq #[.none, .str y t1, .int i t2, .int 0 t3] n } : Obj)) ∈ news → DatIn news (.ref a) (.tuple [.none, .str y, .int i, .int 0]) := fun {a n t1 t2 t3} hm =>
    DatIn.tuple (vs := [.none, .str y t1, .int i t2, .int 0 t3]) hm (.cons .none (.cons (.str _ _) (.cons (.int _ _) (.cons (.int _ _) .nil))))
  obtain ⟨as, ra⟩ := kqd_in N 8 (da ma) ok
  obtain ⟨bs, rb⟩ := kqd_in N 8 (da mb) ok
  have la := kqd_lay 8 _ ok
  have e : PyData.eqv (kqdP (.tuple [.none, .str y, .int i, .int 0])) (kqdP (.tuple [.none, .str y, .int i, .int 0])) = true := (kqd_eqv 8 _ _ 8 ok ok).mpr rfl
  have sh : SeqAt.shaped (kqdP (.tuple [.none, .str y, .int i, .int 0])) = true := by
    unfold SeqAt.shaped; rw [la.1, Bool.true_and]; exact decide_eq_true (Nat.le_trans la.2 (by decide))
  exact ne_dataH ra rb sh sh hu (by rw [e]; exact h)
theorem len_led {A : Around} {a : Addr} {xs : Array Value} {n : Nat} {k : Nat} (N : News h₀ L s.heap news) (hm : (a, W.listOf xs n) ∈ news) (hk : xs.size = k) (hz : k ≤ 900000) (h : ∀ t' tk, Q (.int (k : Int) t') { s with toks := tk }) : wpAny (model PR w) A (call (.builtin "len") [.ref a]) Q E s := by
  subst hk
  exact PyProof.Rows.len_list (News.isList N hm) (by (first | lia | omega)) (h _ _)
end
theorem farAll_one {b : Nat} {news : List En} (h : ∀ q ∈ news, NeN q.1 b) : ∀ q ∈ news, ∀ c ∈ [b], q.1 ≠ c := fun q hq c hc => by
  rw [List.mem_singleton.mp hc]; exact (h q hq).ne
theorem farAll_two {b c : Nat} {news : List En} (h : ∀ q ∈ news, NeN q.1 b) (h2 : ∀ q ∈ news, NeN q.1 c) : ∀ q ∈ news, ∀ x ∈ [b, c], q.1 ≠ x := fun q hq x hx => by
  rcases List.mem_cons.mp hx with rfl | hx
  · exact (h q hq).ne
  · rw [List.mem_singleton.mp hx]; exact (h2 q hq).ne
theorem apart10 {D D0 D1 D2 D3 tl a0 a1 a2 a3 : Nat} (h1 : Apart [D, D0, D1, D2, D3]) (h2 : Apart [tl, a0, a1, a2, a3]) (k0 : AllNe D [tl, a0, a1, a2, a3]) (k1 : AllNe D0 [tl, a0, a1, a2, a3]) (k2 : AllNe D1 [tl, a0, a1, a2, a3]) (k3 : AllNe D2 [tl, a0, a1, a2, a3]) (k4 : AllNe D3 [tl, a0, a1, a2, a3]) :
    Apart [D, D0, D1, D2, D3, tl, a0, a1, a2, a3] :=
  ⟨⟨h1.1.1, h1.1.2.1, h1.1.2.2.1, h1.1.2.2.2.1, k0⟩, ⟨h1.2.1.1, h1.2.1.2.1, h1.2.1.2.2.1, k1⟩, ⟨h1.2.2.1.1, h1.2.2.1.2.1, k2⟩, ⟨h1.2.2.2.1.1, k3⟩, k4, h2⟩
theorem apart10f {D D0 D1 D2 D3 tl a0 a1 a2 a3 : Nat} {l : List Nat} (h1 : Apart [D, D0, D1, D2, D3]) (h2 : Apart [tl, a0, a1, a2, a3]) (f : FarA l [D, D0, D1, D2, D3]) (s : ∀ x ∈ [tl, a0, a1, a2, a3], x ∈ l) :
    Apart [D, D0, D1, D2, D3, tl, a0, a1, a2, a3] :=
  have k : ∀ d ∈ [D, D0, D1, D2, D3], AllNe d [tl, a0, a1, a2, a3] := fun d hd => allNe_iff.mpr fun b hb e => f b (s b hb) d hd e.symm
  apart10 h1 h2 (k _ (.head _)) (k _ (.tail _ (.head _))) (k _ (.tail _ (.tail _ (.head _)))) (k _ (.tail _ (.tail _ (.tail _ (.head _))))) (k _ (.tail _ (.tail _ (.tail _ (.tail _ (.head _))))))

end
section
theorem mem_of_map {l : List Addr} {foot : List En} (h : foot.map (·.1) = l) {b : Addr} : b ∈ foot.map (·.1) ↔ b ∈ l := by rw [h]
section
variable {w : World} {A₀ A : Around} {s : Shared} {base h₀ : Heap} {outer : List Env} {env : Env} {L : Addr} {m : PySem.Str → Option Value} {news rest : List (Addr × Obj)} {pp : Program} {loose : List PySem.Str} {mean : ExcName → Option Value} {mg mb : PySem.Str → Option Value}
  {dep un : Nat} {gs : Option (List Code)} {E Q : Value → Shared → Prop} {T : Txs} {ns : List Note} {k n bl : Nat} {t0 t1 t2 t3 : Tok}
theorem spelled_use (hT : WfT T 20) (hex : Exs T [(3, 0)] ns k) (hnl : ns.length ≤ 900000) (hbl : (bl, W.listOf #[.str (bodyS T 0) t0, .str (bodyS T 1) t1, .str (bodyS T 2) t2, .str (bodyS T 3) t3] n) ∈ news) (h816 : (816, tabObj #[]) ∈ news) (hne : NeN bl 816)
    (hr : ∀ q ∈ rest, q ∈ news ∧ NeN q.1 bl ∧ NeN q.1 816)
    (B : Below A₀ base [] h₀) (F : Fr h₀ L s.heap m) (X : (hd.heap_39 w.params).In h₀) (N : News h₀ L s.heap news) (T' : Top pp loose mean mg mb h₀) (XB : (hd.heap_39 w.params).In base) (TB : Top pp loose mean mg mb base) (hfr : env.frame = some L) (hke : env.scope.kind = .function)
    (hD : dep < 500) (hU : un < 3000)
    (h : ∀ h' tk' a nl e no u1 u2 u3 ps, Fr h₀ L h' m → News h₀ L h' ((a, { cls := .type "tuple", data := .seq #[.ref nl, .ref e] }) :: (e, { cls := .type "tuple", data := .seq #[.none, .str ⟨#[51]⟩ u1, .int (((T 3).length : Int) + 1) u2, .int 0 u3] }) :: (nl, W.listOf (no.map fun p => Value.ref p.1).toArray 0) :: (rest ++ ((816, tabObj ps) :: no))) →
      NotesAt no ns → Q (.ref a) { s with heap := h', toks := tk' }) :
    wpAny (model PR w) (AA none dep [env] gs un) (call (.ref 821) [.ref bl]) Q E s := by
  obtain ⟨foot, hft⟩ : ∃ foot, foot = [(bl, W.listOf #[.str (bodyS T 0) t0, .str (bodyS T 1) t1, .str (bodyS T 2) t2, .str (bodyS T 3) t3] n), (816, tabObj #[])] := ⟨_, rfl⟩
  have hfm : foot.map (·.1) = [bl, 816] := by rw [hft]; rfl
  have hs' : ∀ q ∈ foot, q ∈ news := by
    rw [hft]
    intro q hq
    rcases List.mem_cons.mp hq with e | hq
    · rw [e]; exact hbl
    · rw [List.mem_singleton.mp hq]; exact h816
  have hfs : [env].filterMap (·.frame) = [L] := by simp [hfr]
  have onb : OnB w (AA none dep [env] gs un) [env] s foot := OnB.of B F X N T' XB TB rfl hfr hke hs' (by rw [hfm]; exact ⟨⟨hne, trivial⟩, trivial, trivial⟩)
  refine spelled (sp := spOf) (ns := ns) (k := k) (bodyS_list T 0) (bodyS_list T 1) (bodyS_list T 2) (bodyS_list T 3) hT.scan hT.down hT.nums hex hnl
    (Nat.le_trans (bodyS_len hT 0) (by decide)) (Nat.le_trans (bodyS_len hT 1) (by decide)) (Nat.le_trans (bodyS_len hT 2) (by decide)) (Nat.le_trans (bodyS_len hT 3) (by decide)) hD hU (hft ▸ onb) fun a h' tk' hl => ?_
  obtain ⟨g', nl, e, no, u1, u2, u3, TT, SS, hno, hob, ps, hps⟩ := hl
  rw [hfs, ← hfm] at TT
  rw [← hfm] at hob
  refine h h' tk' a nl e no u1 u2 u3 ps (turn_fr F N hs' TT SS) (fun q hq => ?_) hno
  have new : ∀ q, q ∈ ((a, ({ cls := .type "tuple", data := .seq #[.ref nl, .ref e] } : Obj)) :: (e, { cls := .type "tuple", data := .seq #[.none, .str ⟨#[51]⟩ u1, .int (((T 3).length : Int) + 1) u2, .int 0 u3] }) :: (nl, W.listOf (no.map fun p => Value.ref p.1).toArray 0) :: no) → h'.get? q.1 = some q.2 ∧ q.1 ≠ L ∧ h₀.get? q.1 = none :=
    fun q hq => turn_new F N hs' (hob q hq).1 (hob q hq).2
  have old : ∀ q ∈ rest, h'.get? q.1 = some q.2 ∧ q.1 ≠ L ∧ h₀.get? q.1 = none := fun q hq => turn_old F N TT SS (hr q hq).1 (by
    rw [hfm]
    intro z
    rcases List.mem_cons.mp z with z | z
    · exact (hr q hq).2.1 z
    · exact (hr q hq).2.2 (List.mem_singleton.mp z))
  rcases List.mem_cons.mp hq with e | hq
  · exact new q (e ▸ .head _)
  · rcases List.mem_cons.mp hq with e | hq
    · exact new q (e ▸ .tail _ (.head _))
    · rcases List.mem_cons.mp hq with e | hq
      · exact new q (e ▸ .tail _ (.tail _ (.head _)))
      · rcases List.mem_append.mp hq with hq | hq
        · exact old q hq
        · rcases List.mem_cons.mp hq with e | hq
          · rw [e]; exact ⟨hps, (N _ h816).2⟩
          exact new q (.tail _ (.tail _ (.tail _ hq)))
end

end
section
section
variable {w : World} {A₀ A : Around} {s : Shared} {base h₀ : Heap} {outer : List Env} {env : Env} {L : Addr} {m : PySem.Str → Option Value} {pp : Program} {loose : List PySem.Str} {mean : ExcName → Option Value} {mg mb : PySem.Str → Option Value}
  {dep un : Nat} {gs : Option (List Code)} {E Q : Value → Shared → Prop} {T : Txs} {ns : List Note} {k n nl : Nat} {t0 t1 t2 t3 : Tok} {p7 : Array Value}
theorem spelled_law {d d0 d1 d2 d3 tu b tl a0 a1 a2 a3 c2 c1 : En} (hT : WfT T 20) (hex : Exs T [(3, 0)] ns k) (hnl : ns.length ≤ 900000)
    (B : Below A₀ base [] h₀) (F : Fr h₀ L s.heap m) (X : (hd.heap_39 w.params).In h₀) (N : News h₀ L s.heap [d, d0, d1, d2, d3, tu, (nl, W.listOf #[.str (bodyS T 0) t0, .str (bodyS T 1) t1, .str (bodyS T 2) t2, .str (bodyS T 3) t3] n), b, tl, a0, a1, a2, a3, c2, c1, (816, tabObj #[]), (790, tabObj p7)])
    (T' : Top pp loose mean mg mb h₀) (XB : (hd.heap_39 w.params).In base) (TB : Top pp loose mean mg mb base) (hfr : env.frame = some L) (hke : env.scope.kind = .function)
    (hne : NeN nl 816) (h1 : AllNe nl [d.1, d0.1, d1.1, d2.1, d3.1, tl.1, a0.1, a1.1, a2.1, a3.1, c2.1, c1.1, 790]) (h2 : AllNe 816 [d.1, d0.1, d1.1, d2.1, d3.1, tl.1, a0.1, a1.1, a2.1, a3.1, c2.1, c1.1, 790])
    (hD : dep < 500) (hU : un < 3000)
    (h : ∀ h' tk' a nl e no u1 u2 u3 ps, Fr h₀ L h' m → News h₀ L h' ((a, { cls := .type "tuple", data := .seq #[.ref nl, .ref e] }) :: (e, { cls := .type "tuple", data := .seq #[.none, .str ⟨#[51]⟩ u1, .int (((T 3).length : Int) + 1) u2, .int 0 u3] }) :: (nl, W.listOf (no.map fun p => Value.ref p.1).toArray 0) :: d :: d0 :: d1 :: d2 :: d3 :: tl :: a0 :: a1 :: a2 :: a3 :: c2 :: c1 :: (790, tabObj p7) :: (816, tabObj ps) :: no) →
      NotesAt no ns → Q (.ref a) { s with heap := h', toks := tk' }) :
    wpAny (model PR w) (AA none dep [env] gs un) (call (.ref 821) [.ref nl]) Q E s := by
  refine spelled_use (rest := [d, d0, d1, d2, d3, tl, a0, a1, a2, a3, c2, c1, (790, tabObj p7)]) hT hex hnl (List.Mem.tail _ (.tail _ (.tail _ (.tail _ (.tail _ (.tail _ (.head _)))))))
    (List.Mem.tail _ (.tail _ (.tail _ (.tail _ (.tail _ (.tail _ (.tail _ (.tail _ (.tail _ (.tail _ (.tail _ (.tail _ (.tail _ (.tail _ (.tail _ (.head _)))))))))))))))) hne ?_ B F X N T' XB TB hfr hke hD hU ?_
  · intro q hq
    have k1 : NeN nl q.1 := allNe_iff.mp h1 q.1 (List.mem_map_of_mem (f := (·.1)) hq)
    have k2 : NeN 816 q.1 := allNe_iff.mp h2 q.1 (List.mem_map_of_mem (f := (·.1)) hq)
    exact ⟨(List.Sublist.cons₂ d (.cons₂ d0 (.cons₂ d1 (.cons₂ d2 (.cons₂ d3 (.cons tu (.cons _ (.cons b (.cons₂ tl (.cons₂ a0 (.cons₂ a1 (.cons₂ a2 (.cons₂ a3 (.cons₂ c2 (.cons₂ c1 (.cons _ (.cons₂ _ .slnil))))))))))))))))).subset hq, fun e => k1 e.symm, fun e => k2 e.symm⟩
  · exact h
end

end
section
section
variable {prog : Program} {w : World} {A : Around} {h₀ : Heap} {L : Addr} {m : PySem.Str → Option Value} {env : Env} {elt : Expr} {x : PySem.Str} {scope : Scope} {cl : List (PySem.Str × Addr)} {s : Shared} {S : List (Addr × Obj) → Prop} {P : Nat → Value → Prop} {Fin : List Value → List (Addr × Obj) → Prop}
/-- a comprehension's turns by an invariant over its list and its ledger -/
theorem comp_inv {n : Nat} {news₀ : List (Addr × Obj)} (Inv : Nat → List Value → List (Addr × Obj) → Prop) (h0 : Inv 0 [] news₀)
    (turn : ∀ i v I oI C oC D m₂ ys news h tk (E' : Value → Shared → Prop), i < n → P i v → Inv i ys news → LCg.NsObj oC m₂ → m₂ x = some v → Fr h₀ L h m → News h₀ L h ((I, oI) :: (C, oC) :: (D, LCg.lst ys) :: news) → LCg.Off3 I C D news → ((@Ne Nat I C) ∧ (@Ne Nat I D) ∧ (@Ne Nat C D)) →
      wpAny (model prog w) A (eval elt (compEnvC scope cl C env)) (LCg.CompEnd h₀ L m { s with heap := h, toks := tk } I oI C oC D (LCg.lst ys) S (fun y news' => Inv (i + 1) (ys ++ [y]) news')) E' { s with heap := h, toks := tk })
    (fin : ∀ ys news, Inv n ys news → Fin ys news) : LCg.CompRest prog w A h₀ L m env elt x scope cl s S P Fin n 0 [] news₀ := by
  have key : ∀ (j i : Nat) (ys : List Value) (news : List (Addr × Obj)), i + j = n → Inv i ys news → LCg.CompRest prog w A h₀ L m env elt x scope cl s S P Fin j i ys news := by
    intro j
    induction j with
    | zero =>
      intro i ys news hi hI
      have e : i = n := by (first | lia | omega)
      subst e
      exact LCg.CompRest.zero (fin ys news hI)
    | succ j ih =>
      intro i ys news hi hI
      refine LCg.CompRest.succ ?_
      intro v I oI C oC D m₂ h tk E' hv hC hx F N off ne
      refine wpAny_mono (turn i v I oI C oC D m₂ ys news h tk E' (by (first | lia | omega)) hv hI hC hx F N off ne) (fun y s₂ hq => ?_) fun _ _ e => e
      obtain ⟨h', tk', nw, e, F', N', off', hS, hn⟩ := hq
      exact ⟨h', tk', nw, e, F', N', off', hS, ih (i + 1) _ _ (by (first | lia | omega)) hn⟩
  exact key n 0 [] news₀ (by (first | lia | omega)) h0
end
/-- what a comprehension of notes has made so far -/
noncomputable def NotesInv (ns : List Note) (base : List En) (i : Nat) (ys : List Value) (news : List En) : Prop :=
  ∃ no, NotesAt no (ns.take i) ∧ ys = no.map (fun p => Value.ref p.1) ∧ news = base ++ no
theorem notesInv0 {ns : List Note} {base : List En} : NotesInv ns base 0 [] base := ⟨[], by simpa using NotesAt.nil, rfl, by simp⟩
theorem notesInv_step {ns : List Note} {base no : List En} {i : Nat} {n : Note} {a : Addr} {ta tb tc td : Tok} (h : NotesAt no (ns.take i)) (hn : ns[i]? = some n) :
    NotesInv ns base (i + 1) (no.map (fun p => Value.ref p.1) ++ [.ref a]) (base ++ (no ++ [(a, noteObj n ta tb tc td)])) :=
  ⟨no ++ [(a, noteObj n ta tb tc td)], by rw [List.take_add_one, hn]; exact h.snoc, by simp, rfl⟩
noncomputable def noteDat (n : Note) : Dat := .tuple [.str ⟨#[48 + n.at_]⟩, .int (n.line : Int), .int (n.deep : Int), .str ⟨n.word.toArray⟩]
theorem datAll_snoc {news : List En} {v : Value} {d : Dat} : ∀ {vs : List Value} {ds : List Dat}, DatAll news vs ds → DatIn news v d → DatAll news (vs ++ [v]) (ds ++ [d])
  | _, _, .nil, k => .cons k .nil
  | _, _, .cons h r, k => .cons h (datAll_snoc r k)
theorem notes_dat {no : List En} {ns : List Note} (h : NotesAt no ns) : DatAll no (no.map (fun p => Value.ref p.1)) (ns.map noteDat) := by
  induction h with
  | nil => exact .nil
  | @snoc l ns a n ta tb tc td h ih =>
    rw [List.map_append, List.map_append]
    refine datAll_snoc (ih.mono fun p hp => List.mem_append_left _ hp) ?_
    refine DatIn.tuple (vs := [.str ⟨#[48 + n.at_]⟩ ta, .int (n.line : Int) tb, .int (n.deep : Int) tc, .str ⟨n.word.toArray⟩ td]) (List.mem_append_right _ (.head _)) ?_
    exact .cons (.str _ _) (.cons (.int _ _) (.cons (.int _ _) (.cons (.str _ _) .nil)))
theorem fd_ok {T : Txs} {m i d k : Nat} {nt : Note} (hT : WfT T m) (h : Fd T i d k nt) (hi : i ≤ 3) : nt.at_ ≤ 3 ∧ nt.word ∈ wordsL := by
  induction h with
  | @w i d pre post z h => exact ⟨hi, hT.ok i (.w z) (by rw [h]; simp)⟩
  | @n i d j k pre post nt h hk hf ih =>
    have hj : j < i := (hT.ok i (.n j) (by rw [h]; simp)).1
    exact ih (by (first | lia | omega))
theorem words_ok : ∀ z ∈ wordsL, PyData.strOk ⟨z.toArray⟩ = true := by decide +kernel
theorem noteDat_ok {n : Note} (h : n.at_ ≤ 3 ∧ n.word ∈ wordsL) : kqdOk 8 (noteDat n) = true := by
  have h1 := words_ok n.word h.2
  have h2 : PyData.strOk (⟨#[48 + n.at_]⟩ : PySem.Str) = true := by
    have := h.1
    show (#[48 + n.at_]).all (· < 0x110000) = true
    simp
    (first | lia | omega)
  simp only [noteDat, kqdOk, List.all_cons, List.all_nil, h1, h2, Bool.and_self]
theorem notes_len {no : List En} {ns : List Note} (h : NotesAt no ns) : no.length = ns.length := by
  induction h with
  | nil => rfl
  | snoc h ih => simp [ih]
theorem dats_ok {T : Txs} {m : Nat} {ns : List Note} (hT : WfT T m) (hf : ∀ p n, ns[p]? = some n → Fd T 3 0 p n) : ∀ d ∈ ns.map noteDat, kqdOk 8 d = true := by
  intro d hd
  obtain ⟨n, hn, rfl⟩ := List.mem_map.mp hd
  obtain ⟨p, hp⟩ := List.getElem?_of_mem hn
  exact noteDat_ok (fd_ok hT (hf p n hp) (Nat.le_refl _))
/-- the last comparison -/
theorem notes_eq {prog : Program} {w : World} {A : Around} {E Q : Value → Shared → Prop} {s : Shared} {h₀ : Heap} {L a b : Addr} {news no no' : List En} {n1 : Nat} {ns : List Note} (N : News h₀ L s.heap news) (ma : (a, W.listOf (no.map fun p => Value.ref p.1).toArray n1) ∈ news) (mb : (b, LCg.lst (no'.map fun p => Value.ref p.1)) ∈ news)
    (h1 : NotesAt no ns) (h2 : NotesAt no' ns) (s1 : ∀ p ∈ no, p ∈ news) (s2 : ∀ p ∈ no', p ∈ news) (ok : ∀ d ∈ ns.map noteDat, kqdOk 8 d = true) (hu : A.units + 64 < cLine) (h : Q (.bool true) s) :
    wpAny (model prog w) A (compareOp .Eq (.ref a) (.ref b)) Q E s :=
  kqd_eq (xs := no.map fun p => Value.ref p.1) (ys := no'.map fun p => Value.ref p.1) N ma rfl rfl (notes_dat h1) s1 mb rfl rfl (notes_dat h2) s2 ok ok hu (by simp only [decide_true]; exact h)
theorem grow_sub {x i c d : En} {base no : List En} : ∀ p ∈ i :: c :: d :: (base ++ (no ++ [x])), p ∈ x :: i :: c :: d :: (base ++ no) := by
  intro p hp
  simp only [List.mem_cons, List.mem_append, List.not_mem_nil, or_false] at hp ⊢
  rcases hp with h | h | h | h | h | h <;> simp [h]
theorem grow_off {x i c d : En} {base no : List En} (off : LCg.Off3 i.1 c.1 d.1 (base ++ no)) (hx : ∀ q ∈ i :: c :: d :: (base ++ no), q.1 ≠ x.1) : LCg.Off3 i.1 c.1 d.1 (base ++ (no ++ [x])) := by
  refine LCg.Off3.of fun p hp => ?_
  rw [← List.append_assoc] at hp
  rcases List.mem_append.mp hp with hp | hp
  · exact LCg.Off3.mem off p hp
  · rw [List.mem_singleton.mp hp]
    exact ⟨fun e => hx i (.head _) e.symm, fun e => hx c (.tail _ (.head _)) e.symm, fun e => hx d (.tail _ (.tail _ (.head _))) e.symm⟩
theorem notes_size {no : List En} {ns : List Note} (h : NotesAt no ns) : (no.map fun p => Value.ref p.1).toArray.size = ns.length := by
  have := notes_len h
  simp [this]
theorem src_range {prog : Program} {w : World} {A : Around} {h₀ : Heap} {L : Addr} {m : PySem.Str → Option Value} {env : Env} {elt : Expr} {x : PySem.Str} {scope : Scope} {cl : List (PySem.Str × Addr)} {Fin : Shared → List Value → List (Addr × Obj) → Prop} {r : Addr} {t u v : Tok} {n : Nat} {news : List (Addr × Obj)} {s₁ : Shared}
    (hh : A.handled = none) (F : Fr h₀ L s₁.heap m) (N : News h₀ L s₁.heap news) (hr : IsRange s₁.heap r 0 (n : Int) 1 t u v) (hz : n ≤ 900000)
    (h : ∀ g, LCg.CompRest prog w A h₀ L m env elt x scope cl { s₁ with heap := g } (fun _ => True) (fun i v => ∃ t, v = .int (0 + (i : Int)) t) (Fin { s₁ with heap := g }) n 0 [] news) :
    LCg.CompSrc prog w A h₀ L m env elt x scope cl Fin (.ref r) s₁ :=
  LCg.CompSrc.range hh F N hr (small_one (by (first | lia | omega)) (by (first | lia | omega)) (by (first | lia | omega)) (by (first | lia | omega))) (by rw [rangeSize_nat]; first | done | (first | lia | omega)) (by rw [sizeLine_eq]; (first | lia | omega)) h
theorem sum_sz {prog : Program} {w : World} {A : Around} {E Q : Value → Shared → Prop} {s : Shared} {h₀ : Heap} {L D3 : Addr} {m : PySem.Str → Option Value} {news : List En} {T : Txs} {y0 y1 y2 y3 : List Value} {k : Nat} (hh : A.handled = none) (F : Fr h₀ L s.heap m) (N : News h₀ L s.heap news) (hm : (D3, LCg.lst y3) ∈ news) (hs : SzAre T y0 y1 y2 y3) (hk : k = sz T 3)
    (h : ∀ h' tk t', Fr h₀ L h' m → News h₀ L h' news → Q (.int (k : Int) t') { s with heap := h', toks := tk }) : wpAny (model prog w) A (call (.builtin "sum") [.ref D3]) Q E s := by
  refine sumK hh F N (News.isList N hm) hs.t3 fun h' tk t' F' N' => ?_
  rw [← szI_map T 3, fI_sum T 3, ← hk]
  exact h h' tk t' F' N'
theorem found_end {h₀ h' : Heap} {L I C D A : Addr} {m : PySem.Str → Option Value} {oI oC oD : Obj} {base no : List En} {ns : List Note} {n : Note} {i tk : Nat} {ta tb tc td : Tok} {s₁ : Shared} (F : Fr h₀ L h' m) (N : News h₀ L h' ((A, noteObj n ta tb tc td) :: (I, oI) :: (C, oC) :: (D, oD) :: (base ++ no)))
    (off : LCg.Off3 I C D (base ++ no)) (hA : ∀ q ∈ (I, oI) :: (C, oC) :: (D, oD) :: (base ++ no), q.1 ≠ A) (hno : NotesAt no (ns.take i)) (hn : ns[i]? = some n) :
    LCg.CompEnd h₀ L m s₁ I oI C oC D oD (fun _ => True) (fun y news' => NotesInv ns base (i + 1) (no.map (fun p => Value.ref p.1) ++ [y]) news') (.ref A) { s₁ with heap := h', toks := tk } :=
  LCg.CompEnd.intro F N (base ++ (no ++ [(A, noteObj n ta tb tc td)])) grow_sub (grow_off (i := (I, oI)) (c := (C, oC)) (d := (D, oD)) off hA) trivial (notesInv_step hno hn)

end
section
theorem lines_29 : True := by
  k_with_none
  k_with "execs cons" => (first | (k_fold; (try dsimp only); (try (with_reducible refine gen_toks ?_; intro tk9))) | (with_reducible refine gen_toks ?_; intro tk9))
  k_with "MY nth" => (k_dflt (first | exact @rfl _ (nthO _ 0) | exact @rfl _ (nthO _ 1) | exact @rfl _ (nthO _ 2) | exact @rfl _ (nthO _ 3) | exact @rfl _ (nthO _ 4) | exact @rfl _ (nthO _ 5) | exact @rfl _ (nthO _ 6) | exact @rfl _ (nthO _ 7) | exact @rfl _ (nthO _ 8) | exact @rfl _ (nthO _ 9) | exact @rfl _ (nthO _ 10) | exact @rfl _ (nthO _ 11) | exact @rfl _ (nthO _ 12) | exact @rfl _ (nthO _ 13) | exact @rfl _ (nthO _ 14) | exact @rfl _ (nthO _ 15) | exact @rfl _ (nthO _ 16) | exact @rfl _ (nthO _ 17) | exact @rfl _ (nthO _ 18) | exact @rfl _ (nthO _ 19) | exact @rfl _ (nthO _ 20) | exact @rfl _ (nthO _ 21) | exact @rfl _ (nthO _ 22) | exact @rfl _ (nthO _ 23) | exact @rfl _ (nthO _ 24) | exact @rfl _ (nthO _ 25)))
  k_with "MY nlt" => (first
      | exact NeN.ne (by with_reducible assumption)
      | exact Ne.symm (NeN.ne (by with_reducible assumption))
      | exact Nat.ne_of_gt (by with_reducible assumption)
      | exact Nat.ne_of_lt (by with_reducible assumption)
      | (refine' LtA.ne ?qh ?qe; (case qh => with_reducible assumption); (case qe => k_extra "MY nth"))
      | (refine' LtA.ne' ?qh ?qe; (case qh => with_reducible assumption); (case qe => k_extra "MY nth"))
      | (refine' LtA.neS ?qh ?qe; (case qh => with_reducible assumption); (case qe => k_extra "MY nth"))
      | (refine' LtA.neS' ?qh ?qe; (case qh => with_reducible assumption); (case qe => k_extra "MY nth"))
      | (refine' LtA.neT ?qh ?qe; (case qh => with_reducible assumption); (case qe => k_extra "MY nth"))
      | (refine' LtA.neT' ?qh ?qe; (case qh => with_reducible assumption); (case qe => k_extra "MY nth"))
      | (refine' OffA.ne ?qh ?qe; (case qh => with_reducible assumption); (case qe => k_extra "MY nth"))
      | (refine' OffA.ne' ?qh ?qe; (case qh => with_reducible assumption); (case qe => k_extra "MY nth"))
      | (refine' Apart.at ?qh ?qe ?qf ?qn; (case qh => with_reducible assumption); (case qe => k_extra "MY nth"); (case qf => k_extra "MY nth"); (case qn => exact rfl)))
  k_with "k_all" => ((k_dflt (refine' ltA_off ?qh ?qe; (case qh => with_reducible assumption); (case qe => first | exact @rfl _ (dropO 0 _) | exact @rfl _ (dropO 1 _) | exact @rfl _ (dropO 2 _) | exact @rfl _ (dropO 3 _) | exact @rfl _ (dropO 4 _) | exact @rfl _ (dropO 5 _) | exact @rfl _ (dropO 6 _) | exact @rfl _ (dropO 7 _) | exact @rfl _ (dropO 8 _) | exact @rfl _ (dropO 9 _) | exact @rfl _ (dropO 10 _) | exact @rfl _ (dropO 11 _)))))
  k_with "MY lts" => ((k_dflt (refine' ltA_lts ?qh ?qe; (case qh => with_reducible assumption); (case qe => first | exact @rfl _ (dropO 0 _) | exact @rfl _ (dropO 1 _) | exact @rfl _ (dropO 2 _) | exact @rfl _ (dropO 3 _) | exact @rfl _ (dropO 4 _) | exact @rfl _ (dropO 5 _) | exact @rfl _ (dropO 6 _) | exact @rfl _ (dropO 7 _) | exact @rfl _ (dropO 8 _) | exact @rfl _ (dropO 9 _) | exact @rfl _ (dropO 10 _) | exact @rfl _ (dropO 11 _)))))
  k_with "MY pick" => (first | (refine' LtA.lt ?qh ?qe; (case qh => with_reducible assumption); (case qe => k_extra "MY nth")) | (refine Nat.lt_succ_of_lt ?_; (refine' LtA.lt ?qh ?qe; (case qh => with_reducible assumption); (case qe => k_extra "MY nth"))) | (refine Nat.lt_succ_of_lt (Nat.lt_succ_of_lt ?_); (refine' LtA.lt ?qh ?qe; (case qh => with_reducible assumption); (case qe => k_extra "MY nth"))))
  k_with "MY lt" => (first
      | (refine' lt_le ?qh ?qe; (case qh => assumption); (case qe => exact rfl))
      | (refine' lt_p ?qh ?qe; (case qh => assumption); (case qe => exact rfl))
      | (refine' lt_pp ?qh ?qe; (case qh => assumption); (case qe => exact rfl))
      | (refine' lt_ppp ?qh ?qe; (case qh => assumption); (case qe => exact rfl))
      | (refine' le_le ?qh ?qe; (case qh => assumption); (case qe => exact rfl))
      | decide
      | ((try simp only [LtA] at *); omega))
  k_with "k_ne" => ((refine neN ?_; (try dsimp only); first | k_extra "MY nlt" | omega | ((try simp only [LtA, List.forall_mem_cons] at *); omega)))
  k_with "k_room" => (((try simp only [depth_under_make, depth_under_kw, depth_in1, depth_deeper, depth_caller]); (show _ < 1000); k_dflt (k_extra "MY lt")))
  k_with "MY enterB" => ((refine' code_foot ?k1 ?k2 ?k3 ?k4 ?k5 ?k6 ?k7 ?_ ?c1 ?c2 ?c3 ?c4; (case k1 => assumption); (case k2 => assumption); (case k3 => k_is); (case k4 => k_is); (case k5 => k_room); (case k6 => first | exact BindsTo.of_eq rfl | exact binds_K (by k_in) rfl (by k_is) rfl rfl rfl); (case k7 => exact locs rfl); (case c1 => exact rfl); (case c2 => exact rfl); (case c3 => exact rfl); (case c4 => decide)))
  k_with "MY enter" => ((refine' on_foot ?k1 ?k3 ?k4 ?k5 ?k6 ?k7 ?_ ?c1 ?c2 ?c3 ?c4; (case k1 => assumption); (case k3 => k_is); (case k4 => k_is); (case k5 => k_room); (case k6 => first | exact BindsTo.of_eq rfl | exact binds_K (by k_in) rfl (by k_is) rfl rfl rfl); (case k7 => exact locs rfl); (case c1 => exact rfl); (case c2 => exact rfl); (case c3 => exact rfl); (case c4 => decide); intro bx9 px9 lx9 mx9 gx9 hx9))
  k_with "setAttr ref" => ((k_here; first | ((with_reducible refine' lex_set_state ?k1 ?k2 ?k3 ?k4 ?U ?_); k_dflt ((case k1 => k_asm); (case k2 => k_asm); (case k3 => k_asm); (case k4 => k_mem); (case U => k_upd)); k_whole; intro h' F' N'; (try k_sweep)) | ((with_reducible refine' lex_set_token ?k1 ?k2 ?k3 ?k4 ?U ?_); k_dflt ((case k1 => k_asm); (case k2 => k_asm); (case k3 => k_asm); (case k4 => k_mem); (case U => k_upd)); k_whole; intro h' F' N'; (try k_sweep)) | ((with_reducible refine' lex_set_lineno ?k1 ?k2 ?k3 ?k4 ?U ?_); k_dflt ((case k1 => k_asm); (case k2 => k_asm); (case k3 => k_asm); (case k4 => k_mem); (case U => k_upd)); k_whole; intro h' F' N'; (try k_sweep)) | ((with_reducible refine' lex_set_infile ?k1 ?k2 ?k3 ?k4 ?U ?_); k_dflt ((case k1 => k_asm); (case k2 => k_asm); (case k3 => k_asm); (case k4 => k_mem); (case U => k_upd)); k_whole; intro h' F' N'; (try k_sweep)) | ((with_reducible refine' lex_set_instream ?k1 ?k2 ?k3 ?k4 ?U ?_); k_dflt ((case k1 => k_asm); (case k2 => k_asm); (case k3 => k_asm); (case k4 => k_mem); (case U => k_upd)); k_whole; intro h' F' N'; (try k_sweep))))
  k_with "eval Attribute Name" => ((k_here; k_dflt (refine' self_own ?F ?X ?N ?hv ?h1 ?h2 ?hK ?hl ?hh ?_; (case F => k_asm); (case hv => exact rfl); (case X => k_asm); (case N => k_asm); (case h1 => k_mem); (case hK => first | (with_reducible exact own732_state _) | (with_reducible exact own732_debug _) | (with_reducible exact own732_whitespace _) | (with_reducible exact own732_posix _) | (with_reducible exact own732_token _) | (with_reducible exact own732_quotes _) | (with_reducible exact own732_escape _) | (with_reducible exact own732_wordchars _) | (with_reducible exact own732_commenters _) | (with_reducible exact own732_instream _) | (with_reducible exact own732_lineno _) | (with_reducible exact own732__punctuation_chars _) | (with_reducible exact own732_infile _) | (with_reducible exact own732_eof _) | (with_reducible exact own732_escapedquotes _) | (with_reducible exact own732_whitespace_split _) | (with_reducible exact own732_pushback _) | (with_reducible exact own732_filestack _) | (with_reducible exact own732_source _) | (with_reducible exact own597_buf _) | (with_reducible exact own597_pos _) | (with_reducible exact own597_newline _)); (case h2 => k_mem); (case hl => k_get); (case hh => k_handed); k_whole)))
  k_with "ite" => (first | with_reducible (refine iteT ?_) | with_reducible (refine iteF ?_))
  k_with "CompEnd" => (refine stopMark ?_)
  k_with "eval Name" => ((k_here; (with_reducible show wpAny _ _ (eval (Expr.Name _ _) (compEnvC _ _ _ _)) _ _ _); k_dflt (first
      | refine LCgL.ld_own (by k_asm) (by k_mem) (by assumption) (by assumption) ?_
      | refine LCgL.ld_global (by k_asm) (by k_asm) (by k_asm) (by k_is) ?_
      | refine LCgL.ld_built (by k_asm) (by k_asm) (by k_asm) (by k_is) (by boot_by_name) (by decide) ?_)))
  k_with "eval Name" => ((k_here; (fail_if_success (with_reducible show wpAny _ _ (eval (Expr.Name _ _) (compEnvC _ _ _ _)) _ _ _)); k_dflt (refine' nameX_L ?F ?hv ?_; (case F => k_asm); (case hv => exact rfl); k_whole)))
  k_with "callWith ref" => ((k_here; k_dflt (refine' callWith_K ?k1 ?k2 ?_; (case k1 => k_asm); (case k2 => k_is); k_whole)))
  k_with "exec While" => (refine stopMark ?_)
  k_with "Exists" => (refine stopMark ?_)
  k_with "exec If" => (refine wpAny_If ?_)
  k_with "compareOp In str str" => (first | refine in_yes (by first | assumption | decide +kernel) ?_ | refine in_no (by first | assumption | decide +kernel) ?_)
  k_with "compareOp Eq str str" => (first | refine eq_yes (by first | assumption | rfl) ?_ | refine eq_no (by first | assumption | decide +kernel) ?_ | refine stopMark ?_)
  k_with "truthy str" => (first | refine truthy_sgn ?_ | refine truthy_yes (by assumption) (by first | assumption | omega) ?_ | refine truthy_no (by assumption) ?_)
  k_with "MY steps" => (repeat' (first | (k_unfold; (try dsimp only)) | (k_end; wrow_close) | walk1 | (dsimp only; walk1) | (leave1; try dsimp only) | fail "no step"))
  k_with "MY fin" => (repeat (first | dsimp only | (k_unfold; (try dsimp only))))
  k_with "MY open" => ((
      rename On _ _ _ _ _ => aOn9
      have Gk9 := aOn9.k
      have hap9 := aOn9.apart
      dsimp only [List.map] at hap9
      refine wpAny_call ?_
      k_dflt (k_extra "MY enter")))
  k_with "MY ret" => ((
      rename _ = hideAll _ _ => hgX
      rename Fr _ _ _ _ => kF
      rename News _ _ _ _ => kN
      rename (∀ _ _ _, Kept _ _ _ → _) => retX
      refine' retX _ _ _ (fun b o e => kF.keep b o (hgX ▸ e)) ?_
      (first | exact (fun q hq => (kN q hq).1) | exact ⟨_, fun q hq => (kN q hq).1⟩)))
  k_with "k_all" => (with_reducible assumption)
  k_with "call ref" => (((with_reducible show wpAny _ _ (call (Value.ref 814) _) _ _ _); (k_dflt (refine' texts_use (dep := _) (un := _) (gs := _) ?hl ?hi ?hns ?k1 ?k2 ?k3 ?k4 ?k5 ?k6 ?k7 ?kF ?kG ?_; (case k4 => k_asm); (case hl => assumption); (case hi => assumption); (case hns => omega); (case k1 => k_asm); (case k2 => k_asm); (case k3 => k_asm); (case k5 => k_asm); (case k6 => exact rfl); (case k7 => exact rfl); (case kF => decide); (case kG => decide); k_whole)); intro h' tk' tl T a0 a1 a2 a3 n0 n1 n2 n3 v0 v1 v2 v3 F' N' hT tx hapT hfar; replace hfar := farA_of hfar; (try dsimp only [txFoot, List.cons_append, List.nil_append] at N'); (try dsimp only); refine stopMark ?_))
  k_with "eval ListComp" => ((k_here; k_dflt (refine ListComp_S (by k_asm) (by with_unfolding_all rfl) (by decide) (by rfl) (by decide) (by rfl) ?_)))
  k_with "eval ListComp" => ((k_here; k_dflt (refine LCg.ListComp_U (F₀ := by k_asm) (by with_unfolding_all rfl) (by decide) (by rfl) (by decide) (by rfl) ?_); k_dflt lcg_toSrc))
  k_with "exec Assign cons ListComp" => ((k_here; k_dflt (refine LCg.Assign_ListComp_U (F₀ := by k_asm) (by rfl) (by with_unfolding_all rfl) (by with_unfolding_all rfl) (by decide) (by rfl) (by decide) (by rfl) (by rfl) (by rfl) ?_); k_dflt lcg_toSrc))
  k_with "CompSrc" => ((k_dflt (refine' src_range ?hh ?k1 ?k2 ?hr ?hz ?_; (case hh => rfl); (case k1 => k_asm); (case k2 => k_asm); (case hr => assumption); (case hz => assumption); k_whole); intro g'; refine stopMark ?_))
  k_with "CompSrc" => ((k_dflt (refine LCg.CompSrc.ledger (by rfl) (by k_asm) (by k_asm) (by first | with_reducible assumption | k_mem) (by first | (rw [sizeLine_eq]; exact Nat.le_of_ble_eq_true rfl) | (simp only [List.size_toArray, sizeLine_eq]; omega)) ?_); intro g'; refine stopMark ?_))
  k_with "call type:str" => (first
      | ((with_reducible show wpAny _ _ (call (Value.type "str") [Value.int _ _]) _ _ _); refine str_small (by omega) ?_)
      | ((with_reducible show wpAny _ _ (call (Value.type "str") [Value.str _ _]) _ _ _); refine str_str ?_))
  k_with "call ref" => (((with_reducible show wpAny _ _ (call (Value.ref 744) _) _ _ _); (k_dflt (refine' quote_use (dep := _) (un := _) (gs := _) ?hw ?k1 ?k2 ?k3 ?k4 ?k5 ?k6 ?k7 ?kF ?kG ?_; (case hw => assumption); (case k4 => k_asm); (case k1 => k_asm); (case k2 => k_asm); (case k3 => k_asm); (case k5 => k_asm); (case k6 => exact rfl); (case k7 => exact rfl); (case kF => decide); (case kG => decide); k_whole)); intro h' tk' t' F' N'))
  k_with "binaryOp Add str str" => (((refine row_plus (by assumption) ?_); intro _ _))
  k_with "call builtin:str.join" => ((k_dflt (refine' join_rows ?hT ?k4 ?hm ?hy ?_; (case k4 => k_asm); (case hm => k_mem); (case hT => assumption); (case hy => assumption); k_whole); intro _ _))
  k_with "FinE" => (((unfold LCg.FinE); intro D' h' tk' F' N' o1'; (replace o1' := offA_of o1'); (try dsimp only [List.map] at o1'); (try dsimp only [List.nil_append, List.cons_append] at N'); (try dsimp only)))
  k_with "FinA" => (((unfold LCg.FinA); intro D' h' tk' F' N' o1'; (replace o1' := offA_of o1'); (try dsimp only [List.map] at o1'); (try dsimp only [List.nil_append, List.cons_append] at N'); (try dsimp only)))
  k_with "getMethod bytes" => (((with_reducible show wpAny _ _ (getMethod (Value.bytes _ _) (PySem.Str.ofString "join") _) _ _ _); refine getMethod_join ?_))
  k_with "call builtin:len" => (((with_reducible show wpAny _ _ (call (Value.builtin "len") [Value.str _ _]) _ _ _); refine len_body (by assumption) ?_; intro _ _))
  k_with "call builtin:ord" => ((refine P.ord_of_char ?_))
  k_with "binaryOp Add ref ref" => ((k_dflt (refine' addl ?k1 ?k2 ?k3 ?k4 ?_ ?k5; (case k1 => k_asm); (case k2 => k_asm); (case k3 => k_mem); (case k4 => k_mem); (case k5 => simp only [List.size_toArray, List.length_cons, List.length_nil]; omega); k_whole); intro D' h' F' N' l1))
  k_with "call type:bytes" => (((with_reducible show wpAny _ _ (call (Value.type "bytes") [Value.ref _]) _ _ _); k_dflt (refine' bytes_enc ?hT ?hh ?k1 ?k2 ?hm ?hy ?_; (case k2 => k_asm); (case k1 => k_asm); (case hm => k_mem); (case hT => assumption); (case hy => assumption); (case hh => rfl); k_whole); intro h' t' tk' F' N'))
  k_with "call builtin:bytes.join" => ((k_dflt (refine' join_encs ?hT ?k2 ?hm ?_; (case k2 => k_asm); (case hm => k_mem); (case hT => assumption); k_whole); intro oct t' k' hgo))
  k_with "k_ne" => ((refine neN ?_; k_extra "MY ne"))
  k_with "MY ne" => (((show @Ne Nat _ _); (try dsimp only); first | k_extra "MY nlt" | (refine' Apart.at hapT ?qe ?qf ?qn; (case qe => k_extra "MY nth"); (case qf => k_extra "MY nth"); (case qn => exact rfl)) | (refine' Apart.at hapD ?qe ?qf ?qn; (case qe => k_extra "MY nth"); (case qf => k_extra "MY nth"); (case qn => exact rfl)) | (refine' FarA.ne farX0 ?qe ?qf; (case qe => k_extra "MY nth"); (case qf => k_extra "MY nth")) | (refine' FarA.ne' farX0 ?qe ?qf; (case qe => k_extra "MY nth"); (case qf => k_extra "MY nth")) | (refine' FarA.ne farX1 ?qe ?qf; (case qe => k_extra "MY nth"); (case qf => k_extra "MY nth")) | (refine' FarA.ne' farX1 ?qe ?qf; (case qe => k_extra "MY nth"); (case qf => k_extra "MY nth")) | (refine' FarA.ne farX2 ?qe ?qf; (case qe => k_extra "MY nth"); (case qf => k_extra "MY nth")) | (refine' FarA.ne' farX2 ?qe ?qf; (case qe => k_extra "MY nth"); (case qf => k_extra "MY nth")) | omega))
  k_with "MY allne" => (((try dsimp only); repeat' (first | exact trivial | refine And.intro (by k_extra "MY ne") ?_)))
  k_with "call ref" => (((with_reducible show wpAny _ _ (call (Value.ref 795) _) _ _ _); (k_dflt (refine' stream_law (dep := _) (un := _) (gs := _) ?k1 ?k2 ?k3 ?k4 ?k5 ?k6 ?k7 ?hne ?kF ?kG ?_; (case k4 => k_asm); (case k1 => k_asm); (case k2 => k_asm); (case k3 => k_asm); (case k5 => k_asm); (case k6 => exact rfl); (case k7 => exact rfl); (case hne => k_extra "MY allne"); (case kF => decide); (case kG => decide); k_whole)); intro h' tk' f c' x d cl cb fd oc ol ob hs ts tp ps k hap F' N' hfar))
  k_with "call ref" => (((with_reducible show wpAny _ _ (call (Value.ref 802) _) _ _ _); (k_dflt (refine' read_law (dep := _) (un := _) (gs := _) ?hT ?kts ?hgo ?hap ?hr ?k1 ?k2 ?k3 ?k4 ?k5 ?XB ?TB ?k6 ?k7 ?kF ?kG ?_; (case k4 => k_asm); (case kts => with_reducible assumption); (case hgo => with_reducible assumption); (case hap => with_reducible assumption); (case hr => with_reducible assumption); (case hT => assumption); (case k1 => k_asm); (case k2 => k_asm); (case k3 => k_asm); (case k5 => k_asm); (case XB => k_asm); (case TB => k_asm); (case k6 => exact rfl); (case k7 => exact rfl); (case kF => decide); (case kG => decide); k_whole)); intro h' tk' a nl n t t0 t1 t2 t3 F' N' hne hrest hrest2; replace hrest := farA_of (farAll_two hrest hrest2); refine stopMark ?_))
  k_with "MY units" => ((rw [cLine_is]; (show _ < 9900); (try simp only [units_in1, units_deeper, Around.mark_units]); first | decide | omega))
  k_with "compareOp NotEq ref ref" => (first
      | (k_dflt (refine' told_ne ?k2 ?ma ?mb ?h0 ?h1 ?h2 ?h3 ?hu ?_; (case k2 => k_asm); (case ma => k_mem); (case mb => k_mem); (case h0 => exact bodyS_ok (by assumption) _); (case h1 => exact bodyS_ok (by assumption) _); (case h2 => exact bodyS_ok (by assumption) _); (case h3 => exact bodyS_ok (by assumption) _); (case hu => k_extra "MY units"); k_whole))
      | (k_dflt (refine' end_ne ?k2 ?ma ?mb ?hy ?hx ?hu ?_; (case k2 => k_asm); (case ma => k_mem); (case mb => k_mem); (case hy => decide); (case hx => decide +kernel); (case hu => k_extra "MY units"); k_whole))
      | refine stopMark ?_)
  k_with "call ref" => (((with_reducible show wpAny _ _ (call (Value.ref 807) _) _ _ _); (k_dflt (refine' sizes_useA (dep := _) (un := _) (gs := _) ?hT ?tx ?hm ?hap ?k1 ?k2 ?k3 ?k4 ?k5 ?k6 ?k7 ?kF ?kG ?_; (case k4 => k_asm); (case hT => assumption); (case tx => with_reducible assumption); (case hap => with_reducible assumption); (case hm => (repeat (first | exact List.forall_mem_nil _ | (refine' List.forall_mem_cons.mpr ⟨?qa, ?_⟩; (case qa => k_mem))))); (case k1 => k_asm); (case k2 => k_asm); (case k3 => k_asm); (case k5 => k_asm); (case k6 => exact rfl); (case k7 => exact rfl); (case kF => decide); (case kG => decide); k_whole)); intro h' tk' D D0 D1 D2 D3 n' y0 y1 y2 y3 F' N' hsz hapD hfar; replace hfar := farA_of hfar; (try dsimp only [szObjs, List.cons_append, List.nil_append] at N'); (try dsimp only); refine stopMark ?_))
  k_with "call ref" => (((with_reducible show wpAny _ _ (call (Value.ref 821) _) _ _ _); (k_dflt (refine' spelled_law (dep := _) (un := _) (gs := _) ?hT ?hex ?hnl ?k1 ?k2 ?k3 ?k4 ?k5 ?XB ?TB ?k6 ?k7 ?hne ?h1 ?h2 ?kF ?kG ?_; (case k4 => k_asm); (case hT => assumption); (case hex => with_reducible assumption); (case hnl => with_reducible assumption); (case k1 => k_asm); (case k2 => k_asm); (case k3 => k_asm); (case k5 => k_asm); (case XB => k_asm); (case TB => k_asm); (case k6 => exact rfl); (case k7 => exact rfl); (case hne => k_extra "MY ne"); (case h1 => k_extra "MY allne"); (case h2 => k_extra "MY allne"); (case kF => decide); (case kG => decide); k_whole)); intro h' tk' a nl e no u1 u2 u3 ps F' N' hno; refine stopMark ?_))
  k_with "call builtin:len" => (((with_reducible show wpAny _ _ (call (Value.builtin "len") [Value.ref _]) _ _ _); (k_dflt (refine' len_led ?k2 ?hm ?hk ?hz ?_; (case k2 => k_asm); (case hm => k_mem); (case hk => with_reducible assumption); (case hz => omega); k_whole)); intro _ _))
  k_with "call builtin:sum" => (((with_reducible show wpAny _ _ (call (Value.builtin "sum") [Value.ref _]) _ _ _); (k_dflt (refine' sum_sz ?hh ?k1 ?k2 ?hm ?hs ?hk ?_; (case hh => rfl); (case k2 => k_asm); (case k1 => k_asm); (case hm => k_mem); (case hs => with_reducible assumption); (case hk => with_reducible assumption); k_whole)); intro h' tk' t' F' N'))
  k_with "MY apart" => ((repeat' (first | exact trivial | k_extra "MY ne" | refine And.intro ?_ ?_)))
  trivial
theorem law_post {args : List WData} {b : Bool} (h : b = true) : PySem.Challenge.rw_il0184_01.row.toRowW.claim.post args (.bool b) args = true := by
  subst h
  refine postW_of (X := true) rfl ?_ rfl
  exact w_eq_bool (e := { args := args, res := some (.bool true), after := args }) (k := true) (l := true) (w_res rfl) w_lit
theorem ne_nat {prog : Program} {w : World} {A : Around} {s : Shared} {E Q : Value → Shared → Prop} {n : Nat} {t u : Tok} (h : Q (.bool false) s) : wpAny (model prog w) A (compareOp .NotEq (.int (n : Int) t) (.int (n : Int) u)) Q E s :=
  PyProof.Rows.ne_int (by simpa using h)
theorem lines_30 : True := by
  k_with "compareOp NotEq int int" => ((refine ne_nat ?_))
  k_with "call ref" => (((with_reducible show wpAny _ _ (call (Value.ref 828) _) _ _ _); (k_dflt (refine' found_use (dep := _) (un := _) (gs := _) ?hT ?tx ?sz ?hf ?hm ?hap ?k1 ?k2 ?k3 ?k4 ?k5 ?k6 ?k7 ?kF ?kG ?_; (case k4 => k_asm); (case hT => assumption); (case tx => with_reducible assumption); (case sz => with_reducible assumption); (case hf => with_reducible assumption); (case hm => (repeat (first | exact List.forall_mem_nil _ | (refine' List.forall_mem_cons.mpr ⟨?qa, ?_⟩; (case qa => k_mem))))); (case hap => with_reducible assumption); (case k1 => k_asm); (case k2 => k_asm); (case k3 => k_asm); (case k5 => k_asm); (case k6 => exact rfl); (case k7 => exact rfl); (case kF => decide); (case kG => decide); k_whole)); intro h' tk' A ta tb tc td F' N' hfarA; refine stopMark ?_))
  k_with "MY sub" => ((intro p hp; repeat' (first | exact hp | exact List.mem_append_left _ hp | exact List.mem_append_right _ hp | apply List.mem_cons_of_mem)))
  k_with "compareOp Eq ref ref" => ((refine stopMark ?_))
  k_with "MY last" => (repeat' (first | (k_unfold; (try dsimp only)) | (k_end; (show GoodW _ _ _ _ _ (.ok (.ret (.bool _))) _); (refine' goodW_bool ?qF ?qg ?qn (law_post ?qb)); (case qF => assumption); (case qg => assumption); (case qn => exact fun _ => rfl); (case qb => exact rfl)) | (k_end; wrow_close) | walk1 | (dsimp only; walk1) | (leave1; try dsimp only) | fail "no step"))
  k_with "MY end" => (((try refine stopGo ?_); rename Fr _ _ _ _ => kF; rename News _ _ _ _ => kN; rename LCg.Off3 _ _ _ _ => kO; refine LCg.CompEnd.intro kF kN _ (fun p hp => hp) kO ?sx ?_; (case sx => exact Or.inr ⟨_, (by first | with_reducible assumption | k_mem), rfl, _, rfl⟩)))
  trivial
set_option maxRecDepth 100000 in
set_option maxHeartbeats 8000000 in
theorem lw : PySem.Challenge.rw_il0184_01.Holds := hd (by
  delta WalkO
  dsimp only [hd.d]
  k_go0
  all_goals (try k_fold)
  k_extra "MY steps"
  refine stopGo ?_
  rename WfT _ _ => hT
  rename TxAre _ _ _ _ _ => tx
  rename Apart _ => hapT
  (rename FarA _ _ => farX0; (try dsimp only [List.map] at farX0))
  k_extra "MY steps"
  rename Txs => T
  refine stopGo ?_
  rename News _ _ _ _ => kN
  refine comp_map (l := [0, 1, 2, 3]) (isBody T) rfl _ (fun i v hi hv => tx_ref kN tx i v hi hv) ?turnA ?finA
  case turnA =>
    intro i v I oI C oC D m₂ ys h tk E' hi hv hC hx F1 N1 off ne
    replace ne : NeN I C ∧ NeN I D ∧ NeN C D := ne
    obtain ⟨ai, vi, ni, rfl, hm, hvi⟩ := hv
    have hm4 := List.mem_cons_of_mem (I, oI) (List.mem_cons_of_mem (C, oC) (List.mem_cons_of_mem (D, LCg.lst ys) hm))
    have hlen : vi.length ≤ 20 := by have := hvi.length; have := hT.few i; omega
    k_extra "MY steps"
    refine stopGo ?_
    refine comp_itms isRow hvi ?turnB ?finB
    case turnB =>
      intro it v2 I2 oI2 C2 oC2 D2 m3 ys2 h2 tk2 E2 hit hv2 hC2 hx2 F2 N2 off2 ne2
      replace ne2 : NeN I2 C2 ∧ NeN I2 D2 ∧ NeN C2 D2 := ne2
      have hok := hT.ok i it hit
      have hw := word_ok hok
      have hl11 := sp_len hok
      cases hv2 with
      | w z t =>
        replace hw : z = [] ∨ z ∈ allW := hw
        replace hl11 : (spOf z).length ≤ 11 := hl11
        k_extra "MY steps"
        k_extra "MY end"
        exact ⟨rfl, _, rfl⟩
      | n j t =>
        have hj : j < 4 := by have := hok.2; omega
        replace hw : [48 + j] = [] ∨ [48 + j] ∈ allW := hw
        replace hl11 : (spOf [48 + j]).length ≤ 11 := hl11
        k_extra "MY steps"
        k_extra "MY end"
        exact ⟨rfl, _, rfl⟩
    case finB =>
      intro ys2 hys2
      k_extra "MY steps"
      (try refine stopGo ?_)
      rename Fr _ _ _ _ => kF
      rename News _ _ _ _ => kN
      rename LCg.Off3 _ _ _ _ => kO
      refine LCg.CompEnd.intro kF kN _ (fun p hp => List.mem_cons_of_mem _ hp) kO (Or.inr ⟨_, (by k_mem), rfl, _, rfl⟩) ⟨rfl, _, rfl⟩
  case finA =>
    intro ys hys
    obtain ⟨t0, t1, t2, t3, rfl⟩ := bodies_are hys
    clear hys kN
    k_extra "MY steps"
    refine stopGo ?_
    refine comp_map (l := [0, 1, 2, 3]) (isEnc T) rfl _ (fun i v hi hv => body_val i v hi hv) ?turnC ?finC
    case turnC =>
      intro i v I oI C oC D m₂ ys h tk E' hi hv hC hx F1 N1 off ne
      replace ne : NeN I C ∧ NeN I D ∧ NeN C D := ne
      obtain ⟨tb, rfl⟩ := hv
      have hbl := bodyS_len hT i
      have hsz : (bodyS T i).cps.size ≤ sizeLine := by
        have e : (bodyS T i).length = (bodyS T i).cps.size := rfl
        rw [sizeLine_eq]; omega
      k_extra "MY steps"
      refine stopGo ⟨bodyS T i, tb, _, rfl, rfl, by assumption, by assumption, hsz, fun s₂ hs₂ => ?_⟩
      obtain ⟨hx2, rfl⟩ := hs₂
      refine comp_map (l := bodyT T i) isCode (by simp) _ (fun j v hj hv => sign_at j v hj hv) ?turnD ?finD
      case turnD =>
        intro c v2 I2 oI2 C2 oC2 D2 m3 ys2 h2 tk2 E2 hit hv2 hC2 hx2 F2 N2 off2 ne2
        replace ne2 : NeN I2 C2 ∧ NeN I2 D2 ∧ NeN C2 D2 := ne2
        obtain ⟨u2, rfl⟩ := hv2
        k_extra "MY steps"
        (try refine stopGo ?_)
        rename Fr _ _ _ _ => kF
        rename News _ _ _ _ => kN
        rename LCg.Off3 _ _ _ _ => kO
        refine LCg.CompEnd.intro kF kN _ (fun p hp => hp) kO trivial ⟨rfl, _, rfl⟩
      case finD =>
        intro ys2 hys2
        have hyl := hys2.length
        have hyb := hT.body i
        k_extra "MY steps"
        (try refine stopGo ?_)
        rename Fr _ _ _ _ => kF
        rename News _ _ _ _ => kN
        rename LCg.Off3 _ _ _ _ => kO
        refine LCg.CompEnd.intro kF kN _ (fun p hp => List.mem_cons_of_mem _ (List.mem_cons_of_mem _ (List.mem_cons_of_mem _ hp))) kO (Or.inr ⟨_, (by k_mem), rfl, _, rfl⟩) ⟨rfl, _, rfl⟩
    case finC =>
      intro ys hys
      obtain ⟨u0, u1, u2, u3, rfl⟩ := encs_are hys
      clear hys
      k_extra "MY steps"
      refine stopGo ?_
      (rename FarA _ _ => farX1; (try dsimp only [List.map] at farX1))
      k_extra "MY steps"
      refine stopGo ?_
      (rename FarA _ _ => farX2; (try dsimp only [List.map] at farX2))
      rename SzAre _ _ _ _ _ => hsz
      rename Apart [_, _, _, _, _] => hapD
      obtain ⟨ns, kk, hex, hnsz, hfd⟩ := exs_all T hT.down
      have hnl : ns.length ≤ 900000 := by
        have := hT.small (by decide) 3
        rw [hnsz]; omega
      k_extra "MY steps"
      refine stopGo ?_
      rename NotesAt _ _ => hno
      have hlno := notes_size hno
      have hl3 : (_ : List Value).toArray.size = (T 3).length := (by rw [List.size_toArray]; exact tx.t3.length)
      have hb3 := hT.few 3
      k_extra "MY steps"
      have hap10 : Apart [_, _, _, _, _, _, _, _, _, _] := apart10f hapD hapT farX2 (by repeat (first | exact List.forall_mem_nil _ | (refine' List.forall_mem_cons.mpr ⟨?qa, ?_⟩; (case qa => k_mem))))
      refine stopGo ?_
      refine comp_inv (NotesInv ns _) notesInv0 ?turnE ?finE
      case turnE =>
        rintro i v I oI C oC D m₂ ys news h tk E' hi ⟨tv, rfl⟩ ⟨no2, hno2, rfl, rfl⟩ hC hx F1 N1 off ne
        replace ne : NeN I C ∧ NeN I D ∧ NeN C D := ne
        rw [Int.zero_add] at hx
        have hni : ns[i]? = some ns[i] := by simp [hi]
        have hf := hfd i _ hni
        dsimp only [List.cons_append, List.nil_append] at N1
        k_extra "MY steps"
        refine stopGo ?_
        k_extra "MY fin"
        rename Fr _ _ _ _ => kF
        rename News _ _ _ _ => kN
        rename (∀ q : Addr × Obj, q ∈ _ → q.1 ≠ _) => hA
        refine' found_end ?eF ?eN ?eo ?eA hno2 hni
        case eF => exact kF
        case eN => exact kN
        case eo => exact off
        case eA => exact hA
      case finE =>
        rintro ys news ⟨no2, hno2, rfl, rfl⟩
        rw [List.take_length] at hno2
        k_extra "MY steps"
        refine stopGo ?_
        k_dflt (refine' notes_eq ?N ?ma ?mb hno hno2 ?s1 ?s2 ?ok ?hu ?_)
        case N => k_asm
        case ma => k_mem
        case mb => k_mem
        case s1 => k_extra "MY sub"
        case s2 => k_extra "MY sub"
        case ok => exact dats_ok hT hfd
        case hu => k_extra "MY units"
        k_extra "MY last"
        done)

end
end Mine

theorem PySem.Challenge.cw_il0184_01_holds : PySem.Challenge.rw_il0184_01.Holds :=
  Mine.lw
