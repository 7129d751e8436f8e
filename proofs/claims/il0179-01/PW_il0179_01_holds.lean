import PyProof.Rows.All
import Wide.All
import OpenK.AllK
import Wide.FinOn
import Lean
import PySem.Challenge.RW_il0179_01

open PySem PySem.W PySem.Calls PyProof.Rows
set_option Elab.async false
set_option maxRecDepth 100000
set_option maxHeartbeats 40000000
set_option rowWalk.seconds 0
set_option linter.unusedVariables false
set_option linter.unusedSimpArgs false
set_option compiler.extract_closed false

namespace Mine
local macro_rules | `(tactic| k_all) => `(tactic| first | exact List.forall_mem_nil _ | (refine' List.forall_mem_cons.mpr ⟨?ma, ?mb⟩; (case ma => k_ne); (case mb => k_all)))
section PartHd

/-- the opening, over the heap as a tree -/
noncomputable def goA (tb : String → Option Builtin) (p : Program) (w : World) : Nat → SharedT → Thread → Option SharedT
  | 0, _, _ => none
  | n + 1, s, t => match t.atExitBegin with
    | some [] => some s
    | some (_ :: _) => none
    | none => match PySem.W.Fast.tw10156331382660048174 (PySem.W.Fast.tw11892475500146522536 tb) p w s t with
      | some (s', t') => goA tb p w n s' t'
      | none => none
theorem goA_of {tb : String → Option Builtin} {p : Program} {w : World} : ∀ {n : Nat} {s s' : SharedT} {t : Thread}, goA tb p w n s t = some s' → importEnds tb p w n s.abs t = some s'.abs
  | 0, _, _, _, h => by cases h
  | n + 1, s, s', t, h => by
    unfold goA at h
    rw [← PySem.W.Fast.te10156331382660048174, ← PySem.W.Fast.te11892475500146522536] at h
    unfold importEnds
    cases he : t.atExitBegin with
    | some l =>
      rw [he] at h
      cases l with
      | nil => cases h; rfl
      | cons a l => cases h
    | none =>
      rw [he] at h
      cases hs : stepT (denote tb) p w s t with
      | none => rw [hs] at h; cases h
      | some r => obtain ⟨s₂, t₂⟩ := r; rw [hs] at h; dsimp only; rw [stepT_spec hs]; exact goA_of h
/-- the text behind its opening -/
noncomputable def goB (tb : String → Option Builtin) (p : Program) (w : World) (n₀ : Nat) (ann : Option Value) : Nat → SharedT → Thread → Option SharedT
  | 0, _, _ => none
  | n + 1, s, t => match through t with
    | true => some s
    | false => match stepOk n₀ ann t with
      | false => none
      | true => match PySem.W.Fast.tw10156331382660048174 (PySem.W.Fast.tw11892475500146522536 tb) p w s t with
        | some (s', t') => goB tb p w n₀ ann n s' t'
        | none => none
theorem goB_of {tb : String → Option Builtin} {p : Program} {w : World} {n₀ : Nat} {ann : Option Value} : ∀ {n : Nat} {s s' : SharedT} {t : Thread}, goB tb p w n₀ ann n s t = some s' → topRun tb p w n₀ ann n s.abs t = some s'.abs
  | 0, _, _, _, h => by cases h
  | n + 1, s, s', t, h => by
    unfold goB at h
    rw [← PySem.W.Fast.te10156331382660048174, ← PySem.W.Fast.te11892475500146522536] at h
    unfold topRun
    cases he : through t with
    | true => rw [he] at h; cases h; rfl
    | false =>
      rw [he] at h
      cases hk : stepOk n₀ ann t with
      | false => rw [hk] at h; cases h
      | true =>
        rw [hk] at h
        cases hs : stepT (denote tb) p w s t with
        | none => rw [hs] at h; cases h
        | some r => obtain ⟨s₂, t₂⟩ := r; rw [hs] at h; rw [stepT_spec hs]; exact goB_of h

/-- the fence around one module -/
noncomputable def fenceT (m : Str) (s : SharedT) : Option SharedT :=
  match boundIn s.abs.heap sysModules m, tameNamesOf? m with
  | some (.ref a), some row => (match s.abs.heap.get? a with
    | some o => (match o.dict with
      | some D => (match s.abs.heap.get? D, s.tree.get D with
        | some od, some _ => (fenceDict? m row od).map fun od' => { s with tree := s.tree.set D fun _ => od' }
        | _, _ => none)
      | none => none)
    | none => none)
  | _, _ => none
theorem fenceT_of {m : Str} {s s' : SharedT} (h : fenceT m s = some s') : fenceModule? m s.abs = some s'.abs := by
  unfold fenceT at h
  unfold fenceModule?
  split at h
  · rename_i a row e1 e2
    rw [e1, e2]
    dsimp only
    split at h
    · rename_i o e3
      rw [e3]
      dsimp only
      split at h
      · rename_i D e4
        rw [e4]
        dsimp only
        split at h
        · rename_i od ot e5 e6
          rw [e5]
          dsimp only
          cases hf : fenceDict? m row od with
          | none => rw [hf] at h; cases h
          | some od' =>
            rw [hf] at h
            cases h
            show some _ = some _
            refine congrArg some ?_
            unfold SharedT.abs
            dsimp only
            rw [absHeap_set e6]
        · cases h
      · cases h
    · cases h
  · cases h

noncomputable def st0 (p : Program) : SharedT := ⟨.nil, 0, {}, #[], {}, 1, { stdin := p.given.stdin.toArray }⟩
/-- the library's quick twin of the table -/
noncomputable abbrev TT : String → Option Builtin := PySem.W.Fast.tw14364793385576792824
theorem TT_is : TT = treeTable := PySem.W.Fast.te14364793385576792824.symm
noncomputable def allT (p : Program) (w : World) (m : Str) (M N : Nat) : Option SharedT :=
  match goA TT (opening p) w M (st0 (opening p)) (start (opening p)).2 with
  | none => none
  | some a => match fenceT m a with
    | none => none
    | some b => match b.abs.heap.isNs mainGlobals && b.gens.size == 0 with
      | false => none
      | true => match goB TT p w b.n (b.abs.heap.nsMap mainGlobals "__annotations__") N b (topStub p) with
        | none => none
        | some c => match staticsOk [m] b.abs.heap c.abs.heap && namesBound p c.abs.heap && gensDone c.abs && laidKept b.abs.heap c.abs.heap with
          | true => some c
          | false => none
theorem allT_of {p : Program} {w : World} {m : Str} {M N : Nat} {c : SharedT} (hm : importedModules p.main.body = [m]) (hn : p.main.body.any namesNumpy = false) (le : M ≤ N) (h : allT p w m M N = some c) : openEnds treeTable p w N = some c.abs := by
  unfold allT at h
  split at h
  · cases h
  · rename_i a ha
    split at h
    · cases h
    · rename_i b hb
      split at h
      · cases h
      · rename_i hg
        split at h
        · cases h
        · rename_i c' hc
          split at h
          · rename_i hs
            cases h
            have e0 : (start (opening p)).1 = (st0 (opening p)).abs := by
              unfold start st0 SharedT.abs absHeap BT.list
              rfl
            have e1 : importEnds treeTable (opening p) w N (start (opening p)).1 (start (opening p)).2 = some a.abs := by
              have := importEnds_mono (N - M) _ _ _ _ (TT_is ▸ goA_of ha)
              rw [show M + (N - M) = N by omega] at this
              rw [e0]
              exact this
            have e2 : fenceModules? p a.abs = some b.abs := by
              unfold fenceModules?
              rw [hm, hn]
              show ((fenceModule? m a.abs).bind (fenceAll? [])).bind _ = _
              rw [fenceT_of hb]
              rfl
            have e3 := goB_of hc
            rw [TT_is] at e3
            unfold openEnds fencedOpening topFrom
            rw [e1]
            show ((fenceModules? p a.abs).bind _) = _
            rw [e2]
            show (match b.abs.heap.isNs mainGlobals && b.abs.gens.size == 0 with | true => _ | false => _) = _
            rw [show (b.abs.heap.isNs mainGlobals && b.abs.gens.size == 0) = true from hg]
            show ((topRun treeTable p w b.abs.heap.objs.size _ N b.abs (topStub p)).bind _) = _
            rw [show b.abs.heap.objs.size = b.n from absHeap_size _ _ _, e3]
            show (match staticsOk (importedModules p.main.body) b.abs.heap c.abs.heap && namesBound p c.abs.heap && gensDone c.abs && laidKept b.abs.heap c.abs.heap with | true => _ | false => _) = _
            rw [hm, hs]
          · cases h
theorem left_of {p q : Program} {loose : List Str} {Xt : Shared → Bool} {α : Type} {Yf : Shared → α} {Ya : World → α} {m : Str} {M N : Nat} (hm : importedModules p.main.body = [m]) (hn : p.main.body.any namesNumpy = false) (le : M ≤ N)
    (h : ∀ w, (allT p w m M N).map (fun c => (openSeen q loose [m] Xt true c.abs, Yf c.abs)) = some (openGood q loose, Ya w)) : LeftO p q loose Xt Yf Ya N := fun w => by
  obtain ⟨c, hc, e⟩ := Option.map_eq_some_iff.mp (h w)
  rw [allT_of hm hn le hc, hm]
  exact congrArg some e

/-- an object, read off the tree -/
noncomputable def readT (c : SharedT) (a : Addr) : Option Obj := match Nat.blt a c.n with
  | true => (match c.tree.get a with | some o => alive o | none => c.abs.heap.get? a)
  | false => none
theorem readT_is (c : SharedT) (a : Addr) : readT c a = c.abs.heap.get? a := by
  unfold readT
  cases e : Nat.blt a c.n with
  | false =>
    have lt : ¬ a < c.n := fun q => by rw [show Nat.blt a c.n = true from Nat.ble_eq_true_of_le q] at e; cases e
    exact (abs_get_none lt).symm
  | true =>
    have lt : a < c.n := Nat.le_of_ble_eq_true e
    dsimp only
    cases g : c.tree.get a with
    | none => rfl
    | some o => exact (abs_get lt g).symm
theorem left_k {p q : Program} {loose : List Str} {Xt : Shared → Bool} {K : Params → Frag} {as : List Addr} {e : ∀ P, as = (K P).map (·.1)} {m : Str} {M N : Nat} (hm : importedModules p.main.body = [m]) (hn : p.main.body.any namesNumpy = false) (le : M ≤ N)
    (h : ∀ w, (allT p w m M N).map (fun c => (openSeen q loose [m] Xt true c.abs, as.map (readT c))) = some (openGood q loose, (K w.params).map fun p => some p.2)) : LeftO p q loose Xt (Hook.obs (kHook K as e)) (Hook.val (kHook K as e)) N :=
  left_of hm hn le fun w => by
    have x := h w
    have y : ∀ c : SharedT, as.map (readT c) = as.map c.abs.heap.get? := fun c => List.map_congr_left fun a _ => readT_is c a
    simp only [y] at x
    exact x

/-- a def's parameters, body and scope, where it stands in the text -/
noncomputable def fdOf : Stmt → Option (Arguments × List Stmt × Scope)
  | .FunctionDef _ a b _ _ _ c _ _ _ => some (a, b, c)
  | _ => none
noncomputable def fdIn (l : List Stmt) (i : Nat) : Option (Arguments × List Stmt × Scope) := match l[i]? with
  | some st => fdOf st
  | none => none
noncomputable def fdAt (i : Nat) : Option (Arguments × List Stmt × Scope) := fdIn PySem.Challenge.pw_il0179_01.main.body i
noncomputable def fdAt2 (i j : Nat) : Option (Arguments × List Stmt × Scope) := match PySem.Challenge.pw_il0179_01.main.body[i]? with
  | some (.ClassDef _ _ _ b _ _ _ _ _ _ _) => fdIn b j
  | _ => none
/-- the objects of the heap behind the top that the law's walk reads -/
noncomputable def hd.heap_39 : Params → Frag := by
  intro P
  refine' (fun (a46 : Arguments) (b46 : List Stmt) (c46 : Scope) (_ : fdAt 3 = some (a46, b46, c46)) => fun (a53 : Arguments) (b53 : List Stmt) (c53 : Scope) (_ : fdAt 5 = some (a53, b53, c53)) => fun (a60 : Arguments) (b60 : List Stmt) (c60 : Scope) (_ : fdAt 6 = some (a60, b60, c60)) => fun (a87 : Arguments) (b87 : List Stmt) (c87 : Scope) (_ : fdAt2 8 1 = some (a87, b87, c87)) => fun (a364 : Arguments) (b364 : List Stmt) (c364 : Scope) (_ : fdAt2 12 1 = some (a364, b364, c364)) => fun (a371 : Arguments) (b371 : List Stmt) (c371 : Scope) (_ : fdAt2 12 2 = some (a371, b371, c371)) => fun (a378 : Arguments) (b378 : List Stmt) (c378 : Scope) (_ : fdAt2 12 3 = some (a378, b378, c378)) => fun (a385 : Arguments) (b385 : List Stmt) (c385 : Scope) (_ : fdAt2 12 4 = some (a385, b385, c385)) => fun (a392 : Arguments) (b392 : List Stmt) (c392 : Scope) (_ : fdAt2 12 5 = some (a392, b392, c392)) => fun (a399 : Arguments) (b399 : List Stmt) (c399 : Scope) (_ : fdAt2 12 6 = some (a399, b399, c399)) => fun (a540 : Arguments) (b540 : List Stmt) (c540 : Scope) (_ : fdAt2 12 25 = some (a540, b540, c540)) => fun (a548 : Arguments) (b548 : List Stmt) (c548 : Scope) (_ : fdAt2 12 26 = some (a548, b548, c548)) => fun (a653 : Arguments) (b653 : List Stmt) (c653 : Scope) (_ : fdAt2 21 0 = some (a653, b653, c653)) => fun (a660 : Arguments) (b660 : List Stmt) (c660 : Scope) (_ : fdAt2 21 1 = some (a660, b660, c660)) => fun (a690 : Arguments) (b690 : List Stmt) (c690 : Scope) (_ : fdAt2 21 5 = some (a690, b690, c690)) => fun (a697 : Arguments) (b697 : List Stmt) (c697 : Scope) (_ : fdAt2 21 6 = some (a697, b697, c697)) => fun (a719 : Arguments) (b719 : List Stmt) (c719 : Scope) (_ : fdAt2 21 9 = some (a719, b719, c719)) => fun (a726 : Arguments) (b726 : List Stmt) (c726 : Scope) (_ : fdAt2 21 10 = some (a726, b726, c726)) => fun (a742 : Arguments) (b742 : List Stmt) (c742 : Scope) (_ : fdAt 24 = some (a742, b742, c742)) => fun (a749 : Arguments) (b749 : List Stmt) (c749 : Scope) (_ : fdAt 26 = some (a749, b749, c749)) => fun (a756 : Arguments) (b756 : List Stmt) (c756 : Scope) (_ : fdAt 27 = some (a756, b756, c756)) => fun (a763 : Arguments) (b763 : List Stmt) (c763 : Scope) (_ : fdAt 28 = some (a763, b763, c763)) => fun (a770 : Arguments) (b770 : List Stmt) (c770 : Scope) (_ : fdAt 29 = some (a770, b770, c770)) => fun (a777 : Arguments) (b777 : List Stmt) (c777 : Scope) (_ : fdAt 30 = some (a777, b777, c777)) => fun (a784 : Arguments) (b784 : List Stmt) (c784 : Scope) (_ : fdAt 31 = some (a784, b784, c784)) => fun (a791 : Arguments) (b791 : List Stmt) (c791 : Scope) (_ : fdAt 32 = some (a791, b791, c791)) => fun (a798 : Arguments) (b798 : List Stmt) (c798 : Scope) (_ : fdAt 33 = some (a798, b798, c798)) => fun (a805 : Arguments) (b805 : List Stmt) (c805 : Scope) (_ : fdAt 34 = some (a805, b805, c805)) => fun (a812 : Arguments) (b812 : List Stmt) (c812 : Scope) (_ : fdAt 35 = some (a812, b812, c812)) => fun (a817 : Arguments) (b817 : List Stmt) (c817 : Scope) (_ : fdAt 36 = some (a817, b817, c817)) => ((nat_lit 2, ⟨@PySem.Value.none, none, (@PySem.Data.dict #[(@PySem.DictEntry.mk (PyData.keyHash P (Str.ofString "\x69mport.loaded._collections")) (.str (Str.ofString "\x69mport.loaded._collections") 185) (@PySem.Value.bool true)), (@PySem.DictEntry.mk (PyData.keyHash P (Str.ofString "class._frozen_importlib.BuiltinImporter")) (.str (Str.ofString "class._frozen_importlib.BuiltinImporter") 187) (.ref 15)), (@PySem.DictEntry.mk (PyData.keyHash P (Str.ofString "watched.\x69mport")) (.str (Str.ofString "watched.\x69mport") 208) (.ref 19)), (@PySem.DictEntry.mk (PyData.keyHash P (Str.ofString "class._frozen_importlib.ModuleSpec")) (.str (Str.ofString "class._frozen_importlib.ModuleSpec") 218) (.ref 23)), (@PySem.DictEntry.mk (PyData.keyHash P (Str.ofString "sys.modules.booked-epoch")) (.str (Str.ofString "sys.modules.booked-epoch") 247) (.int 3 0)), (@PySem.DictEntry.mk (PyData.keyHash P (Str.ofString "sys.modules.landed._collections")) (.str (Str.ofString "sys.modules.landed._collections") 248) (@PySem.Value.bool true)), (@PySem.DictEntry.mk (PyData.keyHash P (Str.ofString "\x69mport.later-laid._collections")) (.str (Str.ofString "\x69mport.later-laid._collections") 263) (@PySem.Value.bool true)), (@PySem.DictEntry.mk (PyData.keyHash P (Str.ofString "watched.library")) (.str (Str.ofString "watched.library") 265) (.ref 28)), (@PySem.DictEntry.mk (PyData.keyHash P (Str.ofString "watched.library-objects")) (.str (Str.ofString "watched.library-objects") 0) (.str (Str.ofString "\x0d") 0)), (@PySem.DictEntry.mk (PyData.keyHash P (Str.ofString "watched.library-deep._collections")) (.str (Str.ofString "watched.library-deep._collections") 266) (.str (Str.ofString "\x04\x00\x00\x0c\x04\x00\x00\x0c\x04\x00\x00\x03\x04\x00\x00\x0c\x08\x04dict\x02") 0)), (@PySem.DictEntry.mk (PyData.keyHash P (Str.ofString "type.__subclasses__.OSError.0")) (.str (Str.ofString "type.__subclasses__.OSError.0") 333) (.int 70 0)), (@PySem.DictEntry.mk (PyData.keyHash P (Str.ofString "type.__subclasses__.OSError.n")) (.str (Str.ofString "type.__subclasses__.OSError.n") 334) (.int 1 0))] 12), #[]⟩) ::
    (nat_lit 3, ⟨(.type "dict"), none, (@PySem.Data.dict #[(@PySem.DictEntry.mk (PyData.keyHash P (Str.ofString "__name__")) (.str (Str.ofString "__name__") 165) (.str (Str.ofString "law_il0179_01") 1168)), (@PySem.DictEntry.mk (PyData.keyHash P (Str.ofString "__doc__")) (.str (Str.ofString "__doc__") 166) @PySem.Value.none), (@PySem.DictEntry.mk (PyData.keyHash P (Str.ofString "__package__")) (.str (Str.ofString "__package__") 167) @PySem.Value.none), (@PySem.DictEntry.mk (PyData.keyHash P (Str.ofString "__loader__")) (.str (Str.ofString "__loader__") 168) (.builtin "__main__.__loader__#opaque")), (@PySem.DictEntry.mk (PyData.keyHash P (Str.ofString "__spec__")) (.str (Str.ofString "__spec__") 169) @PySem.Value.none), (@PySem.DictEntry.mk (PyData.keyHash P (Str.ofString "__annotations__")) (.str (Str.ofString "__annotations__") 170) (.ref 6)), (@PySem.DictEntry.mk (PyData.keyHash P (Str.ofString "__builtins__")) (.str (Str.ofString "__builtins__") 171) (.ref 4)), (@PySem.DictEntry.mk (PyData.keyHash P (Str.ofString "__file__")) (.str (Str.ofString "__file__") 173) (.str (Str.ofString "/claim/cut.py") 172)), (@PySem.DictEntry.mk (PyData.keyHash P (Str.ofString "__cached__")) (.str (Str.ofString "__cached__") 174) @PySem.Value.none), (@PySem.DictEntry.mk (PyData.keyHash P (Str.ofString "deque")) (.str (Str.ofString "deque") 272) (.type "collections.deque")), (@PySem.DictEntry.mk (PyData.keyHash P (Str.ofString "_wall")) (.str (Str.ofString "_wall") 285) (.ref 39)), (@PySem.DictEntry.mk (PyData.keyHash P (Str.ofString "_parse_varint")) (.str (Str.ofString "_parse_varint") 296) (.ref 46)), (@PySem.DictEntry.mk (PyData.keyHash P (Str.ofString "_whence")) (.str (Str.ofString "_whence") 306) (.ref 53)), (@PySem.DictEntry.mk (PyData.keyHash P (Str.ofString "_index")) (.str (Str.ofString "_index") 314) (.ref 60)), (@PySem.DictEntry.mk (PyData.keyHash P (Str.ofString "UnsupportedOperation")) (.str (Str.ofString "UnsupportedOperation") 336) (.ref 70)), (@PySem.DictEntry.mk (PyData.keyHash P (Str.ofString "IOBase")) (.str (Str.ofString "IOBase") 368) (.ref 90)), (@PySem.DictEntry.mk (PyData.keyHash P (Str.ofString "BufferedIOBase")) (.str (Str.ofString "BufferedIOBase") 386) (.ref 105)), (@PySem.DictEntry.mk (PyData.keyHash P (Str.ofString "TextIOBase")) (.str (Str.ofString "TextIOBase") 404) (.ref 117)), (@PySem.DictEntry.mk (PyData.keyHash P (Str.ofString "BytesIO")) (.str (Str.ofString "BytesIO") 666) (.ref 347)), (@PySem.DictEntry.mk (PyData.keyHash P (Str.ofString "StringIO")) (.str (Str.ofString "StringIO") 953) (.ref 594)), (@PySem.DictEntry.mk (PyData.keyHash P (Str.ofString "_kind")) (.str (Str.ofString "_kind") 964) (.ref 603)), (@PySem.DictEntry.mk (PyData.keyHash P (Str.ofString "_fspath")) (.str (Str.ofString "_fspath") 973) (.ref 610)), (@PySem.DictEntry.mk (PyData.keyHash P (Str.ofString "_check_arg_types")) (.str (Str.ofString "_check_arg_types") 983) (.ref 617)), (@PySem.DictEntry.mk (PyData.keyHash P (Str.ofString "isabs")) (.str (Str.ofString "isabs") 990) (.ref 624)), (@PySem.DictEntry.mk (PyData.keyHash P (Str.ofString "join")) (.str (Str.ofString "join") 1001) (.ref 631)), (@PySem.DictEntry.mk (PyData.keyHash P (Str.ofString "dirname")) (.str (Str.ofString "dirname") 1011) (.ref 638)), (@PySem.DictEntry.mk (PyData.keyHash P (Str.ofString "shlex")) (.str (Str.ofString "shlex") 1152) (.ref 729)), (@PySem.DictEntry.mk (PyData.keyHash P (Str.ofString "_initial_missing")) (.str (Str.ofString "_initial_missing") 1155) (.ref 734)), (@PySem.DictEntry.mk (PyData.keyHash P (Str.ofString "reduce")) (.str (Str.ofString "reduce") 1167) (.ref 742)), (@PySem.DictEntry.mk (PyData.keyHash P (Str.ofString "_law_minded")) (.str (Str.ofString "_law_minded") 1175) (.ref 749)), (@PySem.DictEntry.mk (PyData.keyHash P (Str.ofString "_law_gaps")) (.str (Str.ofString "_law_gaps") 1181) (.ref 756)), (@PySem.DictEntry.mk (PyData.keyHash P (Str.ofString "_law_octet")) (.str (Str.ofString "_law_octet") 1189) (.ref 763)), (@PySem.DictEntry.mk (PyData.keyHash P (Str.ofString "_law_cut")) (.str (Str.ofString "_law_cut") 1200) (.ref 770)), (@PySem.DictEntry.mk (PyData.keyHash P (Str.ofString "_law_digit")) (.str (Str.ofString "_law_digit") 1208) (.ref 777)), (@PySem.DictEntry.mk (PyData.keyHash P (Str.ofString "_law_token")) (.str (Str.ofString "_law_token") 1218) (.ref 784)), (@PySem.DictEntry.mk (PyData.keyHash P (Str.ofString "_law_front")) (.str (Str.ofString "_law_front") 1227) (.ref 791)), (@PySem.DictEntry.mk (PyData.keyHash P (Str.ofString "_law_number")) (.str (Str.ofString "_law_number") 1234) (.ref 798)), (@PySem.DictEntry.mk (PyData.keyHash P (Str.ofString "_law_tree")) (.str (Str.ofString "_law_tree") 1244) (.ref 805)), (@PySem.DictEntry.mk (PyData.keyHash P (Str.ofString "_law_forest")) (.str (Str.ofString "_law_forest") 1254) (.ref 812)), (@PySem.DictEntry.mk (PyData.keyHash P (Str.ofString "law")) (.str (Str.ofString "law") 1260) (.ref 817))] 40), #[]⟩) ::
    (nat_lit 40, ⟨(.type "tuple"), none, (@PySem.Data.seq #[] 0), #[]⟩) ::
    (nat_lit 42, ⟨(.type "tuple"), none, (@PySem.Data.seq #[(.str (Str.ofString "iterator") 291), (.str (Str.ofString "b") 292), (.str (Str.ofString "val") 293)] 0), #[]⟩) ::
    (nat_lit 43, ⟨(.type "tuple"), none, (@PySem.Data.seq #[] 0), #[]⟩) ::
    (nat_lit 45, ⟨(.type "code"), none, (@PySem.Data.fields #[(.str (Str.ofString "_parse_varint") 288), (.str (Str.ofString "_parse_varint") 289), (.str (Str.ofString "/claim/cut.py") 290), (.int 6 0), (.int 1 0), (.int 0 0), (.int 0 0), (.int 3 0), (.ref 40), (@PySem.Value.bool true), (.int 273 0), (.ref 41), @PySem.Value.none, (.ref 42), (.ref 43), (.ref 44), (.int 294 0), (.int 6 0), (.str (Str.ofString "/claim/cut.py") 295)]), #[]⟩) ::
    (nat_lit 46, ⟨(.type "function"), none, .func ⟨(Str.ofString "_parse_varint"), (Str.ofString "_parse_varint"), a46, .stmts b46, c46, 3, [], @PySem.Value.none, @PySem.Value.none, @PySem.Value.none, (.str (Str.ofString "cpy313.dis") 286), none, (.ref 45), @PySem.Value.none, 0⟩, #[]⟩) ::
    (nat_lit 47, ⟨(.type "tuple"), none, (@PySem.Data.seq #[] 0), #[]⟩) ::
    (nat_lit 49, ⟨(.type "tuple"), none, (@PySem.Data.seq #[(.str (Str.ofString "n") 302), (.str (Str.ofString "what") 303)] 0), #[]⟩) ::
    (nat_lit 50, ⟨(.type "tuple"), none, (@PySem.Data.seq #[] 0), #[]⟩) ::
    (nat_lit 52, ⟨(.type "code"), none, (@PySem.Data.fields #[(.str (Str.ofString "_whence") 299), (.str (Str.ofString "_whence") 300), (.str (Str.ofString "/claim/cut.py") 301), (.int 15 0), (.int 2 0), (.int 0 0), (.int 0 0), (.int 3 0), (.ref 47), (@PySem.Value.bool true), (.int 273 0), (.ref 48), @PySem.Value.none, (.ref 49), (.ref 50), (.ref 51), (.int 304 0), (.int 15 0), (.str (Str.ofString "/claim/cut.py") 305)]), #[]⟩) ::
    (nat_lit 53, ⟨(.type "function"), none, .func ⟨(Str.ofString "_whence"), (Str.ofString "_whence"), a53, .stmts b53, c53, 3, [], @PySem.Value.none, @PySem.Value.none, @PySem.Value.none, (.str (Str.ofString "io") 297), none, (.ref 52), @PySem.Value.none, 0⟩, #[]⟩) ::
    (nat_lit 54, ⟨(.type "tuple"), none, (@PySem.Data.seq #[] 0), #[]⟩) ::
    (nat_lit 56, ⟨(.type "tuple"), none, (@PySem.Data.seq #[(.str (Str.ofString "n") 310), (.str (Str.ofString "what") 311)] 0), #[]⟩) ::
    (nat_lit 57, ⟨(.type "tuple"), none, (@PySem.Data.seq #[] 0), #[]⟩) ::
    (nat_lit 59, ⟨(.type "code"), none, (@PySem.Data.fields #[(.str (Str.ofString "_index") 307), (.str (Str.ofString "_index") 308), (.str (Str.ofString "/claim/cut.py") 309), (.int 20 0), (.int 2 0), (.int 0 0), (.int 0 0), (.int 3 0), (.ref 54), (@PySem.Value.bool true), (.int 273 0), (.ref 55), @PySem.Value.none, (.ref 56), (.ref 57), (.ref 58), (.int 312 0), (.int 20 0), (.str (Str.ofString "/claim/cut.py") 313)]), #[]⟩) ::
    (nat_lit 60, ⟨(.type "function"), none, .func ⟨(Str.ofString "_index"), (Str.ofString "_index"), a60, .stmts b60, c60, 3, [], @PySem.Value.none, @PySem.Value.none, @PySem.Value.none, (.str (Str.ofString "io") 297), none, (.ref 59), @PySem.Value.none, 0⟩, #[]⟩) ::
    (nat_lit 61, ⟨(.type "tuple"), none, (@PySem.Data.seq #[(.type "OSError"), (.type "ValueError")] 0), #[]⟩) ::
    (nat_lit 68, ⟨(.type "tuple"), none, (@PySem.Data.seq #[] 0), #[]⟩) ::
    (nat_lit 69, ⟨(.type "dict"), none, (@PySem.Data.dict #[(@PySem.DictEntry.mk (PyData.keyHash P (Str.ofString "__module__")) (.str (Str.ofString "__module__") 322) (.str (Str.ofString "io") 327)), (@PySem.DictEntry.mk (PyData.keyHash P (Str.ofString "__firstlineno__")) (.str (Str.ofString "__firstlineno__") 326) (.int 27 325)), (@PySem.DictEntry.mk (PyData.keyHash P (Str.ofString "__static_attributes__")) (.str (Str.ofString "__static_attributes__") 329) (.ref 68)), (@PySem.DictEntry.mk (PyData.keyHash P (Str.ofString "__weakref__")) (.str (Str.ofString "__weakref__") 331) (.ref 71)), (@PySem.DictEntry.mk (PyData.keyHash P (Str.ofString "__doc__")) (.str (Str.ofString "__doc__") 332) @PySem.Value.none)] 3), #[]⟩) ::
    (nat_lit 70, ⟨(.type "type"), none, (@PySem.Data.cls (@PySem.ClassData.mk (Str.ofString "UnsupportedOperation") [(.type "OSError"), (.type "ValueError")] [(.ref 70), (.type "OSError"), (.type "ValueError"), (.type "Exception"), (.type "BaseException"), (.type "object")] 69 (Str.ofString "UnsupportedOperation") true [] [] false none false)), #[(some (.ref 61)), none, (some (.str (Str.ofString "UnsupportedOperation") 315)), (some (.str (Str.ofString "UnsupportedOperation") 323)), (some (.builtin "OSError.__new__")), (some (@PySem.Value.bool true))]⟩) ::
    (nat_lit 71, ⟨(.type "getset_descriptor"), none, (@PySem.Data.fields #[(.str (Str.ofString "__weakref__") 330), (.ref 70), (.builtin "ExceptionGroup.__weakref__"), @PySem.Value.none]), #[]⟩) ::
    (nat_lit 81, ⟨(.type "tuple"), none, (@PySem.Data.seq #[] 0), #[]⟩) ::
    (nat_lit 83, ⟨(.type "tuple"), none, (@PySem.Data.seq #[(.str (Str.ofString "cls") 354), (.str (Str.ofString "args") 355), (.str (Str.ofString "kwargs") 356)] 0), #[]⟩) ::
    (nat_lit 84, ⟨(.type "tuple"), none, (@PySem.Data.seq #[] 0), #[]⟩) ::
    (nat_lit 86, ⟨(.type "code"), none, (@PySem.Data.fields #[(.str (Str.ofString "__new__") 351), (.str (Str.ofString "IOBase.__new__") 352), (.str (Str.ofString "/claim/cut.py") 353), (.int 32 0), (.int 1 0), (.int 1 0), (.int 0 0), (.int 15 0), (.ref 81), (@PySem.Value.bool true), (.int 273 0), (.ref 82), @PySem.Value.none, (.ref 83), (.ref 84), (.ref 85), (.int 357 0), (.int 32 0), (.str (Str.ofString "/claim/cut.py") 358)]), #[]⟩) ::
    (nat_lit 87, ⟨(.type "function"), none, .func ⟨(Str.ofString "__new__"), (Str.ofString "IOBase.__new__"), a87, .stmts b87, c87, 3, [], @PySem.Value.none, @PySem.Value.none, @PySem.Value.none, (.str (Str.ofString "io") 297), none, (.ref 86), @PySem.Value.none, 0⟩, #[]⟩) ::
    (nat_lit 88, ⟨(.type "tuple"), none, (@PySem.Data.seq #[] 0), #[]⟩) ::
    (nat_lit 89, ⟨(.type "dict"), none, (@PySem.Data.dict #[(@PySem.DictEntry.mk (PyData.keyHash P (Str.ofString "__module__")) (.str (Str.ofString "__module__") 344) (.str (Str.ofString "io") 349)), (@PySem.DictEntry.mk (PyData.keyHash P (Str.ofString "__firstlineno__")) (.str (Str.ofString "__firstlineno__") 348) (.int 29 347)), (@PySem.DictEntry.mk (PyData.keyHash P (Str.ofString "__new__")) (.str (Str.ofString "__new__") 359) (.ref 91)), (@PySem.DictEntry.mk (PyData.keyHash P (Str.ofString "__static_attributes__")) (.str (Str.ofString "__static_attributes__") 360) (.ref 88)), (@PySem.DictEntry.mk (PyData.keyHash P (Str.ofString "__dict__")) (.str (Str.ofString "__dict__") 363) (.ref 92)), (@PySem.DictEntry.mk (PyData.keyHash P (Str.ofString "__weakref__")) (.str (Str.ofString "__weakref__") 365) (.ref 93)), (@PySem.DictEntry.mk (PyData.keyHash P (Str.ofString "__doc__")) (.str (Str.ofString "__doc__") 366) @PySem.Value.none)] 4), #[]⟩) ::
    (nat_lit 90, ⟨(.type "type"), none, (@PySem.Data.cls (@PySem.ClassData.mk (Str.ofString "IOBase") [(.type "object")] [(.ref 90), (.type "object")] 89 (Str.ofString "IOBase") true [] [(.ref 105), (.ref 117)] false none false)), #[none, none, (some (.str (Str.ofString "IOBase") 337)), (some (.str (Str.ofString "IOBase") 345)), (some @PySem.Value.none), (some (@PySem.Value.bool true))]⟩) ::
    (nat_lit 91, ⟨(.type "staticmethod"), none, (@PySem.Data.fields #[(.ref 87)]), #[]⟩) ::
    (nat_lit 92, ⟨(.type "getset_descriptor"), none, (@PySem.Data.fields #[(.str (Str.ofString "__dict__") 362), (.ref 90), (.builtin "function.__dict__"), (.builtin "function.__dict__#set")]), #[]⟩) ::
    (nat_lit 93, ⟨(.type "getset_descriptor"), none, (@PySem.Data.fields #[(.str (Str.ofString "__weakref__") 364), (.ref 90), (.builtin "ExceptionGroup.__weakref__"), @PySem.Value.none]), #[]⟩) ::
    (nat_lit 96, ⟨(.type "tuple"), none, (@PySem.Data.seq #[(.ref 90)] 0), #[]⟩) ::
    (nat_lit 103, ⟨(.type "tuple"), none, (@PySem.Data.seq #[] 0), #[]⟩) ::
    (nat_lit 104, ⟨(.type "dict"), none, (@PySem.Data.dict #[(@PySem.DictEntry.mk (PyData.keyHash P (Str.ofString "__module__")) (.str (Str.ofString "__module__") 376) (.str (Str.ofString "io") 381)), (@PySem.DictEntry.mk (PyData.keyHash P (Str.ofString "__firstlineno__")) (.str (Str.ofString "__firstlineno__") 380) (.int 36 379)), (@PySem.DictEntry.mk (PyData.keyHash P (Str.ofString "__static_attributes__")) (.str (Str.ofString "__static_attributes__") 383) (.ref 103)), (@PySem.DictEntry.mk (PyData.keyHash P (Str.ofString "__doc__")) (.str (Str.ofString "__doc__") 384) @PySem.Value.none)] 2), #[]⟩) ::
    (nat_lit 105, ⟨(.type "type"), none, (@PySem.Data.cls (@PySem.ClassData.mk (Str.ofString "BufferedIOBase") [(.ref 90)] [(.ref 105), (.ref 90), (.type "object")] 104 (Str.ofString "BufferedIOBase") true [] [(.ref 347)] false none false)), #[(some (.ref 96)), none, (some (.str (Str.ofString "BufferedIOBase") 369)), (some (.str (Str.ofString "BufferedIOBase") 377)), (some @PySem.Value.none), (some (@PySem.Value.bool true))]⟩) ::
    (nat_lit 108, ⟨(.type "tuple"), none, (@PySem.Data.seq #[(.ref 90)] 0), #[]⟩) ::
    (nat_lit 115, ⟨(.type "tuple"), none, (@PySem.Data.seq #[] 0), #[]⟩) ::
    (nat_lit 116, ⟨(.type "dict"), none, (@PySem.Data.dict #[(@PySem.DictEntry.mk (PyData.keyHash P (Str.ofString "__module__")) (.str (Str.ofString "__module__") 394) (.str (Str.ofString "io") 399)), (@PySem.DictEntry.mk (PyData.keyHash P (Str.ofString "__firstlineno__")) (.str (Str.ofString "__firstlineno__") 398) (.int 38 397)), (@PySem.DictEntry.mk (PyData.keyHash P (Str.ofString "__static_attributes__")) (.str (Str.ofString "__static_attributes__") 401) (.ref 115)), (@PySem.DictEntry.mk (PyData.keyHash P (Str.ofString "__doc__")) (.str (Str.ofString "__doc__") 402) @PySem.Value.none)] 2), #[]⟩) ::
    (nat_lit 117, ⟨(.type "type"), none, (@PySem.Data.cls (@PySem.ClassData.mk (Str.ofString "TextIOBase") [(.ref 90)] [(.ref 117), (.ref 90), (.type "object")] 116 (Str.ofString "TextIOBase") true [] [(.ref 594)] false none false)), #[(some (.ref 108)), none, (some (.str (Str.ofString "TextIOBase") 387)), (some (.str (Str.ofString "TextIOBase") 395)), (some @PySem.Value.none), (some (@PySem.Value.bool true))]⟩) ::
    (nat_lit 120, ⟨(.type "tuple"), none, (@PySem.Data.seq #[(.ref 105)] 0), #[]⟩) ::
    (nat_lit 156, ⟨(.type "property"), none, (@PySem.Data.fields #[(.ref 155), @PySem.Value.none, @PySem.Value.none, @PySem.Value.none, (.str (Str.ofString "closed") 452), (@PySem.Value.bool false)]), #[]⟩) ::
    (nat_lit 345, ⟨(.type "tuple"), none, (@PySem.Data.seq #[(.str (Str.ofString "__buf") 661), (.str (Str.ofString "__pos") 662)] 0), #[]⟩) ::
    (nat_lit 346, ⟨(.type "dict"), none, (@PySem.Data.dict #[(@PySem.DictEntry.mk (PyData.keyHash P (Str.ofString "__module__")) (.str (Str.ofString "__module__") 412) (.str (Str.ofString "_io") 417)), (@PySem.DictEntry.mk (PyData.keyHash P (Str.ofString "__firstlineno__")) (.str (Str.ofString "__firstlineno__") 416) (.int 40 415)), (@PySem.DictEntry.mk (PyData.keyHash P (Str.ofString "__init__")) (.str (Str.ofString "__init__") 426) (.ref 134)), (@PySem.DictEntry.mk (PyData.keyHash P (Str.ofString "_BytesIO__check")) (.str (Str.ofString "_BytesIO__check") 433) (.ref 141)), (@PySem.DictEntry.mk (PyData.keyHash P (Str.ofString "_BytesIO__line")) (.str (Str.ofString "_BytesIO__line") 444) (.ref 148)), (@PySem.DictEntry.mk (PyData.keyHash P (Str.ofString "closed")) (.str (Str.ofString "closed") 452) (.ref 156)), (@PySem.DictEntry.mk (PyData.keyHash P (Str.ofString "close")) (.str (Str.ofString "close") 459) (.ref 163)), (@PySem.DictEntry.mk (PyData.keyHash P (Str.ofString "__enter__")) (.str (Str.ofString "__enter__") 466) (.ref 170)), (@PySem.DictEntry.mk (PyData.keyHash P (Str.ofString "__exit__")) (.str (Str.ofString "__exit__") 474) (.ref 177)), (@PySem.DictEntry.mk (PyData.keyHash P (Str.ofString "readable")) (.str (Str.ofString "readable") 481) (.ref 184)), (@PySem.DictEntry.mk (PyData.keyHash P (Str.ofString "writable")) (.str (Str.ofString "writable") 488) (.ref 191)), (@PySem.DictEntry.mk (PyData.keyHash P (Str.ofString "seekable")) (.str (Str.ofString "seekable") 495) (.ref 198)), (@PySem.DictEntry.mk (PyData.keyHash P (Str.ofString "isatty")) (.str (Str.ofString "isatty") 502) (.ref 205)), (@PySem.DictEntry.mk (PyData.keyHash P (Str.ofString "flush")) (.str (Str.ofString "flush") 509) (.ref 212)), (@PySem.DictEntry.mk (PyData.keyHash P (Str.ofString "fileno")) (.str (Str.ofString "fileno") 516) (.ref 219)), (@PySem.DictEntry.mk (PyData.keyHash P (Str.ofString "detach")) (.str (Str.ofString "detach") 523) (.ref 226)), (@PySem.DictEntry.mk (PyData.keyHash P (Str.ofString "getvalue")) (.str (Str.ofString "getvalue") 530) (.ref 233)), (@PySem.DictEntry.mk (PyData.keyHash P (Str.ofString "getbuffer")) (.str (Str.ofString "getbuffer") 537) (.ref 240)), (@PySem.DictEntry.mk (PyData.keyHash P (Str.ofString "tell")) (.str (Str.ofString "tell") 544) (.ref 247)), (@PySem.DictEntry.mk (PyData.keyHash P (Str.ofString "seek")) (.str (Str.ofString "seek") 554) (.ref 255)), (@PySem.DictEntry.mk (PyData.keyHash P (Str.ofString "truncate")) (.str (Str.ofString "truncate") 562) (.ref 263)), (@PySem.DictEntry.mk (PyData.keyHash P (Str.ofString "read")) (.str (Str.ofString "read") 574) (.ref 271)), (@PySem.DictEntry.mk (PyData.keyHash P (Str.ofString "read1")) (.str (Str.ofString "read1") 584) (.ref 279)), (@PySem.DictEntry.mk (PyData.keyHash P (Str.ofString "readinto")) (.str (Str.ofString "readinto") 594) (.ref 286)), (@PySem.DictEntry.mk (PyData.keyHash P (Str.ofString "readinto1")) (.str (Str.ofString "readinto1") 602) (.ref 293)), (@PySem.DictEntry.mk (PyData.keyHash P (Str.ofString "readline")) (.str (Str.ofString "readline") 612) (.ref 301)), (@PySem.DictEntry.mk (PyData.keyHash P (Str.ofString "readlines")) (.str (Str.ofString "readlines") 620) (.ref 309)), (@PySem.DictEntry.mk (PyData.keyHash P (Str.ofString "__iter__")) (.str (Str.ofString "__iter__") 627) (.ref 316)), (@PySem.DictEntry.mk (PyData.keyHash P (Str.ofString "__next__")) (.str (Str.ofString "__next__") 635) (.ref 323)), (@PySem.DictEntry.mk (PyData.keyHash P (Str.ofString "write")) (.str (Str.ofString "write") 645) (.ref 330)), (@PySem.DictEntry.mk (PyData.keyHash P (Str.ofString "writelines")) (.str (Str.ofString "writelines") 653) (.ref 337)), (@PySem.DictEntry.mk (PyData.keyHash P (Str.ofString "__repr__")) (.str (Str.ofString "__repr__") 660) (.ref 344)), (@PySem.DictEntry.mk (PyData.keyHash P (Str.ofString "__static_attributes__")) (.str (Str.ofString "__static_attributes__") 663) (.ref 345)), (@PySem.DictEntry.mk (PyData.keyHash P (Str.ofString "__doc__")) (.str (Str.ofString "__doc__") 664) @PySem.Value.none)] 2), #[]⟩) ::
    (nat_lit 347, ⟨(.type "type"), none, (@PySem.Data.cls (@PySem.ClassData.mk (Str.ofString "BytesIO") [(.ref 105)] [(.ref 347), (.ref 105), (.ref 90), (.type "object")] 346 (Str.ofString "BytesIO") true [] [] false none false)), #[(some (.ref 120)), none, (some (.str (Str.ofString "BytesIO") 405)), (some (.str (Str.ofString "BytesIO") 413)), (some @PySem.Value.none), (some (@PySem.Value.bool true))]⟩) ::
    (nat_lit 350, ⟨(.type "tuple"), none, (@PySem.Data.seq #[(.ref 117)] 0), #[]⟩) ::
    (nat_lit 357, ⟨(.type "tuple"), none, (@PySem.Data.seq #[(.str (Str.ofString "") 681), (.str (Str.ofString "\n") 682)] 0), #[]⟩) ::
    (nat_lit 358, ⟨(.type "tuple"), none, (@PySem.Data.seq #[] 0), #[]⟩) ::
    (nat_lit 360, ⟨(.type "tuple"), none, (@PySem.Data.seq #[(.str (Str.ofString "self") 686), (.str (Str.ofString "initial_value") 687), (.str (Str.ofString "newline") 688)] 0), #[]⟩) ::
    (nat_lit 361, ⟨(.type "tuple"), none, (@PySem.Data.seq #[] 0), #[]⟩) ::
    (nat_lit 363, ⟨(.type "code"), none, (@PySem.Data.fields #[(.str (Str.ofString "__init__") 683), (.str (Str.ofString "StringIO.__init__") 684), (.str (Str.ofString "/claim/cut.py") 685), (.int 213 0), (.int 3 0), (.int 0 0), (.int 0 0), (.int 3 0), (.ref 358), (@PySem.Value.bool true), (.int 273 0), (.ref 359), @PySem.Value.none, (.ref 360), (.ref 361), (.ref 362), (.int 689 0), (.int 213 0), (.str (Str.ofString "/claim/cut.py") 690)]), #[]⟩) ::
    (nat_lit 364, ⟨(.type "function"), none, .func ⟨(Str.ofString "__init__"), (Str.ofString "StringIO.__init__"), a364, .stmts b364, c364, 3, [], (.ref 357), @PySem.Value.none, @PySem.Value.none, (.str (Str.ofString "io") 297), none, (.ref 363), @PySem.Value.none, 0⟩, #[]⟩) ::
    (nat_lit 365, ⟨(.type "tuple"), none, (@PySem.Data.seq #[] 0), #[]⟩) ::
    (nat_lit 367, ⟨(.type "tuple"), none, (@PySem.Data.seq #[(.str (Str.ofString "self") 695), (.str (Str.ofString "s") 696), (.str (Str.ofString "newline") 697)] 0), #[]⟩) ::
    (nat_lit 368, ⟨(.type "tuple"), none, (@PySem.Data.seq #[] 0), #[]⟩) ::
    (nat_lit 370, ⟨(.type "code"), none, (@PySem.Data.fields #[(.str (Str.ofString "__translated") 692), (.str (Str.ofString "StringIO.__translated") 693), (.str (Str.ofString "/claim/cut.py") 694), (.int 226 0), (.int 2 0), (.int 0 0), (.int 0 0), (.int 3 0), (.ref 365), (@PySem.Value.bool true), (.int 273 0), (.ref 366), @PySem.Value.none, (.ref 367), (.ref 368), (.ref 369), (.int 698 0), (.int 226 0), (.str (Str.ofString "/claim/cut.py") 699)]), #[]⟩) ::
    (nat_lit 371, ⟨(.type "function"), none, .func ⟨(Str.ofString "__translated"), (Str.ofString "StringIO.__translated"), a371, .stmts b371, c371, 3, [], @PySem.Value.none, @PySem.Value.none, @PySem.Value.none, (.str (Str.ofString "io") 297), none, (.ref 370), @PySem.Value.none, 0⟩, #[]⟩) ::
    (nat_lit 372, ⟨(.type "tuple"), none, (@PySem.Data.seq #[] 0), #[]⟩) ::
    (nat_lit 374, ⟨(.type "tuple"), none, (@PySem.Data.seq #[(.str (Str.ofString "self") 704)] 0), #[]⟩) ::
    (nat_lit 375, ⟨(.type "tuple"), none, (@PySem.Data.seq #[] 0), #[]⟩) ::
    (nat_lit 377, ⟨(.type "code"), none, (@PySem.Data.fields #[(.str (Str.ofString "__check") 701), (.str (Str.ofString "StringIO.__check") 702), (.str (Str.ofString "/claim/cut.py") 703), (.int 234 0), (.int 1 0), (.int 0 0), (.int 0 0), (.int 3 0), (.ref 372), (@PySem.Value.bool true), (.int 273 0), (.ref 373), @PySem.Value.none, (.ref 374), (.ref 375), (.ref 376), (.int 705 0), (.int 234 0), (.str (Str.ofString "/claim/cut.py") 706)]), #[]⟩) ::
    (nat_lit 378, ⟨(.type "function"), none, .func ⟨(Str.ofString "__check"), (Str.ofString "StringIO.__check"), a378, .stmts b378, c378, 3, [], @PySem.Value.none, @PySem.Value.none, @PySem.Value.none, (.str (Str.ofString "io") 297), none, (.ref 377), @PySem.Value.none, 0⟩, #[]⟩) ::
    (nat_lit 379, ⟨(.type "tuple"), none, (@PySem.Data.seq #[] 0), #[]⟩) ::
    (nat_lit 381, ⟨(.type "tuple"), none, (@PySem.Data.seq #[(.str (Str.ofString "self") 711)] 0), #[]⟩) ::
    (nat_lit 382, ⟨(.type "tuple"), none, (@PySem.Data.seq #[] 0), #[]⟩) ::
    (nat_lit 384, ⟨(.type "code"), none, (@PySem.Data.fields #[(.str (Str.ofString "__check_dot") 708), (.str (Str.ofString "StringIO.__check_dot") 709), (.str (Str.ofString "/claim/cut.py") 710), (.int 238 0), (.int 1 0), (.int 0 0), (.int 0 0), (.int 3 0), (.ref 379), (@PySem.Value.bool true), (.int 273 0), (.ref 380), @PySem.Value.none, (.ref 381), (.ref 382), (.ref 383), (.int 712 0), (.int 238 0), (.str (Str.ofString "/claim/cut.py") 713)]), #[]⟩) ::
    (nat_lit 385, ⟨(.type "function"), none, .func ⟨(Str.ofString "__check_dot"), (Str.ofString "StringIO.__check_dot"), a385, .stmts b385, c385, 3, [], @PySem.Value.none, @PySem.Value.none, @PySem.Value.none, (.str (Str.ofString "io") 297), none, (.ref 384), @PySem.Value.none, 0⟩, #[]⟩) ::
    (nat_lit 386, ⟨(.type "tuple"), none, (@PySem.Data.seq #[] 0), #[]⟩) ::
    (nat_lit 388, ⟨(.type "tuple"), none, (@PySem.Data.seq #[(.str (Str.ofString "self") 718), (.str (Str.ofString "limit") 719), (.str (Str.ofString "start") 720), (.str (Str.ofString "stop") 721), (.str (Str.ofString "cut") 722), (.str (Str.ofString "newline") 723), (.str (Str.ofString "i") 724), (.str (Str.ofString "j") 725), (.str (Str.ofString "end") 726)] 0), #[]⟩) ::
    (nat_lit 389, ⟨(.type "tuple"), none, (@PySem.Data.seq #[] 0), #[]⟩) ::
    (nat_lit 391, ⟨(.type "code"), none, (@PySem.Data.fields #[(.str (Str.ofString "__line") 715), (.str (Str.ofString "StringIO.__line") 716), (.str (Str.ofString "/claim/cut.py") 717), (.int 242 0), (.int 2 0), (.int 0 0), (.int 0 0), (.int 3 0), (.ref 386), (@PySem.Value.bool true), (.int 273 0), (.ref 387), @PySem.Value.none, (.ref 388), (.ref 389), (.ref 390), (.int 727 0), (.int 242 0), (.str (Str.ofString "/claim/cut.py") 728)]), #[]⟩) ::
    (nat_lit 392, ⟨(.type "function"), none, .func ⟨(Str.ofString "__line"), (Str.ofString "StringIO.__line"), a392, .stmts b392, c392, 3, [], @PySem.Value.none, @PySem.Value.none, @PySem.Value.none, (.str (Str.ofString "io") 297), none, (.ref 391), @PySem.Value.none, 0⟩, #[]⟩) ::
    (nat_lit 393, ⟨(.type "tuple"), none, (@PySem.Data.seq #[] 0), #[]⟩) ::
    (nat_lit 395, ⟨(.type "tuple"), none, (@PySem.Data.seq #[(.str (Str.ofString "self") 733)] 0), #[]⟩) ::
    (nat_lit 396, ⟨(.type "tuple"), none, (@PySem.Data.seq #[] 0), #[]⟩) ::
    (nat_lit 398, ⟨(.type "code"), none, (@PySem.Data.fields #[(.str (Str.ofString "closed") 730), (.str (Str.ofString "StringIO.closed") 731), (.str (Str.ofString "/claim/cut.py") 732), (.int 274 0), (.int 1 0), (.int 0 0), (.int 0 0), (.int 3 0), (.ref 393), (@PySem.Value.bool true), (.int 273 0), (.ref 394), @PySem.Value.none, (.ref 395), (.ref 396), (.ref 397), (.int 734 0), (.int 274 0), (.str (Str.ofString "/claim/cut.py") 735)]), #[]⟩) ::
    (nat_lit 399, ⟨(.type "function"), none, .func ⟨(Str.ofString "closed"), (Str.ofString "StringIO.closed"), a399, .stmts b399, c399, 3, [], @PySem.Value.none, @PySem.Value.none, @PySem.Value.none, (.str (Str.ofString "io") 297), none, (.ref 398), @PySem.Value.none, 0⟩, #[]⟩) ::
    (nat_lit 400, ⟨(.type "property"), none, (@PySem.Data.fields #[(.ref 399), @PySem.Value.none, @PySem.Value.none, @PySem.Value.none, (.str (Str.ofString "closed") 737), (@PySem.Value.bool false)]), #[]⟩) ::
    (nat_lit 408, ⟨(.type "property"), none, (@PySem.Data.fields #[(.ref 407), @PySem.Value.none, @PySem.Value.none, @PySem.Value.none, (.str (Str.ofString "line_buffering") 745), (@PySem.Value.bool false)]), #[]⟩) ::
    (nat_lit 416, ⟨(.type "property"), none, (@PySem.Data.fields #[(.ref 415), @PySem.Value.none, @PySem.Value.none, @PySem.Value.none, (.str (Str.ofString "newlines") 753), (@PySem.Value.bool false)]), #[]⟩) ::
    (nat_lit 424, ⟨(.type "property"), none, (@PySem.Data.fields #[(.ref 423), @PySem.Value.none, @PySem.Value.none, @PySem.Value.none, (.str (Str.ofString "encoding") 761), (@PySem.Value.bool false)]), #[]⟩) ::
    (nat_lit 432, ⟨(.type "property"), none, (@PySem.Data.fields #[(.ref 431), @PySem.Value.none, @PySem.Value.none, @PySem.Value.none, (.str (Str.ofString "errors") 769), (@PySem.Value.bool false)]), #[]⟩) ::
    (nat_lit 533, ⟨(.type "tuple"), none, (@PySem.Data.seq #[(.int (@Neg.neg @Int @Int.instNegInt 1) 874)] 0), #[]⟩) ::
    (nat_lit 534, ⟨(.type "tuple"), none, (@PySem.Data.seq #[] 0), #[]⟩) ::
    (nat_lit 536, ⟨(.type "tuple"), none, (@PySem.Data.seq #[(.str (Str.ofString "self") 878), (.str (Str.ofString "size") 879), (.str (Str.ofString "start") 880), (.str (Str.ofString "stop") 881)] 0), #[]⟩) ::
    (nat_lit 537, ⟨(.type "tuple"), none, (@PySem.Data.seq #[] 0), #[]⟩) ::
    (nat_lit 539, ⟨(.type "code"), none, (@PySem.Data.fields #[(.str (Str.ofString "read") 875), (.str (Str.ofString "StringIO.read") 876), (.str (Str.ofString "/claim/cut.py") 877), (.int 356 0), (.int 2 0), (.int 2 0), (.int 0 0), (.int 3 0), (.ref 534), (@PySem.Value.bool true), (.int 273 0), (.ref 535), @PySem.Value.none, (.ref 536), (.ref 537), (.ref 538), (.int 882 0), (.int 356 0), (.str (Str.ofString "/claim/cut.py") 883)]), #[]⟩) ::
    (nat_lit 540, ⟨(.type "function"), none, .func ⟨(Str.ofString "read"), (Str.ofString "StringIO.read"), a540, .stmts b540, c540, 3, [], (.ref 533), @PySem.Value.none, @PySem.Value.none, (.str (Str.ofString "io") 297), none, (.ref 539), @PySem.Value.none, 0⟩, #[]⟩) ::
    (nat_lit 541, ⟨(.type "tuple"), none, (@PySem.Data.seq #[(.int (@Neg.neg @Int @Int.instNegInt 1) 886)] 0), #[]⟩) ::
    (nat_lit 542, ⟨(.type "tuple"), none, (@PySem.Data.seq #[] 0), #[]⟩) ::
    (nat_lit 544, ⟨(.type "tuple"), none, (@PySem.Data.seq #[(.str (Str.ofString "self") 890), (.str (Str.ofString "size") 891)] 0), #[]⟩) ::
    (nat_lit 545, ⟨(.type "tuple"), none, (@PySem.Data.seq #[] 0), #[]⟩) ::
    (nat_lit 547, ⟨(.type "code"), none, (@PySem.Data.fields #[(.str (Str.ofString "readline") 887), (.str (Str.ofString "StringIO.readline") 888), (.str (Str.ofString "/claim/cut.py") 889), (.int 370 0), (.int 2 0), (.int 2 0), (.int 0 0), (.int 3 0), (.ref 542), (@PySem.Value.bool true), (.int 273 0), (.ref 543), @PySem.Value.none, (.ref 544), (.ref 545), (.ref 546), (.int 892 0), (.int 370 0), (.str (Str.ofString "/claim/cut.py") 893)]), #[]⟩) ::
    (nat_lit 548, ⟨(.type "function"), none, .func ⟨(Str.ofString "readline"), (Str.ofString "StringIO.readline"), a548, .stmts b548, c548, 3, [], (.ref 541), @PySem.Value.none, @PySem.Value.none, (.str (Str.ofString "io") 297), none, (.ref 547), @PySem.Value.none, 0⟩, #[]⟩) ::
    (nat_lit 592, ⟨(.type "tuple"), none, (@PySem.Data.seq #[(.str (Str.ofString "__buf") 947), (.str (Str.ofString "__newline") 948), (.str (Str.ofString "__pos") 949)] 0), #[]⟩) ::
    (nat_lit 593, ⟨(.type "dict"), none, (@PySem.Data.dict #[(@PySem.DictEntry.mk (PyData.keyHash P (Str.ofString "__module__")) (.str (Str.ofString "__module__") 674) (.str (Str.ofString "_io") 679)), (@PySem.DictEntry.mk (PyData.keyHash P (Str.ofString "__firstlineno__")) (.str (Str.ofString "__firstlineno__") 678) (.int 210 677)), (@PySem.DictEntry.mk (PyData.keyHash P (Str.ofString "__init__")) (.str (Str.ofString "__init__") 691) (.ref 364)), (@PySem.DictEntry.mk (PyData.keyHash P (Str.ofString "_StringIO__translated")) (.str (Str.ofString "_StringIO__translated") 700) (.ref 371)), (@PySem.DictEntry.mk (PyData.keyHash P (Str.ofString "_StringIO__check")) (.str (Str.ofString "_StringIO__check") 707) (.ref 378)), (@PySem.DictEntry.mk (PyData.keyHash P (Str.ofString "_StringIO__check_dot")) (.str (Str.ofString "_StringIO__check_dot") 714) (.ref 385)), (@PySem.DictEntry.mk (PyData.keyHash P (Str.ofString "_StringIO__line")) (.str (Str.ofString "_StringIO__line") 729) (.ref 392)), (@PySem.DictEntry.mk (PyData.keyHash P (Str.ofString "closed")) (.str (Str.ofString "closed") 737) (.ref 400)), (@PySem.DictEntry.mk (PyData.keyHash P (Str.ofString "line_buffering")) (.str (Str.ofString "line_buffering") 745) (.ref 408)), (@PySem.DictEntry.mk (PyData.keyHash P (Str.ofString "newlines")) (.str (Str.ofString "newlines") 753) (.ref 416)), (@PySem.DictEntry.mk (PyData.keyHash P (Str.ofString "encoding")) (.str (Str.ofString "encoding") 761) (.ref 424)), (@PySem.DictEntry.mk (PyData.keyHash P (Str.ofString "errors")) (.str (Str.ofString "errors") 769) (.ref 432)), (@PySem.DictEntry.mk (PyData.keyHash P (Str.ofString "close")) (.str (Str.ofString "close") 776) (.ref 439)), (@PySem.DictEntry.mk (PyData.keyHash P (Str.ofString "__enter__")) (.str (Str.ofString "__enter__") 783) (.ref 446)), (@PySem.DictEntry.mk (PyData.keyHash P (Str.ofString "__exit__")) (.str (Str.ofString "__exit__") 791) (.ref 453)), (@PySem.DictEntry.mk (PyData.keyHash P (Str.ofString "readable")) (.str (Str.ofString "readable") 798) (.ref 460)), (@PySem.DictEntry.mk (PyData.keyHash P (Str.ofString "writable")) (.str (Str.ofString "writable") 805) (.ref 467)), (@PySem.DictEntry.mk (PyData.keyHash P (Str.ofString "seekable")) (.str (Str.ofString "seekable") 812) (.ref 474)), (@PySem.DictEntry.mk (PyData.keyHash P (Str.ofString "isatty")) (.str (Str.ofString "isatty") 819) (.ref 481)), (@PySem.DictEntry.mk (PyData.keyHash P (Str.ofString "flush")) (.str (Str.ofString "flush") 826) (.ref 488)), (@PySem.DictEntry.mk (PyData.keyHash P (Str.ofString "fileno")) (.str (Str.ofString "fileno") 833) (.ref 495)), (@PySem.DictEntry.mk (PyData.keyHash P (Str.ofString "detach")) (.str (Str.ofString "detach") 840) (.ref 502)), (@PySem.DictEntry.mk (PyData.keyHash P (Str.ofString "getvalue")) (.str (Str.ofString "getvalue") 847) (.ref 509)), (@PySem.DictEntry.mk (PyData.keyHash P (Str.ofString "tell")) (.str (Str.ofString "tell") 854) (.ref 516)), (@PySem.DictEntry.mk (PyData.keyHash P (Str.ofString "seek")) (.str (Str.ofString "seek") 864) (.ref 524)), (@PySem.DictEntry.mk (PyData.keyHash P (Str.ofString "truncate")) (.str (Str.ofString "truncate") 872) (.ref 532)), (@PySem.DictEntry.mk (PyData.keyHash P (Str.ofString "read")) (.str (Str.ofString "read") 884) (.ref 540)), (@PySem.DictEntry.mk (PyData.keyHash P (Str.ofString "readline")) (.str (Str.ofString "readline") 894) (.ref 548)), (@PySem.DictEntry.mk (PyData.keyHash P (Str.ofString "readlines")) (.str (Str.ofString "readlines") 904) (.ref 556)), (@PySem.DictEntry.mk (PyData.keyHash P (Str.ofString "__iter__")) (.str (Str.ofString "__iter__") 911) (.ref 563)), (@PySem.DictEntry.mk (PyData.keyHash P (Str.ofString "__next__")) (.str (Str.ofString "__next__") 919) (.ref 570)), (@PySem.DictEntry.mk (PyData.keyHash P (Str.ofString "write")) (.str (Str.ofString "write") 931) (.ref 577)), (@PySem.DictEntry.mk (PyData.keyHash P (Str.ofString "writelines")) (.str (Str.ofString "writelines") 939) (.ref 584)), (@PySem.DictEntry.mk (PyData.keyHash P (Str.ofString "__repr__")) (.str (Str.ofString "__repr__") 946) (.ref 591)), (@PySem.DictEntry.mk (PyData.keyHash P (Str.ofString "__static_attributes__")) (.str (Str.ofString "__static_attributes__") 950) (.ref 592)), (@PySem.DictEntry.mk (PyData.keyHash P (Str.ofString "__doc__")) (.str (Str.ofString "__doc__") 951) @PySem.Value.none)] 2), #[]⟩) ::
    (nat_lit 594, ⟨(.type "type"), none, (@PySem.Data.cls (@PySem.ClassData.mk (Str.ofString "StringIO") [(.ref 117)] [(.ref 594), (.ref 117), (.ref 90), (.type "object")] 593 (Str.ofString "StringIO") true [] [] false none false)), #[(some (.ref 350)), none, (some (.str (Str.ofString "StringIO") 667)), (some (.str (Str.ofString "StringIO") 675)), (some @PySem.Value.none), (some (@PySem.Value.bool true))]⟩) ::
    (nat_lit 646, ⟨(.type "tuple"), none, (@PySem.Data.seq #[@PySem.Value.none, @PySem.Value.none, (@PySem.Value.bool false), (@PySem.Value.bool false)] 0), #[]⟩) ::
    (nat_lit 647, ⟨(.type "tuple"), none, (@PySem.Data.seq #[] 0), #[]⟩) ::
    (nat_lit 649, ⟨(.type "tuple"), none, (@PySem.Data.seq #[(.str (Str.ofString "self") 1029), (.str (Str.ofString "instream") 1030), (.str (Str.ofString "infile") 1031), (.str (Str.ofString "posix") 1032), (.str (Str.ofString "punctuation_chars") 1033), (.str (Str.ofString "t") 1034)] 0), #[]⟩) ::
    (nat_lit 650, ⟨(.type "tuple"), none, (@PySem.Data.seq #[] 0), #[]⟩) ::
    (nat_lit 652, ⟨(.type "code"), none, (@PySem.Data.fields #[(.str (Str.ofString "__init__") 1026), (.str (Str.ofString "shlex.__init__") 1027), (.str (Str.ofString "/claim/cut.py") 1028), (.int 481 0), (.int 5 0), (.int 0 0), (.int 0 0), (.int 3 0), (.ref 647), (@PySem.Value.bool true), (.int 273 0), (.ref 648), @PySem.Value.none, (.ref 649), (.ref 650), (.ref 651), (.int 1035 0), (.int 481 0), (.str (Str.ofString "/claim/cut.py") 1036)]), #[]⟩) ::
    (nat_lit 653, ⟨(.type "function"), none, .func ⟨(Str.ofString "__init__"), (Str.ofString "shlex.__init__"), a653, .stmts b653, c653, 3, [], (.ref 646), @PySem.Value.none, @PySem.Value.none, (.str (Str.ofString "cpy313.shlex") 1012), none, (.ref 652), @PySem.Value.none, 0⟩, #[]⟩) ::
    (nat_lit 654, ⟨(.type "tuple"), none, (@PySem.Data.seq #[] 0), #[]⟩) ::
    (nat_lit 656, ⟨(.type "tuple"), none, (@PySem.Data.seq #[(.str (Str.ofString "self") 1041)] 0), #[]⟩) ::
    (nat_lit 657, ⟨(.type "tuple"), none, (@PySem.Data.seq #[] 0), #[]⟩) ::
    (nat_lit 659, ⟨(.type "code"), none, (@PySem.Data.fields #[(.str (Str.ofString "punctuation_chars") 1038), (.str (Str.ofString "shlex.punctuation_chars") 1039), (.str (Str.ofString "/claim/cut.py") 1040), (.int 522 0), (.int 1 0), (.int 0 0), (.int 0 0), (.int 3 0), (.ref 654), (@PySem.Value.bool true), (.int 273 0), (.ref 655), @PySem.Value.none, (.ref 656), (.ref 657), (.ref 658), (.int 1042 0), (.int 522 0), (.str (Str.ofString "/claim/cut.py") 1043)]), #[]⟩) ::
    (nat_lit 660, ⟨(.type "function"), none, .func ⟨(Str.ofString "punctuation_chars"), (Str.ofString "shlex.punctuation_chars"), a660, .stmts b660, c660, 3, [], @PySem.Value.none, @PySem.Value.none, @PySem.Value.none, (.str (Str.ofString "cpy313.shlex") 1012), none, (.ref 659), @PySem.Value.none, 0⟩, #[]⟩) ::
    (nat_lit 661, ⟨(.type "property"), none, (@PySem.Data.fields #[(.ref 660), @PySem.Value.none, @PySem.Value.none, @PySem.Value.none, (.str (Str.ofString "punctuation_chars") 1045), (@PySem.Value.bool false)]), #[]⟩) ::
    (nat_lit 684, ⟨(.type "tuple"), none, (@PySem.Data.seq #[] 0), #[]⟩) ::
    (nat_lit 686, ⟨(.type "tuple"), none, (@PySem.Data.seq #[(.str (Str.ofString "self") 1073), (.str (Str.ofString "tok") 1074), (.str (Str.ofString "raw") 1075), (.str (Str.ofString "spec") 1076), (.str (Str.ofString "newfile") 1077), (.str (Str.ofString "newstream") 1078)] 0), #[]⟩) ::
    (nat_lit 687, ⟨(.type "tuple"), none, (@PySem.Data.seq #[] 0), #[]⟩) ::
    (nat_lit 689, ⟨(.type "code"), none, (@PySem.Data.fields #[(.str (Str.ofString "get_token") 1070), (.str (Str.ofString "shlex.get_token") 1071), (.str (Str.ofString "/claim/cut.py") 1072), (.int 549 0), (.int 1 0), (.int 0 0), (.int 0 0), (.int 3 0), (.ref 684), (@PySem.Value.bool true), (.int 273 0), (.ref 685), @PySem.Value.none, (.ref 686), (.ref 687), (.ref 688), (.int 1079 0), (.int 549 0), (.str (Str.ofString "/claim/cut.py") 1080)]), #[]⟩) ::
    (nat_lit 690, ⟨(.type "function"), none, .func ⟨(Str.ofString "get_token"), (Str.ofString "shlex.get_token"), a690, .stmts b690, c690, 3, [], @PySem.Value.none, @PySem.Value.none, @PySem.Value.none, (.str (Str.ofString "cpy313.shlex") 1012), none, (.ref 689), @PySem.Value.none, 0⟩, #[]⟩) ::
    (nat_lit 691, ⟨(.type "tuple"), none, (@PySem.Data.seq #[] 0), #[]⟩) ::
    (nat_lit 693, ⟨(.type "tuple"), none, (@PySem.Data.seq #[(.str (Str.ofString "self") 1085), (.str (Str.ofString "quoted") 1086), (.str (Str.ofString "escapedstate") 1087), (.str (Str.ofString "nextchar") 1088), (.str (Str.ofString "result") 1089)] 0), #[]⟩) ::
    (nat_lit 694, ⟨(.type "tuple"), none, (@PySem.Data.seq #[] 0), #[]⟩) ::
    (nat_lit 696, ⟨(.type "code"), none, (@PySem.Data.fields #[(.str (Str.ofString "read_token") 1082), (.str (Str.ofString "shlex.read_token") 1083), (.str (Str.ofString "/claim/cut.py") 1084), (.int 576 0), (.int 1 0), (.int 0 0), (.int 0 0), (.int 3 0), (.ref 691), (@PySem.Value.bool true), (.int 273 0), (.ref 692), @PySem.Value.none, (.ref 693), (.ref 694), (.ref 695), (.int 1090 0), (.int 576 0), (.str (Str.ofString "/claim/cut.py") 1091)]), #[]⟩) ::
    (nat_lit 697, ⟨(.type "function"), none, .func ⟨(Str.ofString "read_token"), (Str.ofString "shlex.read_token"), a697, .stmts b697, c697, 3, [], @PySem.Value.none, @PySem.Value.none, @PySem.Value.none, (.str (Str.ofString "cpy313.shlex") 1012), none, (.ref 696), @PySem.Value.none, 0⟩, #[]⟩) ::
    (nat_lit 713, ⟨(.type "tuple"), none, (@PySem.Data.seq #[] 0), #[]⟩) ::
    (nat_lit 715, ⟨(.type "tuple"), none, (@PySem.Data.seq #[(.str (Str.ofString "self") 1113)] 0), #[]⟩) ::
    (nat_lit 716, ⟨(.type "tuple"), none, (@PySem.Data.seq #[] 0), #[]⟩) ::
    (nat_lit 718, ⟨(.type "code"), none, (@PySem.Data.fields #[(.str (Str.ofString "__iter__") 1110), (.str (Str.ofString "shlex.__iter__") 1111), (.str (Str.ofString "/claim/cut.py") 1112), (.int 723 0), (.int 1 0), (.int 0 0), (.int 0 0), (.int 3 0), (.ref 713), (@PySem.Value.bool true), (.int 273 0), (.ref 714), @PySem.Value.none, (.ref 715), (.ref 716), (.ref 717), (.int 1114 0), (.int 723 0), (.str (Str.ofString "/claim/cut.py") 1115)]), #[]⟩) ::
    (nat_lit 719, ⟨(.type "function"), none, .func ⟨(Str.ofString "__iter__"), (Str.ofString "shlex.__iter__"), a719, .stmts b719, c719, 3, [], @PySem.Value.none, @PySem.Value.none, @PySem.Value.none, (.str (Str.ofString "cpy313.shlex") 1012), none, (.ref 718), @PySem.Value.none, 0⟩, #[]⟩) ::
    (nat_lit 720, ⟨(.type "tuple"), none, (@PySem.Data.seq #[] 0), #[]⟩) ::
    (nat_lit 722, ⟨(.type "tuple"), none, (@PySem.Data.seq #[(.str (Str.ofString "self") 1120), (.str (Str.ofString "token") 1121)] 0), #[]⟩) ::
    (nat_lit 723, ⟨(.type "tuple"), none, (@PySem.Data.seq #[] 0), #[]⟩) ::
    (nat_lit 725, ⟨(.type "code"), none, (@PySem.Data.fields #[(.str (Str.ofString "__next__") 1117), (.str (Str.ofString "shlex.__next__") 1118), (.str (Str.ofString "/claim/cut.py") 1119), (.int 726 0), (.int 1 0), (.int 0 0), (.int 0 0), (.int 3 0), (.ref 720), (@PySem.Value.bool true), (.int 273 0), (.ref 721), @PySem.Value.none, (.ref 722), (.ref 723), (.ref 724), (.int 1122 0), (.int 726 0), (.str (Str.ofString "/claim/cut.py") 1123)]), #[]⟩) ::
    (nat_lit 726, ⟨(.type "function"), none, .func ⟨(Str.ofString "__next__"), (Str.ofString "shlex.__next__"), a726, .stmts b726, c726, 3, [], @PySem.Value.none, @PySem.Value.none, @PySem.Value.none, (.str (Str.ofString "cpy313.shlex") 1012), none, (.ref 725), @PySem.Value.none, 0⟩, #[]⟩) ::
    (nat_lit 727, ⟨(.type "tuple"), none, (@PySem.Data.seq #[(.str (Str.ofString "_punctuation_chars") 1125), (.str (Str.ofString "_pushback_chars") 1126), (.str (Str.ofString "commenters") 1127), (.str (Str.ofString "debug") 1128), (.str (Str.ofString "eof") 1129), (.str (Str.ofString "escape") 1130), (.str (Str.ofString "escapedquotes") 1131), (.str (Str.ofString "filestack") 1132), (.str (Str.ofString "infile") 1133), (.str (Str.ofString "instream") 1134), (.str (Str.ofString "lineno") 1135), (.str (Str.ofString "posix") 1136), (.str (Str.ofString "pushback") 1137), (.str (Str.ofString "quotes") 1138), (.str (Str.ofString "source") 1139), (.str (Str.ofString "state") 1140), (.str (Str.ofString "token") 1141), (.str (Str.ofString "whitespace") 1142), (.str (Str.ofString "whitespace_split") 1143), (.str (Str.ofString "wordchars") 1144)] 0), #[]⟩) ::
    (nat_lit 728, ⟨(.type "dict"), none, (@PySem.Data.dict #[(@PySem.DictEntry.mk (PyData.keyHash P (Str.ofString "__module__")) (.str (Str.ofString "__module__") 1021) (.str (Str.ofString "cpy313.shlex") 1012)), (@PySem.DictEntry.mk (PyData.keyHash P (Str.ofString "__firstlineno__")) (.str (Str.ofString "__firstlineno__") 1025) (.int 479 1024)), (@PySem.DictEntry.mk (PyData.keyHash P (Str.ofString "__init__")) (.str (Str.ofString "__init__") 1037) (.ref 653)), (@PySem.DictEntry.mk (PyData.keyHash P (Str.ofString "punctuation_chars")) (.str (Str.ofString "punctuation_chars") 1045) (.ref 661)), (@PySem.DictEntry.mk (PyData.keyHash P (Str.ofString "push_token")) (.str (Str.ofString "push_token") 1053) (.ref 668)), (@PySem.DictEntry.mk (PyData.keyHash P (Str.ofString "push_source")) (.str (Str.ofString "push_source") 1062) (.ref 676)), (@PySem.DictEntry.mk (PyData.keyHash P (Str.ofString "pop_source")) (.str (Str.ofString "pop_source") 1069) (.ref 683)), (@PySem.DictEntry.mk (PyData.keyHash P (Str.ofString "get_token")) (.str (Str.ofString "get_token") 1081) (.ref 690)), (@PySem.DictEntry.mk (PyData.keyHash P (Str.ofString "read_token")) (.str (Str.ofString "read_token") 1092) (.ref 697)), (@PySem.DictEntry.mk (PyData.keyHash P (Str.ofString "sourcehook")) (.str (Str.ofString "sourcehook") 1100) (.ref 704)), (@PySem.DictEntry.mk (PyData.keyHash P (Str.ofString "error_leader")) (.str (Str.ofString "error_leader") 1109) (.ref 712)), (@PySem.DictEntry.mk (PyData.keyHash P (Str.ofString "__iter__")) (.str (Str.ofString "__iter__") 1116) (.ref 719)), (@PySem.DictEntry.mk (PyData.keyHash P (Str.ofString "__next__")) (.str (Str.ofString "__next__") 1124) (.ref 726)), (@PySem.DictEntry.mk (PyData.keyHash P (Str.ofString "__static_attributes__")) (.str (Str.ofString "__static_attributes__") 1145) (.ref 727)), (@PySem.DictEntry.mk (PyData.keyHash P (Str.ofString "__dict__")) (.str (Str.ofString "__dict__") 1147) (.ref 730)), (@PySem.DictEntry.mk (PyData.keyHash P (Str.ofString "__weakref__")) (.str (Str.ofString "__weakref__") 1149) (.ref 731)), (@PySem.DictEntry.mk (PyData.keyHash P (Str.ofString "__doc__")) (.str (Str.ofString "__doc__") 1150) @PySem.Value.none)] 4), #[]⟩) ::
    (nat_lit 729, ⟨(.type "type"), none, (@PySem.Data.cls (@PySem.ClassData.mk (Str.ofString "shlex") [(.type "object")] [(.ref 729), (.type "object")] 728 (Str.ofString "shlex") true [] [] false none false)), #[none, none, (some (.str (Str.ofString "shlex") 1014)), (some (.str (Str.ofString "shlex") 1022)), (some (.builtin "object.__new__")), (some (@PySem.Value.bool true))]⟩) ::
    (nat_lit 730, ⟨(.type "getset_descriptor"), none, (@PySem.Data.fields #[(.str (Str.ofString "__dict__") 1146), (.ref 729), (.builtin "function.__dict__"), (.builtin "function.__dict__#set")]), #[]⟩) ::
    (nat_lit 731, ⟨(.type "getset_descriptor"), none, (@PySem.Data.fields #[(.str (Str.ofString "__weakref__") 1148), (.ref 729), (.builtin "ExceptionGroup.__weakref__"), @PySem.Value.none]), #[]⟩) ::
    (nat_lit 734, ⟨(.type "object"), none, @PySem.Data.plain, #[]⟩) ::
    (nat_lit 735, ⟨(.type "tuple"), none, (@PySem.Data.seq #[(.ref 734)] 0), #[]⟩) ::
    (nat_lit 736, ⟨(.type "tuple"), none, (@PySem.Data.seq #[] 0), #[]⟩) ::
    (nat_lit 738, ⟨(.type "tuple"), none, (@PySem.Data.seq #[(.str (Str.ofString "function") 1159), (.str (Str.ofString "sequence") 1160), (.str (Str.ofString "initial") 1161), (.str (Str.ofString "it") 1162), (.str (Str.ofString "value") 1163), (.str (Str.ofString "element") 1164)] 0), #[]⟩) ::
    (nat_lit 739, ⟨(.type "tuple"), none, (@PySem.Data.seq #[] 0), #[]⟩) ::
    (nat_lit 741, ⟨(.type "code"), none, (@PySem.Data.fields #[(.str (Str.ofString "reduce") 1156), (.str (Str.ofString "reduce") 1157), (.str (Str.ofString "/claim/cut.py") 1158), (.int 733 0), (.int 3 0), (.int 0 0), (.int 0 0), (.int 3 0), (.ref 736), (@PySem.Value.bool true), (.int 273 0), (.ref 737), @PySem.Value.none, (.ref 738), (.ref 739), (.ref 740), (.int 1165 0), (.int 733 0), (.str (Str.ofString "/claim/cut.py") 1166)]), #[]⟩) ::
    (nat_lit 742, ⟨(.type "function"), none, .func ⟨(Str.ofString "reduce"), (Str.ofString "reduce"), a742, .stmts b742, c742, 3, [], (.ref 735), @PySem.Value.none, @PySem.Value.none, (.str (Str.ofString "cpy313.functools") 1153), none, (.ref 741), @PySem.Value.none, 0⟩, #[]⟩) ::
    (nat_lit 743, ⟨(.type "tuple"), none, (@PySem.Data.seq #[] 0), #[]⟩) ::
    (nat_lit 745, ⟨(.type "tuple"), none, (@PySem.Data.seq #[] 0), #[]⟩) ::
    (nat_lit 746, ⟨(.type "tuple"), none, (@PySem.Data.seq #[] 0), #[]⟩) ::
    (nat_lit 748, ⟨(.type "code"), none, (@PySem.Data.fields #[(.str (Str.ofString "_law_minded") 1170), (.str (Str.ofString "_law_minded") 1171), (.str (Str.ofString "/claim/cut.py") 1172), (.int 746 0), (.int 0 0), (.int 0 0), (.int 0 0), (.int 3 0), (.ref 743), (@PySem.Value.bool true), (.int 273 0), (.ref 744), @PySem.Value.none, (.ref 745), (.ref 746), (.ref 747), (.int 1173 0), (.int 746 0), (.str (Str.ofString "/claim/cut.py") 1174)]), #[]⟩) ::
    (nat_lit 749, ⟨(.type "function"), none, .func ⟨(Str.ofString "_law_minded"), (Str.ofString "_law_minded"), a749, .stmts b749, c749, 3, [], @PySem.Value.none, @PySem.Value.none, @PySem.Value.none, (.str (Str.ofString "law_il0179_01") 1168), none, (.ref 748), @PySem.Value.none, 0⟩, #[]⟩) ::
    (nat_lit 750, ⟨(.type "tuple"), none, (@PySem.Data.seq #[] 0), #[]⟩) ::
    (nat_lit 752, ⟨(.type "tuple"), none, (@PySem.Data.seq #[] 0), #[]⟩) ::
    (nat_lit 753, ⟨(.type "tuple"), none, (@PySem.Data.seq #[] 0), #[]⟩) ::
    (nat_lit 755, ⟨(.type "code"), none, (@PySem.Data.fields #[(.str (Str.ofString "_law_gaps") 1176), (.str (Str.ofString "_law_gaps") 1177), (.str (Str.ofString "/claim/cut.py") 1178), (.int 748 0), (.int 0 0), (.int 0 0), (.int 0 0), (.int 3 0), (.ref 750), (@PySem.Value.bool true), (.int 273 0), (.ref 751), @PySem.Value.none, (.ref 752), (.ref 753), (.ref 754), (.int 1179 0), (.int 748 0), (.str (Str.ofString "/claim/cut.py") 1180)]), #[]⟩) ::
    (nat_lit 756, ⟨(.type "function"), none, .func ⟨(Str.ofString "_law_gaps"), (Str.ofString "_law_gaps"), a756, .stmts b756, c756, 3, [], @PySem.Value.none, @PySem.Value.none, @PySem.Value.none, (.str (Str.ofString "law_il0179_01") 1168), none, (.ref 755), @PySem.Value.none, 0⟩, #[]⟩) ::
    (nat_lit 757, ⟨(.type "tuple"), none, (@PySem.Data.seq #[] 0), #[]⟩) ::
    (nat_lit 759, ⟨(.type "tuple"), none, (@PySem.Data.seq #[(.str (Str.ofString "x") 1185), (.str (Str.ofString "octet") 1186)] 0), #[]⟩) ::
    (nat_lit 760, ⟨(.type "tuple"), none, (@PySem.Data.seq #[] 0), #[]⟩) ::
    (nat_lit 762, ⟨(.type "code"), none, (@PySem.Data.fields #[(.str (Str.ofString "_law_octet") 1182), (.str (Str.ofString "_law_octet") 1183), (.str (Str.ofString "/claim/cut.py") 1184), (.int 750 0), (.int 1 0), (.int 0 0), (.int 0 0), (.int 3 0), (.ref 757), (@PySem.Value.bool true), (.int 273 0), (.ref 758), @PySem.Value.none, (.ref 759), (.ref 760), (.ref 761), (.int 1187 0), (.int 750 0), (.str (Str.ofString "/claim/cut.py") 1188)]), #[]⟩) ::
    (nat_lit 763, ⟨(.type "function"), none, .func ⟨(Str.ofString "_law_octet"), (Str.ofString "_law_octet"), a763, .stmts b763, c763, 3, [], @PySem.Value.none, @PySem.Value.none, @PySem.Value.none, (.str (Str.ofString "law_il0179_01") 1168), none, (.ref 762), @PySem.Value.none, 0⟩, #[]⟩) ::
    (nat_lit 764, ⟨(.type "tuple"), none, (@PySem.Data.seq #[] 0), #[]⟩) ::
    (nat_lit 766, ⟨(.type "tuple"), none, (@PySem.Data.seq #[(.str (Str.ofString "cells") 1193), (.str (Str.ofString "tokens") 1194), (.str (Str.ofString "going") 1195), (.str (Str.ofString "x") 1196), (.str (Str.ofString "sign") 1197)] 0), #[]⟩) ::
    (nat_lit 767, ⟨(.type "tuple"), none, (@PySem.Data.seq #[] 0), #[]⟩) ::
    (nat_lit 769, ⟨(.type "code"), none, (@PySem.Data.fields #[(.str (Str.ofString "_law_cut") 1190), (.str (Str.ofString "_law_cut") 1191), (.str (Str.ofString "/claim/cut.py") 1192), (.int 755 0), (.int 1 0), (.int 0 0), (.int 0 0), (.int 3 0), (.ref 764), (@PySem.Value.bool true), (.int 273 0), (.ref 765), @PySem.Value.none, (.ref 766), (.ref 767), (.ref 768), (.int 1198 0), (.int 755 0), (.str (Str.ofString "/claim/cut.py") 1199)]), #[]⟩) ::
    (nat_lit 770, ⟨(.type "function"), none, .func ⟨(Str.ofString "_law_cut"), (Str.ofString "_law_cut"), a770, .stmts b770, c770, 3, [], @PySem.Value.none, @PySem.Value.none, @PySem.Value.none, (.str (Str.ofString "law_il0179_01") 1168), none, (.ref 769), @PySem.Value.none, 0⟩, #[]⟩) ::
    (nat_lit 771, ⟨(.type "tuple"), none, (@PySem.Data.seq #[] 0), #[]⟩) ::
    (nat_lit 773, ⟨(.type "tuple"), none, (@PySem.Data.seq #[(.str (Str.ofString "value") 1204), (.str (Str.ofString "sign") 1205)] 0), #[]⟩) ::
    (nat_lit 774, ⟨(.type "tuple"), none, (@PySem.Data.seq #[] 0), #[]⟩) ::
    (nat_lit 776, ⟨(.type "code"), none, (@PySem.Data.fields #[(.str (Str.ofString "_law_digit") 1201), (.str (Str.ofString "_law_digit") 1202), (.str (Str.ofString "/claim/cut.py") 1203), (.int 766 0), (.int 2 0), (.int 0 0), (.int 0 0), (.int 3 0), (.ref 771), (@PySem.Value.bool true), (.int 273 0), (.ref 772), @PySem.Value.none, (.ref 773), (.ref 774), (.ref 775), (.int 1206 0), (.int 766 0), (.str (Str.ofString "/claim/cut.py") 1207)]), #[]⟩) ::
    (nat_lit 777, ⟨(.type "function"), none, .func ⟨(Str.ofString "_law_digit"), (Str.ofString "_law_digit"), a777, .stmts b777, c777, 3, [], @PySem.Value.none, @PySem.Value.none, @PySem.Value.none, (.str (Str.ofString "law_il0179_01") 1168), none, (.ref 776), @PySem.Value.none, 0⟩, #[]⟩) ::
    (nat_lit 778, ⟨(.type "tuple"), none, (@PySem.Data.seq #[] 0), #[]⟩) ::
    (nat_lit 780, ⟨(.type "tuple"), none, (@PySem.Data.seq #[(.str (Str.ofString "state") 1212), (.str (Str.ofString "token") 1213), (.str (Str.ofString "numbers") 1214), (.str (Str.ofString "word") 1215)] 0), #[]⟩) ::
    (nat_lit 781, ⟨(.type "tuple"), none, (@PySem.Data.seq #[] 0), #[]⟩) ::
    (nat_lit 783, ⟨(.type "code"), none, (@PySem.Data.fields #[(.str (Str.ofString "_law_token") 1209), (.str (Str.ofString "_law_token") 1210), (.str (Str.ofString "/claim/cut.py") 1211), (.int 768 0), (.int 2 0), (.int 0 0), (.int 0 0), (.int 3 0), (.ref 778), (@PySem.Value.bool true), (.int 273 0), (.ref 779), @PySem.Value.none, (.ref 780), (.ref 781), (.ref 782), (.int 1216 0), (.int 768 0), (.str (Str.ofString "/claim/cut.py") 1217)]), #[]⟩) ::
    (nat_lit 784, ⟨(.type "function"), none, .func ⟨(Str.ofString "_law_token"), (Str.ofString "_law_token"), a784, .stmts b784, c784, 3, [], @PySem.Value.none, @PySem.Value.none, @PySem.Value.none, (.str (Str.ofString "law_il0179_01") 1168), none, (.ref 783), @PySem.Value.none, 0⟩, #[]⟩) ::
    (nat_lit 785, ⟨(.type "tuple"), none, (@PySem.Data.seq #[] 0), #[]⟩) ::
    (nat_lit 787, ⟨(.type "tuple"), none, (@PySem.Data.seq #[(.str (Str.ofString "trees") 1222), (.str (Str.ofString "number") 1223), (.str (Str.ofString "count") 1224)] 0), #[]⟩) ::
    (nat_lit 788, ⟨(.type "tuple"), none, (@PySem.Data.seq #[] 0), #[]⟩) ::
    (nat_lit 790, ⟨(.type "code"), none, (@PySem.Data.fields #[(.str (Str.ofString "_law_front") 1219), (.str (Str.ofString "_law_front") 1220), (.str (Str.ofString "/claim/cut.py") 1221), (.int 773 0), (.int 2 0), (.int 0 0), (.int 0 0), (.int 3 0), (.ref 785), (@PySem.Value.bool true), (.int 273 0), (.ref 786), @PySem.Value.none, (.ref 787), (.ref 788), (.ref 789), (.int 1225 0), (.int 773 0), (.str (Str.ofString "/claim/cut.py") 1226)]), #[]⟩) ::
    (nat_lit 791, ⟨(.type "function"), none, .func ⟨(Str.ofString "_law_front"), (Str.ofString "_law_front"), a791, .stmts b791, c791, 3, [], @PySem.Value.none, @PySem.Value.none, @PySem.Value.none, (.str (Str.ofString "law_il0179_01") 1168), none, (.ref 790), @PySem.Value.none, 0⟩, #[]⟩) ::
    (nat_lit 792, ⟨(.type "tuple"), none, (@PySem.Data.seq #[] 0), #[]⟩) ::
    (nat_lit 794, ⟨(.type "tuple"), none, (@PySem.Data.seq #[(.str (Str.ofString "row") 1231)] 0), #[]⟩) ::
    (nat_lit 795, ⟨(.type "tuple"), none, (@PySem.Data.seq #[] 0), #[]⟩) ::
    (nat_lit 797, ⟨(.type "code"), none, (@PySem.Data.fields #[(.str (Str.ofString "_law_number") 1228), (.str (Str.ofString "_law_number") 1229), (.str (Str.ofString "/claim/cut.py") 1230), (.int 776 0), (.int 1 0), (.int 0 0), (.int 0 0), (.int 3 0), (.ref 792), (@PySem.Value.bool true), (.int 273 0), (.ref 793), @PySem.Value.none, (.ref 794), (.ref 795), (.ref 796), (.int 1232 0), (.int 776 0), (.str (Str.ofString "/claim/cut.py") 1233)]), #[]⟩) ::
    (nat_lit 798, ⟨(.type "function"), none, .func ⟨(Str.ofString "_law_number"), (Str.ofString "_law_number"), a798, .stmts b798, c798, 3, [], @PySem.Value.none, @PySem.Value.none, @PySem.Value.none, (.str (Str.ofString "law_il0179_01") 1168), none, (.ref 797), @PySem.Value.none, 0⟩, #[]⟩) ::
    (nat_lit 799, ⟨(.type "tuple"), none, (@PySem.Data.seq #[] 0), #[]⟩) ::
    (nat_lit 801, ⟨(.type "tuple"), none, (@PySem.Data.seq #[(.str (Str.ofString "row") 1238), (.str (Str.ofString "tree") 1239), (.str (Str.ofString "turn") 1240), (.str (Str.ofString "part") 1241)] 0), #[]⟩) ::
    (nat_lit 802, ⟨(.type "tuple"), none, (@PySem.Data.seq #[] 0), #[]⟩) ::
    (nat_lit 804, ⟨(.type "code"), none, (@PySem.Data.fields #[(.str (Str.ofString "_law_tree") 1235), (.str (Str.ofString "_law_tree") 1236), (.str (Str.ofString "/claim/cut.py") 1237), (.int 781 0), (.int 1 0), (.int 0 0), (.int 0 0), (.int 3 0), (.ref 799), (@PySem.Value.bool true), (.int 273 0), (.ref 800), @PySem.Value.none, (.ref 801), (.ref 802), (.ref 803), (.int 1242 0), (.int 781 0), (.str (Str.ofString "/claim/cut.py") 1243)]), #[]⟩) ::
    (nat_lit 805, ⟨(.type "function"), none, .func ⟨(Str.ofString "_law_tree"), (Str.ofString "_law_tree"), a805, .stmts b805, c805, 3, [], @PySem.Value.none, @PySem.Value.none, @PySem.Value.none, (.str (Str.ofString "law_il0179_01") 1168), none, (.ref 804), @PySem.Value.none, 0⟩, #[]⟩) ::
    (nat_lit 806, ⟨(.type "tuple"), none, (@PySem.Data.seq #[] 0), #[]⟩) ::
    (nat_lit 808, ⟨(.type "tuple"), none, (@PySem.Data.seq #[(.str (Str.ofString "octets") 1248), (.str (Str.ofString "row") 1249), (.str (Str.ofString "trees") 1250), (.str (Str.ofString "tree") 1251)] 0), #[]⟩) ::
    (nat_lit 809, ⟨(.type "tuple"), none, (@PySem.Data.seq #[] 0), #[]⟩) ::
    (nat_lit 811, ⟨(.type "code"), none, (@PySem.Data.fields #[(.str (Str.ofString "_law_forest") 1245), (.str (Str.ofString "_law_forest") 1246), (.str (Str.ofString "/claim/cut.py") 1247), (.int 790 0), (.int 1 0), (.int 0 0), (.int 0 0), (.int 3 0), (.ref 806), (@PySem.Value.bool true), (.int 273 0), (.ref 807), @PySem.Value.none, (.ref 808), (.ref 809), (.ref 810), (.int 1252 0), (.int 790 0), (.str (Str.ofString "/claim/cut.py") 1253)]), #[]⟩) ::
    (nat_lit 812, ⟨(.type "function"), none, .func ⟨(Str.ofString "_law_forest"), (Str.ofString "_law_forest"), a812, .stmts b812, c812, 3, [], @PySem.Value.none, @PySem.Value.none, @PySem.Value.none, (.str (Str.ofString "law_il0179_01") 1168), none, (.ref 811), @PySem.Value.none, 0⟩, #[]⟩) ::
    (nat_lit 813, ⟨(.type "tuple"), none, (@PySem.Data.seq #[] 0), #[]⟩) ::
    (nat_lit 816, ⟨(.type "code"), none, (@PySem.Data.fields #[(.str (Str.ofString "law") 1255), (.str (Str.ofString "law") 1256), (.str (Str.ofString "/claim/cut.py") 1257), (.int 798 0), (.int 1 0), (.int 0 0), (.int 0 0), (.int 3 0), (.ref 813), (@PySem.Value.bool true), (.int 273 0), (.ref 814), @PySem.Value.none, @PySem.Value.none, @PySem.Value.none, (.ref 815), (.int 1258 0), (.int 798 0), (.str (Str.ofString "/claim/cut.py") 1259)]), #[]⟩) ::
    (nat_lit 817, ⟨(.type "function"), none, .func ⟨(Str.ofString "law"), (Str.ofString "law"), a817, .stmts b817, c817, 3, [], @PySem.Value.none, @PySem.Value.none, @PySem.Value.none, (.str (Str.ofString "law_il0179_01") 1168), none, (.ref 816), @PySem.Value.none, 0⟩, #[]⟩) :: [] : Frag)) _ _ _ ?h46 _ _ _ ?h53 _ _ _ ?h60 _ _ _ ?h87 _ _ _ ?h364 _ _ _ ?h371 _ _ _ ?h378 _ _ _ ?h385 _ _ _ ?h392 _ _ _ ?h399 _ _ _ ?h540 _ _ _ ?h548 _ _ _ ?h653 _ _ _ ?h660 _ _ _ ?h690 _ _ _ ?h697 _ _ _ ?h719 _ _ _ ?h726 _ _ _ ?h742 _ _ _ ?h749 _ _ _ ?h756 _ _ _ ?h763 _ _ _ ?h770 _ _ _ ?h777 _ _ _ ?h784 _ _ _ ?h791 _ _ _ ?h798 _ _ _ ?h805 _ _ _ ?h812 _ _ _ ?h817
  case h46 => conv => lhs; whnf
  case h53 => conv => lhs; whnf
  case h60 => conv => lhs; whnf
  case h87 => conv => lhs; whnf
  case h364 => conv => lhs; whnf
  case h371 => conv => lhs; whnf
  case h378 => conv => lhs; whnf
  case h385 => conv => lhs; whnf
  case h392 => conv => lhs; whnf
  case h399 => conv => lhs; whnf
  case h540 => conv => lhs; whnf
  case h548 => conv => lhs; whnf
  case h653 => conv => lhs; whnf
  case h660 => conv => lhs; whnf
  case h690 => conv => lhs; whnf
  case h697 => conv => lhs; whnf
  case h719 => conv => lhs; whnf
  case h726 => conv => lhs; whnf
  case h742 => conv => lhs; whnf
  case h749 => conv => lhs; whnf
  case h756 => conv => lhs; whnf
  case h763 => conv => lhs; whnf
  case h770 => conv => lhs; whnf
  case h777 => conv => lhs; whnf
  case h784 => conv => lhs; whnf
  case h791 => conv => lhs; whnf
  case h798 => conv => lhs; whnf
  case h805 => conv => lhs; whnf
  case h812 => conv => lhs; whnf
  case h817 => conv => lhs; whnf
noncomputable def hd.keys : List Nat := nat_lit 2 :: nat_lit 3 :: nat_lit 40 :: nat_lit 42 :: nat_lit 43 :: nat_lit 45 :: nat_lit 46 :: nat_lit 47 :: nat_lit 49 :: nat_lit 50 :: nat_lit 52 :: nat_lit 53 :: nat_lit 54 :: nat_lit 56 :: nat_lit 57 :: nat_lit 59 :: nat_lit 60 :: nat_lit 61 :: nat_lit 68 :: nat_lit 69 :: nat_lit 70 :: nat_lit 71 :: nat_lit 81 :: nat_lit 83 :: nat_lit 84 :: nat_lit 86 :: nat_lit 87 :: nat_lit 88 :: nat_lit 89 :: nat_lit 90 :: nat_lit 91 :: nat_lit 92 :: nat_lit 93 :: nat_lit 96 :: nat_lit 103 :: nat_lit 104 :: nat_lit 105 :: nat_lit 108 :: nat_lit 115 :: nat_lit 116 :: nat_lit 117 :: nat_lit 120 :: nat_lit 156 :: nat_lit 345 :: nat_lit 346 :: nat_lit 347 :: nat_lit 350 :: nat_lit 357 :: nat_lit 358 :: nat_lit 360 :: nat_lit 361 :: nat_lit 363 :: nat_lit 364 :: nat_lit 365 :: nat_lit 367 :: nat_lit 368 :: nat_lit 370 :: nat_lit 371 :: nat_lit 372 :: nat_lit 374 :: nat_lit 375 :: nat_lit 377 :: nat_lit 378 :: nat_lit 379 :: nat_lit 381 :: nat_lit 382 :: nat_lit 384 :: nat_lit 385 :: nat_lit 386 :: nat_lit 388 :: nat_lit 389 :: nat_lit 391 :: nat_lit 392 :: nat_lit 393 :: nat_lit 395 :: nat_lit 396 :: nat_lit 398 :: nat_lit 399 :: nat_lit 400 :: nat_lit 408 :: nat_lit 416 :: nat_lit 424 :: nat_lit 432 :: nat_lit 533 :: nat_lit 534 :: nat_lit 536 :: nat_lit 537 :: nat_lit 539 :: nat_lit 540 :: nat_lit 541 :: nat_lit 542 :: nat_lit 544 :: nat_lit 545 :: nat_lit 547 :: nat_lit 548 :: nat_lit 592 :: nat_lit 593 :: nat_lit 594 :: nat_lit 646 :: nat_lit 647 :: nat_lit 649 :: nat_lit 650 :: nat_lit 652 :: nat_lit 653 :: nat_lit 654 :: nat_lit 656 :: nat_lit 657 :: nat_lit 659 :: nat_lit 660 :: nat_lit 661 :: nat_lit 684 :: nat_lit 686 :: nat_lit 687 :: nat_lit 689 :: nat_lit 690 :: nat_lit 691 :: nat_lit 693 :: nat_lit 694 :: nat_lit 696 :: nat_lit 697 :: nat_lit 713 :: nat_lit 715 :: nat_lit 716 :: nat_lit 718 :: nat_lit 719 :: nat_lit 720 :: nat_lit 722 :: nat_lit 723 :: nat_lit 725 :: nat_lit 726 :: nat_lit 727 :: nat_lit 728 :: nat_lit 729 :: nat_lit 730 :: nat_lit 731 :: nat_lit 734 :: nat_lit 735 :: nat_lit 736 :: nat_lit 738 :: nat_lit 739 :: nat_lit 741 :: nat_lit 742 :: nat_lit 743 :: nat_lit 745 :: nat_lit 746 :: nat_lit 748 :: nat_lit 749 :: nat_lit 750 :: nat_lit 752 :: nat_lit 753 :: nat_lit 755 :: nat_lit 756 :: nat_lit 757 :: nat_lit 759 :: nat_lit 760 :: nat_lit 762 :: nat_lit 763 :: nat_lit 764 :: nat_lit 766 :: nat_lit 767 :: nat_lit 769 :: nat_lit 770 :: nat_lit 771 :: nat_lit 773 :: nat_lit 774 :: nat_lit 776 :: nat_lit 777 :: nat_lit 778 :: nat_lit 780 :: nat_lit 781 :: nat_lit 783 :: nat_lit 784 :: nat_lit 785 :: nat_lit 787 :: nat_lit 788 :: nat_lit 790 :: nat_lit 791 :: nat_lit 792 :: nat_lit 794 :: nat_lit 795 :: nat_lit 797 :: nat_lit 798 :: nat_lit 799 :: nat_lit 801 :: nat_lit 802 :: nat_lit 804 :: nat_lit 805 :: nat_lit 806 :: nat_lit 808 :: nat_lit 809 :: nat_lit 811 :: nat_lit 812 :: nat_lit 813 :: nat_lit 816 :: nat_lit 817 :: []

theorem hd.keys_of (P : Params) : hd.keys = (hd.heap_39 P).map (·.1) := by kernel_rfl
noncomputable def hd.view : Program := PySem.W.view PySem.Challenge.pw_il0179_01 [0, 1, 3, 5, 6, 7, 8, 9, 10, 11, 12, 14, 15, 16, 17, 18, 19, 21, 23, 26, 27, 28, 29, 30, 31, 32, 33, 34, 35, 36]
noncomputable def hd.loose : List Str := [Str.ofString "UnsupportedOperation", Str.ofString "IOBase", Str.ofString "BufferedIOBase", Str.ofString "TextIOBase", Str.ofString "BytesIO", Str.ofString "StringIO", Str.ofString "shlex", Str.ofString "_initial_missing", Str.ofString "reduce"]

noncomputable abbrev hd.row : OpenRow := PySem.Challenge.rw_il0179_01.row
noncomputable abbrev hd.hook : Hook := kHook hd.heap_39 hd.keys hd.keys_of
theorem hd.said : PySem.Challenge.rw_il0179_01.wellSaid = true := by
  rw [PySem.W.Fast.te9446332074065402090]
  kernel_rfl
theorem hd.mods : importedModules PySem.Challenge.pw_il0179_01.main.body = [Str.ofString "_collections"] := by kernel_rfl
theorem hd.numpy : PySem.Challenge.pw_il0179_01.main.body.any namesNumpy = false := by kernel_rfl
theorem hd.left : LeftO PySem.Challenge.pw_il0179_01 hd.view hd.loose (fun s => xlAt hd.view [] s && recOk (RowW.records hd.row.toRowW) s) (Hook.obs hd.hook) (Hook.val hd.hook) 10396 :=
  left_k (M := 900) hd.mods hd.numpy (Nat.le_of_ble_eq_true rfl) fun w => by kernel_rfl
theorem hd {d : DefRec} {kwd : List (Str × Expr)} (hdef : defOf hd.view (Str.ofString "law") = some (d, kwd)) (hp : PySem.Challenge.pw_il0179_01.theDef (Str.ofString "law") = some (d.params, d.body, d.scope)) (hk : kwWritten? d.params.kwonlyargs d.params.kw_defaults = some kwd)
    (walk : WalkO hd.view hd.loose (XL hd.view []) (Hook.says hd.hook) hd.row.toRowW d kwd fun f vs => PySem.call f vs) : PySem.Challenge.rw_il0179_01.Holds := by
  w_on
  refine holds_law hd.said fun said => ?_
  refine holds_open (q := hd.view) (loose := hd.loose) (XP := XL hd.view []) (Yf := Hook.obs hd.hook) (Ya := Hook.val hd.hook) (YP := Hook.says hd.hook) (N := 10396) hd.left (Hook.of hd.hook) (Hook.keeps hd.hook) (fun s e => xl_of s (Bool.and_eq_true_iff.mp e).1) XL.keeps hdef hp hk (fun s e => recFacts_of (Bool.and_eq_true_iff.mp e).2) (by rfl) said (by decide +kernel) ⟨rfl, rfl, rfl, rfl, rfl, by decide +kernel⟩ ?hw walk
  case hw => w_witness2
end PartHd
example : PySem.Challenge.rw_il0179_01 = PySem.Challenge.rw_il0179_01 ∧ ∀ P, Mine.hd.heap_39 P = Mine.hd.heap_39 P := by
  w_top off
  k_fill
  exact ⟨rfl, fun _ => rfl⟩
section PartBase

noncomputable abbrev Aat (dp un : Nat) (fr : List Env) : Around := { handled := none, depth := dp, frames := some fr, guards := some [], units := un }

/-- what a call of the text's code needs: the frames below, the part of the heap that stays, the objects that it may turn -/
structure Gd (w : World) (A : Around) (base : Heap) (fr : List Env) (p : Program) (loose : List Str) (mean : ExcName → Option Value) (mg mb : Str → Option Value)
    (g h : Heap) (small : List (Addr × Obj)) : Prop where
  B : Below A base fr g
  X : (hd.heap_39 w.params).In g
  T : Top p loose mean mg mb g
  keep : ∀ b o, g.get? b = some o → h.get? b = some o
  size : g.objs.size ≤ h.objs.size
  news : ∀ q ∈ small, h.get? q.1 = some q.2 ∧ g.get? q.1 = none

theorem Gd.XS {w : World} {A : Around} {base : Heap} {fr : List Env} {p : Program} {loose : List Str} {mean : ExcName → Option Value} {mg mb : Str → Option Value}
    {g h : Heap} {small : List (Addr × Obj)} (G : Gd w A base fr p loose mean mg mb g h small) : (hd.heap_39 w.params).In h := G.X.keeps G.keep

noncomputable def Post (g : Heap) (Φ : Value → List (Addr × Obj) → Prop) (s : Shared) (r : Result) (s' : Shared) : Prop :=
  ∃ v small' h' tk L' m', r = .ok (.ret v) ∧ s' = { s with heap := h', toks := tk } ∧ Fr g L' h' m' ∧ News g L' h' small' ∧ Φ v small'

theorem Post.intro {g : Heap} {Φ : Value → List (Addr × Obj) → Prop} {s : Shared} {v : Value} {news small' : List (Addr × Obj)} {h' : Heap} {tk : Nat} {L' : Addr} {m' : Str → Option Value}
    (F : Fr g L' h' m') (N : News g L' h' news) (hs : ∀ q ∈ small', q ∈ news) (hΦ : Φ v small') : Post g Φ s (.ok (.ret v)) { s with heap := h', toks := tk } :=
  ⟨v, small', h', tk, L', m', rfl, rfl, F, fun q hq => N q (hs q hq), hΦ⟩

section
variable {w : World} {A : Around} {s : Shared} {base g : Heap} {fr : List Env} {p : Program} {loose : List Str} {mean : ExcName → Option Value} {mg mb : Str → Option Value}
  {small : List (Addr × Obj)}
  {R : Result → Shared → Prop} {name qual : Str} {params : Arguments} {body : List Stmt} {scope : Scope} {dV kV doc pm cdv ct oc : Value} {an od : Option Addr} {osl : Array (Option Value)} {f : Addr} {args : Args} {binds : List (Str × Value)}

theorem enter {prog : Program} (G : Gd w A base fr p loose mean mg mb g s.heap small)
    (ho : (hd.heap_39 w.params).lookup f = some ⟨oc, od, .func (fnOf name qual params body scope dV kV doc pm an cdv ct), osl⟩) (hcd : codeIn (hd.heap_39 w.params) cdv qual = true) (hroom : A.depth < recursionLimit)
    (hbind : BindsTo s (fnOf name qual params body scope dV kV doc pm an cdv ct) args binds) (hloc : ∀ y ∈ binds, scope.names.lookup y.1 = some .local)
    (h : ∀ L' h₁, Fr g L' h₁ (fun y => binds.reverse.lookup y) → News g L' h₁ small → (∀ q ∈ small, q.1 < L') → Below A base fr g → (hd.heap_39 w.params).In g → Top p loose mean mg mb g →
      wpAny (model prog w) (A.deeper (envOf qual scope L' f cdv)) (execs body (envOf qual scope L' f cdv))
        (fun fl s' => R (.ok (.ret (match fl with | .ret v => v | _ => .none))) s')
        (fun e s' => wpAny (model prog w) (A.deeper (envOf qual scope L' f cdv)) (leaving (envOf qual scope L' f cdv) e) (fun _ s'' => R (.error e) s'') (fun e' s'' => R (.error e') s'') s')
        { s with heap := h₁, toks := s.toks + binds.length })
    (hcell : ∀ x ∈ scope.names, x.2 ≠ .cell) (hco : scope.isCoroutine = false := by rfl) (hgen : scope.isGenerator = false := by rfl) (hk : scope.kind = .function := by rfl) : codeAny (model prog w) A (.call (.ref f) args) R s := by
  refine codeAny_call_def (fd := fnOf name qual params body scope dV kV doc pm an cdv ct) (body := body) (binds := binds) hroom (G.keep _ _ (G.X _ _ ho)) rfl (G.T.nolimit.keeps G.keep) ((codeRec_of G.X hcd).keeps G.keep) rfl hbind hcell hloc (fun h₁ hns hk₁ => ?_) hco hgen hk
  refine h s.heap.objs.size h₁ ⟨hns, fun b o e => hk₁ b o (G.keep b o e), G.size⟩ (fun q hq => ?_) (fun q hq => Heap.lt_size (G.news q hq).1) G.B G.X G.T
  have := G.news q hq
  exact ⟨hk₁ _ _ this.1, Nat.ne_of_lt (Heap.lt_size this.1), this.2⟩
end

/-- a goal that the walk lets stand -/
noncomputable def Held (P : Prop) : Prop := P
theorem Held.mk {P : Prop} (h : Held P) : P := h
theorem Held.is {P : Prop} (h : P) : Held P := h

inductive Rem : (Addr × Obj) → List (Addr × Obj) → List (Addr × Obj) → Prop where
  | head {q : Addr × Obj} {r : List (Addr × Obj)} : Rem q (q :: r) r
  | tail {q p : Addr × Obj} {r r' : List (Addr × Obj)} : Rem q r r' → Rem q (p :: r) (p :: r')
theorem Rem.mem {q : Addr × Obj} {r r' : List (Addr × Obj)} (h : Rem q r r') : q ∈ r ∧ ∀ p ∈ r', p ∈ r := by
  induction h with
  | head => exact And.intro (List.Mem.head _) (fun _ h => List.Mem.tail _ h)
  | tail _ ih =>
    refine And.intro (List.Mem.tail _ ih.1) ?_
    intro p hp
    cases hp with
    | head => exact List.Mem.head _
    | tail _ hp => exact List.Mem.tail _ (ih.2 p hp)
inductive Pick : List (Addr × Obj) → List (Addr × Obj) → List (Addr × Obj) → Prop where
  | nil {r : List (Addr × Obj)} : Pick [] r r
  | cons {q : Addr × Obj} {l r m r' : List (Addr × Obj)} : Rem q r m → Pick l m r' → Pick (q :: l) r r'
theorem Pick.mem {l r r' : List (Addr × Obj)} (h : Pick l r r') : (∀ p ∈ l, p ∈ r) ∧ ∀ p ∈ r', p ∈ r := by
  induction h with
  | nil => exact And.intro (fun _ h => (nomatch h)) (fun _ h => h)
  | cons hr _ ih =>
    refine ⟨fun p hp => ?_, fun p hp => hr.mem.2 p (ih.2 p hp)⟩
    cases hp with
    | head => exact hr.mem.1
    | tail _ hp => exact hr.mem.2 p (ih.1 p hp)

section
variable {prog : Program} {w : World} {A₀ A : Around} {s : Shared} {base h₀ : Heap} {outer : List Env} {env : Env} {L : Addr} {m : Str → Option Value} {p : Program} {loose : List Str} {mean : ExcName → Option Value} {mg mb : Str → Option Value}
  {all small rest : List (Addr × Obj)} {E : Value → Shared → Prop}

/-- a call by its contract -/
theorem by_contract {f : Value} {pos : List Value} {kw : List (Str × Value)} {Q : Value → Shared → Prop} {Φ : Value → List (Addr × Obj) → Prop}
    (B : Below A₀ base outer h₀) (F : Fr h₀ L s.heap m) (X₀ : (hd.heap_39 w.params).In h₀) (N : News h₀ L s.heap all) (T : Top p loose mean mg mb h₀) (hA : A.frames = some (env :: outer)) (hf : env.frame = some L) (hke : env.scope.kind = .function)
    (C : ∀ g, Gd w A base (env :: outer) p loose mean mg mb g s.heap small → codeAny (model prog w) A (.call f ⟨pos, kw⟩) (Post g Φ s) s)
    (hp : Pick small all rest) (hsep : ∀ q ∈ small, ∀ p ∈ rest, p.1 ≠ q.1)
    (h : ∀ v small' h' tk, Fr h₀ L h' m → News h₀ L h' (small' ++ rest) → Φ v small' → Q v { s with heap := h', toks := tk }) :
    wpAny (model prog w) A (PySem.call f pos kw) Q E s := by
  have Ns : News h₀ L s.heap small := fun q hq => N q (hp.mem.1 q hq)
  obtain ⟨FG, BG, st, _⟩ := groundX (R := fun _ _ => True) B F Ns hA hf hke
  refine wpAny_call (codeAny_mono (C _ ⟨BG, X₀.keeps st, T.keeps st, fun b o e => of_hideAll _ e, Nat.le_of_eq (hideAll_size _ _), fun q hq => ⟨(Ns q hq).1, hideAll_none _ (List.mem_map_of_mem hq)⟩⟩) fun r s' hr => ?_)
  obtain ⟨v, small', h', tk, L', m', rfl, rfl, F', N', hΦ⟩ := hr
  obtain ⟨oL, es, ep, hL, hLd, hLk, hLf⟩ := FG.ns
  refine h v small' h' tk ⟨⟨oL, es, ep, F'.keep L oL hL, hLd, hLk, hLf⟩, fun b o e => F'.keep b o (st b o e), F.above⟩ (fun q hq => ?_) hΦ
  rcases List.mem_append.mp hq with hq | hq
  · refine ⟨(N' q hq).1, fun e => ?_, ?_⟩
    · have := (N' q hq).2.2; rw [e, hL] at this; cases this
    · cases e : h₀.get? q.1 with
      | none => rfl
      | some o => have := (N' q hq).2.2; rw [st _ _ e] at this; cases this
  · have hq' := N q (hp.mem.2 q hq)
    refine ⟨F'.keep _ _ (hideAll_get _ hq'.1 fun hm => ?_), hq'.2⟩
    obtain ⟨y, hy, e⟩ := List.mem_map.mp hm
    exact hsep y hy q hq e.symm
end

noncomputable def LoopEnd (h₀ : Heap) (L : Addr) (s : Shared) (J : Nat → (Str → Option Value) → List (Addr × Obj) → Prop) (Q : Flow → Shared → Prop) (n : Nat) (f : Flow) (s₃ : Shared) : Prop :=
  match f with
  | .next | .cont => ∃ h' tk m₂ news₂ n', s₃ = { s with heap := h', toks := tk } ∧ Fr h₀ L h' m₂ ∧ News h₀ L h' news₂ ∧ n' < n ∧ J n' m₂ news₂
  | .brk => Q .next s₃
  | .ret v => Q (.ret v) s₃
theorem LoopEnd.next {h₀ : Heap} {L : Addr} {s : Shared} {J : Nat → (Str → Option Value) → List (Addr × Obj) → Prop} {Q : Flow → Shared → Prop} {n : Nat} {h' : Heap} {tk : Nat} {m₂ : Str → Option Value} {news₂ : List (Addr × Obj)}
    (F : Fr h₀ L h' m₂) (N : News h₀ L h' news₂) (h : Held (∃ n', n' < n ∧ J n' m₂ news₂)) : LoopEnd h₀ L s J Q n .next { s with heap := h', toks := tk } :=
  let ⟨n', a, b⟩ := h; ⟨h', tk, m₂, news₂, n', rfl, F, N, a, b⟩
theorem LoopEnd.cont {h₀ : Heap} {L : Addr} {s : Shared} {J : Nat → (Str → Option Value) → List (Addr × Obj) → Prop} {Q : Flow → Shared → Prop} {n : Nat} {h' : Heap} {tk : Nat} {m₂ : Str → Option Value} {news₂ : List (Addr × Obj)}
    (F : Fr h₀ L h' m₂) (N : News h₀ L h' news₂) (h : Held (∃ n', n' < n ∧ J n' m₂ news₂)) : LoopEnd h₀ L s J Q n .cont { s with heap := h', toks := tk } :=
  let ⟨n', a, b⟩ := h; ⟨h', tk, m₂, news₂, n', rfl, F, N, a, b⟩
theorem LoopEnd.brk {h₀ : Heap} {L : Addr} {s s₃ : Shared} {J : Nat → (Str → Option Value) → List (Addr × Obj) → Prop} {Q : Flow → Shared → Prop} {n : Nat} (h : Q .next s₃) : LoopEnd h₀ L s J Q n .brk s₃ := h
theorem LoopEnd.ret {h₀ : Heap} {L : Addr} {s s₃ : Shared} {J : Nat → (Str → Option Value) → List (Addr × Obj) → Prop} {Q : Flow → Shared → Prop} {n : Nat} {v : Value} (h : Q (.ret v) s₃) : LoopEnd h₀ L s J Q n (.ret v) s₃ := h

theorem while_m {prog : Program} {w : World} {A : Around} {E : Value → Shared → Prop} {Q : Flow → Shared → Prop} {s : Shared} {env : Env} {h₀ : Heap} {L : Addr}
    {test : Expr} {body : List Stmt} {pos : Pos} {m : Str → Option Value} {news : List (Addr × Obj)} (J : Nat → (Str → Option Value) → List (Addr × Obj) → Prop) {n₀ : Nat}
    (F : Fr h₀ L s.heap m) (N : News h₀ L s.heap news) (hJ : J n₀ m news)
    (turn : ∀ n m₁ news₁ h₁ tk₁, Fr h₀ L h₁ m₁ → News h₀ L h₁ news₁ → J n m₁ news₁ →
      wpAny (model prog w) A (isTrue test env (eval test env)) (fun b s₂ =>
        if b = true then wpAny (model prog w) A (execs body env) (LoopEnd h₀ L s J Q n) E s₂ else Q .next s₂) E { s with heap := h₁, toks := tk₁ })
    (hE : PassesOwn (model prog w) A env E) :
    wpAny (model prog w) A (exec (.While test body [] pos) env) Q E s := by
  refine While_inv2 J F N hJ (fun n m₁ news₁ h₁ tk₁ F₁ N₁ J₁ => wpAny_mono (turn n m₁ news₁ h₁ tk₁ F₁ N₁ J₁) (fun b s₂ h₂ => ?_) fun _ _ x => x) hE
  cases b with
  | false => exact h₂
  | true =>
    simp only [if_true] at h₂ ⊢
    refine wpAny_mono h₂ (fun f s₃ h₃ => ?_) fun _ _ x => x
    cases f <;> exact h₃
theorem held_tree {α : Type} {M : Model} {A : Around} {t : Sem α} {Q : α → Shared → Prop} {E : Value → Shared → Prop} {s : Shared} (h : Held (wpAny M A t Q E s)) : wpAny M A t Q E s := h

theorem fr_know {g h : Heap} {L : Addr} {m : Str → Option Value} {a : Str} {v : Value} (e : m a = some v) (F : Fr g L h m) : Fr g L h (fun y => if y = a then some v else m y) := by
  have : (fun y => if y = a then some v else m y) = m := by
    funext y
    by_cases h : y = a
    · rw [if_pos h, h, e]
    · rw [if_neg h]
  rw [this]
  exact F
theorem fr_know3 {g h : Heap} {L : Addr} {m : Str → Option Value} {a b c : Str} {v1 v2 v3 : Value} (e1 : m a = some v1) (e2 : m b = some v2) (e3 : m c = some v3) (F : Fr g L h m) :
    Fr g L h (fun y => if y = a then some v1 else if y = b then some v2 else if y = c then some v3 else m y) := by
  have : (fun y => if y = a then some v1 else if y = b then some v2 else if y = c then some v3 else m y) = m := by
    funext y
    by_cases h1 : y = a
    · rw [if_pos h1, h1, e1]
    · by_cases h2 : y = b
      · rw [if_neg h1, if_pos h2, h2, e2]
      · by_cases h3 : y = c
        · rw [if_neg h1, if_neg h2, if_pos h3, h3, e3]
        · rw [if_neg h1, if_neg h2, if_neg h3]
  rw [this]
  exact F
theorem News.sub {g h : Heap} {L : Addr} {l l' : List (Addr × Obj)} (N : News g L h l) (e : ∀ q ∈ l', q ∈ l) : News g L h l' := fun q hq => N q (e q hq)
noncomputable abbrev kv (hs : Nat → Int × Tok) (i : Nat) (n : String) (v : Value) : DictEntry := ⟨(hs i).1, .str (Str.ofString n) (hs i).2, v⟩
/-- the dict of a StringIO -/
noncomputable abbrev ioD (hs : Nat → Int × Tok) (tn : Tok) (buf : Str) (tb : Tok) (pos : Int) (tp : Tok) : Obj :=
  dictOf [kv hs 0 "_StringIO__newline" (.str (Str.ofString "\n") tn), kv hs 1 "_StringIO__buf" (.str buf tb), kv hs 2 "_StringIO__pos" (.int pos tp)] 3
/-- the dict of a shlex, posix -/
noncomputable def lexEs (hs : Nat → Int × Tok) (ts : Nat → Tok) (wc : Str) (a pb fs : Addr) (st : Value) (ln : Int) (tl : Tok) (tok : Str) (tt : Tok) : List DictEntry :=
  [kv hs 0 "instream" (.ref a), kv hs 1 "infile" .none, kv hs 2 "posix" (.bool true), kv hs 3 "eof" .none, kv hs 4 "commenters" (.str (Str.ofString "#") (ts 4)),
    kv hs 5 "wordchars" (.str wc (ts 5)), kv hs 6 "whitespace" (.str (Str.ofString " \t\r\n") (ts 6)), kv hs 7 "whitespace_split" (.bool false), kv hs 8 "quotes" (.str (Str.ofString "'\"") (ts 8)),
    kv hs 9 "escape" (.str (Str.ofString "\\") (ts 9)), kv hs 10 "escapedquotes" (.str (Str.ofString "\"") (ts 10)), kv hs 11 "state" st, kv hs 12 "pushback" (.ref pb), kv hs 13 "lineno" (.int ln tl),
    kv hs 14 "debug" (.int 0 (ts 14)), kv hs 15 "token" (.str tok tt), kv hs 16 "filestack" (.ref fs), kv hs 17 "source" .none, kv hs 18 "_punctuation_chars" (.str (Str.ofString "") (ts 18))]
noncomputable abbrev lexD (hs : Nat → Int × Tok) (ts : Nat → Tok) (wc : Str) (a pb fs : Addr) (st : Value) (ln : Int) (tl : Tok) (tok : Str) (tt : Tok) : Obj := dictOf (lexEs hs ts wc a pb fs st ln tl tok tt) 19
noncomputable abbrev dqO (n : Int) (items : List Value) : Obj := { cls := .type "collections.deque", data := .fields (Value.none :: .int n 0 :: items).toArray }
/-- two addresses that are not one -/
structure Ap (a b : Nat) : Prop where
  ne : a ≠ b
theorem Ap.ne' {a b : Nat} (h : Ap a b) : b ≠ a := fun e => h.ne e.symm
theorem Ap.lt {a b : Nat} (h : a < b) : Ap a b := ⟨Nat.ne_of_lt h⟩
theorem aps5 {a b c d e : Nat} (h : a < b ∧ b < c ∧ c < d ∧ d < e) : Ap a b ∧ Ap a c ∧ Ap a d ∧ Ap a e ∧ Ap b c ∧ Ap b d ∧ Ap b e ∧ Ap c d ∧ Ap c e ∧ Ap d e := by
  obtain ⟨h1, h2, h3, h4⟩ := h
  refine ⟨.lt ?_, .lt ?_, .lt ?_, .lt ?_, .lt ?_, .lt ?_, .lt ?_, .lt ?_, .lt ?_, .lt ?_⟩ <;> omega
theorem aps_last {a b c d e f : Nat} (h : a < b ∧ b < c ∧ c < d ∧ d < e ∧ e < f) : Ap a f ∧ Ap b f ∧ Ap c f ∧ Ap d f ∧ Ap e f := by
  obtain ⟨h1, h2, h3, h4, h5⟩ := h
  refine ⟨.lt ?_, .lt ?_, .lt ?_, .lt ?_, .lt ?_⟩ <;> omega
theorem aps_under {a b c d e f q : Nat} (h : q < a ∧ a < b ∧ b < c ∧ c < d ∧ d < e ∧ e < f) : Ap q a ∧ Ap q b ∧ Ap q c ∧ Ap q d ∧ Ap q e ∧ Ap q f := by
  obtain ⟨h0, h1, h2, h3, h4, h5⟩ := h
  refine ⟨.lt ?_, .lt ?_, .lt ?_, .lt ?_, .lt ?_, .lt ?_⟩ <;> omega
theorem aps6 {a b c d e f : Nat} (h : a < b ∧ b < c ∧ c < d ∧ d < e ∧ e < f) : Ap a b ∧ Ap a c ∧ Ap a d ∧ Ap a e ∧ Ap b c ∧ Ap b d ∧ Ap b e ∧ Ap c d ∧ Ap c e ∧ Ap d e ∧ Ap a f ∧ Ap b f ∧ Ap c f ∧ Ap d f ∧ Ap e f :=
  have x := aps5 ⟨h.1, h.2.1, h.2.2.1, h.2.2.2.1⟩
  ⟨x.1, x.2.1, x.2.2.1, x.2.2.2.1, x.2.2.2.2.1, x.2.2.2.2.2.1, x.2.2.2.2.2.2.1, x.2.2.2.2.2.2.2.1, x.2.2.2.2.2.2.2.2.1, x.2.2.2.2.2.2.2.2.2, aps_last h⟩
theorem cj1 {p q : Prop} (h : p ∧ q) : p := h.1
theorem cj2 {a p q : Prop} (h : a ∧ p ∧ q) : p := h.2.1
theorem cj3 {a b p q : Prop} (h : a ∧ b ∧ p ∧ q) : p := h.2.2.1
theorem cj4 {a b c p q : Prop} (h : a ∧ b ∧ c ∧ p ∧ q) : p := h.2.2.2.1
theorem cj5 {a b c d p q : Prop} (h : a ∧ b ∧ c ∧ d ∧ p ∧ q) : p := h.2.2.2.2.1
theorem cj6 {a b c d e p q : Prop} (h : a ∧ b ∧ c ∧ d ∧ e ∧ p ∧ q) : p := h.2.2.2.2.2.1
theorem cl2 {a p : Prop} (h : a ∧ p) : p := h.2
theorem cl3 {a b p : Prop} (h : a ∧ b ∧ p) : p := h.2.2
theorem cl4 {a b c p : Prop} (h : a ∧ b ∧ c ∧ p) : p := h.2.2.2
theorem cl5 {a b c d p : Prop} (h : a ∧ b ∧ c ∧ d ∧ p) : p := h.2.2.2.2
theorem cl6 {a b c d e p : Prop} (h : a ∧ b ∧ c ∧ d ∧ e ∧ p) : p := h.2.2.2.2.2
theorem un_le {n a k b : Nat} (h : n ≤ a) (e : Nat.ble (a + k) b = true) : n + k ≤ b := Nat.le_trans (Nat.add_le_add_right h k) (Nat.le_of_ble_eq_true e)
theorem un_lt {n a k b : Nat} (h : n ≤ a) (e : Nat.ble (a + k + 1) b = true) : n + k < b := Nat.lt_of_lt_of_le (Nat.lt_succ_of_le (Nat.add_le_add_right h k)) (Nat.le_of_ble_eq_true e)
theorem un_le2 {n a j k b : Nat} (h : n ≤ a) (e : Nat.ble (a + j + k) b = true) : n + j + k ≤ b := Nat.le_trans (Nat.add_le_add_right (Nat.add_le_add_right h j) k) (Nat.le_of_ble_eq_true e)
theorem un_lt2 {n a j k b : Nat} (h : n ≤ a) (e : Nat.ble (a + j + k + 1) b = true) : n + j + k < b := Nat.lt_of_lt_of_le (Nat.lt_succ_of_le (Nat.add_le_add_right (Nat.add_le_add_right h j) k)) (Nat.le_of_ble_eq_true e)
theorem un_le0 {n a b : Nat} (h : n ≤ a) (e : Nat.ble a b = true) : n ≤ b := Nat.le_trans h (Nat.le_of_ble_eq_true e)
theorem un_lt0 {n a b : Nat} (h : n ≤ a) (e : Nat.ble (a + 1) b = true) : n < b := Nat.lt_of_lt_of_le (Nat.lt_succ_of_le h) (Nat.le_of_ble_eq_true e)
/-- what is to come, kept behind a name: the walk's goals stay short -/
inductive Cont {α : Type} (Q₀ Q : α → Shared → Prop) : Prop
  | mk (h : ∀ v s, Q₀ v s → Q v s)
theorem Cont.out {α : Type} {Q₀ Q : α → Shared → Prop} (h : Cont Q₀ Q) {v : α} {s : Shared} (x : Q₀ v s) : Q v s := by
  obtain ⟨h⟩ := h
  exact h v s x
theorem cut_post {M : Model} {A : Around} {c : Code} {R₀ : Result → Shared → Prop} {s : Shared} (h : ∀ R, Cont R₀ R → codeAny M A c R s) : codeAny M A c R₀ s := h R₀ (.mk fun _ _ x => x)
theorem cut_body {M : Model} {A : Around} {env : Env} {c : Sem Flow} {Q : Flow → Shared → Prop} {E₀ : Value → Shared → Prop} {s : Shared} (hE : PassesOwn M A env E₀)
    (h : ∀ E, Cont E₀ E → PassesOwn M A env E → wpAny M A c Q E s) : wpAny M A c Q E₀ s := h E₀ (.mk fun _ _ x => x) hE
theorem cut_q {α : Type} {M : Model} {A : Around} {c : Sem α} {Q₀ : α → Shared → Prop} {E : Value → Shared → Prop} {s : Shared} (h : ∀ Q, Cont Q₀ Q → wpAny M A c Q E s) : wpAny M A c Q₀ E s := h Q₀ (.mk fun _ _ x => x)
/-- what comes behind a statement: the rest of the block, or what the block's end asks -/
noncomputable def nextOr (X : Shared → Prop) (Y : Flow → Shared → Prop) : Flow → Shared → Prop
  | .next, s => X s
  | f, s => Y f s
theorem execs_cut {M : Model} {A : Around} {st : Stmt} {rest : List Stmt} {env : Env} {Q : Flow → Shared → Prop} {E : Value → Shared → Prop} {s : Shared}
    (h : ∀ Q', Cont (nextOr (wpAny M A (execs rest env) Q E) Q) Q' → wpAny M A (exec st env) Q' E s) : wpAny M A (execs (st :: rest) env) Q E s :=
  wpAny_execs_cons (h _ (.mk fun f _ x => by cases f <;> exact x))
theorem Cont.next {X : Shared → Prop} {Y Q' : Flow → Shared → Prop} {s : Shared} (h : Cont (nextOr X Y) Q') (x : X s) : Q' .next s := h.out x
theorem Cont.ret {X : Shared → Prop} {Y Q' : Flow → Shared → Prop} {s : Shared} {v : Value} (h : Cont (nextOr X Y) Q') (x : Y (.ret v) s) : Q' (.ret v) s := h.out x
theorem Cont.brk {X : Shared → Prop} {Y Q' : Flow → Shared → Prop} {s : Shared} (h : Cont (nextOr X Y) Q') (x : Y .brk s) : Q' .brk s := h.out x
theorem Cont.cont {X : Shared → Prop} {Y Q' : Flow → Shared → Prop} {s : Shared} (h : Cont (nextOr X Y) Q') (x : Y .cont s) : Q' .cont s := h.out x
end PartBase
section PartTxt1
theorem slice_piece {buf : Str} {a b : Nat} (hab : a ≤ b) (hb : b ≤ buf.length) : Txt.slice (Txt.slice buf (some (a : Int)) (some (b : Int)) ++ Str.ofString " ") none (some (-1)) = ⟨((buf.cps.toList.drop a).take (b - a)).toArray⟩ := by
  have h1 : Txt.slice buf (some (a : Int)) (some (b : Int)) = ⟨((buf.cps.toList.drop a).take (b - a)).toArray⟩ := by
    show StrLaws.sliceText _ _ _ = _
    exact StrLaws.sliceText_nat buf hab hb
  rw [h1]
  have hs : Str.ofString " " = ⟨#[32]⟩ := by decide +kernel
  rw [hs]
  generalize (buf.cps.toList.drop a).take (b - a) = l
  have hap : ((⟨l.toArray⟩ : Str) ++ (⟨#[32]⟩ : Str)) = ⟨(l ++ [32]).toArray⟩ := by
    show Str.mk (l.toArray ++ #[32]) = _
    simp
  rw [hap]
  show StrLaws.sliceText _ _ _ = _
  rw [StrLaws.sliceText_to_neg (by decide) (by simp [Str.length]; omega)]
  congr 2
  simp [Str.length]
  rw [show (-1 + ((l.length : Int) + 1)).toNat = l.length from by omega]
  simp
theorem slice_one {buf : Str} {pos c : Nat} {r : List Nat} (h : buf.cps.toList.drop pos = c :: r) :
    Txt.slice (Txt.slice buf (some (pos : Int)) (some ((pos : Int) + 1)) ++ Str.ofString " ") none (some (-1)) = ⟨#[c]⟩ := by
  have hl : pos < buf.length := by
    have := congrArg List.length h
    simp [Str.length] at this ⊢
    omega
  have := slice_piece (buf := buf) (a := pos) (b := pos + 1) (by omega) hl
  rw [show ((pos : Int) + 1) = ((pos + 1 : Nat) : Int) from by omega, this, h]
  simp
theorem len_of_drop {buf : Str} {pos c : Nat} {r : List Nat} (h : buf.cps.toList.drop pos = c :: r) : buf.length = pos + 1 + r.length := by
  have := congrArg List.length h
  simp [Str.length] at this ⊢
  omega
end PartTxt1
section PartDeq
theorem dq_attrs : PlainAttrs "collections.deque" :=
  ⟨⟨"collections.deque.__getattribute__", by rw [typeLookup_type, builtinLookup_eq_fast]; kernel_rfl, by decide +kernel⟩, by rw [typeLookup_type, builtinLookup_eq_fast]; kernel_rfl⟩
theorem dq_noBool : typeLookup (.type "collections.deque") "__bool__" = pure none := by rw [typeLookup_type, builtinLookup_eq_fast]; kernel_rfl
theorem dq_slot_len : Slot "collections.deque" "__len__" "collections.deque.__len__" :=
  .of (owner := "collections.deque") (n := "__len__") (by rw [typeLookup_type, builtinLookup_eq_fast]; kernel_rfl) (by decide +kernel) (by decide +kernel) (by decide +kernel)
    (by first | exact .inl (by decide +kernel) | exact .inr (by decide +kernel)) (by rw [isSubtype_type]; kernel_rfl)
theorem dq_slot_init : Slot "collections.deque" "__init__" "collections.deque.__init__" :=
  .of (owner := "collections.deque") (n := "__init__") (by rw [typeLookup_type, builtinLookup_eq_fast]; kernel_rfl) (by decide +kernel) (by decide +kernel) (by decide +kernel)
    (by first | exact .inl (by decide +kernel) | exact .inr (by decide +kernel)) (by rw [isSubtype_type]; kernel_rfl)
theorem dq_slot_popleft : Slot "collections.deque" "popleft" "collections.deque.popleft" :=
  .of (owner := "collections.deque") (n := "popleft") (by rw [typeLookup_type, builtinLookup_eq_fast]; kernel_rfl) (by decide +kernel) (by decide +kernel) (by decide +kernel)
    (by first | exact .inl (by decide +kernel) | exact .inr (by decide +kernel)) (by rw [isSubtype_type]; kernel_rfl)
theorem dq_slot_appendleft : Slot "collections.deque" "appendleft" "collections.deque.appendleft" :=
  .of (owner := "collections.deque") (n := "appendleft") (by rw [typeLookup_type, builtinLookup_eq_fast]; kernel_rfl) (by decide +kernel) (by decide +kernel) (by decide +kernel)
    (by first | exact .inl (by decide +kernel) | exact .inr (by decide +kernel)) (by rw [isSubtype_type]; kernel_rfl)
theorem dq_type_popleft : typeOf (.builtin "collections.deque.popleft") = pure (.type "method_descriptor") := by show builtinType _ = _; rw [builtinType_eq_fast]; kernel_rfl
theorem dq_type_appendleft : typeOf (.builtin "collections.deque.appendleft") = pure (.type "method_descriptor") := by show builtinType _ = _; rw [builtinType_eq_fast]; kernel_rfl
theorem dq_entry_len : entryFor table "collections.deque.__len__" = some Builtin.«collections.deque.__len__» := entryFor_of_tree (by kernel_rfl)
theorem dq_entry_popleft : entryFor table "collections.deque.popleft" = some Builtin.«collections.deque.popleft» := entryFor_of_tree (by kernel_rfl)
theorem dq_entry_appendleft : entryFor table "collections.deque.appendleft" = some Builtin.«collections.deque.appendleft» := entryFor_of_tree (by kernel_rfl)
theorem dq_entry_new : entryFor table "collections.deque.__new__" = some Builtin.«collections.deque.__new__» := entryFor_of_tree (by kernel_rfl)
theorem dq_entry_init : entryFor table "collections.deque.__init__" = some Builtin.«collections.deque.__init__» := entryFor_of_tree (by kernel_rfl)
theorem dq_args_len (a : Value) : argsOk "collections.deque.__len__" ⟨[a], []⟩ := by kernel_rfl
theorem dq_args_popleft (a : Value) : argsOk "collections.deque.popleft" ⟨[a], []⟩ := by kernel_rfl
theorem dq_args_appendleft (a b : Value) : argsOk "collections.deque.appendleft" ⟨[a, b], []⟩ := by kernel_rfl
theorem dq_args_init (a : Value) : argsOk "collections.deque.__init__" ⟨[a], []⟩ := by kernel_rfl
theorem dq_mro : mroOf (.type "collections.deque") = pure [.type "collections.deque", .type "object"] := by rw [mroOf_type]; kernel_rfl
theorem dq_lookup_new : typeLookup (.type "collections.deque") "__new__" = pure (some (.builtin "collections.deque.__new__")) := by rw [typeLookup_type, builtinLookup_eq_fast]; kernel_rfl
theorem dq_called : TypeCalled "collections.deque" "collections.deque.__new__" "collections.deque.__init__" :=
  ⟨by decide +kernel, by decide +kernel, ⟨_, _, dq_mro⟩, madeBy_type dq_mro dq_lookup_new (by decide +kernel), by decide +kernel, by rw [isSubtype_type]; kernel_rfl, dq_slot_init⟩
theorem dq_typeCall : checkTypeCall "collections.deque" ⟨[], []⟩ = pure () := by kernel_rfl
theorem dq_newCall : checkBuiltinCall "collections.deque.__new__" ⟨[.type "collections.deque"], []⟩ = pure () := by kernel_rfl

section
variable {prog : Program} {w : World} {A : Around} {E : Value → Shared → Prop} {s : Shared} {a : Addr} {n : Int} {items : List Value}

theorem dq_len_meets : Meets (Builtin.«collections.deque.__len__» ⟨[.ref a], []⟩) (fun _ R s => s.heap.get? a = some (dqO n items) ∧ R (.ok (.ret (.int items.length s.toks))) { s with toks := s.toks + 1 }) := by
  refine Meets.of_wp fun prog w A R s hs => ?_
  obtain ⟨ho, hq⟩ := hs
  show wpAny _ _ (do retInt (← Builtin.Deque.size (.ref a))) _ _ s
  unfold Builtin.Deque.size fieldsOf
  refine wpAny_bind (wpAny_bind (wpAny_bind (wpAny_load ho ?_)))
  refine wpAny_pure (wpAny_pure (wpAny_bind (wpAny_mkInt (wpAny_pure ⟨_, rfl, ?_⟩))))
  simpa using hq
theorem dq_truthy {Q : Bool → Shared → Prop} (ho : s.heap.get? a = some (dqO n items)) (hl : items.length ≤ 1000) (h : Q (!items.isEmpty) { s with toks := s.toks + 1 + 1 }) :
    wpAny (model prog w) A (truthy (.ref a)) Q E s := by
  have hT : s.TypeIs (.ref a) "collections.deque" := ⟨_, ho, rfl⟩
  have hb : ((items.length : Int) != 0) = !items.isEmpty := by cases items <;> simp; omega
  have key : wpAny (model prog w) A (runValue (.builtin "len" ⟨[.ref a], []⟩)) (fun r s' => r = .int items.length (s.toks + 1) ∧ Q (!items.isEmpty) s') E s := by
    refine wpAny_runValue (codeAny_builtin entry_len ?_)
    rw [Around.under_plainId plain_len _]
    unfold Builtin.«len»
    refine wpAny_bind (m := oneArg "len" _) (wpAny_pure ?_)
    refine wpAny_bind (m := callSpecial? (.ref a) (Str.ofString "__len__")) (wpAny_callSpecial?_slot (name := Str.ofString "__len__") hT dq_slot_len
      (call_meets dq_slot_len hT dq_entry_len (dq_args_len _) dq_len_meets ⟨ho, ?_⟩))
    refine wpAny_bind (wpAny_holding (wpAny_pure ?_))
    refine wpAny_bind (wpAny_letGo ?_)
    show wpAny _ _ (if ((items.length : Nat) : Int) < 0 then _ else _) _ _ _
    rw [if_neg (by omega)]
    show wpAny _ _ (if ((items.length : Nat) : Int) ≥ 2 ^ 63 then _ else _) _ _ _
    rw [if_neg (by omega)]
    exact wpAny_bind (wpAny_mkInt (wpAny_pure ⟨rfl, h⟩))
  unfold truthy
  first
    | refine wpAny_bind (wpAny_callSpecial?_none (name := Str.ofString "__bool__") hT dq_noBool ?_)
    | refine wpAny_bind (wpAny_pure (wpAny_bind (wpAny_callSpecial?_none (name := Str.ofString "__bool__") hT dq_noBool ?_)))
  first
    | refine wpAny_bind (wpAny_specialOf (name := Str.ofString "__len__") hT dq_slot_len.lookup ?_)
    | refine wpAny_bind (wpAny_pure (wpAny_bind (wpAny_specialOf (name := Str.ofString "__len__") hT dq_slot_len.lookup ?_)))
  rw [← hb] at key
  first
    | exact wpAny_bind (wpAny_mono key (fun r s' h' => by obtain ⟨rfl, hq⟩ := h'; exact wpAny_pure hq) fun _ _ e => e)
    | exact wpAny_bind (wpAny_pure (wpAny_bind (wpAny_mono key (fun r s' h' => by obtain ⟨rfl, hq⟩ := h'; exact wpAny_pure hq) fun _ _ e => e)))
theorem dq_getMethod {name : Str} {id : String} {pl : Sem Bool} {Q : Value × List Value → Shared → Prop} (ho : s.heap.get? a = some (dqO n items)) (slot : Slot "collections.deque" name id)
    (hty : typeOf (.builtin id) = pure (.type "method_descriptor")) (h : Q (.builtin id, [.ref a]) s) : wpAny (model prog w) A (getMethod (.ref a) name pl) Q E s :=
  getMethod_builtin ⟨_, ho, rfl⟩ dq_attrs slot hty (fun b e => by cases e; exact ⟨_, ho, rfl⟩) h

theorem dq_change {f : Array Value → Array Value} {Q : Unit → Shared → Prop} {items' : List Value} (ho : s.heap.get? a = some (dqO n items)) (hf : f items.toArray = items'.toArray) (hl : items'.length ≤ 1000)
    (h : ∀ h', h'.get? a = some (dqO (n + 1) items') → Heap.SameBut a s.heap h' → Q () { s with heap := h' }) :
    wpAny (model prog w) A (Builtin.Deque.change (.ref a) f) Q E s := by
  have hx : (Value.none :: Value.int n 0 :: items).toArray.extract 2 (Value.none :: Value.int n 0 :: items).toArray.size = items.toArray := by simp
  unfold Builtin.Deque.change Builtin.Deque.state field fieldsOf
  refine wpAny_bind (wpAny_bind (wpAny_bind (wpAny_bind (wpAny_load ho ?_))))
  refine wpAny_pure (wpAny_pure (wpAny_pure ?_))
  refine wpAny_updateFields ho rfl (h _ ?_ (Heap.SameBut.update ..)) ?_
  · rw [Heap.get?_update_self _ ho rfl]
    show some _ = _
    simp only [Obj.mapFields, hx, hf]
    simp [dqO, rawInt]
  · rw [hx, hf]
    simp
    have := sizeLine_eq
    omega

theorem dq_maxlen {Q : Option Nat → Shared → Prop} (ho : s.heap.get? a = some (dqO n items)) (h : Q none s) : wpAny (model prog w) A (Builtin.Deque.maxlen (.ref a)) Q E s := by
  unfold Builtin.Deque.maxlen field fieldsOf
  refine wpAny_bind (wpAny_bind (wpAny_bind (wpAny_load ho ?_)))
  exact wpAny_pure (wpAny_pure (wpAny_pure h))
theorem dq_items {Q : Array Value → Shared → Prop} (ho : s.heap.get? a = some (dqO n items)) (h : Q items.toArray s) : wpAny (model prog w) A (Builtin.Deque.items (.ref a)) Q E s := by
  have hx : (Value.none :: Value.int n 0 :: items).toArray.extract 2 (Value.none :: Value.int n 0 :: items).toArray.size = items.toArray := by simp
  unfold Builtin.Deque.items fieldsOf
  refine wpAny_bind (wpAny_bind (wpAny_load ho ?_))
  refine wpAny_pure (wpAny_pure ?_)
  rw [hx]
  exact h
theorem dq_appendleft_meets {x : Value} (hl : items.length ≤ 900) : Meets (Builtin.«collections.deque.appendleft» ⟨[.ref a, x], []⟩) (fun _ R s => s.heap.get? a = some (dqO n items) ∧
    ∀ h', h'.get? a = some (dqO (n + 1) (x :: items)) → Heap.SameBut a s.heap h' → R (.ok (.ret .none)) { s with heap := h' }) := by
  refine Meets.of_wp fun prog w A R s hs => ?_
  obtain ⟨ho, hq⟩ := hs
  unfold Builtin.«collections.deque.appendleft» Builtin.Deque.pushLeft
  refine wpAny_bind (m := selfAndOne "deque.appendleft" _) (wpAny_pure ?_)
  refine wpAny_bind (wpAny_bind (dq_change (items' := x :: items) ho (by simp) (by simp; omega) fun h' hg hs => ?_))
  refine wpAny_bind (dq_maxlen hg ?_)
  exact wpAny_pure (wpAny_pure ⟨_, rfl, hq h' hg hs⟩)
theorem dq_popleft_meets {x : Value} (hl : items.length ≤ 900) : Meets (Builtin.«collections.deque.popleft» ⟨[.ref a], []⟩) (fun _ R s => s.heap.get? a = some (dqO n (x :: items)) ∧
    ∀ h', h'.get? a = some (dqO (n + 1) items) → Heap.SameBut a s.heap h' → R (.ok (.ret x)) { s with heap := h' }) := by
  refine Meets.of_wp fun prog w A R s hs => ?_
  obtain ⟨ho, hq⟩ := hs
  unfold Builtin.«collections.deque.popleft»
  refine wpAny_bind (m := selfOnly "deque.popleft" _) (wpAny_pure ?_)
  refine wpAny_bind (dq_items ho ?_)
  refine wpAny_bind (dq_change (items' := items) ho (by simp [Array.eraseIdxIfInBounds]) (by omega) fun h' hg hs => ?_)
  exact wpAny_pure ⟨_, rfl, hq h' hg hs⟩

variable {h₀ : Heap} {L : Addr} {m : Str → Option Value} {news news' : List (Addr × Obj)}
theorem dq_appendleft_K {x : Value} {Q : Value → Shared → Prop} (F : Fr h₀ L s.heap m) (N : News h₀ L s.heap news) (U : Upd a (dqO n items) (dqO (n + 1) (x :: items)) news news') (hl : items.length ≤ 900)
    (h : ∀ h', Fr h₀ L h' m → News h₀ L h' news' → Q .none { s with heap := h' }) : wpAny (model prog w) A (call (.builtin "collections.deque.appendleft") [.ref a, x]) Q E s := by
  obtain ⟨pre, post, rfl, rfl, p1, p2⟩ := U.split
  have z := N (a, dqO n items) (List.mem_append.mpr (.inr (.head _)))
  exact call_meets dq_slot_appendleft ⟨_, z.1, rfl⟩ dq_entry_appendleft (dq_args_appendleft _ _) (dq_appendleft_meets hl) ⟨z.1, fun h' hg hs => h h' (F.change hs z.2.1 z.2.2) (news_set N p1 p2 hs hg)⟩
theorem dq_popleft_K {x : Value} {Q : Value → Shared → Prop} (F : Fr h₀ L s.heap m) (N : News h₀ L s.heap news) (U : Upd a (dqO n (x :: items)) (dqO (n + 1) items) news news') (hl : items.length ≤ 900)
    (h : ∀ h', Fr h₀ L h' m → News h₀ L h' news' → Q x { s with heap := h' }) : wpAny (model prog w) A (call (.builtin "collections.deque.popleft") [.ref a]) Q E s := by
  obtain ⟨pre, post, rfl, rfl, p1, p2⟩ := U.split
  have z := N (a, dqO n (x :: items)) (List.mem_append.mpr (.inr (.head _)))
  exact call_meets dq_slot_popleft ⟨_, z.1, rfl⟩ dq_entry_popleft (dq_args_popleft _) (dq_popleft_meets hl) ⟨z.1, fun h' hg hs => h h' (F.change hs z.2.1 z.2.2) (news_set N p1 p2 hs hg)⟩
theorem dq_truthy_K {Q : Bool → Shared → Prop} (N : News h₀ L s.heap news) (hm : (a, dqO n items) ∈ news) (hl : items.length ≤ 900) (h : Q (!items.isEmpty) { s with toks := s.toks + 1 + 1 }) :
    wpAny (model prog w) A (truthy (.ref a)) Q E s := dq_truthy (N.get hm) (by omega) h
theorem dq_truthy_nil {Q : Bool → Shared → Prop} (N : News h₀ L s.heap news) (hm : (a, dqO n []) ∈ news) (h : Q false { s with toks := s.toks + 1 + 1 }) :
    wpAny (model prog w) A (truthy (.ref a)) Q E s := dq_truthy (N.get hm) (by simp) h
theorem dq_truthy_cons {x : Value} {Q : Bool → Shared → Prop} (N : News h₀ L s.heap news) (hm : (a, dqO n (x :: items)) ∈ news) (hl : items.length ≤ 900) (h : Q true { s with toks := s.toks + 1 + 1 }) :
    wpAny (model prog w) A (truthy (.ref a)) Q E s := dq_truthy (N.get hm) (by simp; omega) h
theorem dq_getMethod_K {name : Str} {id : String} {pl : Sem Bool} {Q : Value × List Value → Shared → Prop} (N : News h₀ L s.heap news) (hm : (a, dqO n items) ∈ news) (slot : Slot "collections.deque" name id)
    (hty : typeOf (.builtin id) = pure (.type "method_descriptor")) (h : Q (.builtin id, [.ref a]) s) : wpAny (model prog w) A (getMethod (.ref a) name pl) Q E s := dq_getMethod (N.get hm) slot hty h

theorem dq_new_meets : Meets (Builtin.«collections.deque.__new__» ⟨[.type "collections.deque"], []⟩) (fun _ R s => R (.ok (.ret (.ref s.heap.objs.size))) { s with heap := s.heap.push (dqO 0 []) }) := by
  refine Meets.of_wp fun prog w A R s hs => ?_
  have hsub := dq_called.sub
  unfold Builtin.«collections.deque.__new__» Builtin.Deque.newArgs
  wp_walk
  refine wpAny_of_eq hsub (wpAny_pure ?_)
  dsimp only
  unfold Builtin.Deque.new
  have hz : ¬ (#[] : Array Value).size > sizeLine := by simp
  have hdict : typeHasDict (.type "collections.deque") = false := by kernel_rfl
  rw [if_neg hz, hdict]
  wp_walk
  exact ⟨_, rfl, hs⟩
theorem dq_init_meets : Meets (Builtin.«collections.deque.__init__» ⟨[.ref a], []⟩) (fun _ R s => s.heap.get? a = some (dqO 0 []) ∧
    ∀ h', h'.get? a = some (dqO 0 []) → Heap.SameBut a s.heap h' → R (.ok (.ret .none)) { s with heap := h' }) := by
  refine Meets.of_wp fun prog w A R s hs => ?_
  obtain ⟨ho, hq⟩ := hs
  unfold Builtin.«collections.deque.__init__»
  wp_walk
  refine ⟨_, rfl, hq _ ?_ (Heap.SameBut.update ..)⟩
  rw [Heap.get?_update_self _ ho rfl]
  rfl
theorem dq_make {h₀ : Heap} {L : Addr} {m : Str → Option Value} {news : List (Addr × Obj)} {Q : Value → Shared → Prop} (F : Fr h₀ L s.heap m) (N : News h₀ L s.heap news)
    (h : ∀ d h', Fr h₀ L h' m → News h₀ L h' ((d, dqO 0 []) :: news) → (∀ p ∈ news, p.1 < d) → Q (.ref d) { s with heap := h' }) :
    wpAny (model prog w) A (call (.type "collections.deque") []) Q E s := by
  refine callType_meets (Q₁ := fun obj s₁ => obj = .ref s.heap.objs.size ∧ s₁ = { s with heap := s.heap.push (dqO 0 []) }) dq_called dq_typeCall dq_newCall dq_entry_new dq_entry_init dq_new_meets ⟨rfl, rfl⟩ ?_
  rintro obj s₁ ⟨rfl, rfl⟩
  have hg : (s.heap.push (dqO 0 [])).get? s.heap.objs.size = some (dqO 0 []) := Heap.get?_push_size _ rfl
  refine ⟨⟨_, hg, rfl⟩, dq_args_init _, _, dq_init_meets, hg, fun h' hg' hs' => ⟨rfl, ?_⟩⟩
  have F1 := F.push (dqO 0 [])
  have N1 := N.push F (dqO 0 []) rfl
  have z := N1 (s.heap.objs.size, dqO 0 []) (.head _)
  refine h _ h' (F1.change hs' z.2.1 z.2.2) (news_set (pre := []) N1 (fun _ h => (nomatch h)) (fun p hp => Nat.ne_of_lt (Heap.lt_size (N p hp).1)) hs' hg') (fun p hp => Heap.lt_size (N p hp).1)
end
end PartDeq
section PartLex
noncomputable def wcS : Str := Str.ofString "abcdfeghijklmnopqrstuvwxyzABCDEFGHIJKLMNOPQRSTUVWXYZ0123456789_" ++ Str.ofString "ßàáâãäåæçèéêëìíîïðñòóôõöøùúûüýþÿÀÁÂÃÄÅÆÇÈÉÊËÌÍÎÏÐÑÒÓÔÕÖØÙÚÛÜÝÞ"
inductive LSt | sp | wd | dn
structure Out where
  res : Option (List Nat)
  st : LSt
  rest : List Nat
  ln : Nat
  push : Option Nat
/-- a sign that is a word's own -/
noncomputable def isWd (c : Nat) : Prop := c ∈ wcS.cps.toList ∧ c ≠ 32 ∧ c ≠ 9 ∧ c ≠ 13 ∧ c ≠ 10 ∧ c ≠ 35 ∧ c ≠ 39 ∧ c ≠ 34 ∧ c ≠ 92
/-- a sign that is a token by itself -/
noncomputable def isLn (c : Nat) : Prop := c ∉ wcS.cps.toList ∧ c ≠ 32 ∧ c ≠ 9 ∧ c ≠ 13 ∧ c ≠ 10 ∧ c ≠ 35 ∧ c ≠ 39 ∧ c ≠ 34 ∧ c ≠ 92
noncomputable def isWs (c : Nat) : Prop := c = 32 ∨ c = 9 ∨ c = 13
/-- what a read of one token does, turn by turn -/
inductive Rd : Nat → LSt → List Nat → List Nat → Nat → Out → Prop where
  | dn {ln tok} : Rd 0 .dn tok [] ln ⟨none, .dn, [], ln, none⟩
  | end0 {ln} : Rd 0 .sp [] [] ln ⟨none, .dn, [], ln, none⟩
  | endW {c t ln} : Rd 0 .wd (c :: t) [] ln ⟨some (c :: t), .dn, [], ln, none⟩
  | ws0 {n c r ln o} : isWs c → Rd n .sp [] r ln o → Rd (n + 1) .sp [] (c :: r) ln o
  | nl0 {n c r ln o} : c = 10 → Rd n .sp [] r (ln + 1) o → Rd (n + 1) .sp [] (c :: r) ln o
  | hs0 {n c l r ln o} : c = 35 → 10 ∉ l → Rd n .sp [] r (ln + 1) o → Rd (n + 1) .sp [] (c :: (l ++ 10 :: r)) ln o
  | wd0 {n c r ln o} : isWd c → Rd n .wd [c] r ln o → Rd (n + 1) .sp [] (c :: r) ln o
  | ln0 {c r ln} : isLn c → Rd 0 .sp [] (c :: r) ln ⟨some [c], .sp, r, ln, none⟩
  | wsW {c t b r ln} : isWs b → Rd 0 .wd (c :: t) (b :: r) ln ⟨some (c :: t), .sp, r, ln, none⟩
  | nlW {c t b r ln} : b = 10 → Rd 0 .wd (c :: t) (b :: r) ln ⟨some (c :: t), .sp, r, ln + 1, none⟩
  | hsW {c t b l r ln} : b = 35 → 10 ∉ l → Rd 0 .wd (c :: t) (b :: (l ++ 10 :: r)) ln ⟨some (c :: t), .sp, r, ln + 1, none⟩
  | wdW {n c t b r ln o} : isWd b → Rd n .wd (c :: t ++ [b]) r ln o → Rd (n + 1) .wd (c :: t) (b :: r) ln o
  | lnW {c t b r ln} : isLn b → Rd 0 .wd (c :: t) (b :: r) ln ⟨some (c :: t), .sp, r, ln, some b⟩

theorem occ_in {S : Str} {c : Nat} (h : c ∈ S.cps.toList) : (!(Builtin.Str.occurrences S ⟨#[c]⟩ 0 S.length 1).isEmpty) = true ∧ (Builtin.Str.occurrences S ⟨#[c]⟩ 0 S.length 1).isEmpty = false := by
  have e := StrLaws.found_one S c
  rw [decide_eq_true h] at e
  exact ⟨e, by simpa using e⟩
theorem occ_out {S : Str} {c : Nat} (h : c ∉ S.cps.toList) : (!(Builtin.Str.occurrences S ⟨#[c]⟩ 0 S.length 1).isEmpty) = false ∧ (Builtin.Str.occurrences S ⟨#[c]⟩ 0 S.length 1).isEmpty = true := by
  have e := StrLaws.found_one S c
  rw [decide_eq_false h] at e
  exact ⟨e, by simpa using e⟩
theorem lit_white : (Str.ofString " \t\r\n").cps.toList = [32, 9, 13, 10] := by decide +kernel
theorem lit_hash : (Str.ofString "#").cps.toList = [35] := by decide +kernel
theorem lit_quot : (Str.ofString "'\"").cps.toList = [39, 34] := by decide +kernel
theorem lit_esc : (Str.ofString "\\").cps.toList = [92] := by decide +kernel
theorem lit_nil : (Str.ofString "").cps.toList = [] := by decide +kernel
theorem lit_nl : Str.ofString "\n" = ⟨#[10]⟩ := by decide +kernel
theorem lit_nil' : Str.ofString "" = ⟨#[]⟩ := by decide +kernel
theorem is_nl : (({ cps := #[10] } : Str) == Str.ofString "\n") = true := by decide +kernel
theorem no_nl {c : Nat} (h : c ≠ 10) : (({ cps := #[c] } : Str) == Str.ofString "\n") = false := by
  rw [lit_nl, beq_eq_false_iff_ne]
  intro e
  simp at e
  exact h e
theorem one_len (c : Nat) : (!((({ cps := #[c] } : Str).length : Int) != 0)) = false ∧ ((({ cps := #[c] } : Str).length : Int) != 0) = true := ⟨rfl, rfl⟩
theorem fit_one (c : Nat) : ¬ ((({ cps := #[c] } : Str).length : Int) ≥ 2 ^ 63) := by
  show ¬ (((1 : Nat) : Int) ≥ 2 ^ 63)
  decide
theorem one_ne (c : Nat) : (({ cps := #[c] } : Str) == Str.ofString "") = false := by
  rw [lit_nil', beq_eq_false_iff_ne]
  intro e
  simp at e
/-- the tests of a sign, in the forms in which the walk asks them -/
structure Asked (wc : Str) (c : Nat) (bn bw bh bd bq be : Bool) : Prop where
  n : (({ cps := #[c] } : Str) == Str.ofString "\n") = bn
  w : (!(Builtin.Str.occurrences (Str.ofString " \t\r\n") ⟨#[c]⟩ 0 (Str.ofString " \t\r\n").length 1).isEmpty) = bw ∧ (Builtin.Str.occurrences (Str.ofString " \t\r\n") ⟨#[c]⟩ 0 (Str.ofString " \t\r\n").length 1).isEmpty = !bw
  h : (!(Builtin.Str.occurrences (Str.ofString "#") ⟨#[c]⟩ 0 (Str.ofString "#").length 1).isEmpty) = bh ∧ (Builtin.Str.occurrences (Str.ofString "#") ⟨#[c]⟩ 0 (Str.ofString "#").length 1).isEmpty = !bh
  d : (!(Builtin.Str.occurrences wc ⟨#[c]⟩ 0 wc.length 1).isEmpty) = bd ∧ (Builtin.Str.occurrences wc ⟨#[c]⟩ 0 wc.length 1).isEmpty = !bd
  q : (!(Builtin.Str.occurrences (Str.ofString "'\"") ⟨#[c]⟩ 0 (Str.ofString "'\"").length 1).isEmpty) = bq ∧ (Builtin.Str.occurrences (Str.ofString "'\"") ⟨#[c]⟩ 0 (Str.ofString "'\"").length 1).isEmpty = !bq
  e : (!(Builtin.Str.occurrences (Str.ofString "\\") ⟨#[c]⟩ 0 (Str.ofString "\\").length 1).isEmpty) = be ∧ (Builtin.Str.occurrences (Str.ofString "\\") ⟨#[c]⟩ 0 (Str.ofString "\\").length 1).isEmpty = !be
  p : (!(Builtin.Str.occurrences (Str.ofString "") ⟨#[c]⟩ 0 (Str.ofString "").length 1).isEmpty) = false ∧ (Builtin.Str.occurrences (Str.ofString "") ⟨#[c]⟩ 0 (Str.ofString "").length 1).isEmpty = true
theorem occ_b {S : Str} {c : Nat} {b : Bool} (h : decide (c ∈ S.cps.toList) = b) : (!(Builtin.Str.occurrences S ⟨#[c]⟩ 0 S.length 1).isEmpty) = b ∧ (Builtin.Str.occurrences S ⟨#[c]⟩ 0 S.length 1).isEmpty = !b := by
  have e := StrLaws.found_one S c
  rw [h] at e
  exact ⟨e, by rw [← e]; simp⟩
theorem st_a_q : (!(Builtin.Str.occurrences (Str.ofString "'\"") (Str.ofString "a") 0 (Str.ofString "'\"").length 1).isEmpty) = false ∧ (Builtin.Str.occurrences (Str.ofString "'\"") (Str.ofString "a") 0 (Str.ofString "'\"").length 1).isEmpty = true := by
  have e : Str.ofString "a" = ⟨#[97]⟩ := by decide +kernel
  rw [e]
  exact occ_out (by decide +kernel)
theorem st_a_e : (!(Builtin.Str.occurrences (Str.ofString "\\") (Str.ofString "a") 0 (Str.ofString "\\").length 1).isEmpty) = false ∧ (Builtin.Str.occurrences (Str.ofString "\\") (Str.ofString "a") 0 (Str.ofString "\\").length 1).isEmpty = true := by
  have e : Str.ofString "a" = ⟨#[97]⟩ := by decide +kernel
  rw [e]
  exact occ_out (by decide +kernel)
theorem asked_ws {c : Nat} (h : isWs c) : Asked wcS c false true false false false false := by
  rcases h with rfl | rfl | rfl <;>
  exact ⟨by decide +kernel, occ_b (by decide +kernel), occ_b (by decide +kernel), occ_b (by decide +kernel), occ_b (by decide +kernel), occ_b (by decide +kernel), occ_b (by decide +kernel)⟩
theorem asked_nl {c : Nat} (h : c = 10) : Asked wcS c true true false false false false := by
  subst h
  exact ⟨by decide +kernel, occ_b (by decide +kernel), occ_b (by decide +kernel), occ_b (by decide +kernel), occ_b (by decide +kernel), occ_b (by decide +kernel), occ_b (by decide +kernel)⟩
theorem asked_hs {c : Nat} (h : c = 35) : Asked wcS c false false true false false false := by
  subst h
  exact ⟨by decide +kernel, occ_b (by decide +kernel), occ_b (by decide +kernel), occ_b (by decide +kernel), occ_b (by decide +kernel), occ_b (by decide +kernel), occ_b (by decide +kernel)⟩
theorem asked_wd {c : Nat} (h : isWd c) : Asked wcS c false false false true false false := by
  obtain ⟨h0, h1, h2, h3, h4, h5, h6, h7, h8⟩ := h
  refine ⟨no_nl h4, occ_b ?_, occ_b ?_, occ_b (decide_eq_true h0), occ_b ?_, occ_b ?_, occ_b ?_⟩
  · rw [lit_white]; simp [h1, h2, h3, h4]
  · rw [lit_hash]; simp [h5]
  · rw [lit_quot]; simp [h6, h7]
  · rw [lit_esc]; simp [h8]
  · rw [lit_nil]; simp
theorem asked_ln {c : Nat} (h : isLn c) : Asked wcS c false false false false false false := by
  obtain ⟨h0, h1, h2, h3, h4, h5, h6, h7, h8⟩ := h
  refine ⟨no_nl h4, occ_b ?_, occ_b ?_, occ_b (decide_eq_false h0), occ_b ?_, occ_b ?_, occ_b ?_⟩
  · rw [lit_white]; simp [h1, h2, h3, h4]
  · rw [lit_hash]; simp [h5]
  · rw [lit_quot]; simp [h6, h7]
  · rw [lit_esc]; simp [h8]
  · rw [lit_nil]; simp
end PartLex
section PartFind
open Builtin Builtin.Str in
theorem gives_find4 (x y : Str) (i j : Int) (t u v z : Tok) : Gives («str.find» ⟨[.str x t, .str y u, .int i v, .int j z], []⟩) (.int (match occurrences x y (fromIndex x.length i) (min (fromIndex x.length j) x.length) 1 with | k :: _ => (k : Int) | [] => -1)) := by
  show Gives (match occurrences x y (fromIndex x.length i) (min (fromIndex x.length j) x.length) 1 with | k :: _ => retInt k | [] => (do rule "str.find.not-found"; retInt (-1))) _
  cases occurrences x y (fromIndex x.length i) (min (fromIndex x.length j) x.length) 1 with
  | nil => exact .rule (.of_eq rfl)
  | cons k _ => exact .of_eq rfl
theorem at_nl {buf : Str} {i : Nat} : StrLaws.At buf (Str.ofString "\n") buf.length i ↔ buf.cps.toList[i]? = some 10 := by
  rw [lit_nl]
  exact StrLaws.subAt_one buf 10 i
theorem find_nl {buf : Str} {pos : Nat} {l r : List Nat} (hp : buf.cps.toList.drop pos = l ++ 10 :: r) (hl : 10 ∉ l) : ∃ q, Builtin.Str.occurrences buf (Str.ofString "\n") pos buf.length 1 = (pos + l.length) :: q := by
  have hat : ∀ k, buf.cps.toList[pos + k]? = (l ++ 10 :: r)[k]? := fun k => by rw [← hp, List.getElem?_drop]
  have h10 : buf.cps.toList[pos + l.length]? = some 10 := by rw [hat]; simp
  have hno : ∀ k, pos ≤ k → k < pos + l.length → buf.cps.toList[k]? ≠ some 10 := fun k h1 h2 e => by
    have := hat (k - pos)
    rw [show pos + (k - pos) = k from by omega, e, List.getElem?_append_left (by omega)] at this
    exact hl (List.mem_of_getElem? this.symm)
  rcases StrLaws.occ_head_from buf (Str.ofString "\n") pos 1 (Nat.le_refl _) with ⟨_, h2⟩ | ⟨i, q, h1, h2, h3, h4⟩
  · exact absurd (at_nl.mpr h10) (h2 _ (by omega))
  · refine ⟨q, ?_⟩
    rw [h1]
    have h3' := at_nl.mp h3
    have : i = pos + l.length := by
      rcases Nat.lt_trichotomy i (pos + l.length) with h | h | h
      · exact absurd h3' (hno i h2 h)
      · exact h
      · exact absurd (at_nl.mpr h10) (h4 _ (by omega) h)
    rw [this]
theorem call_find_nl {prog : Program} {w : World} {A : Around} {E : Value → Shared → Prop} {s : Shared} {buf : Str} {pos : Nat} {l r : List Nat} {tb tn tp tq : Tok} {Q : Value → Shared → Prop}
    (hp : buf.cps.toList.drop pos = l ++ 10 :: r) (hl : 10 ∉ l) (h : Q (.int ((pos + l.length : Nat) : Int) s.toks) { s with toks := s.toks + 1 }) :
    wpAny (model prog w) A (PySem.call (.builtin "str.find") [.str buf tb, .str (Str.ofString "\n") tn, .int (pos : Int) tp, .int (buf.length : Int) tq]) Q E s := by
  obtain ⟨q, hq⟩ := find_nl hp hl
  have e1 : fromIndex buf.length (pos : Int) = pos := by unfold fromIndex; rw [if_neg (by omega)]; omega
  have e2 : min (fromIndex buf.length (buf.length : Int)) buf.length = buf.length := by unfold fromIndex; rw [if_neg (by omega)]; omega
  have g := gives_find4 buf (Str.ofString "\n") (pos : Int) (buf.length : Int) tb tn tp tq
  rw [e1, e2, hq] at g
  exact call_gives PySem.F.slot_str_find (typeIs_str s buf tb) PySem.F.entry_str_find (PySem.F.args_str_find_4 _ _ _ _) g h
end PartFind
section PartOwnList
section
variable {prog : Program} {w : World} {A : Around} {E : Value → Shared → Prop} {s : Shared} {K : Frag} {x dx C L S : Addr} {h₀ : Heap} {m : Str → Option Value} {news : List (Addr × Obj)}

noncomputable def ExtNext (prog : Program) (w : World) (A : Around) (S x : Addr) (res : Value) (R : Result → Shared → Prop) (r : Option Value) (s' : Shared) : Prop := match r with
  | none => R (.ok (.ret res)) s'
  | some v => ∃ acc c, s'.heap.get? S = some (listOf acc c) ∧ acc.size ≤ 1000 ∧ ∀ h', h'.get? S = some (listOf (acc.push v) (c + 1)) → Heap.SameBut S s'.heap h' →
          codeAny (model prog w) A (.builtin "list.extend.loop" ⟨[.ref S, .ref x, res], []⟩) R { s' with heap := h' }
theorem ext_step {R : Result → Shared → Prop} {res : Value}
    (h : wpAny (model prog w) A.in1 (pyNext (.ref x)) (ExtNext prog w A S x res R) (fun e s' => R (.error e) s') s) :
    codeAny (model prog w) A (.builtin "list.extend.loop" ⟨[.ref S, .ref x, res], []⟩) R s := by
  refine codeAny_builtin F.entry_extend_loop ?_
  rw [Around.under_plainId F.plain_extend_loop _]
  show wpAny _ A.in1 (pyNext (.ref x) >>= _) _ _ s
  refine wpAny_bind (wpAny_mono h (fun r s' hr => ?_) fun _ _ e => e)
  cases r with
  | none => exact wpAny_pure hr
  | some v =>
    obtain ⟨acc, c, hS, hsz, k⟩ := hr
    show wpAny _ A.in1 (updateSeq S (·.push v) >>= _) _ _ _
    refine wpAny_bind (wpAny_updateSeq (hz := by rw [sizeLine_eq]; omega) hS rfl ?_)
    exact wpAny_pure ⟨plainId_quiet F.plain_extend_loop _, k _ (by rw [Heap.get?_update_self _ hS (by rw [mapSeq_push]; rfl), mapSeq_push]) (Heap.SameBut.update ..)⟩

theorem inst_looks {M : Model} {h : Heap} (e : h.get? x = some (instObj C dx)) : Looks M h (typeOf (.ref x)) (.ref C) := (Looks.ld e).andThen .now
theorem call_list_own {Q : Value → Shared → Prop} (Fh : Fr h₀ L s.heap m) (X₀ : K.In h₀) (N : News h₀ L s.heap news) (hx : (x, instObj C dx) ∈ news)
    (hn : findIn K (.ref C) "__len__" = some none) (hh : findIn K (.ref C) "__length_hint__" = some none) 
    (h : ∀ S h₁, Fr h₀ L h₁ m → News h₀ L h₁ ((S, listOf #[] 0) :: news) → (∀ p ∈ news, p.1 < S) →
      wpAny (model prog w) A.in1.in1 (pyIter (.ref x)) (fun it s' => it = .ref x ∧ s'.heap.get? x = some (instObj C dx) ∧ s'.heap.get? S = some (listOf #[] 0) ∧ K.In s'.heap ∧ ∀ h', h'.get? S = some (listOf #[] 2) → Heap.SameBut S s'.heap h' →
        codeAny (model prog w) A.in1 (.builtin "list.extend.loop" ⟨[.ref S, .ref x, .none], []⟩) (wants (fun r s₂ => r = .none ∧ Q (.ref S) s₂) E) { s' with heap := h' }) E { s with heap := h₁ }) :
    wpAny (model prog w) A (call (.type "list") [.ref x]) Q E s := by
  refine callType_codes (Q₁ := fun obj s₁ => obj = .ref s.heap.objs.size ∧ s₁ = { s with heap := s.heap.push { cls := .type "list", data := .seq #[] } }) F.called_list (F.typeCall_list_1 _) F.entry_list_init
    (code_list_new _ ⟨rfl, rfl⟩) fun obj s₁ h₁ => ?_
  obtain ⟨rfl, rfl⟩ := h₁
  have hS : (s.heap.push { cls := .type "list", data := .seq #[] }).get? s.heap.objs.size = some { cls := .type "list", data := .seq #[] } := Heap.get?_push_size _ rfl
  refine ⟨⟨_, hS, rfl⟩, F.args_list_init_2 _ _, ?_⟩
  show wpAny _ A.in1.in1 (do let old ← Builtin.List.listItems (.ref s.heap.objs.size); Builtin.List.listUpdate (.ref s.heap.objs.size) (fun _ => #[]); letGo old.toList.reverse; Builtin.List.listExtendWith (.ref s.heap.objs.size) (.ref x) .none) _ _ _
  refine wpAny_bind ?_
  unfold Builtin.List.listItems
  refine wpAny_bind (wpAny_seqItems hS rfl (wpAny_pure ?_))
  refine wpAny_bind (wpAny_updateSeq hS rfl ?_)
  have hS₂ := Heap.get?_update_self (Obj.mapSeq (fun _ => (#[] : Array Value))) hS rfl
  refine wpAny_bind (wpAny_letGo ?_)
  have F1 := Fh.push { cls := .type "list", data := .seq #[] }
  have N1 := N.push Fh { cls := .type "list", data := .seq #[] } rfl
  have z := N1 (s.heap.objs.size, _) (.head _)
  have hlt : ∀ p ∈ news, p.1 < s.heap.objs.size := fun p hp => Heap.lt_size (N p hp).1
  have F2 := F1.change (Heap.SameBut.update (a := s.heap.objs.size) (f := Obj.mapSeq (fun _ => (#[] : Array Value))) ..) z.2.1 z.2.2
  have N2 := news_set (pre := []) N1 (fun _ h => (nomatch h)) (fun p hp => Nat.ne_of_lt (hlt p hp)) (Heap.SameBut.update (a := s.heap.objs.size) (f := Obj.mapSeq (fun _ => (#[] : Array Value))) ..) hS₂
  have hgo := h _ _ F2 N2 hlt
  have hxa := (N2 _ (.tail _ hx)).1
  have hne : s.heap.objs.size ≠ x := Nat.ne_of_gt (hlt _ hx)
  unfold Builtin.List.listExtendWith
  refine wpAny_bind ((inst_looks hxa).here ?_)
  have h1 : Builtin.List.listSameRef (.ref s.heap.objs.size) (.ref x) = false := by simp [Builtin.List.listSameRef, hne]
  have h2 : (Value.ref C == Value.type "list") = false := rfl
  have h3 : (Value.ref C == Value.type "tuple") = false := rfl
  simp only [h1, h2, h3, Bool.or_false, Bool.false_eq_true, if_false]
  refine wpAny_bind (wpAny_mono hgo (fun it s' hq => ?_) fun _ _ e => e)
  obtain ⟨rfl, hx', hS', X', k⟩ := hq
  refine wpAny_bind (wpAny_holding ?_)
  unfold Builtin.List.listLengthHint
  refine wpAny_bind (wpAny_bind ((inst_looks hx').here ((looks_findIn X' hn).here ?_)))
  show wpAny _ A.in1.in1 (specialOf (Value.ref x) (Str.ofString "__length_hint__") >>= _) _ _ _
  refine wpAny_bind (wpAny_bind ((inst_looks hx').here ((looks_findIn X' hh).here ?_)))
  refine wpAny_pure ?_
  show wpAny _ A.in1.in1 (rule "list.extend.makes-room" >>= fun _ => Builtin.List.listTouch (.ref s.heap.objs.size) >>= fun _ =>
    again (.builtin "list.extend.loop" ⟨[.ref s.heap.objs.size, .ref x, .none], []⟩)) _ _ _
  refine wpAny_bind (wpAny_rule ?_)
  refine wpAny_bind ?_
  show wpAny _ A.in1.in1 (updateSeq s.heap.objs.size (·.push .none) >>= fun _ => updateSeq s.heap.objs.size (·.pop)) _ _ _
  refine wpAny_bind (wpAny_updateSeq hS' rfl ?_)
  have hS₄ := Heap.get?_update_self (Obj.mapSeq (·.push Value.none)) hS' rfl
  refine wpAny_updateSeq (hz := by seq_fits) hS₄ rfl ?_
  have hS₅ := Heap.get?_update_self (Obj.mapSeq (·.pop)) hS₄ rfl
  exact wpAny_pure ⟨plainId_quiet F.plain_extend_loop _, k _ hS₅ ⟨((Heap.SameBut.update ..).1.trans (Heap.SameBut.update ..).1), fun b hb => ((Heap.SameBut.update ..).2 b hb).trans ((Heap.SameBut.update ..).2 b hb)⟩⟩
end
end PartOwnList
section PartGtDef
inductive Gt : LSt → List Nat → Nat → Option Nat → Option (List Nat) → LSt → List Nat → Nat → Option Nat → Prop where
  | pop {st r ln c} : Gt st r ln (some c) (some [c]) st r ln none
  | read {k st r ln o} : Rd k st [] r ln o → Gt st r ln none o.res o.st o.rest o.ln o.push
inductive Toks : LSt → List Nat → Nat → Option Nat → List (List Nat) → LSt → List Nat → Nat → Option Nat → Prop where
  | done {st r ln push st' r' ln' push'} : Gt st r ln push none st' r' ln' push' → Toks st r ln push [] st' r' ln' push'
  | step {st r ln push t ts st1 r1 ln1 p1 st' r' ln' push'} : Gt st r ln push (some t) st1 r1 ln1 p1 → Toks st1 r1 ln1 p1 ts st' r' ln' push' → Toks st r ln push (t :: ts) st' r' ln' push'

end PartGtDef
local macro_rules | `(tactic| walk_at "m.u") => `(tactic| first | exact un_le (by with_reducible assumption) rfl | exact un_lt (by with_reducible assumption) rfl | exact un_le0 (by with_reducible assumption) rfl | exact un_lt0 (by with_reducible assumption) rfl | exact un_le2 (by with_reducible assumption) rfl | exact un_lt2 (by with_reducible assumption) rfl)
local macro_rules | `(tactic| walk_at "m.cj") => `(tactic| first | with_reducible assumption | exact cj1 (by with_reducible assumption) | exact cj2 (by with_reducible assumption) | exact cl2 (by with_reducible assumption) | exact cj3 (by with_reducible assumption) | exact cl3 (by with_reducible assumption) | exact cj4 (by with_reducible assumption) | exact cl4 (by with_reducible assumption) | exact cj5 (by with_reducible assumption) | exact cl5 (by with_reducible assumption) | exact cj6 (by with_reducible assumption) | exact cl6 (by with_reducible assumption))
local macro_rules | `(tactic| k_ne) => `(tactic| (refine neN ?_; (try dsimp only); (first | exact Ap.ne (by with_reducible assumption) | exact Ap.ne' (by with_reducible assumption) | exact Nat.ne_of_lt (by walk_at "m.cj") | exact Nat.ne_of_gt (by walk_at "m.cj") | omega)))
local macro_rules | `(tactic| walk_at "m.enter") => `(tactic| (refine cut_post ?_; intro R' hR'; (have XS' := Gd.XS (by k_asm)); refine' enter ?G ?ho ?hcd ?hroom ?hbind ?hloc ?_ ?hcell ?h1 ?h2 ?h3; (case G => k_asm); (case ho => k_is); (case hcd => k_is); (case hroom => k_room); (case hbind => first | exact BindsTo.of_eq rfl | exact binds_K (by k_in) rfl (by k_is) rfl rfl rfl); (case hloc => exact locs rfl); (case hcell => decide); (case h1 => exact rfl); (case h2 => exact rfl); (case h3 => exact rfl); clear XS'; intro L' h' F' N' l1 B' X' T'; (try k_lt l1); refine cut_body (by passes_own) ?_; intro E' hE' hP'; (try dsimp only)))
local macro_rules | `(tactic| k_room) => `(tactic| ((try simp only [depth_under_make, depth_under_kw, depth_in1, depth_deeper, depth_caller, recursionLimit]); (first | walk_at "m.u" | omega)))
local macro_rules | `(tactic| k_units) => `(tactic| ((try simp only [units_in1, units_deeper, cLine, Around.mark_units]); (first | walk_at "m.u" | omega)))
local macro_rules | `(tactic| walk_at "m.un") => `(tactic| ((try dsimp only [Aat, Around.deeper, Around.in1, Around.under]); (first | walk_at "m.u" | omega | (refine neN ?_; omega))))
local macro_rules | `(tactic| walk_at "m.rem") => `(tactic| first | exact Rem.head | (refine' Rem.tail ?mt; (case mt => walk_at "m.rem")))
local macro_rules | `(tactic| walk_at "m.pick") => `(tactic| first | exact Pick.nil | (refine' Pick.cons ?ma ?mb; (case ma => walk_at "m.rem"); (case mb => walk_at "m.pick")))
local macro_rules | `(tactic| walk_at "m.sep") => `(tactic| first | exact List.forall_mem_nil _ | (refine' List.forall_mem_cons.mpr ⟨?ma, ?mb⟩; (case ma => k_all); (case mb => walk_at "m.sep")))
local macro_rules | `(tactic| walk_at "LoopEnd") => `(tactic| first | refine LoopEnd.next (by k_asm) (by k_asm) ?_ | refine LoopEnd.cont (by k_asm) (by k_asm) ?_ | refine LoopEnd.brk ?_ | refine LoopEnd.ret ?_)
local macro_rules | `(tactic| walk_at "exec While Constant cons nil") => `(tactic| refine held_tree ?_)
local macro_rules | `(tactic| walk_at "exec While BinOp cons nil") => `(tactic| refine held_tree ?_)
local macro_rules | `(tactic| walk_at "exec While Compare cons nil") => `(tactic| refine held_tree ?_)
local macro_rules | `(tactic| walk_at "m.site") => `(tactic| ((case B => k_asm); (case F => k_asm); (case X => k_asm); (case N => k_asm); (case T => k_asm); (case hA => exact rfl); (case hf => exact rfl); (case hk => exact rfl); (case P => walk_at "m.pick"); (case S => walk_at "m.sep")))
local macro_rules | `(tactic| walk_at "m.led") => `(tactic| ((rename News _ _ _ _ => N'); (try simp only [List.cons_append, List.nil_append] at N'); (try k_sweep)))
local macro_rules | `(tactic| walk_at "ite") => `(tactic| first | (refine PySem.W.ite_pos (by with_reducible assumption) ?_) | (refine PySem.W.ite_isFalse (by with_reducible assumption) ?_))
local macro_rules | `(tactic| walk_at "exec If") => `(tactic| refine wpAny_If ?_)
local macro_rules | `(tactic| walk_at "execs cons") => `(tactic| ((with_reducible refine execs_cut ?_); intro Q' hQ'))
local macro_rules | `(tactic| walk_at "truthy str") => `(tactic| (refine PySem.P.truthy_str (by first | exact fit_one _ | omega | decide) ?_))
local macro_rules | `(tactic| walk_at "m.out") => `(tactic| ((rename Cont _ _ => hc9); (first | with_reducible refine Cont.next hc9 ?_ | with_reducible refine Cont.ret hc9 ?_ | with_reducible refine Cont.brk hc9 ?_ | with_reducible refine Cont.cont hc9 ?_ | with_reducible refine Cont.out hc9 ?_ | with_reducible refine Cont.out (by with_reducible assumption) ?_); (try clear hc9); (try dsimp only)))
local macro_rules | `(tactic| walk_at "m.step") => `(tactic| first | ((fail_if_success k_end); (first | walk1 | (dsimp only; walk1) | (leave1; (try dsimp only)))) | walk_at "m.out" | (k_unfold; (try dsimp only)) | ((fail_if_success (with_reducible show Post _ _ _ _ _)); (fail_if_success (with_reducible show Held _)); (fail_if_success (with_reducible show ExtNext _ _ _ _ _ _ _ _ _)); k_end; wrow_close) | walk1 | (dsimp only; walk1) | (leave1; (try dsimp only)) | fail "no step")
local macro_rules | `(tactic| walk_at "m.steps") => `(tactic| repeat' (walk_at "m.step"))
section PartF
section PartF2
section
variable {w : World} {dp un : Nat} {s : Shared} {base g : Heap} {fr : List Env} {p : Program} {loose : List Str} {mean : ExcName → Option Value} {mg mb : Str → Option Value}

theorem c_read {hs : Nat → Int × Tok} {tn tb tp t1 : Tok} {buf : Str} {pos c : Nat} {r : List Nat} {a d : Addr} (hd : dp ≤ 600) (hu : un ≤ 5000) (had : @LT.lt Nat _ d a) (hb : buf.length ≤ 1000) (hp : buf.cps.toList.drop pos = c :: r)
    (G : Gd w (Aat dp un fr) base fr p loose mean mg mb g s.heap [(a, instObj 594 d), (d, ioD hs tn buf tb pos tp)]) :
    codeAny (model PySem.Challenge.pw_il0179_01 w) (Aat dp un fr) (.call (.ref 540) ⟨[.ref a, .int 1 t1], []⟩) (Post g (fun v n => (∃ t, v = .str ⟨#[c]⟩ t) ∧ ∃ t, n = [(a, instObj 594 d), (d, ioD hs tn buf tb ((pos + 1 : Nat) : Int) t)]) s) s := by
  have hl := len_of_drop hp
  walk_at "m.enter"
  walk_at "m.steps"
  all_goals (try dsimp only)
  · rw [slice_one hp]
    exact Post.intro (by k_asm) (by k_asm) (fun _ h => h) ⟨⟨_, rfl⟩, ⟨_, rfl⟩⟩
  · have e1 : (buf.length : Int) = (pos : Int) + 1 := by omega
    have e2 : ((pos + 1 : Nat) : Int) = (buf.length : Int) := by omega
    rw [e1, slice_one hp, e2]
    exact Post.intro (by k_asm) (by k_asm) (fun _ h => h) ⟨⟨_, rfl⟩, ⟨_, rfl⟩⟩
theorem c_read_end {hs : Nat → Int × Tok} {tn tb tp t1 : Tok} {buf : Str} {pos : Nat} {a d : Addr} (hd : dp ≤ 600) (hu : un ≤ 5000) (had : @LT.lt Nat _ d a) (hb : buf.length ≤ 1000) (hp : buf.length ≤ pos)
    (G : Gd w (Aat dp un fr) base fr p loose mean mg mb g s.heap [(a, instObj 594 d), (d, ioD hs tn buf tb pos tp)]) :
    codeAny (model PySem.Challenge.pw_il0179_01 w) (Aat dp un fr) (.call (.ref 540) ⟨[.ref a, .int 1 t1], []⟩) (Post g (fun v n => (∃ t, v = .str (Str.ofString "") t) ∧ n = [(a, instObj 594 d), (d, ioD hs tn buf tb pos tp)]) s) s := by
  walk_at "m.enter"
  walk_at "m.steps"
  all_goals (try dsimp only)
  all_goals (refine Post.intro (by k_asm) (by k_asm) (fun _ h => h) ⟨⟨_, rfl⟩, rfl⟩)
end
end PartF2
local macro_rules | `(tactic| walk_at "call builtin:str.find") => `(tactic| k_dflt (refine' call_find_nl ?ma ?mb ?_; (case ma => k_asm); (case mb => k_asm)))

section
variable {w : World} {dp un : Nat} {s : Shared} {base g : Heap} {fr : List Env} {p : Program} {loose : List Str} {mean : ExcName → Option Value} {mg mb : Str → Option Value}

theorem io_eq {hs : Nat → Int × Tok} {tn tb t : Tok} {buf : Str} {a d : Addr} {i j : Int} (h : i = j) : [(a, instObj 594 d), (d, ioD hs tn buf tb i t)] = [(a, instObj 594 d), (d, ioD hs tn buf tb j t)] := by rw [h]
theorem c_readline {hs : Nat → Int × Tok} {tn tb tp : Tok} {buf : Str} {pos : Nat} {l r : List Nat} {a d : Addr} (hd : dp ≤ 600) (hu : un ≤ 5000) (had : @LT.lt Nat _ d a) (hb : buf.length ≤ 1000) (hp : buf.cps.toList.drop pos = l ++ 10 :: r) (hl : 10 ∉ l)
    (G : Gd w (Aat dp un fr) base fr p loose mean mg mb g s.heap [(a, instObj 594 d), (d, ioD hs tn buf tb pos tp)]) :
    codeAny (model PySem.Challenge.pw_il0179_01 w) (Aat dp un fr) (.call (.ref 548) ⟨[.ref a], []⟩) (Post g (fun v n => ∃ t, n = [(a, instObj 594 d), (d, ioD hs tn buf tb ((pos + l.length + 1 : Nat) : Int) t)]) s) s := by
  have hlen : buf.length = pos + l.length + 1 + r.length := by
    have := congrArg List.length hp
    simp [Str.length] at this ⊢
    omega
  walk_at "m.enter"
  walk_at "m.steps"
  all_goals (try dsimp only)
  all_goals (refine Post.intro (by k_asm) (by k_asm) (fun _ h => h) (Exists.intro _ (io_eq ?_)))
  omega
end
section PartF5

section
variable {w : World} {dp un : Nat} {s : Shared} {base g : Heap} {fr : List Env} {p : Program} {loose : List Str} {mean : ExcName → Option Value} {mg mb : Str → Option Value}

noncomputable def stV : LSt → Tok → Value
  | .sp, t => .str (Str.ofString " ") t
  | .wd, t => .str (Str.ofString "a") t
  | .dn, _ => .none
noncomputable abbrev lexL (hs hs' : Nat → Int × Tok) (ts : Nat → Tok) (tn tb : Tok) (buf : Str) (x dx a d pb fs : Addr) (st : Value) (ln : Int) (tl : Tok) (tok : Str) (tt : Tok) (pos : Int) (tp : Tok) (nq : Int) (items : List Value) : List (Addr × Obj) :=
  [(x, instObj 729 dx), (dx, lexD hs ts wcS a pb fs st ln tl tok tt), (a, instObj 594 d), (d, ioD hs' tn buf tb pos tp), (pb, dqO nq items)]
noncomputable def ResV : Option (List Nat) → Value → Prop
  | none, v => v = .none
  | some l, v => ∃ t k, v = .str t k ∧ t.cps.toList = l
theorem resV_cases {r : Option (List Nat)} {v : Value} (h : ResV r v) : (r = none ∧ v = .none) ∨ ∃ l t k, r = some l ∧ v = .str t k ∧ t.cps.toList = l := by
  cases r with
  | none => exact .inl ⟨rfl, h⟩
  | some l => obtain ⟨t, k, e, h⟩ := h; exact .inr ⟨l, t, k, rfl, e, h⟩
noncomputable def PushV : Option Nat → List Value → Prop
  | none, is => is = []
  | some c, is => ∃ t, is = [.str ⟨#[c]⟩ t]
noncomputable def RtΦ (hs hs' : Nat → Int × Tok) (ts : Nat → Tok) (tn tb : Tok) (buf : Str) (x dx a d pb fs : Addr) (o : Out) (v : Value) (nw : List (Addr × Obj)) : Prop :=
  ResV o.res v ∧ ∃ (pos : Nat) (tst tl tt tp : Tok) (nq : Int) (items : List Value), buf.cps.toList.drop pos = o.rest ∧ pos ≤ buf.length ∧ PushV o.push items ∧
    nw = lexL hs hs' ts tn tb buf x dx a d pb fs (stV o.st tst) (o.ln : Int) tl (Str.ofString "") tt pos tp nq items
noncomputable def RtJ (hs hs' : Nat → Int × Tok) (ts : Nat → Tok) (tn tb : Tok) (buf : Str) (x dx a d pb fs : Addr) (o : Out) (n : Nat) (m : Str → Option Value) (nw : List (Addr × Obj)) : Prop :=
  ∃ (st : LSt) (tst tl tt tp : Tok) (tok : Str) (pos ln : Nat) (nq : Int), 
      (∀ q ∈ lexL hs hs' ts tn tb buf x dx a d pb fs (stV st tst) ln tl tok tt pos tp nq [], q ∈ nw) ∧ Rd n st tok.cps.toList (buf.cps.toList.drop pos) ln o ∧ tok.length ≤ pos ∧ pos ≤ buf.length ∧
      m (Str.ofString "self") = some (.ref x) ∧ m (Str.ofString "quoted") = some (.bool false) ∧ ∃ te, m (Str.ofString "escapedstate") = some (.str (Str.ofString " ") te)
section
variable {hs hs' : Nat → Int × Tok} {ts : Nat → Tok} {tn tb : Tok} {buf : Str} {x dx a d pb fs : Addr} {o : Out}
theorem RtJ.mk {n : Nat} {m : Str → Option Value} {nw : List (Addr × Obj)} {st : LSt} {tst tl tt tp te : Tok} {tok : Str} {pos ln : Nat} {nq : Int} (h1 : m (Str.ofString "self") = some (.ref x)) (h2 : m (Str.ofString "quoted") = some (.bool false)) (h3 : m (Str.ofString "escapedstate") = some (.str (Str.ofString " ") te))
    (led : ∀ q ∈ lexL hs hs' ts tn tb buf x dx a d pb fs (stV st tst) ln tl tok tt pos tp nq [], q ∈ nw) (hR : Rd n st tok.cps.toList (buf.cps.toList.drop pos) ln o) (htl : tok.length ≤ pos) (hpl : pos ≤ buf.length) :
    Held (∃ n', n' < n + 1 ∧ RtJ hs hs' ts tn tb buf x dx a d pb fs o n' m nw) := ⟨n, Nat.lt_succ_self _, st, tst, tl, tt, tp, tok, pos, ln, nq, led, hR, htl, hpl, h1, h2, te, h3⟩
theorem RtΦ.post {g : Heap} {s : Shared} {v : Value} {news : List (Addr × Obj)} {h' : Heap} {tk : Nat} {L' : Addr} {m' : Str → Option Value} {pos : Nat} {tst tl tt tp : Tok} {nq : Int} {items : List Value} (F : Fr g L' h' m') (N : News g L' h' news)
    (led : ∀ q ∈ lexL hs hs' ts tn tb buf x dx a d pb fs (stV o.st tst) (o.ln : Int) tl (Str.ofString "") tt pos tp nq items, q ∈ news) (hr : ResV o.res v) (hd : buf.cps.toList.drop pos = o.rest) (hp : pos ≤ buf.length) (hi : PushV o.push items) :
    Post g (RtΦ hs hs' ts tn tb buf x dx a d pb fs o) s (.ok (.ret v)) { s with heap := h', toks := tk } :=
  Post.intro F N led ⟨hr, pos, tst, tl, tt, tp, nq, items, hd, hp, hi, rfl⟩
theorem drop_one {l r : List Nat} {c pos : Nat} (h : l.drop pos = c :: r) : l.drop (pos + 1) = r := by
  rw [← List.drop_drop, h]; rfl
theorem drop_line {l r q : List Nat} {c pos : Nat} (h : l.drop pos = c :: (q ++ 10 :: r)) : l.drop (pos + 1 + q.length + 1) = r ∧ l.drop (pos + 1) = q ++ 10 :: r := by
  have h1 := drop_one h
  refine ⟨?_, h1⟩
  rw [show pos + 1 + q.length + 1 = pos + 1 + (q.length + 1) from by omega, ← List.drop_drop, h1, ← List.drop_drop]
  simp
theorem len_drop {buf : Str} {pos : Nat} {r : List Nat} (hp : pos ≤ buf.length) (h : buf.cps.toList.drop pos = r) : buf.length = pos + r.length := by
  have := congrArg List.length h
  simp [Str.length] at this ⊢
  simp [Str.length] at hp
  omega
theorem tok_len {tok : Str} {l : List Nat} (h : tok.cps.toList = l) : tok.length = l.length := by
  rw [← h]; simp [Str.length]
theorem tok_app {tok : Str} {l : List Nat} {c : Nat} (h : tok.cps.toList = l) : (tok ++ (⟨#[c]⟩ : Str)).cps.toList = l ++ [c] := by
  rw [← h]
  show (tok.cps ++ #[c]).toList = _
  simp
theorem tok_asked {tok : Str} {c : Nat} {l : List Nat} (h : tok.cps.toList = c :: l) : (!((tok.length : Int) != 0)) = false ∧ ((tok.length : Int) != 0) = true ∧ (tok == Str.ofString "") = false := by
  have hl := tok_len h
  have h1 : ((tok.length : Int) != 0) = true := by rw [bne_iff_ne]; rw [hl]; simp; omega
  refine ⟨by rw [h1]; rfl, h1, ?_⟩
  rw [lit_nil', beq_eq_false_iff_ne]
  intro e
  rw [e] at h
  cases h
theorem tok_nil {tok : Str} (h : tok.cps.toList = []) : tok = Str.ofString "" := by
  rw [lit_nil']
  obtain ⟨⟨l⟩⟩ := tok
  have : l = [] := h
  rw [this]
end

inductive RdNl (n : Nat) (st : LSt) (tok r : List Nat) (ln : Nat) (o : Out) : Prop
  | sp (k : Nat) (hn : n = k + 1) (hs : st = .sp) (ht : tok = []) (h : Rd k .sp [] r (ln + 1) o)
  | wd (c : Nat) (t : List Nat) (hs : st = .wd) (ht : tok = c :: t) (ho : o = ⟨some (c :: t), .sp, r, ln + 1, none⟩)
inductive RdNe (n : Nat) (st : LSt) (tok r : List Nat) (b ln : Nat) (o : Out) : Prop
  | ws0 (k : Nat) (hn : n = k + 1) (hs : st = .sp) (ht : tok = []) (hc : isWs b) (h : Rd k .sp [] r ln o)
  | hs0 (k : Nat) (l r' : List Nat) (hn : n = k + 1) (hs : st = .sp) (ht : tok = []) (hc : b = 35) (hl : 10 ∉ l) (hr : r = l ++ 10 :: r') (h : Rd k .sp [] r' (ln + 1) o)
  | wd0 (k : Nat) (hn : n = k + 1) (hs : st = .sp) (ht : tok = []) (hc : isWd b) (h : Rd k .wd [b] r ln o)
  | ln0 (hs : st = .sp) (ht : tok = []) (hc : isLn b) (ho : o = ⟨some [b], .sp, r, ln, none⟩)
  | wsW (c : Nat) (t : List Nat) (hs : st = .wd) (ht : tok = c :: t) (hc : isWs b) (ho : o = ⟨some (c :: t), .sp, r, ln, none⟩)
  | hsW (c : Nat) (t l r' : List Nat) (hs : st = .wd) (ht : tok = c :: t) (hc : b = 35) (hl : 10 ∉ l) (hr : r = l ++ 10 :: r') (ho : o = ⟨some (c :: t), .sp, r', ln + 1, none⟩)
  | wdW (k c : Nat) (t : List Nat) (hn : n = k + 1) (hs : st = .wd) (ht : tok = c :: t) (hc : isWd b) (h : Rd k .wd (c :: t ++ [b]) r ln o)
  | lnW (c : Nat) (t : List Nat) (hs : st = .wd) (ht : tok = c :: t) (hc : isLn b) (ho : o = ⟨some (c :: t), .sp, r, ln, some b⟩)
theorem rd_nil {n : Nat} {st : LSt} {tok : List Nat} {ln : Nat} {o : Out} (h : Rd n st tok [] ln o) : (st = .dn ∧ o = ⟨none, .dn, [], ln, none⟩) ∨ (st = .sp ∧ tok = [] ∧ o = ⟨none, .dn, [], ln, none⟩) ∨
    ∃ c t, st = .wd ∧ tok = c :: t ∧ o = ⟨some (c :: t), .dn, [], ln, none⟩ := by
  cases h
  · exact .inl ⟨rfl, rfl⟩
  · exact .inr (.inl ⟨rfl, rfl, rfl⟩)
  · exact .inr (.inr ⟨_, _, rfl, rfl, rfl⟩)
theorem no10 {b : Nat} (hb : b = 10) (h : isWs b) : False := by
  subst hb
  rcases h with h | h | h <;> cases h
theorem rd_nl {n : Nat} {st : LSt} {tok r : List Nat} {b ln : Nat} {o : Out} (hb : b = 10) (h : Rd n st tok (b :: r) ln o) : RdNl n st tok r ln o := by
  cases h with
  | ws0 hc _ => exact (no10 hb hc).elim
  | nl0 _ h => exact .sp _ rfl rfl rfl h
  | hs0 hc _ _ => rw [hb] at hc; cases hc
  | wd0 hc _ => exact absurd hb hc.2.2.2.2.1
  | ln0 hc => exact absurd hb hc.2.2.2.2.1
  | wsW hc => exact (no10 hb hc).elim
  | nlW _ => exact .wd _ _ rfl rfl rfl
  | hsW hc _ => rw [hb] at hc; cases hc
  | wdW hc _ => exact absurd hb hc.2.2.2.2.1
  | lnW hc => exact absurd hb hc.2.2.2.2.1
theorem rd_ne {n : Nat} {st : LSt} {tok r : List Nat} {b ln : Nat} {o : Out} (hb : b ≠ 10) (h : Rd n st tok (b :: r) ln o) : RdNe n st tok r b ln o := by
  cases h with
  | ws0 hc h => exact .ws0 _ rfl rfl rfl hc h
  | nl0 hc _ => exact absurd hc hb
  | hs0 hc hl h => exact .hs0 _ _ _ rfl rfl rfl hc hl rfl h
  | wd0 hc h => exact .wd0 _ rfl rfl rfl hc h
  | ln0 hc => exact .ln0 rfl rfl hc rfl
  | wsW hc => exact .wsW _ _ rfl rfl hc rfl
  | nlW hc => exact absurd hc hb
  | hsW hc hl => exact .hsW _ _ _ _ rfl rfl hc hl rfl rfl
  | wdW hc h => exact .wdW _ _ _ rfl rfl rfl hc h
  | lnW hc => exact .lnW _ _ rfl rfl hc rfl

theorem c_rt {hs hs' : Nat → Int × Tok} {ts : Nat → Tok} {tn tb tp tl tt tst : Tok} {buf tok : Str} {pos ln k : Nat} {r : List Nat} {x dx a d pb fs : Addr} {nq : Int} {st : LSt} {o : Out} (hd : dp ≤ 500) (hu : un ≤ 4000)
    (ho : @LT.lt Nat _ dx x ∧ @LT.lt Nat _ x d ∧ @LT.lt Nat _ d a ∧ @LT.lt Nat _ a pb) (hb : buf.length ≤ 1000) (hp : buf.cps.toList.drop pos = r) (hpl : pos ≤ buf.length) (htk : tok.cps.toList = []) (hR : Rd k st [] r ln o)
    (G : Gd w (Aat dp un fr) base fr p loose mean mg mb g s.heap (lexL hs hs' ts tn tb buf x dx a d pb fs (stV st tst) ln tl tok tt pos tp nq [])) :
    codeAny (model PySem.Challenge.pw_il0179_01 w) (Aat dp un fr) (.call (.ref 697) ⟨[.ref x], []⟩) (Post g (RtΦ hs hs' ts tn tb buf x dx a d pb fs o) s) s := by
  obtain ⟨ap1, ap2, ap3, ap4, ap5, ap6, ap7, ap8, ap9, ap10⟩ := aps5 ho
  obtain ⟨J', hJ'⟩ : ∃ J', J' = RtJ hs hs' ts tn tb buf x dx a d pb fs o := ⟨_, rfl⟩
  walk_at "m.enter"
  (repeat' (first | ((with_reducible show wpAny _ _ (PySem.call _ _ _) _ _ _); with_reducible (first | ((with_reducible show wpAny _ _ (PySem.call (Value.builtin "collections.deque.popleft") _ _) _ _ _); k_dflt (refine' dq_popleft_K ?ma ?mb ?mc ?md ?_; (case ma => k_asm); (case mb => k_asm); (case mc => k_upd); (case md => first | decide | (simp; done)); intro h' F' N'; (try k_sweep))) | ((with_reducible show wpAny _ _ (PySem.call (Value.builtin "collections.deque.appendleft") _ _) _ _ _); k_dflt (refine' dq_appendleft_K ?ma ?mb ?mc ?md ?_; (case ma => k_asm); (case mb => k_asm); (case mc => k_upd); (case md => first | decide | (simp; done)); intro h' F' N'; (try k_sweep))) | (((with_reducible show wpAny _ _ (PySem.call (Value.ref 548) _ _) _ _ _); k_dflt (refine' by_contract ?B ?F ?X ?N ?T ?hA ?hf ?hk (fun g' G' => c_readline ?a1 ?a2 ?a3 ?a4 ?a5 ?a6 G') ?P ?S ?_; walk_at "m.site"; (case a1 => walk_at "m.un"); (case a2 => walk_at "m.un"); (case a3 => omega); (case a4 => k_asm); (case a5 => k_asm); (case a6 => k_asm); rintro v' small' h' tk' F' N' ⟨t2', e2'⟩; subst e2'; walk_at "m.led"))) | (((with_reducible show wpAny _ _ (PySem.call (Value.ref 540) _ _) _ _ _); k_dflt (refine' by_contract ?B ?F ?X ?N ?T ?hA ?hf ?hk (fun g' G' => c_read_end ?a1 ?a2 ?a3 ?a4 ?a5 G') ?P ?S ?_; walk_at "m.site"; (case a1 => walk_at "m.un"); (case a2 => walk_at "m.un"); (case a3 => omega); (case a4 => k_asm); (case a5 => k_asm); rintro v' small' h' tk' F' N' ⟨⟨t', e1'⟩, e2'⟩; subst e1'; subst e2'; walk_at "m.led"))) | (((with_reducible show wpAny _ _ (PySem.call (Value.ref 540) _ _) _ _ _); k_dflt (refine' by_contract ?B ?F ?X ?N ?T ?hA ?hf ?hk (fun g' G' => c_read ?a1 ?a2 ?a3 ?a4 ?a5 G') ?P ?S ?_; walk_at "m.site"; (case a1 => walk_at "m.un"); (case a2 => walk_at "m.un"); (case a3 => omega); (case a4 => k_asm); (case a5 => k_asm); rintro v' small' h' tk' F' N' ⟨⟨t', e1'⟩, t2', e2'⟩; subst e1'; subst e2'; walk_at "m.led"))))) | ((with_reducible show wpAny _ _ (getMethod _ _ _) _ _ _); with_reducible (first | (k_dflt (first | (with_reducible show wpAny _ _ (getMethod _ (Str.ofString "appendleft") _) _ _ _); (refine' dq_getMethod_K ?ma ?mb dq_slot_appendleft dq_type_appendleft ?_; (case ma => k_asm); (case mb => k_mem)) | (with_reducible show wpAny _ _ (getMethod _ (Str.ofString "popleft") _) _ _ _); (refine' dq_getMethod_K ?ma ?mb dq_slot_popleft dq_type_popleft ?_; (case ma => k_asm); (case mb => k_mem)))))) | ((with_reducible show wpAny _ _ (truthy _) _ _ _); with_reducible (first | (k_dflt (first | (refine' dq_truthy_nil ?ma ?mb ?_; (case ma => k_asm); (case mb => k_mem)) | (refine' dq_truthy_cons ?ma ?mb ?mc ?_; (case ma => k_asm); (case mb => k_mem); (case mc => first | decide | (simp; done))))))) | walk_at "m.step"))
  all_goals (try dsimp only)
  rename Fr _ _ _ _ => F1
  rename News _ _ _ _ => N1
  refine while_m (n₀ := k) J' F1 N1 ?_ ?_ ?_
  · rw [hJ']
    refine ⟨st, tst, tl, tt, tp, tok, pos, ln, nq, fun _ h => h, ?_, ?_, hpl, rfl, rfl, _, rfl⟩
    · rw [htk, hp]; exact hR
    · rw [tok_len htk]; exact Nat.zero_le _
  · intro n m₁ news₁ h₁ tk₁ F2 N2 hJ
    rw [hJ'] at hJ
    obtain ⟨st, tst, tl, tt, tp, tok, pos, ln, nq, hled, hR, htl, hpl, e1, e2, te, e3⟩ := hJ
    clear F1 N1 htk hp G
    have N3 : News _ _ _ _ := fun q hq => N2 q (hled q hq)
    have F3 := fr_know3 e1 e2 e3 F2
    clear F2 N2 hled
    generalize hrest : buf.cps.toList.drop pos = rest at hR
    generalize htokl : tok.cps.toList = tl9 at hR
    have hlen := len_drop hpl hrest
    obtain ⟨f2, f2'⟩ := st_a_q
    obtain ⟨f3, f3'⟩ := st_a_e
    rcases rest with _ | ⟨b, r⟩
    · have hend : buf.length ≤ pos := by rw [hlen]; simp
      (repeat' (first | ((with_reducible show wpAny _ _ (PySem.call _ _ _) _ _ _); with_reducible (first | ((with_reducible show wpAny _ _ (PySem.call (Value.builtin "collections.deque.popleft") _ _) _ _ _); k_dflt (refine' dq_popleft_K ?ma ?mb ?mc ?md ?_; (case ma => k_asm); (case mb => k_asm); (case mc => k_upd); (case md => first | decide | (simp; done)); intro h' F' N'; (try k_sweep))) | ((with_reducible show wpAny _ _ (PySem.call (Value.builtin "collections.deque.appendleft") _ _) _ _ _); k_dflt (refine' dq_appendleft_K ?ma ?mb ?mc ?md ?_; (case ma => k_asm); (case mb => k_asm); (case mc => k_upd); (case md => first | decide | (simp; done)); intro h' F' N'; (try k_sweep))) | (((with_reducible show wpAny _ _ (PySem.call (Value.ref 548) _ _) _ _ _); k_dflt (refine' by_contract ?B ?F ?X ?N ?T ?hA ?hf ?hk (fun g' G' => c_readline ?a1 ?a2 ?a3 ?a4 ?a5 ?a6 G') ?P ?S ?_; walk_at "m.site"; (case a1 => walk_at "m.un"); (case a2 => walk_at "m.un"); (case a3 => omega); (case a4 => k_asm); (case a5 => k_asm); (case a6 => k_asm); rintro v' small' h' tk' F' N' ⟨t2', e2'⟩; subst e2'; walk_at "m.led"))) | (((with_reducible show wpAny _ _ (PySem.call (Value.ref 540) _ _) _ _ _); k_dflt (refine' by_contract ?B ?F ?X ?N ?T ?hA ?hf ?hk (fun g' G' => c_read_end ?a1 ?a2 ?a3 ?a4 ?a5 G') ?P ?S ?_; walk_at "m.site"; (case a1 => walk_at "m.un"); (case a2 => walk_at "m.un"); (case a3 => omega); (case a4 => k_asm); (case a5 => k_asm); rintro v' small' h' tk' F' N' ⟨⟨t', e1'⟩, e2'⟩; subst e1'; subst e2'; walk_at "m.led"))) | (((with_reducible show wpAny _ _ (PySem.call (Value.ref 540) _ _) _ _ _); k_dflt (refine' by_contract ?B ?F ?X ?N ?T ?hA ?hf ?hk (fun g' G' => c_read ?a1 ?a2 ?a3 ?a4 ?a5 G') ?P ?S ?_; walk_at "m.site"; (case a1 => walk_at "m.un"); (case a2 => walk_at "m.un"); (case a3 => omega); (case a4 => k_asm); (case a5 => k_asm); rintro v' small' h' tk' F' N' ⟨⟨t', e1'⟩, t2', e2'⟩; subst e1'; subst e2'; walk_at "m.led"))))) | ((with_reducible show wpAny _ _ (getMethod _ _ _) _ _ _); with_reducible (first | (k_dflt (first | (with_reducible show wpAny _ _ (getMethod _ (Str.ofString "appendleft") _) _ _ _); (refine' dq_getMethod_K ?ma ?mb dq_slot_appendleft dq_type_appendleft ?_; (case ma => k_asm); (case mb => k_mem)) | (with_reducible show wpAny _ _ (getMethod _ (Str.ofString "popleft") _) _ _ _); (refine' dq_getMethod_K ?ma ?mb dq_slot_popleft dq_type_popleft ?_; (case ma => k_asm); (case mb => k_mem)))))) | ((with_reducible show wpAny _ _ (truthy _) _ _ _); with_reducible (first | (k_dflt (first | (refine' dq_truthy_nil ?ma ?mb ?_; (case ma => k_asm); (case mb => k_mem)) | (refine' dq_truthy_cons ?ma ?mb ?mc ?_; (case ma => k_asm); (case mb => k_mem); (case mc => first | decide | (simp; done))))))) | walk_at "m.step"))
      all_goals (try dsimp only)
      rename News _ _ _ _ => N4
      rcases rd_nil hR with ⟨rfl, ho9⟩ | ⟨rfl, htn9, ho9⟩ | ⟨c, t, rfl, htn9, ho9⟩
      · simp only [stV] at N4 ⊢
        (repeat' (first | ((with_reducible show wpAny _ _ (PySem.call _ _ _) _ _ _); with_reducible (first | ((with_reducible show wpAny _ _ (PySem.call (Value.builtin "collections.deque.popleft") _ _) _ _ _); k_dflt (refine' dq_popleft_K ?ma ?mb ?mc ?md ?_; (case ma => k_asm); (case mb => k_asm); (case mc => k_upd); (case md => first | decide | (simp; done)); intro h' F' N'; (try k_sweep))) | ((with_reducible show wpAny _ _ (PySem.call (Value.builtin "collections.deque.appendleft") _ _) _ _ _); k_dflt (refine' dq_appendleft_K ?ma ?mb ?mc ?md ?_; (case ma => k_asm); (case mb => k_asm); (case mc => k_upd); (case md => first | decide | (simp; done)); intro h' F' N'; (try k_sweep))) | (((with_reducible show wpAny _ _ (PySem.call (Value.ref 548) _ _) _ _ _); k_dflt (refine' by_contract ?B ?F ?X ?N ?T ?hA ?hf ?hk (fun g' G' => c_readline ?a1 ?a2 ?a3 ?a4 ?a5 ?a6 G') ?P ?S ?_; walk_at "m.site"; (case a1 => walk_at "m.un"); (case a2 => walk_at "m.un"); (case a3 => omega); (case a4 => k_asm); (case a5 => k_asm); (case a6 => k_asm); rintro v' small' h' tk' F' N' ⟨t2', e2'⟩; subst e2'; walk_at "m.led"))) | (((with_reducible show wpAny _ _ (PySem.call (Value.ref 540) _ _) _ _ _); k_dflt (refine' by_contract ?B ?F ?X ?N ?T ?hA ?hf ?hk (fun g' G' => c_read_end ?a1 ?a2 ?a3 ?a4 ?a5 G') ?P ?S ?_; walk_at "m.site"; (case a1 => walk_at "m.un"); (case a2 => walk_at "m.un"); (case a3 => omega); (case a4 => k_asm); (case a5 => k_asm); rintro v' small' h' tk' F' N' ⟨⟨t', e1'⟩, e2'⟩; subst e1'; subst e2'; walk_at "m.led"))) | (((with_reducible show wpAny _ _ (PySem.call (Value.ref 540) _ _) _ _ _); k_dflt (refine' by_contract ?B ?F ?X ?N ?T ?hA ?hf ?hk (fun g' G' => c_read ?a1 ?a2 ?a3 ?a4 ?a5 G') ?P ?S ?_; walk_at "m.site"; (case a1 => walk_at "m.un"); (case a2 => walk_at "m.un"); (case a3 => omega); (case a4 => k_asm); (case a5 => k_asm); rintro v' small' h' tk' F' N' ⟨⟨t', e1'⟩, t2', e2'⟩; subst e1'; subst e2'; walk_at "m.led"))))) | ((with_reducible show wpAny _ _ (getMethod _ _ _) _ _ _); with_reducible (first | (k_dflt (first | (with_reducible show wpAny _ _ (getMethod _ (Str.ofString "appendleft") _) _ _ _); (refine' dq_getMethod_K ?ma ?mb dq_slot_appendleft dq_type_appendleft ?_; (case ma => k_asm); (case mb => k_mem)) | (with_reducible show wpAny _ _ (getMethod _ (Str.ofString "popleft") _) _ _ _); (refine' dq_getMethod_K ?ma ?mb dq_slot_popleft dq_type_popleft ?_; (case ma => k_asm); (case mb => k_mem)))))) | ((with_reducible show wpAny _ _ (truthy _) _ _ _); with_reducible (first | (k_dflt (first | (refine' dq_truthy_nil ?ma ?mb ?_; (case ma => k_asm); (case mb => k_mem)) | (refine' dq_truthy_cons ?ma ?mb ?mc ?_; (case ma => k_asm); (case mb => k_mem); (case mc => first | decide | (simp; done))))))) | walk_at "m.step"))
        all_goals (try dsimp only)
        rw [ho9]
        refine' RtΦ.post (pos := pos) (tst := 0) (by k_asm) (by k_asm) ?led ?R ?D ?pl ?P
        case led => k_allIn
        case R => rfl
        case D => exact hrest
        case pl => omega
        case P => rfl
      · have htn := tok_nil (htokl.trans htn9)
        rw [htn] at N4
        simp only [stV] at N4 ⊢
        (repeat' (first | ((with_reducible show wpAny _ _ (PySem.call _ _ _) _ _ _); with_reducible (first | ((with_reducible show wpAny _ _ (PySem.call (Value.builtin "collections.deque.popleft") _ _) _ _ _); k_dflt (refine' dq_popleft_K ?ma ?mb ?mc ?md ?_; (case ma => k_asm); (case mb => k_asm); (case mc => k_upd); (case md => first | decide | (simp; done)); intro h' F' N'; (try k_sweep))) | ((with_reducible show wpAny _ _ (PySem.call (Value.builtin "collections.deque.appendleft") _ _) _ _ _); k_dflt (refine' dq_appendleft_K ?ma ?mb ?mc ?md ?_; (case ma => k_asm); (case mb => k_asm); (case mc => k_upd); (case md => first | decide | (simp; done)); intro h' F' N'; (try k_sweep))) | (((with_reducible show wpAny _ _ (PySem.call (Value.ref 548) _ _) _ _ _); k_dflt (refine' by_contract ?B ?F ?X ?N ?T ?hA ?hf ?hk (fun g' G' => c_readline ?a1 ?a2 ?a3 ?a4 ?a5 ?a6 G') ?P ?S ?_; walk_at "m.site"; (case a1 => walk_at "m.un"); (case a2 => walk_at "m.un"); (case a3 => omega); (case a4 => k_asm); (case a5 => k_asm); (case a6 => k_asm); rintro v' small' h' tk' F' N' ⟨t2', e2'⟩; subst e2'; walk_at "m.led"))) | (((with_reducible show wpAny _ _ (PySem.call (Value.ref 540) _ _) _ _ _); k_dflt (refine' by_contract ?B ?F ?X ?N ?T ?hA ?hf ?hk (fun g' G' => c_read_end ?a1 ?a2 ?a3 ?a4 ?a5 G') ?P ?S ?_; walk_at "m.site"; (case a1 => walk_at "m.un"); (case a2 => walk_at "m.un"); (case a3 => omega); (case a4 => k_asm); (case a5 => k_asm); rintro v' small' h' tk' F' N' ⟨⟨t', e1'⟩, e2'⟩; subst e1'; subst e2'; walk_at "m.led"))) | (((with_reducible show wpAny _ _ (PySem.call (Value.ref 540) _ _) _ _ _); k_dflt (refine' by_contract ?B ?F ?X ?N ?T ?hA ?hf ?hk (fun g' G' => c_read ?a1 ?a2 ?a3 ?a4 ?a5 G') ?P ?S ?_; walk_at "m.site"; (case a1 => walk_at "m.un"); (case a2 => walk_at "m.un"); (case a3 => omega); (case a4 => k_asm); (case a5 => k_asm); rintro v' small' h' tk' F' N' ⟨⟨t', e1'⟩, t2', e2'⟩; subst e1'; subst e2'; walk_at "m.led"))))) | ((with_reducible show wpAny _ _ (getMethod _ _ _) _ _ _); with_reducible (first | (k_dflt (first | (with_reducible show wpAny _ _ (getMethod _ (Str.ofString "appendleft") _) _ _ _); (refine' dq_getMethod_K ?ma ?mb dq_slot_appendleft dq_type_appendleft ?_; (case ma => k_asm); (case mb => k_mem)) | (with_reducible show wpAny _ _ (getMethod _ (Str.ofString "popleft") _) _ _ _); (refine' dq_getMethod_K ?ma ?mb dq_slot_popleft dq_type_popleft ?_; (case ma => k_asm); (case mb => k_mem)))))) | ((with_reducible show wpAny _ _ (truthy _) _ _ _); with_reducible (first | (k_dflt (first | (refine' dq_truthy_nil ?ma ?mb ?_; (case ma => k_asm); (case mb => k_mem)) | (refine' dq_truthy_cons ?ma ?mb ?mc ?_; (case ma => k_asm); (case mb => k_mem); (case mc => first | decide | (simp; done))))))) | walk_at "m.step"))
        all_goals (try dsimp only)
        rw [ho9]
        refine' RtΦ.post (pos := pos) (tst := 0) (by k_asm) (by k_asm) ?led ?R ?D ?pl ?P
        case led => k_allIn
        case R => rfl
        case D => exact hrest
        case pl => omega
        case P => rfl
      · obtain ⟨f4, f4', f4''⟩ := tok_asked (htokl.trans htn9)
        simp only [stV] at N4 ⊢
        (repeat' (first | ((with_reducible show wpAny _ _ (PySem.call _ _ _) _ _ _); with_reducible (first | ((with_reducible show wpAny _ _ (PySem.call (Value.builtin "collections.deque.popleft") _ _) _ _ _); k_dflt (refine' dq_popleft_K ?ma ?mb ?mc ?md ?_; (case ma => k_asm); (case mb => k_asm); (case mc => k_upd); (case md => first | decide | (simp; done)); intro h' F' N'; (try k_sweep))) | ((with_reducible show wpAny _ _ (PySem.call (Value.builtin "collections.deque.appendleft") _ _) _ _ _); k_dflt (refine' dq_appendleft_K ?ma ?mb ?mc ?md ?_; (case ma => k_asm); (case mb => k_asm); (case mc => k_upd); (case md => first | decide | (simp; done)); intro h' F' N'; (try k_sweep))) | (((with_reducible show wpAny _ _ (PySem.call (Value.ref 548) _ _) _ _ _); k_dflt (refine' by_contract ?B ?F ?X ?N ?T ?hA ?hf ?hk (fun g' G' => c_readline ?a1 ?a2 ?a3 ?a4 ?a5 ?a6 G') ?P ?S ?_; walk_at "m.site"; (case a1 => walk_at "m.un"); (case a2 => walk_at "m.un"); (case a3 => omega); (case a4 => k_asm); (case a5 => k_asm); (case a6 => k_asm); rintro v' small' h' tk' F' N' ⟨t2', e2'⟩; subst e2'; walk_at "m.led"))) | (((with_reducible show wpAny _ _ (PySem.call (Value.ref 540) _ _) _ _ _); k_dflt (refine' by_contract ?B ?F ?X ?N ?T ?hA ?hf ?hk (fun g' G' => c_read_end ?a1 ?a2 ?a3 ?a4 ?a5 G') ?P ?S ?_; walk_at "m.site"; (case a1 => walk_at "m.un"); (case a2 => walk_at "m.un"); (case a3 => omega); (case a4 => k_asm); (case a5 => k_asm); rintro v' small' h' tk' F' N' ⟨⟨t', e1'⟩, e2'⟩; subst e1'; subst e2'; walk_at "m.led"))) | (((with_reducible show wpAny _ _ (PySem.call (Value.ref 540) _ _) _ _ _); k_dflt (refine' by_contract ?B ?F ?X ?N ?T ?hA ?hf ?hk (fun g' G' => c_read ?a1 ?a2 ?a3 ?a4 ?a5 G') ?P ?S ?_; walk_at "m.site"; (case a1 => walk_at "m.un"); (case a2 => walk_at "m.un"); (case a3 => omega); (case a4 => k_asm); (case a5 => k_asm); rintro v' small' h' tk' F' N' ⟨⟨t', e1'⟩, t2', e2'⟩; subst e1'; subst e2'; walk_at "m.led"))))) | ((with_reducible show wpAny _ _ (getMethod _ _ _) _ _ _); with_reducible (first | (k_dflt (first | (with_reducible show wpAny _ _ (getMethod _ (Str.ofString "appendleft") _) _ _ _); (refine' dq_getMethod_K ?ma ?mb dq_slot_appendleft dq_type_appendleft ?_; (case ma => k_asm); (case mb => k_mem)) | (with_reducible show wpAny _ _ (getMethod _ (Str.ofString "popleft") _) _ _ _); (refine' dq_getMethod_K ?ma ?mb dq_slot_popleft dq_type_popleft ?_; (case ma => k_asm); (case mb => k_mem)))))) | ((with_reducible show wpAny _ _ (truthy _) _ _ _); with_reducible (first | (k_dflt (first | (refine' dq_truthy_nil ?ma ?mb ?_; (case ma => k_asm); (case mb => k_mem)) | (refine' dq_truthy_cons ?ma ?mb ?mc ?_; (case ma => k_asm); (case mb => k_mem); (case mc => first | decide | (simp; done))))))) | walk_at "m.step"))
        all_goals (try dsimp only)
        rw [ho9]
        refine' RtΦ.post (pos := pos) (tst := 0) (by k_asm) (by k_asm) ?led ?R ?D ?pl ?P
        case led => k_allIn
        case R => exact ⟨_, _, rfl, htokl.trans htn9⟩
        case D => exact hrest
        case pl => omega
        case P => rfl
    · obtain ⟨f1, f1'⟩ := one_len b
      have hlen' : buf.length = pos + 1 + r.length := by rw [hlen, List.length_cons]; omega
      by_cases hb10 : b = 10
      · obtain ⟨fn, ⟨fw, fw'⟩, ⟨fh, fh'⟩, ⟨fd, fd'⟩, ⟨fq, fq'⟩, ⟨fe, fe'⟩, ⟨fp, fp'⟩⟩ := asked_nl hb10
        simp only [Bool.not_false, Bool.not_true] at fw' fh' fd' fq' fe'
        (repeat' (first | ((with_reducible show wpAny _ _ (PySem.call _ _ _) _ _ _); with_reducible (first | ((with_reducible show wpAny _ _ (PySem.call (Value.builtin "collections.deque.popleft") _ _) _ _ _); k_dflt (refine' dq_popleft_K ?ma ?mb ?mc ?md ?_; (case ma => k_asm); (case mb => k_asm); (case mc => k_upd); (case md => first | decide | (simp; done)); intro h' F' N'; (try k_sweep))) | ((with_reducible show wpAny _ _ (PySem.call (Value.builtin "collections.deque.appendleft") _ _) _ _ _); k_dflt (refine' dq_appendleft_K ?ma ?mb ?mc ?md ?_; (case ma => k_asm); (case mb => k_asm); (case mc => k_upd); (case md => first | decide | (simp; done)); intro h' F' N'; (try k_sweep))) | (((with_reducible show wpAny _ _ (PySem.call (Value.ref 548) _ _) _ _ _); k_dflt (refine' by_contract ?B ?F ?X ?N ?T ?hA ?hf ?hk (fun g' G' => c_readline ?a1 ?a2 ?a3 ?a4 ?a5 ?a6 G') ?P ?S ?_; walk_at "m.site"; (case a1 => walk_at "m.un"); (case a2 => walk_at "m.un"); (case a3 => omega); (case a4 => k_asm); (case a5 => k_asm); (case a6 => k_asm); rintro v' small' h' tk' F' N' ⟨t2', e2'⟩; subst e2'; walk_at "m.led"))) | (((with_reducible show wpAny _ _ (PySem.call (Value.ref 540) _ _) _ _ _); k_dflt (refine' by_contract ?B ?F ?X ?N ?T ?hA ?hf ?hk (fun g' G' => c_read_end ?a1 ?a2 ?a3 ?a4 ?a5 G') ?P ?S ?_; walk_at "m.site"; (case a1 => walk_at "m.un"); (case a2 => walk_at "m.un"); (case a3 => omega); (case a4 => k_asm); (case a5 => k_asm); rintro v' small' h' tk' F' N' ⟨⟨t', e1'⟩, e2'⟩; subst e1'; subst e2'; walk_at "m.led"))) | (((with_reducible show wpAny _ _ (PySem.call (Value.ref 540) _ _) _ _ _); k_dflt (refine' by_contract ?B ?F ?X ?N ?T ?hA ?hf ?hk (fun g' G' => c_read ?a1 ?a2 ?a3 ?a4 ?a5 G') ?P ?S ?_; walk_at "m.site"; (case a1 => walk_at "m.un"); (case a2 => walk_at "m.un"); (case a3 => omega); (case a4 => k_asm); (case a5 => k_asm); rintro v' small' h' tk' F' N' ⟨⟨t', e1'⟩, t2', e2'⟩; subst e1'; subst e2'; walk_at "m.led"))))) | ((with_reducible show wpAny _ _ (getMethod _ _ _) _ _ _); with_reducible (first | (k_dflt (first | (with_reducible show wpAny _ _ (getMethod _ (Str.ofString "appendleft") _) _ _ _); (refine' dq_getMethod_K ?ma ?mb dq_slot_appendleft dq_type_appendleft ?_; (case ma => k_asm); (case mb => k_mem)) | (with_reducible show wpAny _ _ (getMethod _ (Str.ofString "popleft") _) _ _ _); (refine' dq_getMethod_K ?ma ?mb dq_slot_popleft dq_type_popleft ?_; (case ma => k_asm); (case mb => k_mem)))))) | ((with_reducible show wpAny _ _ (truthy _) _ _ _); with_reducible (first | (k_dflt (first | (refine' dq_truthy_nil ?ma ?mb ?_; (case ma => k_asm); (case mb => k_mem)) | (refine' dq_truthy_cons ?ma ?mb ?mc ?_; (case ma => k_asm); (case mb => k_mem); (case mc => first | decide | (simp; done))))))) | walk_at "m.step"))
        all_goals (try dsimp only)
        rename News _ _ _ _ => N4
        rcases rd_nl hb10 hR with ⟨k9, hn9, rfl, htn9, hR'⟩ | ⟨c, t, rfl, htn9, ho9⟩
        · have htn := tok_nil (htokl.trans htn9)
          rw [htn] at N4
          simp only [stV] at N4 ⊢
          (repeat' (first | ((with_reducible show wpAny _ _ (PySem.call _ _ _) _ _ _); with_reducible (first | ((with_reducible show wpAny _ _ (PySem.call (Value.builtin "collections.deque.popleft") _ _) _ _ _); k_dflt (refine' dq_popleft_K ?ma ?mb ?mc ?md ?_; (case ma => k_asm); (case mb => k_asm); (case mc => k_upd); (case md => first | decide | (simp; done)); intro h' F' N'; (try k_sweep))) | ((with_reducible show wpAny _ _ (PySem.call (Value.builtin "collections.deque.appendleft") _ _) _ _ _); k_dflt (refine' dq_appendleft_K ?ma ?mb ?mc ?md ?_; (case ma => k_asm); (case mb => k_asm); (case mc => k_upd); (case md => first | decide | (simp; done)); intro h' F' N'; (try k_sweep))) | (((with_reducible show wpAny _ _ (PySem.call (Value.ref 548) _ _) _ _ _); k_dflt (refine' by_contract ?B ?F ?X ?N ?T ?hA ?hf ?hk (fun g' G' => c_readline ?a1 ?a2 ?a3 ?a4 ?a5 ?a6 G') ?P ?S ?_; walk_at "m.site"; (case a1 => walk_at "m.un"); (case a2 => walk_at "m.un"); (case a3 => omega); (case a4 => k_asm); (case a5 => k_asm); (case a6 => k_asm); rintro v' small' h' tk' F' N' ⟨t2', e2'⟩; subst e2'; walk_at "m.led"))) | (((with_reducible show wpAny _ _ (PySem.call (Value.ref 540) _ _) _ _ _); k_dflt (refine' by_contract ?B ?F ?X ?N ?T ?hA ?hf ?hk (fun g' G' => c_read_end ?a1 ?a2 ?a3 ?a4 ?a5 G') ?P ?S ?_; walk_at "m.site"; (case a1 => walk_at "m.un"); (case a2 => walk_at "m.un"); (case a3 => omega); (case a4 => k_asm); (case a5 => k_asm); rintro v' small' h' tk' F' N' ⟨⟨t', e1'⟩, e2'⟩; subst e1'; subst e2'; walk_at "m.led"))) | (((with_reducible show wpAny _ _ (PySem.call (Value.ref 540) _ _) _ _ _); k_dflt (refine' by_contract ?B ?F ?X ?N ?T ?hA ?hf ?hk (fun g' G' => c_read ?a1 ?a2 ?a3 ?a4 ?a5 G') ?P ?S ?_; walk_at "m.site"; (case a1 => walk_at "m.un"); (case a2 => walk_at "m.un"); (case a3 => omega); (case a4 => k_asm); (case a5 => k_asm); rintro v' small' h' tk' F' N' ⟨⟨t', e1'⟩, t2', e2'⟩; subst e1'; subst e2'; walk_at "m.led"))))) | ((with_reducible show wpAny _ _ (getMethod _ _ _) _ _ _); with_reducible (first | (k_dflt (first | (with_reducible show wpAny _ _ (getMethod _ (Str.ofString "appendleft") _) _ _ _); (refine' dq_getMethod_K ?ma ?mb dq_slot_appendleft dq_type_appendleft ?_; (case ma => k_asm); (case mb => k_mem)) | (with_reducible show wpAny _ _ (getMethod _ (Str.ofString "popleft") _) _ _ _); (refine' dq_getMethod_K ?ma ?mb dq_slot_popleft dq_type_popleft ?_; (case ma => k_asm); (case mb => k_mem)))))) | ((with_reducible show wpAny _ _ (truthy _) _ _ _); with_reducible (first | (k_dflt (first | (refine' dq_truthy_nil ?ma ?mb ?_; (case ma => k_asm); (case mb => k_mem)) | (refine' dq_truthy_cons ?ma ?mb ?mc ?_; (case ma => k_asm); (case mb => k_mem); (case mc => first | decide | (simp; done))))))) | walk_at "m.step"))
          all_goals (try dsimp only)
          rw [hn9, hJ']
          refine' RtJ.mk (st := .sp) (tok := Str.ofString "") (pos := pos + 1) (ln := ln + 1) rfl rfl rfl ?led ?R ?tl ?pl
          case led => k_allIn
          case R => rw [lit_nil, drop_one hrest]; exact hR'
          case tl => exact Nat.zero_le _
          case pl => omega
        · obtain ⟨f4, f4', f4''⟩ := tok_asked (htokl.trans htn9)
          simp only [stV] at N4 ⊢
          (repeat' (first | ((with_reducible show wpAny _ _ (PySem.call _ _ _) _ _ _); with_reducible (first | ((with_reducible show wpAny _ _ (PySem.call (Value.builtin "collections.deque.popleft") _ _) _ _ _); k_dflt (refine' dq_popleft_K ?ma ?mb ?mc ?md ?_; (case ma => k_asm); (case mb => k_asm); (case mc => k_upd); (case md => first | decide | (simp; done)); intro h' F' N'; (try k_sweep))) | ((with_reducible show wpAny _ _ (PySem.call (Value.builtin "collections.deque.appendleft") _ _) _ _ _); k_dflt (refine' dq_appendleft_K ?ma ?mb ?mc ?md ?_; (case ma => k_asm); (case mb => k_asm); (case mc => k_upd); (case md => first | decide | (simp; done)); intro h' F' N'; (try k_sweep))) | (((with_reducible show wpAny _ _ (PySem.call (Value.ref 548) _ _) _ _ _); k_dflt (refine' by_contract ?B ?F ?X ?N ?T ?hA ?hf ?hk (fun g' G' => c_readline ?a1 ?a2 ?a3 ?a4 ?a5 ?a6 G') ?P ?S ?_; walk_at "m.site"; (case a1 => walk_at "m.un"); (case a2 => walk_at "m.un"); (case a3 => omega); (case a4 => k_asm); (case a5 => k_asm); (case a6 => k_asm); rintro v' small' h' tk' F' N' ⟨t2', e2'⟩; subst e2'; walk_at "m.led"))) | (((with_reducible show wpAny _ _ (PySem.call (Value.ref 540) _ _) _ _ _); k_dflt (refine' by_contract ?B ?F ?X ?N ?T ?hA ?hf ?hk (fun g' G' => c_read_end ?a1 ?a2 ?a3 ?a4 ?a5 G') ?P ?S ?_; walk_at "m.site"; (case a1 => walk_at "m.un"); (case a2 => walk_at "m.un"); (case a3 => omega); (case a4 => k_asm); (case a5 => k_asm); rintro v' small' h' tk' F' N' ⟨⟨t', e1'⟩, e2'⟩; subst e1'; subst e2'; walk_at "m.led"))) | (((with_reducible show wpAny _ _ (PySem.call (Value.ref 540) _ _) _ _ _); k_dflt (refine' by_contract ?B ?F ?X ?N ?T ?hA ?hf ?hk (fun g' G' => c_read ?a1 ?a2 ?a3 ?a4 ?a5 G') ?P ?S ?_; walk_at "m.site"; (case a1 => walk_at "m.un"); (case a2 => walk_at "m.un"); (case a3 => omega); (case a4 => k_asm); (case a5 => k_asm); rintro v' small' h' tk' F' N' ⟨⟨t', e1'⟩, t2', e2'⟩; subst e1'; subst e2'; walk_at "m.led"))))) | ((with_reducible show wpAny _ _ (getMethod _ _ _) _ _ _); with_reducible (first | (k_dflt (first | (with_reducible show wpAny _ _ (getMethod _ (Str.ofString "appendleft") _) _ _ _); (refine' dq_getMethod_K ?ma ?mb dq_slot_appendleft dq_type_appendleft ?_; (case ma => k_asm); (case mb => k_mem)) | (with_reducible show wpAny _ _ (getMethod _ (Str.ofString "popleft") _) _ _ _); (refine' dq_getMethod_K ?ma ?mb dq_slot_popleft dq_type_popleft ?_; (case ma => k_asm); (case mb => k_mem)))))) | ((with_reducible show wpAny _ _ (truthy _) _ _ _); with_reducible (first | (k_dflt (first | (refine' dq_truthy_nil ?ma ?mb ?_; (case ma => k_asm); (case mb => k_mem)) | (refine' dq_truthy_cons ?ma ?mb ?mc ?_; (case ma => k_asm); (case mb => k_mem); (case mc => first | decide | (simp; done))))))) | walk_at "m.step"))
          all_goals (try dsimp only)
          rw [ho9]
          refine' RtΦ.post (pos := pos + 1) (by k_asm) (by k_asm) ?led ?R ?D ?pl ?P
          case led => k_allIn
          case R => exact ⟨_, _, rfl, htokl.trans htn9⟩
          case D => exact drop_one hrest
          case pl => omega
          case P => rfl
      · have fn := no_nl hb10
        (repeat' (first | ((with_reducible show wpAny _ _ (PySem.call _ _ _) _ _ _); with_reducible (first | ((with_reducible show wpAny _ _ (PySem.call (Value.builtin "collections.deque.popleft") _ _) _ _ _); k_dflt (refine' dq_popleft_K ?ma ?mb ?mc ?md ?_; (case ma => k_asm); (case mb => k_asm); (case mc => k_upd); (case md => first | decide | (simp; done)); intro h' F' N'; (try k_sweep))) | ((with_reducible show wpAny _ _ (PySem.call (Value.builtin "collections.deque.appendleft") _ _) _ _ _); k_dflt (refine' dq_appendleft_K ?ma ?mb ?mc ?md ?_; (case ma => k_asm); (case mb => k_asm); (case mc => k_upd); (case md => first | decide | (simp; done)); intro h' F' N'; (try k_sweep))) | (((with_reducible show wpAny _ _ (PySem.call (Value.ref 548) _ _) _ _ _); k_dflt (refine' by_contract ?B ?F ?X ?N ?T ?hA ?hf ?hk (fun g' G' => c_readline ?a1 ?a2 ?a3 ?a4 ?a5 ?a6 G') ?P ?S ?_; walk_at "m.site"; (case a1 => walk_at "m.un"); (case a2 => walk_at "m.un"); (case a3 => omega); (case a4 => k_asm); (case a5 => k_asm); (case a6 => k_asm); rintro v' small' h' tk' F' N' ⟨t2', e2'⟩; subst e2'; walk_at "m.led"))) | (((with_reducible show wpAny _ _ (PySem.call (Value.ref 540) _ _) _ _ _); k_dflt (refine' by_contract ?B ?F ?X ?N ?T ?hA ?hf ?hk (fun g' G' => c_read_end ?a1 ?a2 ?a3 ?a4 ?a5 G') ?P ?S ?_; walk_at "m.site"; (case a1 => walk_at "m.un"); (case a2 => walk_at "m.un"); (case a3 => omega); (case a4 => k_asm); (case a5 => k_asm); rintro v' small' h' tk' F' N' ⟨⟨t', e1'⟩, e2'⟩; subst e1'; subst e2'; walk_at "m.led"))) | (((with_reducible show wpAny _ _ (PySem.call (Value.ref 540) _ _) _ _ _); k_dflt (refine' by_contract ?B ?F ?X ?N ?T ?hA ?hf ?hk (fun g' G' => c_read ?a1 ?a2 ?a3 ?a4 ?a5 G') ?P ?S ?_; walk_at "m.site"; (case a1 => walk_at "m.un"); (case a2 => walk_at "m.un"); (case a3 => omega); (case a4 => k_asm); (case a5 => k_asm); rintro v' small' h' tk' F' N' ⟨⟨t', e1'⟩, t2', e2'⟩; subst e1'; subst e2'; walk_at "m.led"))))) | ((with_reducible show wpAny _ _ (getMethod _ _ _) _ _ _); with_reducible (first | (k_dflt (first | (with_reducible show wpAny _ _ (getMethod _ (Str.ofString "appendleft") _) _ _ _); (refine' dq_getMethod_K ?ma ?mb dq_slot_appendleft dq_type_appendleft ?_; (case ma => k_asm); (case mb => k_mem)) | (with_reducible show wpAny _ _ (getMethod _ (Str.ofString "popleft") _) _ _ _); (refine' dq_getMethod_K ?ma ?mb dq_slot_popleft dq_type_popleft ?_; (case ma => k_asm); (case mb => k_mem)))))) | ((with_reducible show wpAny _ _ (truthy _) _ _ _); with_reducible (first | (k_dflt (first | (refine' dq_truthy_nil ?ma ?mb ?_; (case ma => k_asm); (case mb => k_mem)) | (refine' dq_truthy_cons ?ma ?mb ?mc ?_; (case ma => k_asm); (case mb => k_mem); (case mc => first | decide | (simp; done))))))) | walk_at "m.step"))
        all_goals (try dsimp only)
        rename News _ _ _ _ => N4
        rcases rd_ne hb10 hR with ⟨k9, hn9, rfl, htn9, hc, hR'⟩ | ⟨k9, l, r', hn9, rfl, htn9, hc, hl, hr9, hR'⟩ | ⟨k9, hn9, rfl, htn9, hc, hR'⟩ | ⟨rfl, htn9, hc, ho9⟩ | ⟨c, t, rfl, htn9, hc, ho9⟩ | ⟨c, t, l, r', rfl, htn9, hc, hl, hr9, ho9⟩ | ⟨k9, c, t, hn9, rfl, htn9, hc, hR'⟩ | ⟨c, t, rfl, htn9, hc, ho9⟩
        · obtain ⟨_, ⟨fw, fw'⟩, ⟨fh, fh'⟩, ⟨fd, fd'⟩, ⟨fq, fq'⟩, ⟨fe, fe'⟩, ⟨fp, fp'⟩⟩ := asked_ws hc
          simp only [Bool.not_false, Bool.not_true] at fw' fh' fd' fq' fe'
          have htn := tok_nil (htokl.trans htn9)
          rw [htn] at N4
          simp only [stV] at N4 ⊢
          (repeat' (first | ((with_reducible show wpAny _ _ (PySem.call _ _ _) _ _ _); with_reducible (first | ((with_reducible show wpAny _ _ (PySem.call (Value.builtin "collections.deque.popleft") _ _) _ _ _); k_dflt (refine' dq_popleft_K ?ma ?mb ?mc ?md ?_; (case ma => k_asm); (case mb => k_asm); (case mc => k_upd); (case md => first | decide | (simp; done)); intro h' F' N'; (try k_sweep))) | ((with_reducible show wpAny _ _ (PySem.call (Value.builtin "collections.deque.appendleft") _ _) _ _ _); k_dflt (refine' dq_appendleft_K ?ma ?mb ?mc ?md ?_; (case ma => k_asm); (case mb => k_asm); (case mc => k_upd); (case md => first | decide | (simp; done)); intro h' F' N'; (try k_sweep))) | (((with_reducible show wpAny _ _ (PySem.call (Value.ref 548) _ _) _ _ _); k_dflt (refine' by_contract ?B ?F ?X ?N ?T ?hA ?hf ?hk (fun g' G' => c_readline ?a1 ?a2 ?a3 ?a4 ?a5 ?a6 G') ?P ?S ?_; walk_at "m.site"; (case a1 => walk_at "m.un"); (case a2 => walk_at "m.un"); (case a3 => omega); (case a4 => k_asm); (case a5 => k_asm); (case a6 => k_asm); rintro v' small' h' tk' F' N' ⟨t2', e2'⟩; subst e2'; walk_at "m.led"))) | (((with_reducible show wpAny _ _ (PySem.call (Value.ref 540) _ _) _ _ _); k_dflt (refine' by_contract ?B ?F ?X ?N ?T ?hA ?hf ?hk (fun g' G' => c_read_end ?a1 ?a2 ?a3 ?a4 ?a5 G') ?P ?S ?_; walk_at "m.site"; (case a1 => walk_at "m.un"); (case a2 => walk_at "m.un"); (case a3 => omega); (case a4 => k_asm); (case a5 => k_asm); rintro v' small' h' tk' F' N' ⟨⟨t', e1'⟩, e2'⟩; subst e1'; subst e2'; walk_at "m.led"))) | (((with_reducible show wpAny _ _ (PySem.call (Value.ref 540) _ _) _ _ _); k_dflt (refine' by_contract ?B ?F ?X ?N ?T ?hA ?hf ?hk (fun g' G' => c_read ?a1 ?a2 ?a3 ?a4 ?a5 G') ?P ?S ?_; walk_at "m.site"; (case a1 => walk_at "m.un"); (case a2 => walk_at "m.un"); (case a3 => omega); (case a4 => k_asm); (case a5 => k_asm); rintro v' small' h' tk' F' N' ⟨⟨t', e1'⟩, t2', e2'⟩; subst e1'; subst e2'; walk_at "m.led"))))) | ((with_reducible show wpAny _ _ (getMethod _ _ _) _ _ _); with_reducible (first | (k_dflt (first | (with_reducible show wpAny _ _ (getMethod _ (Str.ofString "appendleft") _) _ _ _); (refine' dq_getMethod_K ?ma ?mb dq_slot_appendleft dq_type_appendleft ?_; (case ma => k_asm); (case mb => k_mem)) | (with_reducible show wpAny _ _ (getMethod _ (Str.ofString "popleft") _) _ _ _); (refine' dq_getMethod_K ?ma ?mb dq_slot_popleft dq_type_popleft ?_; (case ma => k_asm); (case mb => k_mem)))))) | ((with_reducible show wpAny _ _ (truthy _) _ _ _); with_reducible (first | (k_dflt (first | (refine' dq_truthy_nil ?ma ?mb ?_; (case ma => k_asm); (case mb => k_mem)) | (refine' dq_truthy_cons ?ma ?mb ?mc ?_; (case ma => k_asm); (case mb => k_mem); (case mc => first | decide | (simp; done))))))) | walk_at "m.step"))
          all_goals (try dsimp only)
          rw [hn9, hJ']
          refine' RtJ.mk (st := .sp) (tok := Str.ofString "") (pos := pos + 1) (ln := ln) rfl rfl rfl ?led ?R ?tl ?pl
          case led => k_allIn
          case R => rw [lit_nil, drop_one hrest]; exact hR'
          case tl => exact Nat.zero_le _
          case pl => omega
        · obtain ⟨_, ⟨fw, fw'⟩, ⟨fh, fh'⟩, ⟨fd, fd'⟩, ⟨fq, fq'⟩, ⟨fe, fe'⟩, ⟨fp, fp'⟩⟩ := asked_hs hc
          simp only [Bool.not_false, Bool.not_true] at fw' fh' fd' fq' fe'
          have htn := tok_nil (htokl.trans htn9)
          rw [htn] at N4
          have hlen2 : buf.length = pos + 1 + l.length + 1 + r'.length := by rw [hlen', hr9, List.length_append, List.length_cons]; omega
          rw [hr9] at hrest
          have hd2 := (drop_line hrest).2
          simp only [stV] at N4 ⊢
          (repeat' (first | ((with_reducible show wpAny _ _ (PySem.call _ _ _) _ _ _); with_reducible (first | ((with_reducible show wpAny _ _ (PySem.call (Value.builtin "collections.deque.popleft") _ _) _ _ _); k_dflt (refine' dq_popleft_K ?ma ?mb ?mc ?md ?_; (case ma => k_asm); (case mb => k_asm); (case mc => k_upd); (case md => first | decide | (simp; done)); intro h' F' N'; (try k_sweep))) | ((with_reducible show wpAny _ _ (PySem.call (Value.builtin "collections.deque.appendleft") _ _) _ _ _); k_dflt (refine' dq_appendleft_K ?ma ?mb ?mc ?md ?_; (case ma => k_asm); (case mb => k_asm); (case mc => k_upd); (case md => first | decide | (simp; done)); intro h' F' N'; (try k_sweep))) | (((with_reducible show wpAny _ _ (PySem.call (Value.ref 548) _ _) _ _ _); k_dflt (refine' by_contract ?B ?F ?X ?N ?T ?hA ?hf ?hk (fun g' G' => c_readline ?a1 ?a2 ?a3 ?a4 ?a5 ?a6 G') ?P ?S ?_; walk_at "m.site"; (case a1 => walk_at "m.un"); (case a2 => walk_at "m.un"); (case a3 => omega); (case a4 => k_asm); (case a5 => k_asm); (case a6 => k_asm); rintro v' small' h' tk' F' N' ⟨t2', e2'⟩; subst e2'; walk_at "m.led"))) | (((with_reducible show wpAny _ _ (PySem.call (Value.ref 540) _ _) _ _ _); k_dflt (refine' by_contract ?B ?F ?X ?N ?T ?hA ?hf ?hk (fun g' G' => c_read_end ?a1 ?a2 ?a3 ?a4 ?a5 G') ?P ?S ?_; walk_at "m.site"; (case a1 => walk_at "m.un"); (case a2 => walk_at "m.un"); (case a3 => omega); (case a4 => k_asm); (case a5 => k_asm); rintro v' small' h' tk' F' N' ⟨⟨t', e1'⟩, e2'⟩; subst e1'; subst e2'; walk_at "m.led"))) | (((with_reducible show wpAny _ _ (PySem.call (Value.ref 540) _ _) _ _ _); k_dflt (refine' by_contract ?B ?F ?X ?N ?T ?hA ?hf ?hk (fun g' G' => c_read ?a1 ?a2 ?a3 ?a4 ?a5 G') ?P ?S ?_; walk_at "m.site"; (case a1 => walk_at "m.un"); (case a2 => walk_at "m.un"); (case a3 => omega); (case a4 => k_asm); (case a5 => k_asm); rintro v' small' h' tk' F' N' ⟨⟨t', e1'⟩, t2', e2'⟩; subst e1'; subst e2'; walk_at "m.led"))))) | ((with_reducible show wpAny _ _ (getMethod _ _ _) _ _ _); with_reducible (first | (k_dflt (first | (with_reducible show wpAny _ _ (getMethod _ (Str.ofString "appendleft") _) _ _ _); (refine' dq_getMethod_K ?ma ?mb dq_slot_appendleft dq_type_appendleft ?_; (case ma => k_asm); (case mb => k_mem)) | (with_reducible show wpAny _ _ (getMethod _ (Str.ofString "popleft") _) _ _ _); (refine' dq_getMethod_K ?ma ?mb dq_slot_popleft dq_type_popleft ?_; (case ma => k_asm); (case mb => k_mem)))))) | ((with_reducible show wpAny _ _ (truthy _) _ _ _); with_reducible (first | (k_dflt (first | (refine' dq_truthy_nil ?ma ?mb ?_; (case ma => k_asm); (case mb => k_mem)) | (refine' dq_truthy_cons ?ma ?mb ?mc ?_; (case ma => k_asm); (case mb => k_mem); (case mc => first | decide | (simp; done))))))) | walk_at "m.step"))
          all_goals (try dsimp only)
          rw [hn9, hJ']
          refine' RtJ.mk (st := .sp) (tok := Str.ofString "") (pos := pos + 1 + l.length + 1) (ln := ln + 1) rfl rfl rfl ?led ?R ?tl ?pl
          case led => k_allIn
          case R => rw [lit_nil, (drop_line hrest).1]; exact hR'
          case tl => exact Nat.zero_le _
          case pl => omega
        · obtain ⟨_, ⟨fw, fw'⟩, ⟨fh, fh'⟩, ⟨fd, fd'⟩, ⟨fq, fq'⟩, ⟨fe, fe'⟩, ⟨fp, fp'⟩⟩ := asked_wd hc
          simp only [Bool.not_false, Bool.not_true] at fw' fh' fd' fq' fe'
          have htn := tok_nil (htokl.trans htn9)
          rw [htn] at N4
          simp only [stV] at N4 ⊢
          (repeat' (first | ((with_reducible show wpAny _ _ (PySem.call _ _ _) _ _ _); with_reducible (first | ((with_reducible show wpAny _ _ (PySem.call (Value.builtin "collections.deque.popleft") _ _) _ _ _); k_dflt (refine' dq_popleft_K ?ma ?mb ?mc ?md ?_; (case ma => k_asm); (case mb => k_asm); (case mc => k_upd); (case md => first | decide | (simp; done)); intro h' F' N'; (try k_sweep))) | ((with_reducible show wpAny _ _ (PySem.call (Value.builtin "collections.deque.appendleft") _ _) _ _ _); k_dflt (refine' dq_appendleft_K ?ma ?mb ?mc ?md ?_; (case ma => k_asm); (case mb => k_asm); (case mc => k_upd); (case md => first | decide | (simp; done)); intro h' F' N'; (try k_sweep))) | (((with_reducible show wpAny _ _ (PySem.call (Value.ref 548) _ _) _ _ _); k_dflt (refine' by_contract ?B ?F ?X ?N ?T ?hA ?hf ?hk (fun g' G' => c_readline ?a1 ?a2 ?a3 ?a4 ?a5 ?a6 G') ?P ?S ?_; walk_at "m.site"; (case a1 => walk_at "m.un"); (case a2 => walk_at "m.un"); (case a3 => omega); (case a4 => k_asm); (case a5 => k_asm); (case a6 => k_asm); rintro v' small' h' tk' F' N' ⟨t2', e2'⟩; subst e2'; walk_at "m.led"))) | (((with_reducible show wpAny _ _ (PySem.call (Value.ref 540) _ _) _ _ _); k_dflt (refine' by_contract ?B ?F ?X ?N ?T ?hA ?hf ?hk (fun g' G' => c_read_end ?a1 ?a2 ?a3 ?a4 ?a5 G') ?P ?S ?_; walk_at "m.site"; (case a1 => walk_at "m.un"); (case a2 => walk_at "m.un"); (case a3 => omega); (case a4 => k_asm); (case a5 => k_asm); rintro v' small' h' tk' F' N' ⟨⟨t', e1'⟩, e2'⟩; subst e1'; subst e2'; walk_at "m.led"))) | (((with_reducible show wpAny _ _ (PySem.call (Value.ref 540) _ _) _ _ _); k_dflt (refine' by_contract ?B ?F ?X ?N ?T ?hA ?hf ?hk (fun g' G' => c_read ?a1 ?a2 ?a3 ?a4 ?a5 G') ?P ?S ?_; walk_at "m.site"; (case a1 => walk_at "m.un"); (case a2 => walk_at "m.un"); (case a3 => omega); (case a4 => k_asm); (case a5 => k_asm); rintro v' small' h' tk' F' N' ⟨⟨t', e1'⟩, t2', e2'⟩; subst e1'; subst e2'; walk_at "m.led"))))) | ((with_reducible show wpAny _ _ (getMethod _ _ _) _ _ _); with_reducible (first | (k_dflt (first | (with_reducible show wpAny _ _ (getMethod _ (Str.ofString "appendleft") _) _ _ _); (refine' dq_getMethod_K ?ma ?mb dq_slot_appendleft dq_type_appendleft ?_; (case ma => k_asm); (case mb => k_mem)) | (with_reducible show wpAny _ _ (getMethod _ (Str.ofString "popleft") _) _ _ _); (refine' dq_getMethod_K ?ma ?mb dq_slot_popleft dq_type_popleft ?_; (case ma => k_asm); (case mb => k_mem)))))) | ((with_reducible show wpAny _ _ (truthy _) _ _ _); with_reducible (first | (k_dflt (first | (refine' dq_truthy_nil ?ma ?mb ?_; (case ma => k_asm); (case mb => k_mem)) | (refine' dq_truthy_cons ?ma ?mb ?mc ?_; (case ma => k_asm); (case mb => k_mem); (case mc => first | decide | (simp; done))))))) | walk_at "m.step"))
          all_goals (try dsimp only)
          rw [hn9, hJ']
          refine' RtJ.mk (st := .wd) (tok := ⟨#[b]⟩) (pos := pos + 1) (ln := ln) rfl rfl rfl ?led ?R ?tl ?pl
          case led => k_allIn
          case R => rw [drop_one hrest]; exact hR'
          case tl => show 1 ≤ pos + 1; omega
          case pl => omega
        · obtain ⟨_, ⟨fw, fw'⟩, ⟨fh, fh'⟩, ⟨fd, fd'⟩, ⟨fq, fq'⟩, ⟨fe, fe'⟩, ⟨fp, fp'⟩⟩ := asked_ln hc
          simp only [Bool.not_false, Bool.not_true] at fw' fh' fd' fq' fe'
          have f5 := one_ne b
          have htn := tok_nil (htokl.trans htn9)
          rw [htn] at N4
          simp only [stV] at N4 ⊢
          (repeat' (first | ((with_reducible show wpAny _ _ (PySem.call _ _ _) _ _ _); with_reducible (first | ((with_reducible show wpAny _ _ (PySem.call (Value.builtin "collections.deque.popleft") _ _) _ _ _); k_dflt (refine' dq_popleft_K ?ma ?mb ?mc ?md ?_; (case ma => k_asm); (case mb => k_asm); (case mc => k_upd); (case md => first | decide | (simp; done)); intro h' F' N'; (try k_sweep))) | ((with_reducible show wpAny _ _ (PySem.call (Value.builtin "collections.deque.appendleft") _ _) _ _ _); k_dflt (refine' dq_appendleft_K ?ma ?mb ?mc ?md ?_; (case ma => k_asm); (case mb => k_asm); (case mc => k_upd); (case md => first | decide | (simp; done)); intro h' F' N'; (try k_sweep))) | (((with_reducible show wpAny _ _ (PySem.call (Value.ref 548) _ _) _ _ _); k_dflt (refine' by_contract ?B ?F ?X ?N ?T ?hA ?hf ?hk (fun g' G' => c_readline ?a1 ?a2 ?a3 ?a4 ?a5 ?a6 G') ?P ?S ?_; walk_at "m.site"; (case a1 => walk_at "m.un"); (case a2 => walk_at "m.un"); (case a3 => omega); (case a4 => k_asm); (case a5 => k_asm); (case a6 => k_asm); rintro v' small' h' tk' F' N' ⟨t2', e2'⟩; subst e2'; walk_at "m.led"))) | (((with_reducible show wpAny _ _ (PySem.call (Value.ref 540) _ _) _ _ _); k_dflt (refine' by_contract ?B ?F ?X ?N ?T ?hA ?hf ?hk (fun g' G' => c_read_end ?a1 ?a2 ?a3 ?a4 ?a5 G') ?P ?S ?_; walk_at "m.site"; (case a1 => walk_at "m.un"); (case a2 => walk_at "m.un"); (case a3 => omega); (case a4 => k_asm); (case a5 => k_asm); rintro v' small' h' tk' F' N' ⟨⟨t', e1'⟩, e2'⟩; subst e1'; subst e2'; walk_at "m.led"))) | (((with_reducible show wpAny _ _ (PySem.call (Value.ref 540) _ _) _ _ _); k_dflt (refine' by_contract ?B ?F ?X ?N ?T ?hA ?hf ?hk (fun g' G' => c_read ?a1 ?a2 ?a3 ?a4 ?a5 G') ?P ?S ?_; walk_at "m.site"; (case a1 => walk_at "m.un"); (case a2 => walk_at "m.un"); (case a3 => omega); (case a4 => k_asm); (case a5 => k_asm); rintro v' small' h' tk' F' N' ⟨⟨t', e1'⟩, t2', e2'⟩; subst e1'; subst e2'; walk_at "m.led"))))) | ((with_reducible show wpAny _ _ (getMethod _ _ _) _ _ _); with_reducible (first | (k_dflt (first | (with_reducible show wpAny _ _ (getMethod _ (Str.ofString "appendleft") _) _ _ _); (refine' dq_getMethod_K ?ma ?mb dq_slot_appendleft dq_type_appendleft ?_; (case ma => k_asm); (case mb => k_mem)) | (with_reducible show wpAny _ _ (getMethod _ (Str.ofString "popleft") _) _ _ _); (refine' dq_getMethod_K ?ma ?mb dq_slot_popleft dq_type_popleft ?_; (case ma => k_asm); (case mb => k_mem)))))) | ((with_reducible show wpAny _ _ (truthy _) _ _ _); with_reducible (first | (k_dflt (first | (refine' dq_truthy_nil ?ma ?mb ?_; (case ma => k_asm); (case mb => k_mem)) | (refine' dq_truthy_cons ?ma ?mb ?mc ?_; (case ma => k_asm); (case mb => k_mem); (case mc => first | decide | (simp; done))))))) | walk_at "m.step"))
          all_goals (try dsimp only)
          rw [ho9]
          refine' RtΦ.post (pos := pos + 1) (by k_asm) (by k_asm) ?led ?R ?D ?pl ?P
          case led => k_allIn
          case R => exact ⟨_, _, rfl, rfl⟩
          case D => exact drop_one hrest
          case pl => omega
          case P => exact rfl
        · obtain ⟨_, ⟨fw, fw'⟩, ⟨fh, fh'⟩, ⟨fd, fd'⟩, ⟨fq, fq'⟩, ⟨fe, fe'⟩, ⟨fp, fp'⟩⟩ := asked_ws hc
          simp only [Bool.not_false, Bool.not_true] at fw' fh' fd' fq' fe'
          obtain ⟨f4, f4', f4''⟩ := tok_asked (htokl.trans htn9)
          simp only [stV] at N4 ⊢
          (repeat' (first | ((with_reducible show wpAny _ _ (PySem.call _ _ _) _ _ _); with_reducible (first | ((with_reducible show wpAny _ _ (PySem.call (Value.builtin "collections.deque.popleft") _ _) _ _ _); k_dflt (refine' dq_popleft_K ?ma ?mb ?mc ?md ?_; (case ma => k_asm); (case mb => k_asm); (case mc => k_upd); (case md => first | decide | (simp; done)); intro h' F' N'; (try k_sweep))) | ((with_reducible show wpAny _ _ (PySem.call (Value.builtin "collections.deque.appendleft") _ _) _ _ _); k_dflt (refine' dq_appendleft_K ?ma ?mb ?mc ?md ?_; (case ma => k_asm); (case mb => k_asm); (case mc => k_upd); (case md => first | decide | (simp; done)); intro h' F' N'; (try k_sweep))) | (((with_reducible show wpAny _ _ (PySem.call (Value.ref 548) _ _) _ _ _); k_dflt (refine' by_contract ?B ?F ?X ?N ?T ?hA ?hf ?hk (fun g' G' => c_readline ?a1 ?a2 ?a3 ?a4 ?a5 ?a6 G') ?P ?S ?_; walk_at "m.site"; (case a1 => walk_at "m.un"); (case a2 => walk_at "m.un"); (case a3 => omega); (case a4 => k_asm); (case a5 => k_asm); (case a6 => k_asm); rintro v' small' h' tk' F' N' ⟨t2', e2'⟩; subst e2'; walk_at "m.led"))) | (((with_reducible show wpAny _ _ (PySem.call (Value.ref 540) _ _) _ _ _); k_dflt (refine' by_contract ?B ?F ?X ?N ?T ?hA ?hf ?hk (fun g' G' => c_read_end ?a1 ?a2 ?a3 ?a4 ?a5 G') ?P ?S ?_; walk_at "m.site"; (case a1 => walk_at "m.un"); (case a2 => walk_at "m.un"); (case a3 => omega); (case a4 => k_asm); (case a5 => k_asm); rintro v' small' h' tk' F' N' ⟨⟨t', e1'⟩, e2'⟩; subst e1'; subst e2'; walk_at "m.led"))) | (((with_reducible show wpAny _ _ (PySem.call (Value.ref 540) _ _) _ _ _); k_dflt (refine' by_contract ?B ?F ?X ?N ?T ?hA ?hf ?hk (fun g' G' => c_read ?a1 ?a2 ?a3 ?a4 ?a5 G') ?P ?S ?_; walk_at "m.site"; (case a1 => walk_at "m.un"); (case a2 => walk_at "m.un"); (case a3 => omega); (case a4 => k_asm); (case a5 => k_asm); rintro v' small' h' tk' F' N' ⟨⟨t', e1'⟩, t2', e2'⟩; subst e1'; subst e2'; walk_at "m.led"))))) | ((with_reducible show wpAny _ _ (getMethod _ _ _) _ _ _); with_reducible (first | (k_dflt (first | (with_reducible show wpAny _ _ (getMethod _ (Str.ofString "appendleft") _) _ _ _); (refine' dq_getMethod_K ?ma ?mb dq_slot_appendleft dq_type_appendleft ?_; (case ma => k_asm); (case mb => k_mem)) | (with_reducible show wpAny _ _ (getMethod _ (Str.ofString "popleft") _) _ _ _); (refine' dq_getMethod_K ?ma ?mb dq_slot_popleft dq_type_popleft ?_; (case ma => k_asm); (case mb => k_mem)))))) | ((with_reducible show wpAny _ _ (truthy _) _ _ _); with_reducible (first | (k_dflt (first | (refine' dq_truthy_nil ?ma ?mb ?_; (case ma => k_asm); (case mb => k_mem)) | (refine' dq_truthy_cons ?ma ?mb ?mc ?_; (case ma => k_asm); (case mb => k_mem); (case mc => first | decide | (simp; done))))))) | walk_at "m.step"))
          all_goals (try dsimp only)
          rw [ho9]
          refine' RtΦ.post (pos := pos + 1) (by k_asm) (by k_asm) ?led ?R ?D ?pl ?P
          case led => k_allIn
          case R => exact ⟨_, _, rfl, htokl.trans htn9⟩
          case D => exact drop_one hrest
          case pl => omega
          case P => exact rfl
        · obtain ⟨_, ⟨fw, fw'⟩, ⟨fh, fh'⟩, ⟨fd, fd'⟩, ⟨fq, fq'⟩, ⟨fe, fe'⟩, ⟨fp, fp'⟩⟩ := asked_hs hc
          simp only [Bool.not_false, Bool.not_true] at fw' fh' fd' fq' fe'
          obtain ⟨f4, f4', f4''⟩ := tok_asked (htokl.trans htn9)
          have hlen2 : buf.length = pos + 1 + l.length + 1 + r'.length := by rw [hlen', hr9, List.length_append, List.length_cons]; omega
          rw [hr9] at hrest
          have hd2 := (drop_line hrest).2
          simp only [stV] at N4 ⊢
          (repeat' (first | ((with_reducible show wpAny _ _ (PySem.call _ _ _) _ _ _); with_reducible (first | ((with_reducible show wpAny _ _ (PySem.call (Value.builtin "collections.deque.popleft") _ _) _ _ _); k_dflt (refine' dq_popleft_K ?ma ?mb ?mc ?md ?_; (case ma => k_asm); (case mb => k_asm); (case mc => k_upd); (case md => first | decide | (simp; done)); intro h' F' N'; (try k_sweep))) | ((with_reducible show wpAny _ _ (PySem.call (Value.builtin "collections.deque.appendleft") _ _) _ _ _); k_dflt (refine' dq_appendleft_K ?ma ?mb ?mc ?md ?_; (case ma => k_asm); (case mb => k_asm); (case mc => k_upd); (case md => first | decide | (simp; done)); intro h' F' N'; (try k_sweep))) | (((with_reducible show wpAny _ _ (PySem.call (Value.ref 548) _ _) _ _ _); k_dflt (refine' by_contract ?B ?F ?X ?N ?T ?hA ?hf ?hk (fun g' G' => c_readline ?a1 ?a2 ?a3 ?a4 ?a5 ?a6 G') ?P ?S ?_; walk_at "m.site"; (case a1 => walk_at "m.un"); (case a2 => walk_at "m.un"); (case a3 => omega); (case a4 => k_asm); (case a5 => k_asm); (case a6 => k_asm); rintro v' small' h' tk' F' N' ⟨t2', e2'⟩; subst e2'; walk_at "m.led"))) | (((with_reducible show wpAny _ _ (PySem.call (Value.ref 540) _ _) _ _ _); k_dflt (refine' by_contract ?B ?F ?X ?N ?T ?hA ?hf ?hk (fun g' G' => c_read_end ?a1 ?a2 ?a3 ?a4 ?a5 G') ?P ?S ?_; walk_at "m.site"; (case a1 => walk_at "m.un"); (case a2 => walk_at "m.un"); (case a3 => omega); (case a4 => k_asm); (case a5 => k_asm); rintro v' small' h' tk' F' N' ⟨⟨t', e1'⟩, e2'⟩; subst e1'; subst e2'; walk_at "m.led"))) | (((with_reducible show wpAny _ _ (PySem.call (Value.ref 540) _ _) _ _ _); k_dflt (refine' by_contract ?B ?F ?X ?N ?T ?hA ?hf ?hk (fun g' G' => c_read ?a1 ?a2 ?a3 ?a4 ?a5 G') ?P ?S ?_; walk_at "m.site"; (case a1 => walk_at "m.un"); (case a2 => walk_at "m.un"); (case a3 => omega); (case a4 => k_asm); (case a5 => k_asm); rintro v' small' h' tk' F' N' ⟨⟨t', e1'⟩, t2', e2'⟩; subst e1'; subst e2'; walk_at "m.led"))))) | ((with_reducible show wpAny _ _ (getMethod _ _ _) _ _ _); with_reducible (first | (k_dflt (first | (with_reducible show wpAny _ _ (getMethod _ (Str.ofString "appendleft") _) _ _ _); (refine' dq_getMethod_K ?ma ?mb dq_slot_appendleft dq_type_appendleft ?_; (case ma => k_asm); (case mb => k_mem)) | (with_reducible show wpAny _ _ (getMethod _ (Str.ofString "popleft") _) _ _ _); (refine' dq_getMethod_K ?ma ?mb dq_slot_popleft dq_type_popleft ?_; (case ma => k_asm); (case mb => k_mem)))))) | ((with_reducible show wpAny _ _ (truthy _) _ _ _); with_reducible (first | (k_dflt (first | (refine' dq_truthy_nil ?ma ?mb ?_; (case ma => k_asm); (case mb => k_mem)) | (refine' dq_truthy_cons ?ma ?mb ?mc ?_; (case ma => k_asm); (case mb => k_mem); (case mc => first | decide | (simp; done))))))) | walk_at "m.step"))
          all_goals (try dsimp only)
          rw [ho9]
          refine' RtΦ.post (pos := pos + 1 + l.length + 1) (by k_asm) (by k_asm) ?led ?R ?D ?pl ?P
          case led => k_allIn
          case R => exact ⟨_, _, rfl, htokl.trans htn9⟩
          case D => exact (drop_line hrest).1
          case pl => omega
          case P => exact rfl
        · obtain ⟨_, ⟨fw, fw'⟩, ⟨fh, fh'⟩, ⟨fd, fd'⟩, ⟨fq, fq'⟩, ⟨fe, fe'⟩, ⟨fp, fp'⟩⟩ := asked_wd hc
          simp only [Bool.not_false, Bool.not_true] at fw' fh' fd' fq' fe'
          obtain ⟨f4, f4', f4''⟩ := tok_asked (htokl.trans htn9)
          simp only [stV] at N4 ⊢
          (repeat' (first | ((with_reducible show wpAny _ _ (PySem.call _ _ _) _ _ _); with_reducible (first | ((with_reducible show wpAny _ _ (PySem.call (Value.builtin "collections.deque.popleft") _ _) _ _ _); k_dflt (refine' dq_popleft_K ?ma ?mb ?mc ?md ?_; (case ma => k_asm); (case mb => k_asm); (case mc => k_upd); (case md => first | decide | (simp; done)); intro h' F' N'; (try k_sweep))) | ((with_reducible show wpAny _ _ (PySem.call (Value.builtin "collections.deque.appendleft") _ _) _ _ _); k_dflt (refine' dq_appendleft_K ?ma ?mb ?mc ?md ?_; (case ma => k_asm); (case mb => k_asm); (case mc => k_upd); (case md => first | decide | (simp; done)); intro h' F' N'; (try k_sweep))) | (((with_reducible show wpAny _ _ (PySem.call (Value.ref 548) _ _) _ _ _); k_dflt (refine' by_contract ?B ?F ?X ?N ?T ?hA ?hf ?hk (fun g' G' => c_readline ?a1 ?a2 ?a3 ?a4 ?a5 ?a6 G') ?P ?S ?_; walk_at "m.site"; (case a1 => walk_at "m.un"); (case a2 => walk_at "m.un"); (case a3 => omega); (case a4 => k_asm); (case a5 => k_asm); (case a6 => k_asm); rintro v' small' h' tk' F' N' ⟨t2', e2'⟩; subst e2'; walk_at "m.led"))) | (((with_reducible show wpAny _ _ (PySem.call (Value.ref 540) _ _) _ _ _); k_dflt (refine' by_contract ?B ?F ?X ?N ?T ?hA ?hf ?hk (fun g' G' => c_read_end ?a1 ?a2 ?a3 ?a4 ?a5 G') ?P ?S ?_; walk_at "m.site"; (case a1 => walk_at "m.un"); (case a2 => walk_at "m.un"); (case a3 => omega); (case a4 => k_asm); (case a5 => k_asm); rintro v' small' h' tk' F' N' ⟨⟨t', e1'⟩, e2'⟩; subst e1'; subst e2'; walk_at "m.led"))) | (((with_reducible show wpAny _ _ (PySem.call (Value.ref 540) _ _) _ _ _); k_dflt (refine' by_contract ?B ?F ?X ?N ?T ?hA ?hf ?hk (fun g' G' => c_read ?a1 ?a2 ?a3 ?a4 ?a5 G') ?P ?S ?_; walk_at "m.site"; (case a1 => walk_at "m.un"); (case a2 => walk_at "m.un"); (case a3 => omega); (case a4 => k_asm); (case a5 => k_asm); rintro v' small' h' tk' F' N' ⟨⟨t', e1'⟩, t2', e2'⟩; subst e1'; subst e2'; walk_at "m.led"))))) | ((with_reducible show wpAny _ _ (getMethod _ _ _) _ _ _); with_reducible (first | (k_dflt (first | (with_reducible show wpAny _ _ (getMethod _ (Str.ofString "appendleft") _) _ _ _); (refine' dq_getMethod_K ?ma ?mb dq_slot_appendleft dq_type_appendleft ?_; (case ma => k_asm); (case mb => k_mem)) | (with_reducible show wpAny _ _ (getMethod _ (Str.ofString "popleft") _) _ _ _); (refine' dq_getMethod_K ?ma ?mb dq_slot_popleft dq_type_popleft ?_; (case ma => k_asm); (case mb => k_mem)))))) | ((with_reducible show wpAny _ _ (truthy _) _ _ _); with_reducible (first | (k_dflt (first | (refine' dq_truthy_nil ?ma ?mb ?_; (case ma => k_asm); (case mb => k_mem)) | (refine' dq_truthy_cons ?ma ?mb ?mc ?_; (case ma => k_asm); (case mb => k_mem); (case mc => first | decide | (simp; done))))))) | walk_at "m.step"))
          all_goals (try dsimp only)
          rw [hn9, hJ']
          refine' RtJ.mk (st := .wd) (tok := tok ++ ⟨#[b]⟩) (pos := pos + 1) (ln := ln) rfl rfl rfl ?led ?R ?tl ?pl
          case led => k_allIn
          case R => rw [tok_app (htokl.trans htn9), drop_one hrest]; exact hR'
          case tl => rw [tok_len (tok_app (htokl.trans htn9)), ← htn9, ← htokl]; simp [Str.length] at htl ⊢; omega
          case pl => omega
        · obtain ⟨_, ⟨fw, fw'⟩, ⟨fh, fh'⟩, ⟨fd, fd'⟩, ⟨fq, fq'⟩, ⟨fe, fe'⟩, ⟨fp, fp'⟩⟩ := asked_ln hc
          simp only [Bool.not_false, Bool.not_true] at fw' fh' fd' fq' fe'
          obtain ⟨f4, f4', f4''⟩ := tok_asked (htokl.trans htn9)
          simp only [stV] at N4 ⊢
          (repeat' (first | ((with_reducible show wpAny _ _ (PySem.call _ _ _) _ _ _); with_reducible (first | ((with_reducible show wpAny _ _ (PySem.call (Value.builtin "collections.deque.popleft") _ _) _ _ _); k_dflt (refine' dq_popleft_K ?ma ?mb ?mc ?md ?_; (case ma => k_asm); (case mb => k_asm); (case mc => k_upd); (case md => first | decide | (simp; done)); intro h' F' N'; (try k_sweep))) | ((with_reducible show wpAny _ _ (PySem.call (Value.builtin "collections.deque.appendleft") _ _) _ _ _); k_dflt (refine' dq_appendleft_K ?ma ?mb ?mc ?md ?_; (case ma => k_asm); (case mb => k_asm); (case mc => k_upd); (case md => first | decide | (simp; done)); intro h' F' N'; (try k_sweep))) | (((with_reducible show wpAny _ _ (PySem.call (Value.ref 548) _ _) _ _ _); k_dflt (refine' by_contract ?B ?F ?X ?N ?T ?hA ?hf ?hk (fun g' G' => c_readline ?a1 ?a2 ?a3 ?a4 ?a5 ?a6 G') ?P ?S ?_; walk_at "m.site"; (case a1 => walk_at "m.un"); (case a2 => walk_at "m.un"); (case a3 => omega); (case a4 => k_asm); (case a5 => k_asm); (case a6 => k_asm); rintro v' small' h' tk' F' N' ⟨t2', e2'⟩; subst e2'; walk_at "m.led"))) | (((with_reducible show wpAny _ _ (PySem.call (Value.ref 540) _ _) _ _ _); k_dflt (refine' by_contract ?B ?F ?X ?N ?T ?hA ?hf ?hk (fun g' G' => c_read_end ?a1 ?a2 ?a3 ?a4 ?a5 G') ?P ?S ?_; walk_at "m.site"; (case a1 => walk_at "m.un"); (case a2 => walk_at "m.un"); (case a3 => omega); (case a4 => k_asm); (case a5 => k_asm); rintro v' small' h' tk' F' N' ⟨⟨t', e1'⟩, e2'⟩; subst e1'; subst e2'; walk_at "m.led"))) | (((with_reducible show wpAny _ _ (PySem.call (Value.ref 540) _ _) _ _ _); k_dflt (refine' by_contract ?B ?F ?X ?N ?T ?hA ?hf ?hk (fun g' G' => c_read ?a1 ?a2 ?a3 ?a4 ?a5 G') ?P ?S ?_; walk_at "m.site"; (case a1 => walk_at "m.un"); (case a2 => walk_at "m.un"); (case a3 => omega); (case a4 => k_asm); (case a5 => k_asm); rintro v' small' h' tk' F' N' ⟨⟨t', e1'⟩, t2', e2'⟩; subst e1'; subst e2'; walk_at "m.led"))))) | ((with_reducible show wpAny _ _ (getMethod _ _ _) _ _ _); with_reducible (first | (k_dflt (first | (with_reducible show wpAny _ _ (getMethod _ (Str.ofString "appendleft") _) _ _ _); (refine' dq_getMethod_K ?ma ?mb dq_slot_appendleft dq_type_appendleft ?_; (case ma => k_asm); (case mb => k_mem)) | (with_reducible show wpAny _ _ (getMethod _ (Str.ofString "popleft") _) _ _ _); (refine' dq_getMethod_K ?ma ?mb dq_slot_popleft dq_type_popleft ?_; (case ma => k_asm); (case mb => k_mem)))))) | ((with_reducible show wpAny _ _ (truthy _) _ _ _); with_reducible (first | (k_dflt (first | (refine' dq_truthy_nil ?ma ?mb ?_; (case ma => k_asm); (case mb => k_mem)) | (refine' dq_truthy_cons ?ma ?mb ?mc ?_; (case ma => k_asm); (case mb => k_mem); (case mc => first | decide | (simp; done))))))) | walk_at "m.step"))
          all_goals (try dsimp only)
          rw [ho9]
          refine' RtΦ.post (pos := pos + 1) (by k_asm) (by k_asm) ?led ?R ?D ?pl ?P
          case led => k_allIn
          case R => exact ⟨_, _, rfl, htokl.trans htn9⟩
          case D => exact drop_one hrest
          case pl => omega
          case P => exact ⟨_, rfl⟩
  · first | assumption | passes_own
end
end PartF5
section PartF6

section
variable {w : World} {dp un : Nat} {s : Shared} {base g : Heap} {fr : List Env} {p : Program} {loose : List Str} {mean : ExcName → Option Value} {mg mb : Str → Option Value}

noncomputable def GtΦ (hs hs' : Nat → Int × Tok) (ts : Nat → Tok) (tn tb : Tok) (buf : Str) (x dx a d pb fs : Addr) (res : Option (List Nat)) (st : LSt) (r : List Nat) (ln : Nat) (push : Option Nat) (v : Value) (nw : List (Addr × Obj)) : Prop :=
  ResV res v ∧ ∃ (pos : Nat) (tst tl tt tp : Tok) (nq : Int) (items : List Value), buf.cps.toList.drop pos = r ∧ pos ≤ buf.length ∧ PushV push items ∧
    nw = lexL hs hs' ts tn tb buf x dx a d pb fs (stV st tst) (ln : Int) tl (Str.ofString "") tt pos tp nq items ++ [(fs, dqO 0 [])]
theorem GtΦ.post {hs hs' : Nat → Int × Tok} {ts : Nat → Tok} {tn tb : Tok} {buf : Str} {x dx a d pb fs : Addr} {res : Option (List Nat)} {st : LSt} {r : List Nat} {ln : Nat} {push : Option Nat}
    {g : Heap} {s : Shared} {v : Value} {news : List (Addr × Obj)} {h' : Heap} {tk : Nat} {L' : Addr} {m' : Str → Option Value} {pos : Nat} {tst tl tt tp : Tok} {nq : Int} {items : List Value} (F : Fr g L' h' m') (N : News g L' h' news)
    (led : ∀ q ∈ lexL hs hs' ts tn tb buf x dx a d pb fs (stV st tst) (ln : Int) tl (Str.ofString "") tt pos tp nq items ++ [(fs, dqO 0 [])], q ∈ news) (hr : ResV res v) (hd : buf.cps.toList.drop pos = r) (hp : pos ≤ buf.length) (hi : PushV push items) :
    Post g (GtΦ hs hs' ts tn tb buf x dx a d pb fs res st r ln push) s (.ok (.ret v)) { s with heap := h', toks := tk } :=
  Post.intro F N led ⟨hr, pos, tst, tl, tt, tp, nq, items, hd, hp, hi, rfl⟩

theorem c_get {hs hs' : Nat → Int × Tok} {ts : Nat → Tok} {tn tb tp tl tt tst : Tok} {buf : Str} {pos ln ln' : Nat} {r r' : List Nat} {x dx a d pb fs : Addr} {nq : Int} {st st' : LSt} {push push' : Option Nat} {items : List Value} {res : Option (List Nat)} (hd : dp ≤ 490) (hu : un ≤ 3900)
    (ho : @LT.lt Nat _ dx x ∧ @LT.lt Nat _ x d ∧ @LT.lt Nat _ d a ∧ @LT.lt Nat _ a pb ∧ @LT.lt Nat _ pb fs) (hb : buf.length ≤ 1000) (hp : buf.cps.toList.drop pos = r) (hpl : pos ≤ buf.length) (hi : PushV push items) (hG : Gt st r ln push res st' r' ln' push')
    (G : Gd w (Aat dp un fr) base fr p loose mean mg mb g s.heap (lexL hs hs' ts tn tb buf x dx a d pb fs (stV st tst) ln tl (Str.ofString "") tt pos tp nq items ++ [(fs, dqO 0 [])])) :
    codeAny (model PySem.Challenge.pw_il0179_01 w) (Aat dp un fr) (.call (.ref 690) ⟨[.ref x], []⟩) (Post g (GtΦ hs hs' ts tn tb buf x dx a d pb fs res st' r' ln' push') s) s := by
  obtain ⟨ap1, ap2, ap3, ap4, ap5, ap6, ap7, ap8, ap9, ap10, ap11, ap12, ap13, ap14, ap15⟩ := aps6 ho
  simp only [List.cons_append, List.nil_append] at G
  cases hG with
  | pop =>
    rename_i c
    obtain ⟨t9, rfl⟩ := hi
    walk_at "m.enter"
    (repeat' (first | ((with_reducible show wpAny _ _ (PySem.call _ _ _) _ _ _); with_reducible (first | (((show wpAny _ _ (PySem.call (Value.ref 697) _ _) _ _ _); k_dflt (refine' by_contract ?B ?F ?X ?N ?T ?hA ?hf ?hk (fun g' G' => c_rt ?a1 ?a2 ?a3 ?a4 ?a5 ?a6 ?a7 ?a8 G') ?P ?S ?_; walk_at "m.site"; (case a1 => walk_at "m.un"); (case a2 => walk_at "m.un"); (case a3 => omega); (case a4 => k_asm); (case a5 => k_asm); (case a6 => k_asm); (case a7 => exact lit_nil); (case a8 => k_asm); rintro v' small' h' tk' F' N' ⟨hv', pos', tst', tl', tt', tp', nq', items', hd', hp', hi', e'⟩; subst e'; walk_at "m.led"; rcases resV_cases hv' with ⟨hr', e'⟩ | ⟨l', t', k', hr', e', hl'⟩ <;> subst e'))) | ((with_reducible show wpAny _ _ (PySem.call (Value.builtin "collections.deque.popleft") _ _) _ _ _); k_dflt (refine' dq_popleft_K ?ma ?mb ?mc ?md ?_; (case ma => k_asm); (case mb => k_asm); (case mc => k_upd); (case md => first | decide | (simp; done)); intro h' F' N'; (try k_sweep))) | ((with_reducible show wpAny _ _ (PySem.call (Value.builtin "collections.deque.appendleft") _ _) _ _ _); k_dflt (refine' dq_appendleft_K ?ma ?mb ?mc ?md ?_; (case ma => k_asm); (case mb => k_asm); (case mc => k_upd); (case md => first | decide | (simp; done)); intro h' F' N'; (try k_sweep))) | (((with_reducible show wpAny _ _ (PySem.call (Value.ref 548) _ _) _ _ _); k_dflt (refine' by_contract ?B ?F ?X ?N ?T ?hA ?hf ?hk (fun g' G' => c_readline ?a1 ?a2 ?a3 ?a4 ?a5 ?a6 G') ?P ?S ?_; walk_at "m.site"; (case a1 => walk_at "m.un"); (case a2 => walk_at "m.un"); (case a3 => omega); (case a4 => k_asm); (case a5 => k_asm); (case a6 => k_asm); rintro v' small' h' tk' F' N' ⟨t2', e2'⟩; subst e2'; walk_at "m.led"))) | (((with_reducible show wpAny _ _ (PySem.call (Value.ref 540) _ _) _ _ _); k_dflt (refine' by_contract ?B ?F ?X ?N ?T ?hA ?hf ?hk (fun g' G' => c_read_end ?a1 ?a2 ?a3 ?a4 ?a5 G') ?P ?S ?_; walk_at "m.site"; (case a1 => walk_at "m.un"); (case a2 => walk_at "m.un"); (case a3 => omega); (case a4 => k_asm); (case a5 => k_asm); rintro v' small' h' tk' F' N' ⟨⟨t', e1'⟩, e2'⟩; subst e1'; subst e2'; walk_at "m.led"))) | (((with_reducible show wpAny _ _ (PySem.call (Value.ref 540) _ _) _ _ _); k_dflt (refine' by_contract ?B ?F ?X ?N ?T ?hA ?hf ?hk (fun g' G' => c_read ?a1 ?a2 ?a3 ?a4 ?a5 G') ?P ?S ?_; walk_at "m.site"; (case a1 => walk_at "m.un"); (case a2 => walk_at "m.un"); (case a3 => omega); (case a4 => k_asm); (case a5 => k_asm); rintro v' small' h' tk' F' N' ⟨⟨t', e1'⟩, t2', e2'⟩; subst e1'; subst e2'; walk_at "m.led"))))) | ((with_reducible show wpAny _ _ (getMethod _ _ _) _ _ _); with_reducible (first | (k_dflt (first | (with_reducible show wpAny _ _ (getMethod _ (Str.ofString "appendleft") _) _ _ _); (refine' dq_getMethod_K ?ma ?mb dq_slot_appendleft dq_type_appendleft ?_; (case ma => k_asm); (case mb => k_mem)) | (with_reducible show wpAny _ _ (getMethod _ (Str.ofString "popleft") _) _ _ _); (refine' dq_getMethod_K ?ma ?mb dq_slot_popleft dq_type_popleft ?_; (case ma => k_asm); (case mb => k_mem)))))) | ((with_reducible show wpAny _ _ (truthy _) _ _ _); with_reducible (first | (k_dflt (first | (refine' dq_truthy_nil ?ma ?mb ?_; (case ma => k_asm); (case mb => k_mem)) | (refine' dq_truthy_cons ?ma ?mb ?mc ?_; (case ma => k_asm); (case mb => k_mem); (case mc => first | decide | (simp; done))))))) | walk_at "m.step"))
    all_goals (try dsimp only)
    refine' GtΦ.post (pos := pos) (tst := tst) (by k_asm) (by k_asm) ?led ?R ?D ?pl ?P
    case led => simp only [List.cons_append, List.nil_append]; k_allIn
    case R => exact ⟨_, _, rfl, rfl⟩
    case D => exact hp
    case pl => exact hpl
    case P => rfl
  | read hR =>
    rename_i k o
    have hi' : items = [] := hi
    subst hi'
    walk_at "m.enter"
    (repeat' (first | ((with_reducible show wpAny _ _ (PySem.call _ _ _) _ _ _); with_reducible (first | (((show wpAny _ _ (PySem.call (Value.ref 697) _ _) _ _ _); k_dflt (refine' by_contract ?B ?F ?X ?N ?T ?hA ?hf ?hk (fun g' G' => c_rt ?a1 ?a2 ?a3 ?a4 ?a5 ?a6 ?a7 ?a8 G') ?P ?S ?_; walk_at "m.site"; (case a1 => walk_at "m.un"); (case a2 => walk_at "m.un"); (case a3 => omega); (case a4 => k_asm); (case a5 => k_asm); (case a6 => k_asm); (case a7 => exact lit_nil); (case a8 => k_asm); rintro v' small' h' tk' F' N' ⟨hv', pos', tst', tl', tt', tp', nq', items', hd', hp', hi', e'⟩; subst e'; walk_at "m.led"; rcases resV_cases hv' with ⟨hr', e'⟩ | ⟨l', t', k', hr', e', hl'⟩ <;> subst e'))) | ((with_reducible show wpAny _ _ (PySem.call (Value.builtin "collections.deque.popleft") _ _) _ _ _); k_dflt (refine' dq_popleft_K ?ma ?mb ?mc ?md ?_; (case ma => k_asm); (case mb => k_asm); (case mc => k_upd); (case md => first | decide | (simp; done)); intro h' F' N'; (try k_sweep))) | ((with_reducible show wpAny _ _ (PySem.call (Value.builtin "collections.deque.appendleft") _ _) _ _ _); k_dflt (refine' dq_appendleft_K ?ma ?mb ?mc ?md ?_; (case ma => k_asm); (case mb => k_asm); (case mc => k_upd); (case md => first | decide | (simp; done)); intro h' F' N'; (try k_sweep))) | (((with_reducible show wpAny _ _ (PySem.call (Value.ref 548) _ _) _ _ _); k_dflt (refine' by_contract ?B ?F ?X ?N ?T ?hA ?hf ?hk (fun g' G' => c_readline ?a1 ?a2 ?a3 ?a4 ?a5 ?a6 G') ?P ?S ?_; walk_at "m.site"; (case a1 => walk_at "m.un"); (case a2 => walk_at "m.un"); (case a3 => omega); (case a4 => k_asm); (case a5 => k_asm); (case a6 => k_asm); rintro v' small' h' tk' F' N' ⟨t2', e2'⟩; subst e2'; walk_at "m.led"))) | (((with_reducible show wpAny _ _ (PySem.call (Value.ref 540) _ _) _ _ _); k_dflt (refine' by_contract ?B ?F ?X ?N ?T ?hA ?hf ?hk (fun g' G' => c_read_end ?a1 ?a2 ?a3 ?a4 ?a5 G') ?P ?S ?_; walk_at "m.site"; (case a1 => walk_at "m.un"); (case a2 => walk_at "m.un"); (case a3 => omega); (case a4 => k_asm); (case a5 => k_asm); rintro v' small' h' tk' F' N' ⟨⟨t', e1'⟩, e2'⟩; subst e1'; subst e2'; walk_at "m.led"))) | (((with_reducible show wpAny _ _ (PySem.call (Value.ref 540) _ _) _ _ _); k_dflt (refine' by_contract ?B ?F ?X ?N ?T ?hA ?hf ?hk (fun g' G' => c_read ?a1 ?a2 ?a3 ?a4 ?a5 G') ?P ?S ?_; walk_at "m.site"; (case a1 => walk_at "m.un"); (case a2 => walk_at "m.un"); (case a3 => omega); (case a4 => k_asm); (case a5 => k_asm); rintro v' small' h' tk' F' N' ⟨⟨t', e1'⟩, t2', e2'⟩; subst e1'; subst e2'; walk_at "m.led"))))) | ((with_reducible show wpAny _ _ (getMethod _ _ _) _ _ _); with_reducible (first | (k_dflt (first | (with_reducible show wpAny _ _ (getMethod _ (Str.ofString "appendleft") _) _ _ _); (refine' dq_getMethod_K ?ma ?mb dq_slot_appendleft dq_type_appendleft ?_; (case ma => k_asm); (case mb => k_mem)) | (with_reducible show wpAny _ _ (getMethod _ (Str.ofString "popleft") _) _ _ _); (refine' dq_getMethod_K ?ma ?mb dq_slot_popleft dq_type_popleft ?_; (case ma => k_asm); (case mb => k_mem)))))) | ((with_reducible show wpAny _ _ (truthy _) _ _ _); with_reducible (first | (k_dflt (first | (refine' dq_truthy_nil ?ma ?mb ?_; (case ma => k_asm); (case mb => k_mem)) | (refine' dq_truthy_cons ?ma ?mb ?mc ?_; (case ma => k_asm); (case mb => k_mem); (case mc => first | decide | (simp; done))))))) | walk_at "m.step"))
    all_goals (try dsimp only)
    all_goals (
      rename Fr _ _ _ _ => F1
      rename News _ _ _ _ => N1
      refine while_m (n₀ := 0) (fun n m nw => n = 0 ∧ m = _ ∧ nw = _) F1 N1 ⟨rfl, rfl, rfl⟩ ?_ (by first | assumption | passes_own)
      rintro n m₁ news₁ h₁ tk₁ F2 N2 ⟨rfl, rfl, rfl⟩
      clear F1 N1
      (repeat' (first | ((with_reducible show wpAny _ _ (PySem.call _ _ _) _ _ _); with_reducible (first | (((show wpAny _ _ (PySem.call (Value.ref 697) _ _) _ _ _); k_dflt (refine' by_contract ?B ?F ?X ?N ?T ?hA ?hf ?hk (fun g' G' => c_rt ?a1 ?a2 ?a3 ?a4 ?a5 ?a6 ?a7 ?a8 G') ?P ?S ?_; walk_at "m.site"; (case a1 => walk_at "m.un"); (case a2 => walk_at "m.un"); (case a3 => omega); (case a4 => k_asm); (case a5 => k_asm); (case a6 => k_asm); (case a7 => exact lit_nil); (case a8 => k_asm); rintro v' small' h' tk' F' N' ⟨hv', pos', tst', tl', tt', tp', nq', items', hd', hp', hi', e'⟩; subst e'; walk_at "m.led"; rcases resV_cases hv' with ⟨hr', e'⟩ | ⟨l', t', k', hr', e', hl'⟩ <;> subst e'))) | ((with_reducible show wpAny _ _ (PySem.call (Value.builtin "collections.deque.popleft") _ _) _ _ _); k_dflt (refine' dq_popleft_K ?ma ?mb ?mc ?md ?_; (case ma => k_asm); (case mb => k_asm); (case mc => k_upd); (case md => first | decide | (simp; done)); intro h' F' N'; (try k_sweep))) | ((with_reducible show wpAny _ _ (PySem.call (Value.builtin "collections.deque.appendleft") _ _) _ _ _); k_dflt (refine' dq_appendleft_K ?ma ?mb ?mc ?md ?_; (case ma => k_asm); (case mb => k_asm); (case mc => k_upd); (case md => first | decide | (simp; done)); intro h' F' N'; (try k_sweep))) | (((with_reducible show wpAny _ _ (PySem.call (Value.ref 548) _ _) _ _ _); k_dflt (refine' by_contract ?B ?F ?X ?N ?T ?hA ?hf ?hk (fun g' G' => c_readline ?a1 ?a2 ?a3 ?a4 ?a5 ?a6 G') ?P ?S ?_; walk_at "m.site"; (case a1 => walk_at "m.un"); (case a2 => walk_at "m.un"); (case a3 => omega); (case a4 => k_asm); (case a5 => k_asm); (case a6 => k_asm); rintro v' small' h' tk' F' N' ⟨t2', e2'⟩; subst e2'; walk_at "m.led"))) | (((with_reducible show wpAny _ _ (PySem.call (Value.ref 540) _ _) _ _ _); k_dflt (refine' by_contract ?B ?F ?X ?N ?T ?hA ?hf ?hk (fun g' G' => c_read_end ?a1 ?a2 ?a3 ?a4 ?a5 G') ?P ?S ?_; walk_at "m.site"; (case a1 => walk_at "m.un"); (case a2 => walk_at "m.un"); (case a3 => omega); (case a4 => k_asm); (case a5 => k_asm); rintro v' small' h' tk' F' N' ⟨⟨t', e1'⟩, e2'⟩; subst e1'; subst e2'; walk_at "m.led"))) | (((with_reducible show wpAny _ _ (PySem.call (Value.ref 540) _ _) _ _ _); k_dflt (refine' by_contract ?B ?F ?X ?N ?T ?hA ?hf ?hk (fun g' G' => c_read ?a1 ?a2 ?a3 ?a4 ?a5 G') ?P ?S ?_; walk_at "m.site"; (case a1 => walk_at "m.un"); (case a2 => walk_at "m.un"); (case a3 => omega); (case a4 => k_asm); (case a5 => k_asm); rintro v' small' h' tk' F' N' ⟨⟨t', e1'⟩, t2', e2'⟩; subst e1'; subst e2'; walk_at "m.led"))))) | ((with_reducible show wpAny _ _ (getMethod _ _ _) _ _ _); with_reducible (first | (k_dflt (first | (with_reducible show wpAny _ _ (getMethod _ (Str.ofString "appendleft") _) _ _ _); (refine' dq_getMethod_K ?ma ?mb dq_slot_appendleft dq_type_appendleft ?_; (case ma => k_asm); (case mb => k_mem)) | (with_reducible show wpAny _ _ (getMethod _ (Str.ofString "popleft") _) _ _ _); (refine' dq_getMethod_K ?ma ?mb dq_slot_popleft dq_type_popleft ?_; (case ma => k_asm); (case mb => k_mem)))))) | ((with_reducible show wpAny _ _ (truthy _) _ _ _); with_reducible (first | (k_dflt (first | (refine' dq_truthy_nil ?ma ?mb ?_; (case ma => k_asm); (case mb => k_mem)) | (refine' dq_truthy_cons ?ma ?mb ?mc ?_; (case ma => k_asm); (case mb => k_mem); (case mc => first | decide | (simp; done))))))) | walk_at "m.step"))
      all_goals (try dsimp only))
    all_goals (
      refine' GtΦ.post (by k_asm) (by k_asm) ?led ?R ?D ?pl ?P
      case led => simp only [List.cons_append, List.nil_append]; k_allIn
      case R => assumption
      case D => assumption
      case pl => assumption
      case P => assumption)

theorem c_get_some {hs hs' : Nat → Int × Tok} {ts : Nat → Tok} {tn tb tp tl tt tst : Tok} {buf : Str} {pos ln ln' : Nat} {r r' : List Nat} {x dx a d pb fs : Addr} {nq : Int} {st st' : LSt} {push push' : Option Nat} {items : List Value} {l : List Nat} (hd : dp ≤ 490) (hu : un ≤ 3900)
    (ho : @LT.lt Nat _ dx x ∧ @LT.lt Nat _ x d ∧ @LT.lt Nat _ d a ∧ @LT.lt Nat _ a pb ∧ @LT.lt Nat _ pb fs) (hb : buf.length ≤ 1000) (hp : buf.cps.toList.drop pos = r) (hpl : pos ≤ buf.length) (hi : PushV push items) (hG : Gt st r ln push (some l) st' r' ln' push')
    (G : Gd w (Aat dp un fr) base fr p loose mean mg mb g s.heap (lexL hs hs' ts tn tb buf x dx a d pb fs (stV st tst) ln tl (Str.ofString "") tt pos tp nq items ++ [(fs, dqO 0 [])])) :
    codeAny (model PySem.Challenge.pw_il0179_01 w) (Aat dp un fr) (.call (.ref 690) ⟨[.ref x], []⟩) (Post g (GtΦ hs hs' ts tn tb buf x dx a d pb fs (some l) st' r' ln' push') s) s := c_get hd hu ho hb hp hpl hi hG G
theorem c_get_none {hs hs' : Nat → Int × Tok} {ts : Nat → Tok} {tn tb tp tl tt tst : Tok} {buf : Str} {pos ln ln' : Nat} {r r' : List Nat} {x dx a d pb fs : Addr} {nq : Int} {st st' : LSt} {push push' : Option Nat} {items : List Value}  (hd : dp ≤ 490) (hu : un ≤ 3900)
    (ho : @LT.lt Nat _ dx x ∧ @LT.lt Nat _ x d ∧ @LT.lt Nat _ d a ∧ @LT.lt Nat _ a pb ∧ @LT.lt Nat _ pb fs) (hb : buf.length ≤ 1000) (hp : buf.cps.toList.drop pos = r) (hpl : pos ≤ buf.length) (hi : PushV push items) (hG : Gt st r ln push none st' r' ln' push')
    (G : Gd w (Aat dp un fr) base fr p loose mean mg mb g s.heap (lexL hs hs' ts tn tb buf x dx a d pb fs (stV st tst) ln tl (Str.ofString "") tt pos tp nq items ++ [(fs, dqO 0 [])])) :
    codeAny (model PySem.Challenge.pw_il0179_01 w) (Aat dp un fr) (.call (.ref 690) ⟨[.ref x], []⟩) (Post g (GtΦ hs hs' ts tn tb buf x dx a d pb fs none st' r' ln' push') s) s := c_get hd hu ho hb hp hpl hi hG G
end
end PartF6
section PartF7
section
variable {w : World} {dp un : Nat} {s : Shared} {base g : Heap} {fr : List Env} {p : Program} {loose : List Str} {mean : ExcName → Option Value} {mg mb : Str → Option Value}

theorem c_iter {x : Addr} (hd : dp ≤ 490) (hu : un ≤ 3900) (G : Gd w (Aat dp un fr) base fr p loose mean mg mb g s.heap []) :
    codeAny (model PySem.Challenge.pw_il0179_01 w) (Aat dp un fr) (.call (.ref 719) ⟨[.ref x], []⟩) (Post g (fun v n => v = .ref x ∧ n = []) s) s := by
  walk_at "m.enter"
  (repeat' (first | ((with_reducible show wpAny _ _ (PySem.call _ _ _) _ _ _); with_reducible (first | (((show wpAny _ _ (PySem.call (Value.ref 697) _ _) _ _ _); k_dflt (refine' by_contract ?B ?F ?X ?N ?T ?hA ?hf ?hk (fun g' G' => c_rt ?a1 ?a2 ?a3 ?a4 ?a5 ?a6 ?a7 ?a8 G') ?P ?S ?_; walk_at "m.site"; (case a1 => walk_at "m.un"); (case a2 => walk_at "m.un"); (case a3 => omega); (case a4 => k_asm); (case a5 => k_asm); (case a6 => k_asm); (case a7 => exact lit_nil); (case a8 => k_asm); rintro v' small' h' tk' F' N' ⟨hv', pos', tst', tl', tt', tp', nq', items', hd', hp', hi', e'⟩; subst e'; walk_at "m.led"; rcases resV_cases hv' with ⟨hr', e'⟩ | ⟨l', t', k', hr', e', hl'⟩ <;> subst e'))) | ((with_reducible show wpAny _ _ (PySem.call (Value.builtin "collections.deque.popleft") _ _) _ _ _); k_dflt (refine' dq_popleft_K ?ma ?mb ?mc ?md ?_; (case ma => k_asm); (case mb => k_asm); (case mc => k_upd); (case md => first | decide | (simp; done)); intro h' F' N'; (try k_sweep))) | ((with_reducible show wpAny _ _ (PySem.call (Value.builtin "collections.deque.appendleft") _ _) _ _ _); k_dflt (refine' dq_appendleft_K ?ma ?mb ?mc ?md ?_; (case ma => k_asm); (case mb => k_asm); (case mc => k_upd); (case md => first | decide | (simp; done)); intro h' F' N'; (try k_sweep))) | (((with_reducible show wpAny _ _ (PySem.call (Value.ref 548) _ _) _ _ _); k_dflt (refine' by_contract ?B ?F ?X ?N ?T ?hA ?hf ?hk (fun g' G' => c_readline ?a1 ?a2 ?a3 ?a4 ?a5 ?a6 G') ?P ?S ?_; walk_at "m.site"; (case a1 => walk_at "m.un"); (case a2 => walk_at "m.un"); (case a3 => omega); (case a4 => k_asm); (case a5 => k_asm); (case a6 => k_asm); rintro v' small' h' tk' F' N' ⟨t2', e2'⟩; subst e2'; walk_at "m.led"))) | (((with_reducible show wpAny _ _ (PySem.call (Value.ref 540) _ _) _ _ _); k_dflt (refine' by_contract ?B ?F ?X ?N ?T ?hA ?hf ?hk (fun g' G' => c_read_end ?a1 ?a2 ?a3 ?a4 ?a5 G') ?P ?S ?_; walk_at "m.site"; (case a1 => walk_at "m.un"); (case a2 => walk_at "m.un"); (case a3 => omega); (case a4 => k_asm); (case a5 => k_asm); rintro v' small' h' tk' F' N' ⟨⟨t', e1'⟩, e2'⟩; subst e1'; subst e2'; walk_at "m.led"))) | (((with_reducible show wpAny _ _ (PySem.call (Value.ref 540) _ _) _ _ _); k_dflt (refine' by_contract ?B ?F ?X ?N ?T ?hA ?hf ?hk (fun g' G' => c_read ?a1 ?a2 ?a3 ?a4 ?a5 G') ?P ?S ?_; walk_at "m.site"; (case a1 => walk_at "m.un"); (case a2 => walk_at "m.un"); (case a3 => omega); (case a4 => k_asm); (case a5 => k_asm); rintro v' small' h' tk' F' N' ⟨⟨t', e1'⟩, t2', e2'⟩; subst e1'; subst e2'; walk_at "m.led"))))) | ((with_reducible show wpAny _ _ (getMethod _ _ _) _ _ _); with_reducible (first | (k_dflt (first | (with_reducible show wpAny _ _ (getMethod _ (Str.ofString "appendleft") _) _ _ _); (refine' dq_getMethod_K ?ma ?mb dq_slot_appendleft dq_type_appendleft ?_; (case ma => k_asm); (case mb => k_mem)) | (with_reducible show wpAny _ _ (getMethod _ (Str.ofString "popleft") _) _ _ _); (refine' dq_getMethod_K ?ma ?mb dq_slot_popleft dq_type_popleft ?_; (case ma => k_asm); (case mb => k_mem)))))) | ((with_reducible show wpAny _ _ (truthy _) _ _ _); with_reducible (first | (k_dflt (first | (refine' dq_truthy_nil ?ma ?mb ?_; (case ma => k_asm); (case mb => k_mem)) | (refine' dq_truthy_cons ?ma ?mb ?mc ?_; (case ma => k_asm); (case mb => k_mem); (case mc => first | decide | (simp; done))))))) | walk_at "m.step"))
  exact Post.intro (by k_asm) (by k_asm) (fun _ h => h) ⟨rfl, rfl⟩
end

section
variable {w : World} {s : Shared} {base h₀ : Heap} {A₀ : Around} {dp un : Nat} {outer : List Env} {L : Addr} {m : Str → Option Value} {p : Program} {loose : List Str} {mean : ExcName → Option Value} {mg mb : Str → Option Value}
  {nm : Str} {ns : List (Str × NameKind)} {ig ic : Bool} {mo : List (Str × Const)} {fa : Addr} {cd : Value} {q1 q2 : Addr} {o1 o2 : Obj} {R : Result → Shared → Prop}

theorem lex_next {hs hs' : Nat → Int × Tok} {ts : Nat → Tok} {tn tb tl tp tt tst : Tok} {buf : Str} {x dx a d pb fs S : Addr} {st st' : LSt} {r r' : List Nat} {ln ln' pos c : Nat} {push push' : Option Nat} {items : List Value} {nq : Int} {acc : Array Value} {res : Option (List Nat)}
    (hdp : dp ≤ 480) (hu : un ≤ 3800) (hb : buf.length ≤ 1000)
    (ho : @LT.lt Nat _ q1 dx ∧ @LT.lt Nat _ q2 dx ∧ @LT.lt Nat _ dx x ∧ @LT.lt Nat _ x d ∧ @LT.lt Nat _ d a ∧ @LT.lt Nat _ a pb ∧ @LT.lt Nat _ pb fs ∧ @LT.lt Nat _ fs S) 
    (B : Below A₀ h₀ outer h₀) (X₀ : (hd.heap_39 w.params).In h₀) (T : Top p loose mean mg mb h₀) (hG : Gt st r ln push res st' r' ln' push')
    (hp : buf.cps.toList.drop pos = r) (hpl : pos ≤ buf.length) (hi : PushV push items) (F : Fr h₀ L s.heap m) 
    (N : News h₀ L s.heap ((S, listOf acc c) :: (lexL hs hs' ts tn tb buf x dx a d pb fs (stV st tst) (ln : Int) tl (Str.ofString "") tt pos tp nq items ++ [(fs, dqO 0 []), (q1, o1), (q2, o2)])))
    (k : ∀ (h' : Heap) (tk : Nat) (v : Value) (pos' : Nat) tst' tl' tt' tp' nq' items', Fr h₀ L h' m → News h₀ L h' ((S, listOf acc c) :: (lexL hs hs' ts tn tb buf x dx a d pb fs (stV st' tst') (ln' : Int) tl' (Str.ofString "") tt' pos' tp' nq' items' ++ [(fs, dqO 0 []), (q1, o1), (q2, o2)])) →
      buf.cps.toList.drop pos' = r' → pos' ≤ buf.length → PushV push' items' → ResV res v →
      ExtNext PySem.Challenge.pw_il0179_01 w (Aat dp un (envOf nm ⟨.function, ns, ig, ic, mo⟩ L fa cd :: outer)) S x .none R (match v with | .none => none | v => some v) { s with heap := h', toks := tk }) :
    wpAny (model PySem.Challenge.pw_il0179_01 w) (Aat dp (un + 1) (envOf nm ⟨.function, ns, ig, ic, mo⟩ L fa cd :: outer)) (pyNext (.ref x)) (ExtNext PySem.Challenge.pw_il0179_01 w (Aat dp un (envOf nm ⟨.function, ns, ig, ic, mo⟩ L fa cd :: outer)) S x .none R) (fun e s' => R (.error e) s') s := by
  obtain ⟨ap1, ap2, ap3, ap4, ap5, ap6, ap7, ap8, ap9, ap10, ap11, ap12, ap13, ap14, ap15⟩ := aps6 ⟨ho.2.2.1, ho.2.2.2.1, ho.2.2.2.2.1, ho.2.2.2.2.2.1, ho.2.2.2.2.2.2.1⟩
  obtain ⟨aq1, aq2, aq3, aq4, aq5, aq6⟩ := aps_under ⟨ho.1, ho.2.2.1, ho.2.2.2.1, ho.2.2.2.2.1, ho.2.2.2.2.2.1, ho.2.2.2.2.2.2.1⟩
  obtain ⟨ar1, ar2, ar3, ar4, ar5, ar6⟩ := aps_under ⟨ho.2.1, ho.2.2.1, ho.2.2.2.1, ho.2.2.2.2.1, ho.2.2.2.2.2.1, ho.2.2.2.2.2.2.1⟩
  simp only [List.cons_append, List.nil_append] at N k
  refine' owit_next ?F ?X ?I ?hs ?hf ?_
  case F => k_asm
  case X => k_asm
  case I => k_inst
  case hs => k_dflt k_is
  case hf => k_dflt k_is
  cases res
  · (repeat' (first | ((with_reducible show wpAny _ _ (PySem.call _ _ _) _ _ _); with_reducible (first | (((show wpAny _ _ (PySem.call (Value.ref 690) _ _) _ _ _); k_dflt (first | (refine' by_contract ?B ?F ?X ?N ?T ?hA ?hf ?hk (fun g' G' => c_get_none ?a1 ?a2 ?a3 ?a4 ?a5 ?a6 ?a7 ?a8 G') ?P ?S ?_; walk_at "m.site"; (case a1 => walk_at "m.un"); (case a2 => walk_at "m.un"); (case a3 => omega); (case a4 => k_asm); (case a5 => k_asm); (case a6 => k_asm); (case a7 => k_asm); (case a8 => k_asm); rintro v' small' h' tk' F' N' ⟨hv', pos', tst', tl', tt', tp', nq', items', hd', hp', hi', e'⟩; subst e'; walk_at "m.led"; (have hv'' : v' = .none := hv'); subst hv'') | (refine' by_contract ?B ?F ?X ?N ?T ?hA ?hf ?hk (fun g' G' => c_get_some ?a1 ?a2 ?a3 ?a4 ?a5 ?a6 ?a7 ?a8 G') ?P ?S ?_; walk_at "m.site"; (case a1 => walk_at "m.un"); (case a2 => walk_at "m.un"); (case a3 => omega); (case a4 => k_asm); (case a5 => k_asm); (case a6 => k_asm); (case a7 => k_asm); (case a8 => k_asm); rintro v' small' h' tk' F' N' ⟨⟨ts', ks', e'', hl'⟩, pos', tst', tl', tt', tp', nq', items', hd', hp', hi', e'⟩; subst e'; walk_at "m.led"; subst e'')))) | (((show wpAny _ _ (PySem.call (Value.ref 719) _ _) _ _ _); k_dflt (refine' by_contract ?B ?F ?X ?N ?T ?hA ?hf ?hk (fun g' G' => c_iter ?a1 ?a2 G') ?P ?S ?_; walk_at "m.site"; (case a1 => walk_at "m.un"); (case a2 => walk_at "m.un"); rintro v' small' h' tk' F' N' ⟨e1', e2'⟩; subst e1'; subst e2'; walk_at "m.led"))) | (((show wpAny _ _ (PySem.call (Value.ref 697) _ _) _ _ _); k_dflt (refine' by_contract ?B ?F ?X ?N ?T ?hA ?hf ?hk (fun g' G' => c_rt ?a1 ?a2 ?a3 ?a4 ?a5 ?a6 ?a7 ?a8 G') ?P ?S ?_; walk_at "m.site"; (case a1 => walk_at "m.un"); (case a2 => walk_at "m.un"); (case a3 => omega); (case a4 => k_asm); (case a5 => k_asm); (case a6 => k_asm); (case a7 => exact lit_nil); (case a8 => k_asm); rintro v' small' h' tk' F' N' ⟨hv', pos', tst', tl', tt', tp', nq', items', hd', hp', hi', e'⟩; subst e'; walk_at "m.led"; rcases resV_cases hv' with ⟨hr', e'⟩ | ⟨l', t', k', hr', e', hl'⟩ <;> subst e'))) | ((with_reducible show wpAny _ _ (PySem.call (Value.builtin "collections.deque.popleft") _ _) _ _ _); k_dflt (refine' dq_popleft_K ?ma ?mb ?mc ?md ?_; (case ma => k_asm); (case mb => k_asm); (case mc => k_upd); (case md => first | decide | (simp; done)); intro h' F' N'; (try k_sweep))) | ((with_reducible show wpAny _ _ (PySem.call (Value.builtin "collections.deque.appendleft") _ _) _ _ _); k_dflt (refine' dq_appendleft_K ?ma ?mb ?mc ?md ?_; (case ma => k_asm); (case mb => k_asm); (case mc => k_upd); (case md => first | decide | (simp; done)); intro h' F' N'; (try k_sweep))) | (((with_reducible show wpAny _ _ (PySem.call (Value.ref 548) _ _) _ _ _); k_dflt (refine' by_contract ?B ?F ?X ?N ?T ?hA ?hf ?hk (fun g' G' => c_readline ?a1 ?a2 ?a3 ?a4 ?a5 ?a6 G') ?P ?S ?_; walk_at "m.site"; (case a1 => walk_at "m.un"); (case a2 => walk_at "m.un"); (case a3 => omega); (case a4 => k_asm); (case a5 => k_asm); (case a6 => k_asm); rintro v' small' h' tk' F' N' ⟨t2', e2'⟩; subst e2'; walk_at "m.led"))) | (((with_reducible show wpAny _ _ (PySem.call (Value.ref 540) _ _) _ _ _); k_dflt (refine' by_contract ?B ?F ?X ?N ?T ?hA ?hf ?hk (fun g' G' => c_read_end ?a1 ?a2 ?a3 ?a4 ?a5 G') ?P ?S ?_; walk_at "m.site"; (case a1 => walk_at "m.un"); (case a2 => walk_at "m.un"); (case a3 => omega); (case a4 => k_asm); (case a5 => k_asm); rintro v' small' h' tk' F' N' ⟨⟨t', e1'⟩, e2'⟩; subst e1'; subst e2'; walk_at "m.led"))) | (((with_reducible show wpAny _ _ (PySem.call (Value.ref 540) _ _) _ _ _); k_dflt (refine' by_contract ?B ?F ?X ?N ?T ?hA ?hf ?hk (fun g' G' => c_read ?a1 ?a2 ?a3 ?a4 ?a5 G') ?P ?S ?_; walk_at "m.site"; (case a1 => walk_at "m.un"); (case a2 => walk_at "m.un"); (case a3 => omega); (case a4 => k_asm); (case a5 => k_asm); rintro v' small' h' tk' F' N' ⟨⟨t', e1'⟩, t2', e2'⟩; subst e1'; subst e2'; walk_at "m.led"))))) | ((with_reducible show wpAny _ _ (getMethod _ _ _) _ _ _); with_reducible (first | (k_dflt (first | (with_reducible show wpAny _ _ (getMethod _ (Str.ofString "appendleft") _) _ _ _); (refine' dq_getMethod_K ?ma ?mb dq_slot_appendleft dq_type_appendleft ?_; (case ma => k_asm); (case mb => k_mem)) | (with_reducible show wpAny _ _ (getMethod _ (Str.ofString "popleft") _) _ _ _); (refine' dq_getMethod_K ?ma ?mb dq_slot_popleft dq_type_popleft ?_; (case ma => k_asm); (case mb => k_mem)))))) | ((with_reducible show wpAny _ _ (truthy _) _ _ _); with_reducible (first | (k_dflt (first | (refine' dq_truthy_nil ?ma ?mb ?_; (case ma => k_asm); (case mb => k_mem)) | (refine' dq_truthy_cons ?ma ?mb ?mc ?_; (case ma => k_asm); (case mb => k_mem); (case mc => first | decide | (simp; done))))))) | walk_at "m.step"))
    all_goals (try dsimp only)
    refine' k _ _ .none _ _ _ _ _ _ _ ?ya ?yb ?yc ?yd ?ye ?yf
    case ya => k_asm
    case yb => exact News.sub (by k_asm) (by k_allIn)
    case yc => assumption
    case yd => assumption
    case ye => assumption
    case yf => rfl
  · (repeat' (first | ((with_reducible show wpAny _ _ (PySem.call _ _ _) _ _ _); with_reducible (first | (((show wpAny _ _ (PySem.call (Value.ref 690) _ _) _ _ _); k_dflt (first | (refine' by_contract ?B ?F ?X ?N ?T ?hA ?hf ?hk (fun g' G' => c_get_none ?a1 ?a2 ?a3 ?a4 ?a5 ?a6 ?a7 ?a8 G') ?P ?S ?_; walk_at "m.site"; (case a1 => walk_at "m.un"); (case a2 => walk_at "m.un"); (case a3 => omega); (case a4 => k_asm); (case a5 => k_asm); (case a6 => k_asm); (case a7 => k_asm); (case a8 => k_asm); rintro v' small' h' tk' F' N' ⟨hv', pos', tst', tl', tt', tp', nq', items', hd', hp', hi', e'⟩; subst e'; walk_at "m.led"; (have hv'' : v' = .none := hv'); subst hv'') | (refine' by_contract ?B ?F ?X ?N ?T ?hA ?hf ?hk (fun g' G' => c_get_some ?a1 ?a2 ?a3 ?a4 ?a5 ?a6 ?a7 ?a8 G') ?P ?S ?_; walk_at "m.site"; (case a1 => walk_at "m.un"); (case a2 => walk_at "m.un"); (case a3 => omega); (case a4 => k_asm); (case a5 => k_asm); (case a6 => k_asm); (case a7 => k_asm); (case a8 => k_asm); rintro v' small' h' tk' F' N' ⟨⟨ts', ks', e'', hl'⟩, pos', tst', tl', tt', tp', nq', items', hd', hp', hi', e'⟩; subst e'; walk_at "m.led"; subst e'')))) | (((show wpAny _ _ (PySem.call (Value.ref 719) _ _) _ _ _); k_dflt (refine' by_contract ?B ?F ?X ?N ?T ?hA ?hf ?hk (fun g' G' => c_iter ?a1 ?a2 G') ?P ?S ?_; walk_at "m.site"; (case a1 => walk_at "m.un"); (case a2 => walk_at "m.un"); rintro v' small' h' tk' F' N' ⟨e1', e2'⟩; subst e1'; subst e2'; walk_at "m.led"))) | (((show wpAny _ _ (PySem.call (Value.ref 697) _ _) _ _ _); k_dflt (refine' by_contract ?B ?F ?X ?N ?T ?hA ?hf ?hk (fun g' G' => c_rt ?a1 ?a2 ?a3 ?a4 ?a5 ?a6 ?a7 ?a8 G') ?P ?S ?_; walk_at "m.site"; (case a1 => walk_at "m.un"); (case a2 => walk_at "m.un"); (case a3 => omega); (case a4 => k_asm); (case a5 => k_asm); (case a6 => k_asm); (case a7 => exact lit_nil); (case a8 => k_asm); rintro v' small' h' tk' F' N' ⟨hv', pos', tst', tl', tt', tp', nq', items', hd', hp', hi', e'⟩; subst e'; walk_at "m.led"; rcases resV_cases hv' with ⟨hr', e'⟩ | ⟨l', t', k', hr', e', hl'⟩ <;> subst e'))) | ((with_reducible show wpAny _ _ (PySem.call (Value.builtin "collections.deque.popleft") _ _) _ _ _); k_dflt (refine' dq_popleft_K ?ma ?mb ?mc ?md ?_; (case ma => k_asm); (case mb => k_asm); (case mc => k_upd); (case md => first | decide | (simp; done)); intro h' F' N'; (try k_sweep))) | ((with_reducible show wpAny _ _ (PySem.call (Value.builtin "collections.deque.appendleft") _ _) _ _ _); k_dflt (refine' dq_appendleft_K ?ma ?mb ?mc ?md ?_; (case ma => k_asm); (case mb => k_asm); (case mc => k_upd); (case md => first | decide | (simp; done)); intro h' F' N'; (try k_sweep))) | (((with_reducible show wpAny _ _ (PySem.call (Value.ref 548) _ _) _ _ _); k_dflt (refine' by_contract ?B ?F ?X ?N ?T ?hA ?hf ?hk (fun g' G' => c_readline ?a1 ?a2 ?a3 ?a4 ?a5 ?a6 G') ?P ?S ?_; walk_at "m.site"; (case a1 => walk_at "m.un"); (case a2 => walk_at "m.un"); (case a3 => omega); (case a4 => k_asm); (case a5 => k_asm); (case a6 => k_asm); rintro v' small' h' tk' F' N' ⟨t2', e2'⟩; subst e2'; walk_at "m.led"))) | (((with_reducible show wpAny _ _ (PySem.call (Value.ref 540) _ _) _ _ _); k_dflt (refine' by_contract ?B ?F ?X ?N ?T ?hA ?hf ?hk (fun g' G' => c_read_end ?a1 ?a2 ?a3 ?a4 ?a5 G') ?P ?S ?_; walk_at "m.site"; (case a1 => walk_at "m.un"); (case a2 => walk_at "m.un"); (case a3 => omega); (case a4 => k_asm); (case a5 => k_asm); rintro v' small' h' tk' F' N' ⟨⟨t', e1'⟩, e2'⟩; subst e1'; subst e2'; walk_at "m.led"))) | (((with_reducible show wpAny _ _ (PySem.call (Value.ref 540) _ _) _ _ _); k_dflt (refine' by_contract ?B ?F ?X ?N ?T ?hA ?hf ?hk (fun g' G' => c_read ?a1 ?a2 ?a3 ?a4 ?a5 G') ?P ?S ?_; walk_at "m.site"; (case a1 => walk_at "m.un"); (case a2 => walk_at "m.un"); (case a3 => omega); (case a4 => k_asm); (case a5 => k_asm); rintro v' small' h' tk' F' N' ⟨⟨t', e1'⟩, t2', e2'⟩; subst e1'; subst e2'; walk_at "m.led"))))) | ((with_reducible show wpAny _ _ (getMethod _ _ _) _ _ _); with_reducible (first | (k_dflt (first | (with_reducible show wpAny _ _ (getMethod _ (Str.ofString "appendleft") _) _ _ _); (refine' dq_getMethod_K ?ma ?mb dq_slot_appendleft dq_type_appendleft ?_; (case ma => k_asm); (case mb => k_mem)) | (with_reducible show wpAny _ _ (getMethod _ (Str.ofString "popleft") _) _ _ _); (refine' dq_getMethod_K ?ma ?mb dq_slot_popleft dq_type_popleft ?_; (case ma => k_asm); (case mb => k_mem)))))) | ((with_reducible show wpAny _ _ (truthy _) _ _ _); with_reducible (first | (k_dflt (first | (refine' dq_truthy_nil ?ma ?mb ?_; (case ma => k_asm); (case mb => k_mem)) | (refine' dq_truthy_cons ?ma ?mb ?mc ?_; (case ma => k_asm); (case mb => k_mem); (case mc => first | decide | (simp; done))))))) | walk_at "m.step"))
    all_goals (try dsimp only)
    refine' k _ _ (Value.str _ _) _ _ _ _ _ _ _ ?za ?zb ?zc ?zd ?ze ?zf
    case za => k_asm
    case zb => exact News.sub (by k_asm) (by k_allIn)
    case zc => assumption
    case zd => assumption
    case ze => assumption
    case zf => exact ⟨_, _, rfl, by assumption⟩

theorem lex_loop {hs hs' : Nat → Int × Tok} {ts : Nat → Tok} {tn tb : Tok} {buf : Str} {x dx a d pb fs S : Addr} {st st' : LSt} {r r' : List Nat} {ln ln' : Nat} {push push' : Option Nat} {tl9 : List (List Nat)}
    (hdp : dp ≤ 480) (hu : un ≤ 3800) (hb : buf.length ≤ 1000)
    (ho : @LT.lt Nat _ q1 dx ∧ @LT.lt Nat _ q2 dx ∧ @LT.lt Nat _ dx x ∧ @LT.lt Nat _ x d ∧ @LT.lt Nat _ d a ∧ @LT.lt Nat _ a pb ∧ @LT.lt Nat _ pb fs ∧ @LT.lt Nat _ fs S)
    (B : Below A₀ h₀ outer h₀) (X₀ : (hd.heap_39 w.params).In h₀) (T : Top p loose mean mg mb h₀) (hT : Toks st r ln push tl9 st' r' ln' push') :
    ∀ {s : Shared} {tl tp tt tst : Tok} {pos c : Nat} {items : List Value} {nq : Int} {acc : Array Value}, acc.size + tl9.length ≤ 900 →
    buf.cps.toList.drop pos = r → pos ≤ buf.length → PushV push items → Fr h₀ L s.heap m → 
    News h₀ L s.heap ((S, listOf acc c) :: (lexL hs hs' ts tn tb buf x dx a d pb fs (stV st tst) (ln : Int) tl (Str.ofString "") tt pos tp nq items ++ [(fs, dqO 0 []), (q1, o1), (q2, o2)])) →
    (∀ (h' : Heap) (tk : Nat) (vs : List Value) (c' : Nat) (pos' : Nat) tst' tl' tt' tp' nq' items', Fr h₀ L h' m → News h₀ L h' ((S, listOf (acc ++ vs.toArray) c') :: (lexL hs hs' ts tn tb buf x dx a d pb fs (stV st' tst') (ln' : Int) tl' (Str.ofString "") tt' pos' tp' nq' items' ++ [(fs, dqO 0 []), (q1, o1), (q2, o2)])) →
      StrsAre vs (tl9.map fun l => ⟨l.toArray⟩) → R (.ok (.ret .none)) { s with heap := h', toks := tk }) →
    codeAny (model PySem.Challenge.pw_il0179_01 w) (Aat dp un (envOf nm ⟨.function, ns, ig, ic, mo⟩ L fa cd :: outer)) (.builtin "list.extend.loop" ⟨[.ref S, .ref x, .none], []⟩) R s := by
  induction hT with
  | done hG =>
    intro s tl tp tt tst pos c items nq acc hsz hp hpl hi F N k
    refine ext_step (lex_next hdp hu hb ho B X₀ T hG hp hpl hi F N fun h' tk v pos' tst' tl' tt' tp' nq' items' F' N' _ _ _ hv => ?_)
    have hv' : v = .none := hv
    subst hv'
    exact k h' tk [] c pos' tst' tl' tt' tp' nq' items' F' (by simpa using N') .nil
  | step hG _ ih =>
    intro s tl tp tt tst pos c items nq acc hsz hp hpl hi F N k
    refine ext_step (lex_next hdp hu hb ho B X₀ T hG hp hpl hi F N fun h' tk v pos' tst' tl' tt' tp' nq' items' F' N' hp' hpl' hi' hv => ?_)
    obtain ⟨y, ky, rfl, hy⟩ := hv
    have z := N' (S, listOf acc c) (.head _)
    refine ⟨acc, c, z.1, by simp only [List.length_cons] at hsz; omega, fun h2 hg hs => ?_⟩
    have F2 := F'.change hs z.2.1 z.2.2
    have N2 := news_set (pre := []) N' (fun _ h => (nomatch h)) (fun q hq => by
      have : q.1 ∈ [x, dx, a, d, pb, fs, q1, q2] := by
        simp only [List.cons_append, List.nil_append, List.mem_cons, List.not_mem_nil, or_false] at hq ⊢
        rcases hq with rfl | rfl | rfl | rfl | rfl | rfl | rfl | rfl <;> simp
      simp only [List.mem_cons, List.not_mem_nil, or_false] at this
      intro e
      rw [e] at this
      rcases this with e | e | e | e | e | e | e | e <;> subst e <;> omega) hs hg
    refine ih (s := { s with heap := h2, toks := tk }) (by simp only [List.length_cons, Array.size_push] at hsz ⊢; omega) hp' hpl' hi' F2 N2 fun h3 tk3 vs c3 pos3 t1 t2 t3 t4 t5 t6 F3 N3 hvs => ?_
    refine k h3 tk3 (.str y ky :: vs) c3 pos3 t1 t2 t3 t4 t5 t6 F3 ?_ ?_
    · have e : acc.push (Value.str y ky) ++ vs.toArray = acc ++ (Value.str y ky :: vs).toArray := by
        apply Array.ext'
        simp
      rw [← e]
      exact N3
    · have hy' : y = ⟨(y.cps.toList).toArray⟩ := by simp
      rw [List.map_cons, ← hy, ← hy']
      exact .cons y ky hvs

theorem list_lexer {hs hs' : Nat → Int × Tok} {ts : Nat → Tok} {tn tb tl tp tt tst : Tok} {buf : Str} {x dx a d pb fs : Addr} {st st' : LSt} {r r' : List Nat} {ln ln' pos : Nat} {push push' : Option Nat} {items : List Value} {nq : Int} {tl9 : List (List Nat)} {E : Value → Shared → Prop} {Q : Value → Shared → Prop}
    (hdp : dp ≤ 470) (hu : un ≤ 3700) (hb : buf.length ≤ 1000) (hn : tl9.length ≤ 900)
    (ho : @LT.lt Nat _ q1 dx ∧ @LT.lt Nat _ q2 dx ∧ @LT.lt Nat _ dx x ∧ @LT.lt Nat _ x d ∧ @LT.lt Nat _ d a ∧ @LT.lt Nat _ a pb ∧ @LT.lt Nat _ pb fs)
    (B : Below A₀ h₀ outer h₀) (X₀ : (hd.heap_39 w.params).In h₀) (T : Top p loose mean mg mb h₀) (hT : Toks st r ln push tl9 st' r' ln' push')
    (hp : buf.cps.toList.drop pos = r) (hpl : pos ≤ buf.length) (hi : PushV push items) (F : Fr h₀ L s.heap m)
    (N : News h₀ L s.heap (lexL hs hs' ts tn tb buf x dx a d pb fs (stV st tst) (ln : Int) tl (Str.ofString "") tt pos tp nq items ++ [(fs, dqO 0 []), (q1, o1), (q2, o2)]))
    (k : ∀ (S : Addr) (h' : Heap) (tk : Nat) (vs : List Value) (c' : Nat) (pos' : Nat) tst' tl' tt' tp' nq' items', Fr h₀ L h' m → News h₀ L h' ((S, listOf vs.toArray c') :: (lexL hs hs' ts tn tb buf x dx a d pb fs (stV st' tst') (ln' : Int) tl' (Str.ofString "") tt' pos' tp' nq' items' ++ [(fs, dqO 0 []), (q1, o1), (q2, o2)])) →
      @LT.lt Nat _ fs S → StrsAre vs (tl9.map fun l => ⟨l.toArray⟩) → Q (.ref S) { s with heap := h', toks := tk }) :
    wpAny (model PySem.Challenge.pw_il0179_01 w) (Aat dp un (envOf nm ⟨.function, ns, ig, ic, mo⟩ L fa cd :: outer)) (PySem.call (.type "list") [.ref x]) Q E s := by
  refine' call_list_own (C := 729) (dx := dx) F X₀ N ?hx ?hl ?hh ?_
  case hx => exact .head _
  case hl => k_dflt k_is
  case hh => k_dflt k_is
  intro S h₁ F1 N1 hlt
  have hS : @LT.lt Nat _ fs S := hlt (fs, dqO 0 []) (by simp)
  obtain ⟨ap1, ap2, ap3, ap4, ap5, ap6, ap7, ap8, ap9, ap10, ap11, ap12, ap13, ap14, ap15⟩ := aps6 ⟨ho.2.2.1, ho.2.2.2.1, ho.2.2.2.2.1, ho.2.2.2.2.2.1, ho.2.2.2.2.2.2⟩
  obtain ⟨aq1, aq2, aq3, aq4, aq5, aq6⟩ := aps_under ⟨ho.1, ho.2.2.1, ho.2.2.2.1, ho.2.2.2.2.1, ho.2.2.2.2.2.1, ho.2.2.2.2.2.2⟩
  obtain ⟨ar1, ar2, ar3, ar4, ar5, ar6⟩ := aps_under ⟨ho.2.1, ho.2.2.1, ho.2.2.2.1, ho.2.2.2.2.1, ho.2.2.2.2.2.1, ho.2.2.2.2.2.2⟩
  simp only [List.cons_append, List.nil_append] at N1
  refine' owit_iter ?F ?X ?I ?hs ?hf ?_
  case F => k_asm
  case X => k_asm
  case I => k_inst
  case hs => k_dflt k_is
  case hf => k_dflt k_is
  refine' by_contract (E := E) B F1 X₀ (small := []) N1 T rfl rfl rfl (fun g' G' => c_iter ?a1 ?a2 G') .nil (List.forall_mem_nil _) ?_
  case a1 => walk_at "m.un"
  case a2 => walk_at "m.un"
  rintro v' small' h' tk' F' N' ⟨rfl, rfl⟩
  simp only [List.nil_append] at N'
  refine' owit_it F' X₀ ?I2 ?hs2 ?_
  case I2 => k_inst
  case hs2 => k_dflt k_is
  have z := N' (S, listOf #[] 0) (.head _)
  refine ⟨rfl, (N' (x, instObj 729 dx) (by simp)).1, z.1, X₀.keeps F'.keep, fun h2 hg hs => ?_⟩
  have F2 := F'.change hs z.2.1 z.2.2
  have N2 := news_set (pre := []) N' (fun _ h => (nomatch h)) (fun q hq => by
      have : q.1 ∈ [x, dx, a, d, pb, fs, q1, q2] := by
        simp only [List.mem_cons, List.not_mem_nil, or_false] at hq ⊢
        rcases hq with rfl | rfl | rfl | rfl | rfl | rfl | rfl | rfl <;> simp
      simp only [List.mem_cons, List.not_mem_nil, or_false] at this
      intro e
      rw [e] at this
      rcases this with e | e | e | e | e | e | e | e <;> subst e <;> omega) hs hg
  refine lex_loop (s := { s with heap := h2, toks := tk' }) (dp := dp) (un := un + 1) (by omega) (by omega) hb ⟨ho.1, ho.2.1, ho.2.2.1, ho.2.2.2.1, ho.2.2.2.2.1, ho.2.2.2.2.2.1, ho.2.2.2.2.2.2, hS⟩ B X₀ T hT (by simpa using hn) hp hpl hi F2 N2 ?_
  intro h3 tk3 vs c3 pos3 t1 t2 t3 t4 t5 t6 F3 N3 hvs
  exact ⟨rfl, k S h3 tk3 vs c3 pos3 t1 t2 t3 t4 t5 t6 F3 (by simpa using N3) hS hvs⟩
end
end PartF7
end PartF
section PartIo1
section
variable {w : World} {h : Heap}
theorem io_made (X : (hd.heap_39 w.params).In h) : Looks (model PySem.Challenge.pw_il0179_01 w) h (Bind.madeBy (.ref 594)) none := by
  refine Looks.of_peek X ?_
  first | kernel_rfl | k_is | rfl
theorem io_madeHere (X : (hd.heap_39 w.params).In h) : Looks (model PySem.Challenge.pw_il0179_01 w) h (Bind.madeHere "object.__new__" (.ref 594)) () := by
  refine Looks.of_peek X ?_
  first | kernel_rfl | k_is | rfl
theorem io_call (X : (hd.heap_39 w.params).In h) : Looks (model PySem.Challenge.pw_il0179_01 w) h (specialOf (.ref 594) "__call__") (some (.builtin "type.__call__")) := by
  refine Looks.of_peek X ?_
  first | kernel_rfl | k_is | rfl
theorem io_typ (X : (hd.heap_39 w.params).In h) : Looks (model PySem.Challenge.pw_il0179_01 w) h (isInstance (.ref 594) (.type "type")) true := by
  refine Looks.of_peek X ?_
  first | kernel_rfl | k_is | rfl
theorem io_top (X : (hd.heap_39 w.params).In h) : Looks (model PySem.Challenge.pw_il0179_01 w) h (isSubtype (.ref 594) (.type "object")) true := by
  refine Looks.of_peek X ?_
  first | kernel_rfl | k_is | rfl
theorem io_self (X : (hd.heap_39 w.params).In h) : Looks (model PySem.Challenge.pw_il0179_01 w) h (isSubtype (.ref 594) (.ref 594)) true := by
  refine Looks.of_peek X ?_
  first | kernel_rfl | k_is | rfl
theorem io_base (X : (hd.heap_39 w.params).In h) : Looks (model PySem.Challenge.pw_il0179_01 w) h (Bind.staticBase (.ref 594)) (.type "object") := by
  refine Looks.of_peek X ?_
  first | kernel_rfl | k_is | rfl
theorem io_madeO (X : (hd.heap_39 w.params).In h) : Looks (model PySem.Challenge.pw_il0179_01 w) h (Bind.madeBy (.type "object")) (some "object.__new__") := by
  refine Looks.of_peek X ?_
  first | kernel_rfl | k_is | rfl
noncomputable def clsOk (K : Frag) (C : Addr) : Bool := match K.lookup C with
  | some ⟨_, _, .cls cd, _⟩ => !cd.abstract && !cd.hasDel && !cd.mro.isEmpty
  | _ => false
theorem clsOk_get {K : Frag} {C : Addr} (X : K.In h) (e : clsOk K C = true) : ∃ oc od cd sl, h.get? C = some ⟨oc, od, .cls cd, sl⟩ ∧ cd.abstract = false ∧ cd.hasDel = false ∧ cd.mro.isEmpty = false := by
  unfold clsOk at e
  split at e
  · rename_i oc od cd sl ho
    simp only [Bool.and_eq_true, Bool.not_eq_true'] at e
    exact ⟨oc, od, cd, sl, X _ _ ho, e.1.1, e.1.2, e.2⟩
  · cases e
theorem io_cls (X : (hd.heap_39 w.params).In h) : ∃ oc od cd sl, h.get? 594 = some ⟨oc, od, .cls cd, sl⟩ ∧ cd.abstract = false ∧ cd.hasDel = false ∧ cd.mro.isEmpty = false := by
  refine clsOk_get X ?_
  first | kernel_rfl | rfl
end
section
variable {w : World} {A : Around} {h : Heap} {g : Array GenState} {d : Drawn} {t : Nat} {os : OsState} {R : Result → Shared → Prop}
theorem io_newobj (X : (hd.heap_39 w.params).In h) (hq : R (.ok (.ret (.ref (h.objs.size + 1)))) ⟨(h.push emptyDict).push (instObj 594 h.objs.size), g, d, t, os⟩) :
    codeAny (model PySem.Challenge.pw_il0179_01 w) A (.call (.builtin "object.__new__") ⟨[.ref 594], []⟩) R ⟨h, g, d, t, os⟩ := by
  obtain ⟨oc, od, cd, sl, hC, e1, e2, e4⟩ := io_cls X
  have typ := io_typ X
  have here := io_madeHere X
  have top := io_top X
  have base := io_base X
  have madeO := io_madeO X
  have F := PySem.F.objNew
  refine codeAny_call_builtin_code (Code.quiet_builtin _ F.quiet) ?_
  simp only [checkBuiltinCall, F.kind, F.split, F.row]
  have args : Bind.checkArgs "object.__new__" ⟨.hand, "object.__new__", "__new__", .cls, []⟩ ⟨[.ref 594], []⟩ = pure () := by kernel_rfl
  rw [args]
  repeat (first | simp only [bne_self_eq_false, Bool.false_eq_true, if_false] | lk)
  refine codeAny_builtin F.entry ?_
  unfold Builtin.«object.__new__»
  have fin : ∀ A', wpAny (model PySem.Challenge.pw_il0179_01 w) A' (do
      let d ← if typeHasDict (.ref 594) then some <$> alloc { cls := .type "dict", data := .dict #[] } else pure none
      ret (← newObj (.ref 594) .plain d)) (fun fin s' => match fin with | .done f => R (.ok f) s' | .again c' => c'.quiet = true ∧ codeAny (model PySem.Challenge.pw_il0179_01 w) A c' R s') (fun e s' => R (.error e) s') ⟨h, g, d, t, os⟩ := by
    intro A'
    show wpAny _ _ ((alloc emptyDict >>= fun x => pure (some x)) >>= _) _ _ _
    refine wpAny_bind (wpAny_bind (wpAny_alloc (wpAny_pure (wpAny_bind ?_))))
    show wpAny _ _ (newObjAsIs _ _ _) _ _ _
    unfold newObjAsIs classHasDel
    refine wpAny_bind (wpAny_alloc (wpAny_bind (wpAny_bind (wpAny_load (Heap.get?_push_of_some _ (Heap.get?_push_of_some _ hC)) (wpAny_pure ?_)))))
    rw [e2]
    refine wpAny_pure (wpAny_pure ?_)
    show R _ _
    rw [Heap.size_push]
    exact hq
  repeat (first | simp only [e1, Bool.false_eq_true, if_false] | exact fin _ | lk)
end
section
variable {w : World} {A : Around} {E : Value → Shared → Prop} {s : Shared} {h₀ : Heap} {L : Addr} {m : Str → Option Value} {news : List (Addr × Obj)}
theorem io_newobj_K {Q : Value → Shared → Prop} (F : Fr h₀ L s.heap m) (N : News h₀ L s.heap news) (X : (hd.heap_39 w.params).In s.heap)
    (h : ∀ x dx h', Fr h₀ L h' m → News h₀ L h' ((x, instObj 594 dx) :: (dx, emptyDict) :: news) → (∀ p ∈ news, p.1 < dx) → dx < x → Q (.ref x) { s with heap := h' }) :
    wpAny (model PySem.Challenge.pw_il0179_01 w) A (call (.builtin "object.__new__") [.ref 594]) Q E s := by
  obtain ⟨hh, g, d, t, os⟩ := s
  refine wpAny_call (io_newobj X (h _ hh.objs.size _ ((F.push _).push _) ?_ (fun p hp => Heap.lt_size (N p hp).1) (Nat.lt_succ_self _)))
  have := (N.push F emptyDict).push (F.push _) (instObj 594 hh.objs.size)
  rwa [Heap.size_push] at this
end
end PartIo1
section PartIo2
theorem allLt_get {d : Addr} : ∀ {l : List (Addr × Obj)}, AllLt d l → ∀ p ∈ l, p.1 < d
  | [], _, _, h => nomatch h
  | _ :: _, h, _, hp => by
    rcases List.mem_cons.mp hp with rfl | hp
    · exact h.1
    · exact allLt_get h.2 _ hp
section
variable {w : World} {s : Shared} {base h₀ : Heap} {A₀ : Around} {dp un : Nat} {outer : List Env} {L : Addr} {m : Str → Option Value} {p : Program} {loose : List Str} {mean : ExcName → Option Value} {mg mb : Str → Option Value}
  {nm : Str} {ns : List (Str × NameKind)} {ig ic : Bool} {mo : List (Str × Const)} {fa : Addr} {cd : Value} {news : List (Addr × Obj)} {R : Result → Shared → Prop}
theorem io_new {buf : Str} {tb : Tok} (hdp : dp ≤ 470) (hu : un ≤ 3700)
    (B : Below A₀ base outer h₀) (X₀ : (hd.heap_39 w.params).In h₀) (T : Top p loose mean mg mb h₀) (F : Fr h₀ L s.heap m) (N : News h₀ L s.heap news)
    (k : ∀ x dx h' tk, Fr h₀ L h' m → News h₀ L h' ((x, instObj 594 dx) :: (dx, emptyDict) :: news) → (∀ q ∈ news, q.1 < dx) → dx < x → R (.ok (.ret (.ref x))) { s with heap := h', toks := tk }) :
    codeAny (model PySem.Challenge.pw_il0179_01 w) (Aat dp un (envOf nm ⟨.function, ns, ig, ic, mo⟩ L fa cd :: outer)) (.call (.ref 87) ⟨[.ref 594, .str buf tb], []⟩) R s := by
  k_enter
  (repeat' (first | ((with_reducible show wpAny _ _ (PySem.call _ _ _) _ _ _); with_reducible (first | ((with_reducible show wpAny _ _ (PySem.call (Value.builtin "object.__new__") _ _) _ _ _); (k_dflt (refine' io_newobj_K ?ma ?mb ?mc ?_; (case ma => k_asm); (case mb => k_asm); (case mc => k_in); intro x' dx' h' F' N' l1 l2; (try k_lt l1); (try k_lt2 l2); (try k_sweep)))))) | walk_at "m.step"))
  refine k _ _ _ _ (by k_asm) (News.sub (by k_asm) ?_) ?_ (by k_asm)
  · intro q hq
    rcases List.mem_cons.mp hq with rfl | hq
    · exact .head _
    · rcases List.mem_cons.mp hq with rfl | hq
      · exact .tail _ (.head _)
      · exact .tail _ (.tail _ (.tail _ (.tail _ hq)))
  · rename (_ ∧ _ ∧ AllLt _ _) => la
    exact allLt_get la.2.2

theorem io_make {buf : Str} {tb : Tok} (hdp : dp ≤ 460) (hu : un ≤ 3600)
    (B : Below A₀ base outer h₀) (X₀ : (hd.heap_39 w.params).In h₀) (T : Top p loose mean mg mb h₀) (F : Fr h₀ L s.heap m) (N : News h₀ L s.heap news)
    (k : ∀ x dx h' tk, Fr h₀ L h' m → News h₀ L h' ((x, instObj 594 dx) :: (dx, emptyDict) :: news) → (∀ q ∈ news, q.1 < dx) → dx < x → 
      codeAny (model PySem.Challenge.pw_il0179_01 w) ((Aat dp un (envOf nm ⟨.function, ns, ig, ic, mo⟩ L fa cd :: outer)).under (.builtin "type.__call__" ⟨[.ref 594, .str buf tb], []⟩)) (.call (.ref 364) ⟨[.ref x, .str buf tb], []⟩) (InitBack x R) { s with heap := h', toks := tk }) :
    codeAny (model PySem.Challenge.pw_il0179_01 w) (Aat dp un (envOf nm ⟨.function, ns, ig, ic, mo⟩ L fa cd :: outer)) (.call (.ref 594) ⟨[.str buf tb], []⟩) R s := by
  have X := X₀.keeps F.keep
  obtain ⟨oc, od, cd', sl, hC, e1, e2, e4⟩ := io_cls X
  have call := io_call X
  have typ := io_typ X
  have made := io_made X
  have hm : Looks (model PySem.Challenge.pw_il0179_01 w) s.heap (mroOf (.ref 594)) cd'.mro := ((Looks.ld (part := none) hC).andThen .now).andThen .now
  obtain ⟨hh, g, d, t, os⟩ := s
  dsimp only at *
  refine codeAny_of_tree ?_
  show wpAny _ _ (callAny (.ref 594) _) _ _ _
  refine nd_load hC ?_
  show wpAny _ _ (callAny.viaDunder (.ref 594) _) _ _ _
  unfold callAny.viaDunder
  refine wpAny_bind (call.at ?_)
  dsimp only
  rw [tc_bind]
  refine wpAny_bind (wpAny_pure (wpAny_bind (wpAny_pure ?_)))
  refine wpAny_pure (a := Fin.again (.call (.builtin "type.__call__") ⟨[.ref 594, .str buf tb], []⟩)) (And.intro rfl ?_)
  refine codeAny_call_builtin_at (Code.quiet_builtin _ (by decide +kernel)) entry_typeCall (check_slot tc_kind tc_split typ (tc_args _ _ _) ?_)
  unfold Builtin.«type.__call__»
  repeat ((fail_if_success (with_reducible show wpAny _ _ (getAttr _ _ _) _ _ _)); (first | simp only [e4, Bool.false_eq_true, if_false] | lk))
  refine' cls_sm (mc := .type "type") (p := 91) (f := .ref 87) (rest := []) (K := hd.heap_39 w.params) F X₀ ?h1 ?h2 ?h3 ?h4 rfl ?_
  case h1 => k_is
  case h2 => k_is
  case h3 => k_is
  case h4 => k_is
  dsimp only
  have hun : ∃ un', (Aat dp un (envOf nm ⟨.function, ns, ig, ic, mo⟩ L fa cd :: outer)).under (.builtin "type.__call__" ⟨[.ref 594, .str buf tb], []⟩) = Aat (dp + 1) un' (envOf nm ⟨.function, ns, ig, ic, mo⟩ L fa cd :: outer) ∧ un' ≤ un + 60 := by
    refine ⟨_, rfl, ?_⟩
    refine Nat.add_le_add_left ?_ un
    show Code.cUnits _ ≤ 60
    exact Nat.le_of_ble_eq_true rfl
  obtain ⟨un', e9, hun'⟩ := hun
  rw [e9] at k ⊢
  refine wpAny_bind (wpAny_holding (wpAny_call ?_))
  refine io_new (s := ⟨hh, g, d, t + 1, os⟩) (by omega) (by omega) B X₀ T F N fun x dx h' tk F' N' l1 l2 => ?_
  have hx := (N' _ (.head _)).1
  have hX := X₀.keeps F'.keep
  have inst : Looks (model PySem.Challenge.pw_il0179_01 w) h' (isInstance (.ref x) (.ref 594)) true := by
    have t1 : Looks (model PySem.Challenge.pw_il0179_01 w) h' (typeOf (.ref x)) (.ref 594) := (Looks.ld hx).andThen .now
    exact t1.andThen (io_self hX)
  have init : Looks (model PySem.Challenge.pw_il0179_01 w) h' (specialOf (.ref x) "__init__") (some (.ref 364)) := by
    have t1 : Looks (model PySem.Challenge.pw_il0179_01 w) h' (typeOf (.ref x)) (.ref 594) := (Looks.ld hx).andThen .now
    exact t1.andThen (looks_findIn hX (by k_is))
  have b1 := bind_fn (M := model PySem.Challenge.pw_il0179_01 w) (f := 364) hX (.ref x) (by k_is)
  refine wpAny_bind (inst.at ?_)
  simp only [Bool.not_true, Bool.false_eq_true, if_false]
  refine wpAny_bind (wpAny_holding ?_)
  unfold callSpecial?
  repeat (first | with_reducible refine wpAny_call ?_ | lk)
  refine codeAny_mono (k x dx h' tk F' N' l1 l2) fun r s' z => ?_
  rcases r with e | (v | _ | _ | _) <;> first | exact z | exact z.elim | skip
  obtain ⟨rfl, z⟩ := z
  exact wpAny_pure (wpAny_pure z)
theorem io_makeC {buf : Str} {tb : Tok} {E : Value → Shared → Prop} {Q : Value → Shared → Prop} (hdp : dp ≤ 460) (hu : un ≤ 3600)
    (B : Below A₀ base outer h₀) (X₀ : (hd.heap_39 w.params).In h₀) (T : Top p loose mean mg mb h₀) (F : Fr h₀ L s.heap m) (N : News h₀ L s.heap news)
    (k : ∀ x dx h' tk, Fr h₀ L h' m → News h₀ L h' ((x, instObj 594 dx) :: (dx, dictOf [] 0) :: news) → (∀ q ∈ news, q.1 < dx) → dx < x → 
      codeAny (model PySem.Challenge.pw_il0179_01 w) ((Aat dp un (envOf nm ⟨.function, ns, ig, ic, mo⟩ L fa cd :: outer)).under (.builtin "type.__call__" ⟨[.ref 594, .str buf tb], []⟩)) (.call (.ref 364) ⟨[.ref x, .str buf tb], []⟩)
        (InitBack x fun r s' => match r with | .ok (.ret v) => Q v s' | .ok _ => False | .error e => E e s') { s with heap := h', toks := tk }) :
    wpAny (model PySem.Challenge.pw_il0179_01 w) (Aat dp un (envOf nm ⟨.function, ns, ig, ic, mo⟩ L fa cd :: outer)) (PySem.call (.ref 594) [.str buf tb] []) Q E s := wpAny_call (io_make hdp hu B X₀ T F N k)
end
end PartIo2
section PartF8
theorem lexD_news {g h : Heap} {L x dx a d pb fs : Addr} {news : List (Addr × Obj)} {buf : Str} {h0 h1 h2 h3 h4 h5 h6 h7 h8 h9 h10 h11 h12 h13 h14 h15 h16 h17 h18 : Int} {t0 t1 t2 t3 t4 t5 t6 t7 t8 t9 t10 t11 t12 t13 t14 t15 t16 t17 t18 : Tok} {s4 s5 s6 s8 s9 s10 s11 s13 s14 s15 s18 : Tok} {g0 g1 g2 : Int} {u0 u1 u2 : Tok} {tn tb tp : Tok} {P : Prop}
    (N : News g L h ((fs, dqO 0 []) :: (pb, dqO 0 []) :: (a, instObj 594 d) :: (d, dictOf [⟨g0, .str (Str.ofString "_StringIO__newline") u0, .str (Str.ofString "\n") tn⟩, ⟨g1, .str (Str.ofString "_StringIO__buf") u1, .str buf tb⟩, ⟨g2, .str (Str.ofString "_StringIO__pos") u2, .int 0 tp⟩] 3) :: (x, instObj 729 dx) :: (dx, dictOf [⟨h0, .str (Str.ofString "instream") t0, .ref a⟩, ⟨h1, .str (Str.ofString "infile") t1, .none⟩, ⟨h2, .str (Str.ofString "posix") t2, .bool true⟩, ⟨h3, .str (Str.ofString "eof") t3, .none⟩, ⟨h4, .str (Str.ofString "commenters") t4, .str (Str.ofString "#") s4⟩, ⟨h5, .str (Str.ofString "wordchars") t5, .str wcS s5⟩, ⟨h6, .str (Str.ofString "whitespace") t6, .str (Str.ofString " \t\r\n") s6⟩, ⟨h7, .str (Str.ofString "whitespace_split") t7, .bool false⟩, ⟨h8, .str (Str.ofString "quotes") t8, .str (Str.ofString "'\"") s8⟩, ⟨h9, .str (Str.ofString "escape") t9, .str (Str.ofString "\\") s9⟩, ⟨h10, .str (Str.ofString "escapedquotes") t10, .str (Str.ofString "\"") s10⟩, ⟨h11, .str (Str.ofString "state") t11, .str (Str.ofString " ") s11⟩, ⟨h12, .str (Str.ofString "pushback") t12, .ref pb⟩, ⟨h13, .str (Str.ofString "lineno") t13, .int 1 s13⟩, ⟨h14, .str (Str.ofString "debug") t14, .int 0 s14⟩, ⟨h15, .str (Str.ofString "token") t15, .str (Str.ofString "") s15⟩, ⟨h16, .str (Str.ofString "filestack") t16, .ref fs⟩, ⟨h17, .str (Str.ofString "source") t17, .none⟩, ⟨h18, .str (Str.ofString "_punctuation_chars") t18, .str (Str.ofString "") s18⟩] 19) :: news))
    (k : ∀ (hs hs' : Nat → Int × Tok) (ts : Nat → Tok) (tst tl tt : Tok), News g L h (lexL hs hs' ts tn tb buf x dx a d pb fs (stV .sp tst) 1 tl (Str.ofString "") tt 0 tp 0 [] ++ ((fs, dqO 0 []) :: news)) → P) : P := by
  refine k (fun i => match i with | 0 => (h0, t0) | 1 => (h1, t1) | 2 => (h2, t2) | 3 => (h3, t3) | 4 => (h4, t4) | 5 => (h5, t5) | 6 => (h6, t6) | 7 => (h7, t7) | 8 => (h8, t8) | 9 => (h9, t9) | 10 => (h10, t10) | 11 => (h11, t11) | 12 => (h12, t12) | 13 => (h13, t13) | 14 => (h14, t14) | 15 => (h15, t15) | 16 => (h16, t16) | 17 => (h17, t17) | _ => (h18, t18)) (fun i => match i with | 0 => (g0, u0) | 1 => (g1, u1) | _ => (g2, u2)) (fun i => match i with | 4 => s4 | 5 => s5 | 6 => s6 | 8 => s8 | 9 => s9 | 10 => s10 | 14 => s14 | _ => s18) s11 s13 s15 (News.sub N ?_)
  intro q hq
  simp only [List.cons_append, List.nil_append, List.mem_cons] at hq ⊢
  rcases hq with rfl | rfl | rfl | rfl | rfl | rfl | hq
  · exact .inr (.inr (.inr (.inr (.inl rfl))))
  · exact .inr (.inr (.inr (.inr (.inr (.inl rfl)))))
  · exact .inr (.inr (.inl rfl))
  · exact .inr (.inr (.inr (.inl rfl)))
  · exact .inr (.inl rfl)
  · exact .inl rfl
  · exact .inr (.inr (.inr (.inr (.inr (.inr hq)))))
section
variable {w : World} {s : Shared} {base h₀ : Heap} {A₀ : Around} {dp un : Nat} {outer : List Env} {L : Addr} {m : Str → Option Value} {p : Program} {loose : List Str} {mean : ExcName → Option Value} {mg mb : Str → Option Value}
  {nm : Str} {ns : List (Str × NameKind)} {ig ic : Bool} {mo : List (Str × Const)} {fa : Addr} {cd : Value} {news : List (Addr × Obj)} {R : Result → Shared → Prop}

theorem make_lexer {buf : Str} {tb : Tok} {E : Value → Shared → Prop} {Q : Value → Shared → Prop}
    (hdp : dp ≤ 400) (hu : un ≤ 3000) (hb : buf.length ≤ 1000)
    (B : Below A₀ h₀ outer h₀) (X₀ : (hd.heap_39 w.params).In h₀) (T : Top p loose mean mg mb h₀) (F : Fr h₀ L s.heap m)
    (N : News h₀ L s.heap news)
    (k : ∀ (x dx a d pb fs : Addr) (hs hs' : Nat → Int × Tok) (ts : Nat → Tok) (tn tst tl tt tp : Tok) (h' : Heap) (tk : Nat), Fr h₀ L h' m →
      News h₀ L h' (lexL hs hs' ts tn tb buf x dx a d pb fs (stV .sp tst) 1 tl (Str.ofString "") tt 0 tp 0 [] ++ ((fs, dqO 0 []) :: news)) →
      (∀ q ∈ news, q.1 < dx) → @LT.lt Nat _ dx x ∧ @LT.lt Nat _ x d ∧ @LT.lt Nat _ d a ∧ @LT.lt Nat _ a pb ∧ @LT.lt Nat _ pb fs → Q (.ref x) { s with heap := h', toks := tk }) :
    wpAny (model PySem.Challenge.pw_il0179_01 w) (Aat dp un (envOf nm ⟨.function, ns, ig, ic, mo⟩ L fa cd :: outer)) (PySem.call (.ref 729) [.str buf tb] [(Str.ofString "posix", .bool true)]) Q E s := by
  (repeat' (first | ((with_reducible show wpAny _ _ (PySem.call _ _ _) _ _ _); with_reducible (first | (((with_reducible show wpAny _ _ (PySem.call (Value.ref 594) _ _) _ _ _); k_dflt (refine' io_makeC ?ma ?mb ?mc ?md ?me ?mf ?mg ?_; (case ma => walk_at "m.un"); (case mb => walk_at "m.un"); (case mc => k_asm); (case md => k_asm); (case me => k_asm); (case mf => k_asm); (case mg => k_asm); intro x' d' h' tk' F' N' l1 l2; (try k_lt l1); (try k_lt2 l2); (try k_sweep); k_enter))) | ((with_reducible show wpAny _ _ (PySem.call (Value.type "collections.deque") _ _) _ _ _); k_dflt (refine' dq_make ?ma ?mb ?_; (case ma => k_asm); (case mb => k_asm); intro d' h' F' N' l1; (try k_lt l1); (try k_sweep))))) | walk_at "m.step"))
  rename Fr _ _ _ _ => F1
  rename News _ _ _ _ => N1
  refine lexD_news N1 fun hs hs' ts tst tl tt N2 => ?_
  refine k _ _ _ _ _ _ hs hs' ts _ tst tl tt _ _ _ F1 N2 (by assumption) ?_
  refine ⟨?_, ?_, ?_, ?_, ?_⟩ <;> omega
end
end PartF8
section PartP1
noncomputable def minded : List Nat := [9, 10, 13, 32, 34, 35, 39, 64, 91, 92, 93, 94, 96, 123, 124, 125, 126, 127, 215, 247]
noncomputable def adj (o : Nat) : Nat := if o ∈ minded ∨ (48 ≤ o ∧ o ≤ 57) then o ^^^ 128 else o
noncomputable def octN (x : Int) : Nat := adj (x % 256).toNat
noncomputable def gapN (x : Int) : Nat := (x / 256 % 6).toNat
noncomputable def gaps : Nat → List Nat
  | 0 => []
  | 1 => [32]
  | 2 => [9]
  | 3 => [13, 10]
  | 4 => [35, 66, 10]
  | _ => [10, 35, 32, 39, 65, 10]
noncomputable def isLet (c : Nat) : Bool := c &&& 64 != 0
noncomputable def textOf : List Int → List Nat
  | [] => []
  | x :: r => gaps (gapN x) ++ octN x :: textOf r
/-- the words, the one that goes on first -/
noncomputable def words : List Nat → List Int → List (List Nat)
  | [], [] => []
  | c :: t, [] => [c :: t]
  | [], x :: r => if isLet (octN x) = true then words [octN x] r else [octN x] :: words [] r
  | c :: t, x :: r => if isLet (octN x) = true then (if gapN x = 0 then words (c :: t ++ [octN x]) r else (c :: t) :: words [octN x] r) else (c :: t) :: [octN x] :: words [] r

noncomputable def okB (c : Nat) : Bool := (isLet c == wcS.cps.toList.contains c) && !([32, 9, 13, 10, 35, 39, 34, 92].contains c)
theorem adj_ok : ∀ o : Nat, o < 256 → okB (adj o) = true := by decide +kernel
theorem adj_class (o : Nat) (h : o < 256) : (isLet (adj o) = true ∧ isWd (adj o)) ∨ (isLet (adj o) = false ∧ isLn (adj o)) := by
  have e := adj_ok o h
  generalize adj o = c at e
  unfold okB at e
  simp only [Bool.and_eq_true, beq_iff_eq, Bool.not_eq_true', List.contains_eq_mem, decide_eq_false_iff_not, List.mem_cons, List.not_mem_nil, or_false, not_or] at e
  obtain ⟨e1, h1, h2, h3, h4, h5, h6, h7, h8⟩ := e
  by_cases hm : c ∈ wcS.cps.toList
  · rw [decide_eq_true hm] at e1
    exact .inl ⟨e1, hm, h1, h2, h3, h4, h5, h6, h7, h8⟩
  · rw [decide_eq_false hm] at e1
    exact .inr ⟨e1, hm, h1, h2, h3, h4, h5, h6, h7, h8⟩
theorem adj_lt : ∀ o : Nat, o < 256 → adj o < 256 := by decide +kernel
theorem mod_lt (x : Int) : (x % 256).toNat < 256 := by omega
theorem oct_class (x : Int) : (isLet (octN x) = true ∧ isWd (octN x)) ∨ (isLet (octN x) = false ∧ isLn (octN x)) := adj_class _ (mod_lt x)
theorem oct_lt (x : Int) : octN x < 256 := adj_lt _ (mod_lt x)
theorem gap_lt (x : Int) : gapN x < 6 := by unfold gapN; omega
theorem oct_ne (x : Int) : octN x ≠ 10 := by
  rcases oct_class x with ⟨_, h⟩ | ⟨_, h⟩
  · exact h.2.2.2.2.1
  · exact h.2.2.2.2.1

noncomputable def cnt (l : List Nat) : Nat := l.count 10
theorem rd_ln {k : Nat} {st tok r ln ln' o} (h : Rd k st tok r ln o) (e : ln = ln') : ∃ k, Rd k st tok r ln' o := e ▸ ⟨k, h⟩
/-- what lies ahead of a sign, in the state between the words -/
theorem rd_gap {k : Nat} {R : List Nat} {ln : Nat} {o : Out} (i : Nat) (h : Rd k .sp [] R (ln + cnt (gaps i)) o) : ∃ k, Rd k .sp [] (gaps i ++ R) ln o := by
  match i with
  | 0 => exact ⟨k, h⟩
  | 1 => exact ⟨k + 1, .ws0 (.inl rfl) h⟩
  | 2 => exact ⟨k + 1, .ws0 (.inr (.inl rfl)) h⟩
  | 3 => exact ⟨k + 1 + 1, .ws0 (.inr (.inr rfl)) (.nl0 rfl h)⟩
  | 4 => exact ⟨k + 1, .hs0 (l := [66]) rfl (by decide) h⟩
  | n + 5 => exact ⟨k + 1 + 1, .nl0 rfl (.hs0 (l := [32, 39, 65]) rfl (by decide) h)⟩
theorem rd_mid1 {k : Nat} {R : List Nat} {ln : Nat} {o : Out} (h : Rd k .sp [] R (ln + 1) o) : Rd (k + 1) .sp [] (10 :: R) ln o := .nl0 rfl h
theorem rd_mid5 {k : Nat} {R : List Nat} {ln : Nat} {o : Out} (h : Rd k .sp [] R (ln + 1) o) : Rd (k + 1) .sp [] (35 :: 32 :: 39 :: 65 :: 10 :: R) ln o := .hs0 (l := [32, 39, 65]) rfl (by decide) h

/-- a read, and the tokens behind it -/
noncomputable def Goes (st : LSt) (tok r : List Nat) (ln : Nat) (ts : List (List Nat)) (ln' : Nat) : Prop :=
  ∃ k o w t9, Rd k st tok r ln o ∧ o.res = some w ∧ ts = w :: t9 ∧ Toks o.st o.rest o.ln o.push t9 .dn [] ln' none
theorem Goes.toks {r : List Nat} {ln ln' : Nat} {ts : List (List Nat)} (h : Goes .sp [] r ln ts ln') : Toks .sp r ln none ts .dn [] ln' none := by
  obtain ⟨k, o, w, t9, hR, hr, rfl, hT⟩ := h
  have := Gt.read hR
  rw [hr] at this
  exact .step this hT
theorem Goes.gap {R : List Nat} {ln ln' : Nat} {ts : List (List Nat)} (i : Nat) (h : Goes .sp [] R (ln + cnt (gaps i)) ts ln') : Goes .sp [] (gaps i ++ R) ln ts ln' := by
  obtain ⟨k, o, w, t9, hR, hr, rfl, hT⟩ := h
  obtain ⟨k', hR'⟩ := rd_gap i hR
  exact ⟨k', o, w, t9, hR', hr, rfl, hT⟩
theorem Goes.mid1 {R : List Nat} {ln ln' : Nat} {ts : List (List Nat)} (h : Goes .sp [] R (ln + 1) ts ln') : Goes .sp [] (10 :: R) ln ts ln' := by
  obtain ⟨k, o, w, t9, hR, hr, rfl, hT⟩ := h
  exact ⟨_, o, w, t9, rd_mid1 hR, hr, rfl, hT⟩
theorem Goes.mid5 {R : List Nat} {ln ln' : Nat} {ts : List (List Nat)} (h : Goes .sp [] R (ln + 1) ts ln') : Goes .sp [] (35 :: 32 :: 39 :: 65 :: 10 :: R) ln ts ln' := by
  obtain ⟨k, o, w, t9, hR, hr, rfl, hT⟩ := h
  exact ⟨_, o, w, t9, rd_mid5 hR, hr, rfl, hT⟩
noncomputable def words1 (c : Nat) (r : List Int) : List (List Nat) := if isLet c = true then words [c] r else [c] :: words [] r
theorem cnt_cons_ne {c : Nat} (h : c ≠ 10) (l : List Nat) : cnt (c :: l) = cnt l := by simp [cnt, h]
theorem cnt_app (l l' : List Nat) : cnt (l ++ l') = cnt l + cnt l' := by simp [cnt]
theorem words_cons (x : Int) (r : List Int) : words [] (x :: r) = words1 (octN x) r := by rw [words]; rfl
theorem words_gap (c : Nat) (t : List Nat) (x : Int) (r : List Int) (h : gapN x ≠ 0) : words (c :: t) (x :: r) = (c :: t) :: words1 (octN x) r := by
  rw [words, words1]
  by_cases hl : isLet (octN x) = true
  · rw [if_pos hl, if_neg h, if_pos hl]
  · rw [if_neg hl, if_neg hl]

theorem toks_text : ∀ r : List Int,
    (∀ ln, Toks .sp (textOf r) ln none (words [] r) .dn [] (ln + cnt (textOf r)) none) ∧
    (∀ ln c t, Goes .wd (c :: t) (textOf r) ln (words (c :: t) r) (ln + cnt (textOf r))) := by
  intro r
  induction r with
  | nil =>
    refine ⟨fun ln => .done (.read (o := ⟨none, .dn, [], ln, none⟩) .end0), fun ln c t => ⟨0, ⟨some (c :: t), .dn, [], ln, none⟩, c :: t, [], .endW, rfl, rfl, ?_⟩⟩
    exact .done (.read (o := ⟨none, .dn, [], ln, none⟩) .dn)
  | cons x r ih =>
    obtain ⟨ihA, ihB⟩ := ih
    have one : ∀ ln, Goes .sp [] (octN x :: textOf r) ln (words1 (octN x) r) (ln + cnt (textOf r)) := by
      intro ln
      rcases oct_class x with ⟨h1, h2⟩ | ⟨h1, h2⟩
      · obtain ⟨k, o, w, t9, hR, hr, hw, hT⟩ := ihB ln (octN x) []
        refine ⟨k + 1, o, w, t9, .wd0 h2 hR, hr, ?_, hT⟩
        rw [words1, if_pos h1]; exact hw
      · refine ⟨0, ⟨some [octN x], .sp, textOf r, ln, none⟩, [octN x], words [] r, .ln0 h2, rfl, ?_, ihA ln⟩
        rw [words1, if_neg (by rw [h1]; decide)]
    have hcnt : cnt (textOf (x :: r)) = cnt (gaps (gapN x)) + cnt (textOf r) := by
      rw [textOf, cnt_app, cnt_cons_ne (oct_ne x)]
    refine ⟨fun ln => ?_, fun ln c t => ?_⟩
    · rw [words_cons, hcnt, textOf, ← Nat.add_assoc]
      exact ((one _).gap _).toks
    · rw [hcnt, ← Nat.add_assoc, textOf]
      by_cases hg : gapN x = 0
      · rw [hg]
        show Goes .wd (c :: t) (octN x :: textOf r) ln _ (ln + 0 + _)
        rw [Nat.add_zero]
        rcases oct_class x with ⟨h1, h2⟩ | ⟨h1, h2⟩
        · obtain ⟨k, o, w, t9, hR, hr, hw, hT⟩ := ihB ln c (t ++ [octN x])
          refine ⟨k + 1, o, w, t9, .wdW h2 hR, hr, ?_, hT⟩
          rw [words, if_pos h1, if_pos hg]; exact hw
        · refine ⟨0, ⟨some (c :: t), .sp, textOf r, ln, some (octN x)⟩, c :: t, [octN x] :: words [] r, .lnW h2, rfl, ?_, .step .pop (ihA ln)⟩
          rw [words, if_neg (by rw [h1]; decide)]
      · rw [words_gap _ _ _ _ hg]
        have hlt := gap_lt x
        generalize gapN x = i at hg hlt
        match i, hg, hlt with
        | 1, _, _ =>
          exact ⟨0, ⟨some (c :: t), .sp, octN x :: textOf r, ln, none⟩, c :: t, _, .wsW (.inl rfl), rfl, rfl, (one ln).toks⟩
        | 2, _, _ =>
          exact ⟨0, ⟨some (c :: t), .sp, octN x :: textOf r, ln, none⟩, c :: t, _, .wsW (.inr (.inl rfl)), rfl, rfl, (one ln).toks⟩
        | 3, _, _ =>
          exact ⟨0, ⟨some (c :: t), .sp, 10 :: octN x :: textOf r, ln, none⟩, c :: t, _, .wsW (.inr (.inr rfl)), rfl, rfl, ((one (ln + 1)).mid1).toks⟩
        | 4, _, _ =>
          exact ⟨0, ⟨some (c :: t), .sp, octN x :: textOf r, ln + 1, none⟩, c :: t, _, .hsW (l := [66]) rfl (by decide), rfl, rfl, (one (ln + 1)).toks⟩
        | 5, _, _ =>
          exact ⟨0, ⟨some (c :: t), .sp, 35 :: 32 :: 39 :: 65 :: 10 :: octN x :: textOf r, ln + 1, none⟩, c :: t, _, .nlW rfl, rfl, rfl, ((one (ln + 1 + 1)).mid5).toks⟩
end PartP1
section PartC1
theorem oct_table : ∀ o : Nat, o < 256 → (minded.map Int.ofNat).any (fun y => y == (o : Int)) = true → Builtin.bitXor (o : Int) 128 = (adj o : Int) := by decide +kernel
theorem oct_figs : ∀ o : Nat, o < 256 → (48 : Int) ≤ o → (o : Int) ≤ 57 → Builtin.bitXor (o : Int) 128 = (adj o : Int) := by decide +kernel
theorem oct_else : ∀ o : Nat, o < 256 → (minded.map Int.ofNat).any (fun y => y == (o : Int)) = false → ¬ ((48 : Int) ≤ o ∧ (o : Int) ≤ 57) → (o : Int) = (adj o : Int) := by decide +kernel
theorem fmod_pos (x n : Int) (h : 0 < n) : x.fmod n = x % n := Int.fmod_eq_emod_of_nonneg x (Int.le_of_lt h)
theorem oct_nat (x : Int) : x.fmod 256 = (((x % 256).toNat : Nat) : Int) := by rw [fmod_pos x 256 (by decide)]; omega
theorem octV1 {x : Int} (h : ([9, 10, 13, 32, 34, 35, 39, 64, 91, 92, 93, 94, 96, 123, 124, 125, 126, 127, 215, 247] : List Int).any (fun y => y == x.fmod 256) = true) : Builtin.bitXor (x.fmod 256) 128 = (octN x : Int) := by
  rw [oct_nat] at h ⊢
  exact oct_table _ (mod_lt x) h
theorem octV2 {x : Int} (h1 : 48 ≤ x.fmod 256) (h2 : x.fmod 256 ≤ 57) : Builtin.bitXor (x.fmod 256) 128 = (octN x : Int) := by
  rw [oct_nat] at h1 h2 ⊢
  exact oct_figs _ (mod_lt x) h1 h2
theorem octV3 {x : Int} (h : ([9, 10, 13, 32, 34, 35, 39, 64, 91, 92, 93, 94, 96, 123, 124, 125, 126, 127, 215, 247] : List Int).any (fun y => y == x.fmod 256) = false) (h2 : ¬ (48 ≤ x.fmod 256 ∧ x.fmod 256 ≤ 57)) : x.fmod 256 = (octN x : Int) := by
  rw [oct_nat] at h h2 ⊢
  exact oct_else _ (mod_lt x) h h2
section
variable {w : World} {dp un : Nat} {s : Shared} {base g : Heap} {fr : List Env} {p : Program} {loose : List Str} {mean : ExcName → Option Value} {mg mb : Str → Option Value}
theorem c_octet {x : Int} {tx : Tok} (hd : dp ≤ 600) (hu : un ≤ 5000)
    (G : Gd w (Aat dp un fr) base fr p loose mean mg mb g s.heap []) :
    codeAny (model PySem.Challenge.pw_il0179_01 w) (Aat dp un fr) (.call (.ref 763) ⟨[.int x tx], []⟩) (Post g (fun v n => n = [] ∧ ∃ t, v = .int (octN x : Int) t) s) s := by
  walk_at "m.enter"
  walk_at "m.steps"
  all_goals (try dsimp only)
  · rename (List.any _ _ = _) => h1
    rw [octV1 h1]
    exact Post.intro (by k_asm) (by k_asm) (List.forall_mem_nil _) ⟨rfl, _, rfl⟩
  · rename (48 ≤ _) => h1
    rename (_ ≤ (57 : Int)) => h2
    rw [octV2 h1 h2]
    exact Post.intro (by k_asm) (by k_asm) (List.forall_mem_nil _) ⟨rfl, _, rfl⟩
  · rename (List.any _ _ = _) => h0
    rename (¬ _ ≤ (57 : Int)) => h2
    rw [octV3 h0 (fun h => h2 h.2)]
    exact Post.intro (by k_asm) (by k_asm) (List.forall_mem_nil _) ⟨rfl, _, rfl⟩
  · rename (List.any _ _ = _) => h0
    rename (¬ 48 ≤ _) => h2
    rw [octV3 h0 (fun h => h2 h.1)]
    exact Post.intro (by k_asm) (by k_asm) (List.forall_mem_nil _) ⟨rfl, _, rfl⟩
noncomputable abbrev gapO (t0 t1 t2 t3 t4 t5 : Tok) : Obj := listOf #[.str (Str.ofString "") t0, .str (Str.ofString " ") t1, .str (Str.ofString "\t") t2, .str (Str.ofString "\r\n") t3, .str (Str.ofString "#B\n") t4, .str (Str.ofString "\n# 'A\n") t5] 0
theorem c_gaps (hd : dp ≤ 600) (hu : un ≤ 5000)
    (G : Gd w (Aat dp un fr) base fr p loose mean mg mb g s.heap []) :
    codeAny (model PySem.Challenge.pw_il0179_01 w) (Aat dp un fr) (.call (.ref 756) ⟨[], []⟩) (Post g (fun v n => ∃ l t0 t1 t2 t3 t4 t5, v = .ref l ∧ n = [(l, gapO t0 t1 t2 t3 t4 t5)]) s) s := by
  walk_at "m.enter"
  walk_at "m.steps"
  all_goals (try dsimp only)
  exact Post.intro (by k_asm) (by k_asm) (fun _ h => h) ⟨_, _, _, _, _, _, _, rfl, rfl⟩
end
end PartC1
section PartLIt
/-- a list's iterator, at place i; and one that is spent -/
noncomputable abbrev liO (l : Addr) (i : Nat) : Obj := { cls := .type "list_iterator", data := .fields #[.ref l, .int i 0] }
noncomputable abbrev liE (i : Nat) : Obj := { cls := .type "list_iterator", data := .fields #[.none, .int i 0] }
section
variable {prog : Program} {w : World} {A : Around} {E : Value → Shared → Prop} {s : Shared} {it l : Addr} {i : Nat}
theorem ownMembers_stop : ownMembersOf (.type "StopIteration") [] = #[] := by
  unfold ownMembersOf
  split <;> first | rfl | (rename_i h; revert h; decide) | simp_all
theorem stopIter_throws {α : Type} {M : Model} {Q : α → Shared → Prop} (hh : A.handled = none)
    (h : ∀ h' e, Heap.NewExc s.heap h' e "StopIteration" → E (.ref e) { s with heap := h' }) :
    wpAny M A (Builtin.SmallTypes.stopIteration : Sem α) Q E s := by
  unfold Builtin.SmallTypes.stopIteration
  show wpAny _ _ (newExc (.type "StopIteration") [] >>= _) _ _ _
  refine wpAny_bind ?_
  simp only [newExc, newTuple]
  refine wpAny_bind (wpAny_newObj_type ?_ (by size_fits))
  refine wpAny_bind (m := firstArgMember _ _) (wpAny_of_eq (a := Value.none) (by first | rfl | (simp only [firstArgMember]; rfl)) ?_)
  refine wpAny_newObj_type ?_ (by size_fits)
  simp only [raiseNew]
  refine wpAny_bind (wpAny_handled ?_)
  rw [hh]
  first
    | refine wpAny_throw ?_
    | refine wpAny_bind (wpAny_pure (wpAny_throw ?_))
  exact h _ _ ⟨fun b o hb => Heap.get?_push_of_some _ (Heap.get?_push_of_some _ hb), Heap.get?_none_of_le (by simp), _, .ref s.heap.objs.size, Heap.get?_push_size _ rfl, rfl, by rw [ownMembers_stop]; simp⟩

theorem li_item {items : Array Value} {x : Value} {c : Nat} {Q : Option Value → Shared → Prop} (ho : s.heap.get? it = some (liO l i)) (hol : s.heap.get? l = some (listOf items c)) (hx : items[i]? = some x)
    (hQ : ∀ h', h'.get? it = some (liO l (i + 1)) → Heap.SameBut it s.heap h' → Q (some x) { s with heap := h' }) :
    wpAny (model prog w) A (callSpecial? (.ref it) (Str.ofString "__next__")) Q E s := by
  have hit : s.heap.IsListIter it l i := ⟨_, ho, rfl, rfl⟩
  refine wpAny_callSpecial?_slot (name := Str.ofString "__next__") hit.typeIs slot_listiter_next
    (wpAny_call_entry slot_listiter_next hit.typeIs entry_listiter_next ?_ (args_listiter_next _))
  show wpAny _ _ (field (.ref it) 0 >>= _) _ _ s
  refine wpAny_bind (wpAny_field ho rfl (x := .ref l) rfl ?_)
  show wpAny _ _ (if (Value.ref l == Value.none) = true then _ else _) _ _ s
  rw [if_neg (show ¬ ((Value.ref l == Value.none) = true) from Bool.false_ne_true)]
  show wpAny _ _ (field (.ref it) 1 >>= _) _ _ s
  refine wpAny_bind (wpAny_field ho rfl (x := .int i 0) rfl ?_)
  show wpAny _ _ (seqItems? (.ref l) >>= _) _ _ s
  refine wpAny_bind (wpAny_seqItems hol rfl ?_)
  simp only [Int.toNat_natCast, hx]
  refine wpAny_bind (wpAny_setField ho rfl (by simp) (wpAny_pure ⟨x, rfl, hQ _ ?_ (Heap.SameBut.update ..)⟩))
  rw [Heap.get?_update_self _ ho rfl]
  simp [Obj.mapFields, rawInt]

theorem li_end {items : Array Value} {c : Nat} {Q : Option Value → Shared → Prop} (hh : A.handled = none) (ho : s.heap.get? it = some (liO l i)) (hol : s.heap.get? l = some (listOf items c)) (hx : items[i]? = none)
    (hE : ∀ h₁ h' e, h₁.get? it = some (liE i) → Heap.SameBut it s.heap h₁ → Heap.NewExc h₁ h' e "StopIteration" → E (.ref e) { s with heap := h' }) :
    wpAny (model prog w) A (callSpecial? (.ref it) (Str.ofString "__next__")) Q E s := by
  have hit : s.heap.IsListIter it l i := ⟨_, ho, rfl, rfl⟩
  refine wpAny_callSpecial?_slot (name := Str.ofString "__next__") hit.typeIs slot_listiter_next
    (wpAny_call_entry slot_listiter_next hit.typeIs entry_listiter_next ?_ (args_listiter_next _))
  show wpAny _ _ (field (.ref it) 0 >>= _) _ _ s
  refine wpAny_bind (wpAny_field ho rfl (x := .ref l) rfl ?_)
  show wpAny _ _ (if (Value.ref l == Value.none) = true then _ else _) _ _ s
  rw [if_neg (show ¬ ((Value.ref l == Value.none) = true) from Bool.false_ne_true)]
  show wpAny _ _ (field (.ref it) 1 >>= _) _ _ s
  refine wpAny_bind (wpAny_field ho rfl (x := .int i 0) rfl ?_)
  show wpAny _ _ (seqItems? (.ref l) >>= _) _ _ s
  refine wpAny_bind (wpAny_seqItems hol rfl ?_)
  simp only [Int.toNat_natCast, hx]
  refine wpAny_bind (wpAny_rule (wpAny_bind (wpAny_setField ho rfl (by simp) ?_)))
  refine stopIter_throws hh fun h' e hx => ?_
  refine hE _ h' e ?_ (Heap.SameBut.update ..) hx
  rw [Heap.get?_update_self _ ho rfl]
  simp [Obj.mapFields]

theorem li_spent {Q : Option Value → Shared → Prop} (hh : A.handled = none) (ho : s.heap.get? it = some (liE i))
    (hE : ∀ h' e, Heap.NewExc s.heap h' e "StopIteration" → E (.ref e) { s with heap := h' }) :
    wpAny (model prog w) A (callSpecial? (.ref it) (Str.ofString "__next__")) Q E s := by
  have hT : s.TypeIs (.ref it) "list_iterator" := ⟨_, ho, rfl⟩
  refine wpAny_callSpecial?_slot (name := Str.ofString "__next__") hT slot_listiter_next
    (wpAny_call_entry slot_listiter_next hT entry_listiter_next ?_ (args_listiter_next _))
  show wpAny _ _ (field (.ref it) 0 >>= _) _ _ s
  refine wpAny_bind (wpAny_field ho rfl (x := .none) rfl ?_)
  show wpAny _ _ (if (Value.none == Value.none) = true then _ else _) _ _ s
  rw [if_pos (show ((Value.none == Value.none) = true) from rfl)]
  refine wpAny_bind (wpAny_rule ?_)
  refine wpAny_bind (stopIter_throws hh fun h' e hx => ?_)
  exact hE h' e hx

theorem li_looks (ho : s.heap.get? it = some (liO l i)) : s.TypeIs (.ref it) "list_iterator" := ⟨_, ho, rfl⟩
theorem li_lookE (ho : s.heap.get? it = some (liE i)) : s.TypeIs (.ref it) "list_iterator" := ⟨_, ho, rfl⟩
/-- next(row), from what __next__ does -/
theorem next_of {Q : Value → Shared → Prop} (hT : s.TypeIs (.ref it) "list_iterator")
    (h : wpAny (model prog w) A.in1 (callSpecial? (.ref it) (Str.ofString "__next__")) (fun r s' => ∃ v, r = some v ∧ Q v s') E s) :
    wpAny (model prog w) A (call (.builtin "next") [.ref it]) Q E s := by
  refine call_function_entry (by decide +kernel) (by decide +kernel) kdk_entry_next (kdk_args_next _) ?_
  unfold Builtin.«next»
  refine wpAny_bind (m := someArgs "next" 1 2 _) (wpAny_of_eq (a := [Value.ref it]) (by first | rfl | kernel_rfl!) ?_)
  dsimp only
  refine wpAny_bind (wpAny_specialOf (name := Str.ofString "__next__") hT slot_listiter_next.lookup ?_)
  refine wpAny_ite_split (fun hab => absurd hab (by decide)) (fun _ => ?_)
  refine wpAny_bind (wpAny_mono h (fun r s' hr => ?_) fun _ _ e => e)
  obtain ⟨v, rfl, hq⟩ := hr
  exact wpAny_pure ⟨_, rfl, hq⟩
/-- the machine's step to the next item of a loop -/
theorem pyNext_of {Q : Option Value → Shared → Prop}
    (h : wpAny (model prog w) A (callSpecial? (.ref it) (Str.ofString "__next__")) (fun r s' => ∃ v, r = some v ∧ Q r s') (fun e s' => ∃ a, e = .ref a ∧ s'.TypeIs (.ref a) "StopIteration" ∧ Q none s') s) :
    wpAny (model prog w) A (pyNext (.ref it)) Q E s := by
  unfold pyNext
  refine wpAny_bind (wpAny_attempt (wpAny_mono h (fun r s' hr => ?_) fun e s' he => ?_))
  · obtain ⟨v, rfl, hq⟩ := hr
    exact wpAny_pure hq
  · obtain ⟨a, rfl, hT, hq⟩ := he
    refine wpAny_bind (wpAny_isInstance (T := "StopIteration") (b := true) hT isSubtype_stop ?_)
    exact wpAny_pure hq
theorem newExc_is {h h' : Heap} {e : Addr} {c : String} (x : Heap.NewExc h h' e c) : ({ s with heap := h' } : Shared).TypeIs (.ref e) c := let ⟨ob, _, a, b, _⟩ := x.there; ⟨ob, a, b⟩

variable {h₀ : Heap} {L : Addr} {m : Str → Option Value} {news news' : List (Addr × Obj)} {items : Array Value} {c : Nat}
theorem next_item_K {x : Value} {Q : Value → Shared → Prop} (F : Fr h₀ L s.heap m) (N : News h₀ L s.heap news) (hl : (l, listOf items c) ∈ news) (U : Upd it (liO l i) (liO l (i + 1)) news news') (hx : items[i]? = some x)
    (h : ∀ h', Fr h₀ L h' m → News h₀ L h' news' → Q x { s with heap := h' }) : wpAny (model prog w) A (call (.builtin "next") [.ref it]) Q E s := by
  obtain ⟨pre, post, rfl, rfl, p1, p2⟩ := U.split
  have z := N (it, liO l i) (List.mem_append.mpr (.inr (.head _)))
  exact next_of (li_looks z.1) (li_item z.1 (N _ hl).1 hx fun h' hg hs => ⟨_, rfl, h h' (F.change hs z.2.1 z.2.2) (news_set N p1 p2 hs hg)⟩)
theorem next_end_K {Q : Value → Shared → Prop} (hh : A.handled = none) (F : Fr h₀ L s.heap m) (N : News h₀ L s.heap news) (hl : (l, listOf items c) ∈ news) (U : Upd it (liO l i) (liE i) news news') (hx : items[i]? = none)
    (h : ∀ h₁ h' e, Fr h₀ L h₁ m → News h₀ L h₁ news' → Heap.NewExc h₁ h' e "StopIteration" → E (.ref e) { s with heap := h' }) : wpAny (model prog w) A (call (.builtin "next") [.ref it]) Q E s := by
  obtain ⟨pre, post, rfl, rfl, p1, p2⟩ := U.split
  have z := N (it, liO l i) (List.mem_append.mpr (.inr (.head _)))
  exact next_of (li_looks z.1) (li_end (show A.in1.handled = none from hh) z.1 (N _ hl).1 hx fun h₁ h' e hg hs hx => h h₁ h' e (F.change hs z.2.1 z.2.2) (news_set N p1 p2 hs hg) hx)
theorem next_spent_K {Q : Value → Shared → Prop} (hh : A.handled = none) (F : Fr h₀ L s.heap m) (N : News h₀ L s.heap news) (hi : (it, liE i) ∈ news) 
    (h : ∀ h' e, Fr h₀ L s.heap m → News h₀ L s.heap news → Heap.NewExc s.heap h' e "StopIteration" → E (.ref e) { s with heap := h' }) : wpAny (model prog w) A (call (.builtin "next") [.ref it]) Q E s := by
  have z := N _ hi
  exact next_of (li_lookE z.1) (li_spent (show A.in1.handled = none from hh) z.1 fun h' e hx => h h' e F N hx)
/-- iter(list) -/
theorem iter_list_K {Q : Value → Shared → Prop} (F : Fr h₀ L s.heap m) (N : News h₀ L s.heap news) (hl : (l, listOf items c) ∈ news)
    (h : ∀ (I : Addr) h', Fr h₀ L h' m → News h₀ L h' ((I, liO l 0) :: news) → (∀ p ∈ news, p.1 < I) → Q (.ref I) { s with heap := h' }) :
    wpAny (model prog w) A (call (.builtin "iter") [.ref l]) Q E s := by
  refine call_function_entry (by decide +kernel) (by decide +kernel) kdk_entry_iter (kdk_args_iter _) ?_
  unfold Builtin.«iter»
  refine wpAny_bind (m := someArgs "iter" 1 2 _) (wpAny_of_eq (a := [Value.ref l]) (by first | rfl | kernel_rfl!) ?_)
  show wpAny _ _ (pyIter (.ref l) >>= _) _ _ _
  have hl' : s.heap.IsList l items := ⟨_, (N _ hl).1, rfl, _, rfl⟩
  refine wpAny_bind (wpAny_pyIter_list hl' ?_)
  exact wpAny_pure ⟨_, rfl, h _ _ (F.push _) (News.push F N _ rfl) (fun q hq => Heap.lt_size (N q hq).1)⟩
/-- iter(iterator) -/
theorem iter_li_K {Q : Value → Shared → Prop} (N : News h₀ L s.heap news) (hl : (it, liO l i) ∈ news) (h : Q (.ref it) s) :
    wpAny (model prog w) A (call (.builtin "iter") [.ref it]) Q E s := by
  refine call_function_entry (by decide +kernel) (by decide +kernel) kdk_entry_iter (kdk_args_iter _) ?_
  unfold Builtin.«iter»
  refine wpAny_bind (m := someArgs "iter" 1 2 _) (wpAny_of_eq (a := [Value.ref it]) (by first | rfl | kernel_rfl!) ?_)
  show wpAny _ _ (pyIter (.ref it) >>= _) _ _ _
  have hit : s.heap.IsListIter it l i := ⟨_, (N _ hl).1, rfl, rfl⟩
  refine wpAny_bind (wpAny_pyIter_listiter hit ?_)
  exact wpAny_pure ⟨_, rfl, h⟩
end
end PartLIt
section PartForL
section
variable {prog : Program} {w : World} {A : Around} {E : Value → Shared → Prop} {s : Shared} {env : Env} {h₀ : Heap} {L : Addr} {m : Str → Option Value} {news : List (Addr × Obj)}

noncomputable def ForEnd (h₀ : Heap) (L : Addr) (s : Shared) (J : (Str → Option Value) → List (Addr × Obj) → Prop) (Q : Flow → Shared → Prop) (I : Addr) (oI : Obj) (l : Addr) (ol : Obj) (f : Flow) (s₃ : Shared) : Prop :=
  match f with
  | .next | .cont => ∃ h' tk m₂ news₂, s₃ = { s with heap := h', toks := tk } ∧ Fr h₀ L h' m₂ ∧ News h₀ L h' ((I, oI) :: (l, ol) :: news₂) ∧ (∀ p ∈ news₂, p.1 ≠ I) ∧ J m₂ news₂
  | .brk => Q .next s₃
  | .ret v => Q (.ret v) s₃
theorem ForEnd.next {J : (Str → Option Value) → List (Addr × Obj) → Prop} {Q : Flow → Shared → Prop} {I l : Addr} {oI ol : Obj} {h' : Heap} {tk : Nat} {m₂ : Str → Option Value} {news₂ : List (Addr × Obj)}
    (F : Fr h₀ L h' m₂) (N : Held (∃ news₂, News h₀ L h' ((I, oI) :: (l, ol) :: news₂) ∧ (∀ p ∈ news₂, p.1 ≠ I) ∧ J m₂ news₂)) : ForEnd h₀ L s J Q I oI l ol .next { s with heap := h', toks := tk } :=
  let ⟨n, a, b, c⟩ := N; ⟨h', tk, m₂, n, rfl, F, a, b, c⟩

/-- the loop over a list's iterator that stands in the ledger -/
theorem for_iter {Q : Flow → Shared → Prop} {x : Str} {px : Pos} {body : List Stmt} {I l : Addr} {vs : List Value} {c i₀ : Nat} (J : Nat → (Str → Option Value) → List (Addr × Obj) → Prop)
    (hx : env.kindOf x = some .local) (hp : (env.scope.kind == .class || (env.scope.kind == .module && env.locals != env.globals)) = false) (hh : A.handled = none) (hIl : l ≠ I) (hi₀ : i₀ ≤ vs.length)
    (F : Fr h₀ env.locals s.heap m) (N : News h₀ env.locals s.heap ((I, liO l i₀) :: (l, listOf vs.toArray c) :: news)) (hI : ∀ p ∈ news, p.1 ≠ I) (h0 : J i₀ m news)
    (turn : ∀ i v m₁ news₁ h₁ tk₁, vs[i]? = some v → J i m₁ news₁ → (∀ p ∈ news₁, p.1 ≠ I) → Fr h₀ env.locals h₁ (fun y => if y = x then some v else m₁ y) → News h₀ env.locals h₁ ((I, liO l (i + 1)) :: (l, listOf vs.toArray c) :: news₁) →
      wpAny (model prog w) A (execs body env) (ForEnd h₀ env.locals s (J (i + 1)) Q I (liO l (i + 1)) l (listOf vs.toArray c)) E { s with heap := h₁, toks := tk₁ })
    (done : ∀ m₁ news₁ h₁ tk₁, J vs.length m₁ news₁ → Fr h₀ env.locals h₁ m₁ → News h₀ env.locals h₁ ((I, liE vs.length) :: (l, listOf vs.toArray c) :: news₁) → Q .next { s with heap := h₁, toks := tk₁ })
    (hE : PassesOwn (model prog w) A env E) :
    codeAny (model prog w) A (.forLoop (.Name x px) (.ref I) body [] env) (fun r s' => match r with | .ok f => Q f s' | .error e => cameBackBy (model prog w) A env E e s') s := by
  refine codeAny_forLoop
    (fun k s' => ∃ h' tk m' news' i, s' = { s with heap := h', toks := tk } ∧ Fr h₀ env.locals h' m' ∧ News h₀ env.locals h' ((I, liO l i) :: (l, listOf vs.toArray c) :: news') ∧ (∀ p ∈ news', p.1 ≠ I) ∧ J i m' news' ∧ i ≤ vs.length ∧ k = vs.length + 1 - i) ?_ (vs.length + 1 - i₀)
    ⟨s.heap, s.toks, m, news, i₀, rfl, F, N, hI, h0, hi₀, rfl⟩
  rintro k s' ⟨h', tk, m', news', i, rfl, F', N', hI', hJ, hi, rfl⟩
  have zI := N' (I, liO l i) (.head _)
  have zl := N' (l, listOf vs.toArray c) (.tail _ (.head _))
  have apart : ∀ p ∈ (l, listOf vs.toArray c) :: news', p.1 ≠ I := fun p hp => by
    rcases List.mem_cons.mp hp with rfl | hp
    · exact hIl
    · exact hI' p hp
  by_cases hlt : i < vs.length
  · refine pyNext_of (li_item (x := vs[i]) zI.1 zl.1 (by simp [hlt]) fun h₁ hg hs => ⟨_, rfl, ?_⟩)
    have F₁ := F'.change hs zI.2.1 zI.2.2
    have N₁ := news_set (pre := []) N' (fun _ h => (nomatch h)) apart hs hg
    refine wpAny_assign_Name (wpAny_storeName_local hx F₁.ns (fun h₂ hn₂ hs₂ => ?_) hp)
    have F₂ := F₁.set hn₂ hs₂
    have N₂ := N₁.set hs₂
    refine wpAny_passesOwn hE (wpAny_mono (turn i vs[i] m' news' h₂ _ (by simp [hlt]) hJ hI' F₂ N₂) (fun f s₃ h₃ => ?_) fun _ _ e => e)
    cases f with
    | ret v => exact h₃
    | brk => exact h₃
    | cont =>
      obtain ⟨h₃', tk₃, m₂, news₂, rfl, F₃, N₃, ha₃, hJ₃⟩ := h₃
      exact ⟨vs.length + 1 - (i + 1), by omega, h₃', tk₃, m₂, news₂, i + 1, rfl, F₃, N₃, ha₃, hJ₃, hlt, rfl⟩
    | next =>
      obtain ⟨h₃', tk₃, m₂, news₂, rfl, F₃, N₃, ha₃, hJ₃⟩ := h₃
      exact ⟨vs.length + 1 - (i + 1), by omega, h₃', tk₃, m₂, news₂, i + 1, rfl, F₃, N₃, ha₃, hJ₃, hlt, rfl⟩
  · have hin : i = vs.length := by omega
    subst hin
    refine pyNext_of (li_end hh zI.1 zl.1 (by simp) fun h₁ h₂ e hg hs hx => ⟨e, rfl, newExc_is hx, wpAny_execs_nil ?_⟩)
    have F₁ := F'.change hs zI.2.1 zI.2.2
    have N₁ := news_set (pre := []) N' (fun _ h => (nomatch h)) apart hs hg
    exact done m' news' h₂ tk hJ (F₁.keeps hx.keeps) (N₁.grown hx.keeps)

/-- for x in l: .. -/
theorem for_list {Q : Flow → Shared → Prop} {x : Str} {px pos : Pos} {iter : Expr} {body : List Stmt} {l : Addr} {vs : List Value} {c : Nat} (J : Nat → (Str → Option Value) → List (Addr × Obj) → Prop)
    (hx : env.kindOf x = some .local) (hp : (env.scope.kind == .class || (env.scope.kind == .module && env.locals != env.globals)) = false) (hh : A.handled = none)
    (hi : ∀ E' Q', Q' (.ref l) s → wpAny (model prog w) A (eval iter env) Q' E' s)
    (F : Fr h₀ env.locals s.heap m) (N : News h₀ env.locals s.heap ((l, listOf vs.toArray c) :: news)) (h0 : J 0 m news)
    (turn : ∀ I i v m₁ news₁ h₁ tk₁, vs[i]? = some v → J i m₁ news₁ → l ≠ I → (∀ p ∈ news₁, p.1 ≠ I) → Fr h₀ env.locals h₁ (fun y => if y = x then some v else m₁ y) → News h₀ env.locals h₁ ((I, liO l (i + 1)) :: (l, listOf vs.toArray c) :: news₁) →
      wpAny (model prog w) A (execs body env) (ForEnd h₀ env.locals s (J (i + 1)) Q I (liO l (i + 1)) l (listOf vs.toArray c)) E { s with heap := h₁, toks := tk₁ })
    (done : ∀ m₁ news₁ h₁ tk₁, J vs.length m₁ news₁ → Fr h₀ env.locals h₁ m₁ → News h₀ env.locals h₁ ((l, listOf vs.toArray c) :: news₁) → Q .next { s with heap := h₁, toks := tk₁ })
    (hE : PassesOwn (model prog w) A env E)
    (hs : ∀ x, foldedSetIterable iter env x = pure x := by intro _; rfl) :
    wpAny (model prog w) A (exec (.For (.Name x px) iter body [] pos) env) Q E s := by
  refine wpAny_For (hi _ _ ?_) hs
  have zl := N (l, listOf vs.toArray c) (.head _)
  refine wpAny_pyIter_list ⟨_, zl.1, rfl, _, rfl⟩ ?_
  have lt : ∀ p ∈ (l, listOf vs.toArray c) :: news, p.1 ≠ s.heap.objs.size := fun p hp => Nat.ne_of_lt (Heap.lt_size (N p hp).1)
  refine for_iter (s := { s with heap := s.heap.push _ }) (I := s.heap.objs.size) J hx hp hh (lt _ (.head _)) (Nat.zero_le _) (F.push _) (News.push F N _ rfl) (fun p hp => lt p (.tail _ hp)) h0 ?_ ?_ hE
  · intro i v m₁ news₁ h₁ tk₁ hv hJ ha F₁ N₁
    exact turn _ i v m₁ news₁ h₁ tk₁ hv hJ (lt _ (.head _)) ha F₁ N₁
  · intro m₁ news₁ h₁ tk₁ hJ F₁ N₁
    exact done m₁ news₁ h₁ tk₁ hJ F₁ (fun p hp => N₁ p (.tail _ hp))
end
end PartForL
section PartSetL
section
variable {prog : Program} {w : World} {A : Around} {E : Value → Shared → Prop} {s : Shared} {h₀ : Heap} {L D : Addr} {m : Str → Option Value} {news news' : List (Addr × Obj)} {us : List Value} {n : Nat} {x y : Value} {t : Tok}
theorem setLast_K {Q : Unit → Shared → Prop} (F : Fr h₀ L s.heap m) (N : News h₀ L s.heap news) (U : Upd D (listOf (us ++ [y]).toArray n) (listOf (us ++ [x]).toArray n) news news')
    (h : ∀ h', Fr h₀ L h' m → News h₀ L h' news' → Q () { s with heap := h' }) :
    wpAny (model prog w) A (setItem (.ref D) (.int (-1) t) x) Q E s := by
  obtain ⟨pre, post, rfl, rfl, a, b⟩ := U.split
  have z := N (D, listOf (us ++ [y]).toArray n) (List.mem_append.mpr (.inr (.head _)))
  have hs : (us ++ [y]).toArray.size = us.length + 1 := by simp
  refine ki_setBack z.1 (by decide) (by omega) (by decide) (h _ (F.change (Heap.SameBut.update ..) z.2.1 z.2.2) (ki_turn _ N a b ?_ ?_))
  · show (us ++ [y]).toArray.setIfInBounds ((-1 : Int) + ((us ++ [y]).toArray.size : Int)).toNat x = (us ++ [x]).toArray
    rw [hs, show ((-1 : Int) + ((us.length + 1 : Nat) : Int)).toNat = us.length from by omega]
    apply Array.toList_inj.mp
    simp
  · simp
theorem getLast_K {Q : Value → Shared → Prop} (N : News h₀ L s.heap news) (hm : (D, listOf (us ++ [y]).toArray n) ∈ news) (h : Q y s) : wpAny (model prog w) A (getItem (.ref D) (.int (-1) t)) Q E s := by
  have hl : s.heap.IsList D (us ++ [y]).toArray := PySem.IsL.isList (n := n) (N _ hm).1
  have hs : (us ++ [y]).toArray.size = us.length + 1 := by simp
  refine wpAny_getItem_list_neg hl (by decide) (by rw [hs]; omega) (by decide) ?_ h
  rw [hs, show ((-1 : Int) + ((us.length + 1 : Nat) : Int)).toNat = us.length from by omega]
  simp
theorem appendL {Q : Value → Shared → Prop} (F : Fr h₀ L s.heap m) (N : News h₀ L s.heap news) (hz : us.length ≤ 900) (U : Upd D (listOf us.toArray n) (listOf (us ++ [x]).toArray (n + 1)) news news')
    (h : ∀ h', Fr h₀ L h' m → News h₀ L h' news' → Q .none { s with heap := h' }) : wpAny (model prog w) A (call (.builtin "list.append") [.ref D, x]) Q E s := by
  refine append_K F N (its := us.toArray) (n := n) (news' := news') ?_ h (by rw [List.size_toArray, sizeLine_eq]; omega)
  rw [List.push_toArray]
  exact U
end
end PartSetL
section PartComp
section
variable {prog : Program} {w : World} {A : Around} {E : Value → Shared → Prop} {s : Shared} {env : Env} {h₀ : Heap} {L : Addr} {m : Str → Option Value} {news : List (Addr × Obj)}

theorem new_entry {h' : Heap} {D : Addr} {o : Obj} (F : Fr h₀ L s.heap m) (N : News h₀ L s.heap news) (hD : s.heap.get? D = none) (ho : h'.get? D = some o) (hk : ∀ b o, s.heap.get? b = some o → h'.get? b = some o) :
    Fr h₀ L h' m ∧ News h₀ L h' ((D, o) :: news) ∧ ∀ p ∈ news, p.1 ≠ D := by
  refine ⟨F.keeps hk, fun p hp => ?_, fun p hp e => ?_⟩
  · rcases List.mem_cons.mp hp with rfl | hp
    · refine ⟨ho, ?_, ?_⟩
      · rintro rfl
        obtain ⟨o', _, _, e, _⟩ := F.ns
        rw [hD] at e; cases e
      · cases e : h₀.get? D with
        | none => rfl
        | some o' => have := F.keep _ _ e; rw [hD] at this; cases this
    · exact ⟨hk _ _ (N p hp).1, (N p hp).2⟩
  · have := (N p hp).1
    rw [e, hD] at this; cases this

/-- a comprehension over a list, its element reads only -/
theorem comp_list {elt iter : Expr} {x : Str} {px : Pos} {scope : Scope} {pos : Pos} {Q : Value → Shared → Prop} (Fv : Value → Value → Prop) {l : Addr} {vs : List Value} {c : Nat}
    (hh : A.handled = none) (F : Fr h₀ L s.heap m) (N : News h₀ L s.heap news) (hl : (l, listOf vs.toArray c) ∈ news) (hz : vs.length ≤ 1000)
    (hfree : ∀ y ∈ scope.names, y.2 ≠ .free) (hcell : ∀ y ∈ scope.names, y.2 ≠ .cell) (hkind : scope.kind = .function)
    (hnames : ∀ y ∈ scope.names, y.2 = .local → scope.names.lookup y.1 = some .local) (hx : scope.names.lookup x = some .local)
    (hi : ∀ E' Q', Q' (.ref l) s → wpAny (model prog w) A (eval iter env) Q' E' s)
    (helt : ∀ C v s₃ m₃ E', v ∈ vs → s₃.heap.Ns C m₃ → m₃ x = some v → Fr h₀ L s₃.heap m → News h₀ L s₃.heap news →
      wpAny (model prog w) A (eval elt (compEnv scope C env)) (fun y s₄ => Fv v y ∧ Keeps s₃ s₄) E' s₃)
    (k : ∀ D h' tk ys c', Fr h₀ L h' m → News h₀ L h' ((D, listOf ys.toArray c') :: news) → (∀ p ∈ news, p.1 ≠ D) → Paired Fv vs ys → Q (.ref D) { s with heap := h', toks := tk })
    (hs : ∀ x, foldedSetIterable iter env x = pure x := by intro _; rfl) :
    wpAny (model prog w) A (eval (.ListComp elt [⟨.Name x px, iter, [], 0⟩] scope pos) env) Q E s := by
  have hl' : s.heap.IsList l vs.toArray := ⟨_, (N _ hl).1, rfl, _, rfl⟩
  have hlt : l < s.heap.objs.size := Heap.lt_size (N _ hl).1
  refine wpAny_ListComp_walk (fun _ => true) Fv hfree hcell hkind hnames hx (hi _ _ ?_) hs
  refine wpAny_pyIter_list hl' ?_
  have up : ∀ b o, s.heap.get? b = some o → (s.heap.push { cls := .type "list_iterator", data := .fields #[.ref l, .int 0 0] }).get? b = some o := fun b o e => Heap.get?_push_of_some _ e
  have hIw : ∀ b o, s.heap.get? b = some o → b ∉ [s.heap.objs.size] := fun b o e hb => by
    rw [List.mem_singleton.mp hb] at e
    exact absurd (Heap.lt_size e) (Nat.lt_irrefl _)
  refine ⟨s.heap.objs.size, [s.heap.objs.size, l], [s.heap.objs.size], vs.toArray.size, _, _, rfl, Walks.list hh s.heap.objs.size l (Nat.ne_of_lt hlt) vs.toArray, ?_, ⟨⟨_, Heap.get?_push_size _ rfl, rfl, rfl⟩, hl'.push _⟩, ?_, ?_, ?_⟩
  · rw [List.size_toArray, sizeLine_eq]; omega
  · intro b hb
    show b < (s.heap.push _).objs.size
    rw [Heap.size_push]
    rcases List.mem_cons.mp hb with rfl | hb
    · exact Nat.lt_succ_self _
    · rw [List.mem_singleton.mp hb]; exact Nat.lt_succ_of_lt hlt
  · refine ⟨fun C i v s₃ m₃ E' hP hn hm hk ht => ?_, fun C i v s₃ m₃ E' hP hp hn hm hk ht => ?_⟩
    · exact wpAny_pure ⟨rfl, s₃.heap, s₃.toks, rfl, fun _ _ e => e⟩
    · have hv : v ∈ vs := by
        have := Array.mem_of_getElem? hP
        simpa using this
      have hk' : ∀ b o, s.heap.get? b = some o → s₃.heap.get? b = some o := fun b o e => hk b o (hIw b o e) (up b o e)
      exact helt C v s₃ m₃ E' hv hn hm (F.keeps hk') (fun p hp => ⟨hk' _ _ (N p hp).1, (N p hp).2⟩)
  · intro D h' tk ys us hD _ hpl hlen hP hF hk
    have hk' : ∀ b o, s.heap.get? b = some o → h'.get? b = some o := fun b o e => hk b o (hIw b o e) (up b o e)
    have hD' : s.heap.get? D = none := by
      cases e : s.heap.get? D with
      | none => rfl
      | some o => have := up D o e; rw [hD] at this; cases this
    obtain ⟨c', ho⟩ := hpl
    have hus : us = vs := by
      refine List.ext_getElem? fun j => ?_
      rcases Nat.lt_or_ge j us.length with hj | hj
      · have := hP j us[j] (by simp [hj])
        rw [List.getElem?_eq_getElem hj]
        simpa using this.symm
      · rw [List.getElem?_eq_none hj, List.getElem?_eq_none (by rw [List.size_toArray] at hlen; omega)]
    subst hus
    rw [List.filter_eq_self.mpr (fun _ _ => rfl)] at hF
    obtain ⟨F', N', hne⟩ := new_entry (o := listOf ys c') F N hD' ho hk'
    refine k D h' tk ys.toList c' F' ?_ hne hF
    simpa using N'

/-- a comprehension over a text, with a test -/
theorem comp_text {elt iter test : Expr} {x : Str} {px : Pos} {scope : Scope} {pos : Pos} {Q : Value → Shared → Prop} (p : Value → Bool) (Fv : Value → Value → Prop) {b : Str} {tb : Tok}
    (hh : A.handled = none) (F : Fr h₀ L s.heap m) (N : News h₀ L s.heap news) (hz : b.length ≤ 1000)
    (hfree : ∀ y ∈ scope.names, y.2 ≠ .free) (hcell : ∀ y ∈ scope.names, y.2 ≠ .cell) (hkind : scope.kind = .function)
    (hnames : ∀ y ∈ scope.names, y.2 = .local → scope.names.lookup y.1 = some .local) (hx : scope.names.lookup x = some .local)
    (hi : ∀ E' Q', Q' (.str b tb) s → wpAny (model prog w) A (eval iter env) Q' E' s)
    (htest : ∀ C c u s₃ m₃ E', s₃.heap.Ns C m₃ → m₃ x = some (.str ⟨#[c]⟩ u) → 
      wpAny (model prog w) A (isTrue test (compEnv scope C env) (eval test (compEnv scope C env))) (fun r s₄ => r = p (.str ⟨#[c]⟩ u) ∧ Keeps s₃ s₄) E' s₃)
    (helt : ∀ C c u s₃ m₃ E', s₃.heap.Ns C m₃ → m₃ x = some (.str ⟨#[c]⟩ u) → 
      wpAny (model prog w) A (eval elt (compEnv scope C env)) (fun y s₄ => Fv (.str ⟨#[c]⟩ u) y ∧ Keeps s₃ s₄) E' s₃)
    (k : ∀ D h' tk ys c' (us : List Value), Fr h₀ L h' m → News h₀ L h' ((D, listOf ys.toArray c') :: news) → (∀ p ∈ news, p.1 ≠ D) → us.length = b.length → (∀ j v, us[j]? = some v → SignAt b j v) → Paired Fv (us.filter p) ys → Q (.ref D) { s with heap := h', toks := tk })
    (hs : ∀ x, foldedSetIterable iter env x = pure x := by intro _; rfl) :
    wpAny (model prog w) A (eval (.ListComp elt [⟨.Name x px, iter, [test], 0⟩] scope pos) env) Q E s := by
  refine wpAny_ListComp_walk p Fv hfree hcell hkind hnames hx (hi _ _ ?_) hs
  refine wpAny_pyIter_str fun o St W st => ?_
  have up : ∀ b o', s.heap.get? b = some o' → (s.heap.push o).get? b = some o' := fun b o e => Heap.get?_push_of_some _ e
  have hIw : ∀ b o, s.heap.get? b = some o → b ∉ [s.heap.objs.size] := fun b o e hb => by
    rw [List.mem_singleton.mp hb] at e
    exact absurd (Heap.lt_size e) (Nat.lt_irrefl _)
  refine ⟨s.heap.objs.size, [s.heap.objs.size], [s.heap.objs.size], b.cps.size, _, _, rfl, W A hh, ?_, st, ?_, ?_, ?_⟩
  · rw [sizeLine_eq]; show b.length ≤ _; omega
  · intro b hb
    show b < (s.heap.push _).objs.size
    rw [Heap.size_push, List.mem_singleton.mp hb]
    exact Nat.lt_succ_self _
  · refine ⟨fun C i v s₃ m₃ E' hP hn hm hk ht => ?_, fun C i v s₃ m₃ E' hP hp hn hm hk ht => ?_⟩
    · obtain ⟨c, u, hc, rfl⟩ := hP
      rw [List.forIn_cons]
      refine wpAny_bind ?_
      simp only [if_true]
      refine wpAny_bind (wpAny_mono (htest C c u s₃ m₃ E' hn hm) (fun r s₄ hr => ?_) fun _ _ e => e)
      exact wpAny_pure (wpAny_pure hr)
    · obtain ⟨c, u, hc, rfl⟩ := hP
      exact helt C c u s₃ m₃ E' hn hm
  · intro D h' tk ys us hD _ hpl hlen hP hF hk
    have hk' : ∀ b o, s.heap.get? b = some o → h'.get? b = some o := fun b o e => hk b o (hIw b o e) (up b o e)
    have hD' : s.heap.get? D = none := by
      cases e : s.heap.get? D with
      | none => rfl
      | some o => have := up D o e; rw [hD] at this; cases this
    obtain ⟨c', ho⟩ := hpl
    obtain ⟨F', N', hne⟩ := new_entry (o := listOf ys c') F N hD' ho hk'
    exact k D h' tk ys.toList c' us F' (by simpa using N') hne hlen hP hF
end
end PartComp
section PartC2
local macro_rules | `(tactic| walk_at "pad") => `(tactic| skip)
local macro_rules | `(tactic| walk_at "pad") => `(tactic| skip)
section
variable {prog : Program} {w : World} {A₀ A : Around} {s : Shared} {base h₀ : Heap} {outer : List Env} {env : Env} {L : Addr} {m : Str → Option Value} {p : Program} {loose : List Str} {mean : ExcName → Option Value} {mg mb : Str → Option Value}
  {news : List (Addr × Obj)} {E : Value → Shared → Prop}
/-- a call that reads only, by its contract: all stays -/
theorem by_contract0 {f : Value} {pos : List Value} {kw : List (Str × Value)} {Q : Value → Shared → Prop} {Φ : Value → List (Addr × Obj) → Prop}
    (B : Below A₀ base outer h₀) (F : Fr h₀ L s.heap m) (X₀ : (hd.heap_39 w.params).In h₀) (N : News h₀ L s.heap news) (T : Top p loose mean mg mb h₀) (hA : A.frames = some (env :: outer)) (hf : env.frame = some L) (hke : env.scope.kind = .function)
    (C : ∀ g, Gd w A base (env :: outer) p loose mean mg mb g s.heap [] → codeAny (model prog w) A (.call f ⟨pos, kw⟩) (Post g Φ s) s)
    (h : ∀ v small' h' tk, (∀ b o, s.heap.get? b = some o → h'.get? b = some o) → Fr h₀ L h' m → News h₀ L h' (small' ++ news) → (∀ q ∈ small', s.heap.get? q.1 = none) → Φ v small' → Q v { s with heap := h', toks := tk }) :
    wpAny (model prog w) A (PySem.call f pos kw) Q E s := by
  have Ns : News h₀ L s.heap [] := fun q hq => (nomatch hq)
  obtain ⟨FG, BG, st, _⟩ := groundX (R := fun _ _ => True) B F Ns hA hf hke
  refine wpAny_call (codeAny_mono (C _ ⟨BG, X₀.keeps st, T.keeps st, fun b o e => of_hideAll _ e, Nat.le_of_eq (hideAll_size _ _), fun q hq => nomatch hq⟩) fun r s' hr => ?_)
  obtain ⟨v, small', h', tk, L', m', rfl, rfl, F', N', hΦ⟩ := hr
  have hk : ∀ b o, s.heap.get? b = some o → h'.get? b = some o := fun b o e => F'.keep b o (hideAll_get _ e (by simp))
  have hfresh : ∀ q ∈ small', s.heap.get? q.1 = none := fun q hq => by
    cases e : s.heap.get? q.1 with
    | none => rfl
    | some o => have := (N' q hq).2.2; rw [hideAll_get _ e (by simp)] at this; cases this
  refine h v small' h' tk hk (F.keeps hk) (fun q hq => ?_) hfresh hΦ
  rcases List.mem_append.mp hq with hq | hq
  · have hn := hfresh q hq
    refine ⟨(N' q hq).1, fun e => ?_, ?_⟩
    · obtain ⟨oL, _, _, hL, _⟩ := F.ns
      rw [e, hL] at hn; cases hn
    · cases e : h₀.get? q.1 with
      | none => rfl
      | some o => rw [F.keep _ _ e] at hn; cases hn
  · exact ⟨hk _ _ (N q hq).1, (N q hq).2⟩
end
theorem gap_at (t0 t1 t2 t3 t4 t5 : Tok) : ∀ k : Nat, k < 6 → ∃ t, (#[.str (Str.ofString "") t0, .str (Str.ofString " ") t1, .str (Str.ofString "\t") t2, .str (Str.ofString "\r\n") t3, .str (Str.ofString "#B\n") t4, .str (Str.ofString "\n# 'A\n") t5] : Array Value)[k]? = some (.str ⟨(gaps k).toArray⟩ t)
  | 0, _ => ⟨t0, by rw [show Str.ofString "" = ⟨(gaps 0).toArray⟩ by decide +kernel]; rfl⟩
  | 1, _ => ⟨t1, by rw [show Str.ofString " " = ⟨(gaps 1).toArray⟩ by decide +kernel]; rfl⟩
  | 2, _ => ⟨t2, by rw [show Str.ofString "\t" = ⟨(gaps 2).toArray⟩ by decide +kernel]; rfl⟩
  | 3, _ => ⟨t3, by rw [show Str.ofString "\r\n" = ⟨(gaps 3).toArray⟩ by decide +kernel]; rfl⟩
  | 4, _ => ⟨t4, by rw [show Str.ofString "#B\n" = ⟨(gaps 4).toArray⟩ by decide +kernel]; rfl⟩
  | 5, _ => ⟨t5, by rw [show Str.ofString "\n# 'A\n" = ⟨(gaps 5).toArray⟩ by decide +kernel]; rfl⟩
  | k + 6, h => absurd h (by omega)
theorem gap_idx (x : Int) : (x.fdiv 256).fmod 6 = ((gapN x : Nat) : Int) := by
  rw [fmod_pos _ 6 (by decide), show x.fdiv 256 = x / 256 from Int.fdiv_eq_ediv_of_nonneg x (by decide)]
  unfold gapN
  omega
theorem gap_tail {prog : Program} {w : World} {A : Around} {s : Shared} {E : Value → Shared → Prop} {h₀ : Heap} {L l : Addr} {news : List (Addr × Obj)} {value slice : Expr} {x : Int} {u t0 t1 t2 t3 t4 t5 : Tok} {Q : Value → Shared → Prop}
    (N : News h₀ L s.heap news) (hm : (l, gapO t0 t1 t2 t3 t4 t5) ∈ news) (h : ∀ t, Q (.str ⟨(gaps (gapN x)).toArray⟩ t) s)
    (hs : subscripted slice false (.ref l) (.int ((x.fdiv 256).fmod 6) u) = operate [.ref l, .int ((x.fdiv 256).fmod 6) u] (getItem (.ref l) (.int ((x.fdiv 256).fmod 6) u)) := by with_unfolding_all rfl) :
    wpAny (model prog w) A (subscriptTail value slice (.ref l) (.int ((x.fdiv 256).fmod 6) u)) Q E s := by
  have hl : s.heap.IsList l _ := ⟨_, (N _ hm).1, rfl, _, rfl⟩
  obtain ⟨t, ht⟩ := gap_at t0 t1 t2 t3 t4 t5 (gapN x) (gap_lt x)
  have hk := gap_idx x
  have hlt := gap_lt x
  refine tail_any hl.typeIs slot_list_getitem.lookup (wpAny_getItem_list hl (by omega) (by omega) (x := .str ⟨(gaps (gapN x)).toArray⟩ t) ?_ (h t)) hs
  rw [hk]
  exact ht
theorem gap_len (k : Nat) : (gaps k).length ≤ 6 := by
  match k with
  | 0 => decide
  | 1 => decide
  | 2 => decide
  | 3 => decide
  | 4 => decide
  | n + 5 => show 6 ≤ 6; decide
theorem chr_comp {M : Model} {A : Around} {E : Value → Shared → Prop} {s : Shared} {K : Frag} {h₀ : Heap} {L C : Addr} {m mg mb : Str → Option Value} {sc : Scope} {env : Env} {p : Program} {loose : List Str} {pos : Pos} {Q : Value → Shared → Prop}
    (F : Fr h₀ L s.heap m) (X : K.In h₀) (T : TopRead p loose mg mb h₀) (e : nsIn K mainGlobals (Str.ofString "chr") = some none) (h : Q (.builtin "chr") s)
    (hg : env.globals = mainGlobals) (hb : env.builtins = builtinsNs) (hk : sc.kind = .function) (hx : (compEnv sc C env).kindOf (Str.ofString "chr") = some .globalImplicit) :
    wpAny M A (eval (.Name (Str.ofString "chr") pos) (compEnv sc C env)) Q E s :=
  Name_function_global hk hx (loadGlobal_builtin (env := compEnv sc C env) (by show s.heap.Ns env.globals mg; rw [hg]; exact T.g.keeps F.keep) (mg_none_of X T.g e) (by show s.heap.Ns env.builtins mb; rw [hb]; exact T.b.keeps F.keep) ((T.builtins _ (by decide)).trans PyProof.Rows.Boot.«chr») h) (by decide)
local macro_rules | `(tactic| walk_at "subscriptTail") => `(tactic| k_dflt (refine' gap_tail ?ma ?mb ?_ ?mc; (case ma => k_asm); (case mb => k_mem); (case mc => with_unfolding_all rfl); intro tg'))
section
variable {w : World} {A₀ : Around} {s : Shared} {base h₀ : Heap} {outer : List Env} {L C : Addr} {m m₃ : Str → Option Value} {p : Program} {loose : List Str} {mean : ExcName → Option Value} {mg mb : Str → Option Value}
  {news : List (Addr × Obj)} {E : Value → Shared → Prop} {dp un : Nat} {nm : Str} {ns : List (Str × NameKind)} {ig ic : Bool} {mo : List (Str × Const)} {fa : Addr} {cd : Value}
theorem elt_text {p1 p2 p3 p4 p5 p6 p7 p8 p9 p10 p11 p12 p13 p14 : Pos} {x : Int} {t : Tok} (hdp : dp ≤ 400) (hu : un ≤ 3000)
    (B : Below A₀ base outer h₀) (X₀ : (hd.heap_39 w.params).In h₀) (T : Top p loose mean mg mb h₀) (F : Fr h₀ L s.heap m) (N : News h₀ L s.heap news)
    (hn : s.heap.Ns C m₃) (hx : m₃ (Str.ofString "x") = some (.int x t)) :
    wpAny (model PySem.Challenge.pw_il0179_01 w) (Aat dp un (envOf nm ⟨.function, ns, ig, ic, mo⟩ L fa cd :: outer))
      (eval (.BinOp (.Subscript (.Call (.Name (Str.ofString "_law_gaps") p1) [] [] p2) (.BinOp (.BinOp (.Name (Str.ofString "x") p3) .FloorDiv (.Constant (.int 256) 0 p4) p5) .Mod (.Constant (.int 6) 0 p6) p7) p8) .Add
        (.Call (.Name (Str.ofString "chr") p9) [.Call (.Name (Str.ofString "_law_octet") p10) [.Name (Str.ofString "x") p11] [] p12] [] p13) p14)
        (compEnv { kind := .function, names := [(Str.ofString ".0", .local), (Str.ofString "x", .local), (Str.ofString "_law_gaps", .globalImplicit), (Str.ofString "chr", .globalImplicit), (Str.ofString "_law_octet", .globalImplicit)], isGenerator := false, isCoroutine := false } C (envOf nm ⟨.function, ns, ig, ic, mo⟩ L fa cd)))
      (fun y s₄ => Held ((∃ t, y = .str ⟨(gaps (gapN x) ++ [octN x]).toArray⟩ t) ∧ Keeps s s₄)) E s := by
  have ho := oct_lt x
  have hgl := gap_len (gapN x)
  (repeat' (first | ((with_reducible show wpAny _ _ (PySem.call _ _ _) _ _ _); with_reducible (first | (((show wpAny _ _ (PySem.call (Value.ref 756) _ _) _ _ _); k_dflt (refine' by_contract0 ?B ?F ?X ?N ?T ?hA ?hf ?hk (fun g' G' => c_gaps ?a1 ?a2 G') ?_; (case B => k_asm); (case F => k_asm); (case X => k_asm); (case N => k_asm); (case T => k_asm); (case hA => exact rfl); (case hf => exact rfl); (case hk => exact rfl); (case a1 => walk_at "m.un"); (case a2 => walk_at "m.un"); (rintro v' small' h' tk' hk' F' N' l' ⟨l8, t0, t1, t2, t3, t4, t5, e1', e2'⟩); subst e1'; subst e2'; (rename Heap.Ns _ _ _ => hn'); (replace hn' := Heap.Ns.keeps hn' hk')))) | (((show wpAny _ _ (PySem.call (Value.ref 763) _ _) _ _ _); k_dflt (refine' by_contract0 ?B ?F ?X ?N ?T ?hA ?hf ?hk (fun g' G' => c_octet ?a1 ?a2 G') ?_; (case B => k_asm); (case F => k_asm); (case X => k_asm); (case N => k_asm); (case T => k_asm); (case hA => exact rfl); (case hf => exact rfl); (case hk => exact rfl); (case a1 => walk_at "m.un"); (case a2 => walk_at "m.un"); (rintro v' small' h' tk' hk' F' N' l' ⟨e1', t', e2'⟩); subst e1'; subst e2'; (rename Heap.Ns _ _ _ => hn'); (replace hn' := Heap.Ns.keeps hn' hk')))))) | ((with_reducible show wpAny _ _ (eval (Expr.Name _ _) _) _ _ _); with_reducible (first | (((with_reducible show wpAny _ _ (eval (Expr.Name (Str.ofString "chr") _) (compEnv _ _ _)) _ _ _); k_dflt (refine' chr_comp ?ma ?mb ?mc ?md ?_ ?me ?mf ?mg ?mh; (case ma => k_asm); (case mb => k_asm); (case mc => k_asm); (case md => k_is); (case me => rfl); (case mf => rfl); (case mg => rfl); (case mh => rfl); (try dsimp only)))))) | walk_at "m.step"))
  all_goals (try dsimp only)
  have hv : ((⟨(gaps (gapN x)).toArray⟩ : Str) ++ (⟨#[((octN x : Nat) : Int).toNat]⟩ : Str)) = ⟨(gaps (gapN x) ++ [octN x]).toArray⟩ := by
    rw [Int.toNat_natCast]
    show Str.mk ((gaps (gapN x)).toArray ++ #[octN x]) = _
    simp
  refine And.intro (Exists.intro _ (congrArg (fun z => Value.str z _) hv)) (Exists.intro _ (Exists.intro _ (And.intro rfl ?hk)))
  case hk => 
    intro b o e
    solve_by_elim
theorem elt_oct {p10 p11 p12 : Pos} {x : Int} {t : Tok} (hdp : dp ≤ 400) (hu : un ≤ 3000)
    (B : Below A₀ base outer h₀) (X₀ : (hd.heap_39 w.params).In h₀) (T : Top p loose mean mg mb h₀) (F : Fr h₀ L s.heap m) (N : News h₀ L s.heap news)
    (hn : s.heap.Ns C m₃) (hx : m₃ (Str.ofString "x") = some (.int x t)) :
    wpAny (model PySem.Challenge.pw_il0179_01 w) (Aat dp un (envOf nm ⟨.function, ns, ig, ic, mo⟩ L fa cd :: outer))
      (eval (.Call (.Name (Str.ofString "_law_octet") p10) [.Name (Str.ofString "x") p11] [] p12)
        (compEnv { kind := .function, names := [(Str.ofString ".0", .local), (Str.ofString "x", .local), (Str.ofString "_law_octet", .globalImplicit)], isGenerator := false, isCoroutine := false } C (envOf nm ⟨.function, ns, ig, ic, mo⟩ L fa cd)))
      (fun y s₄ => Held ((∃ t, y = .int (octN x : Int) t) ∧ Keeps s s₄)) E s := by
  (repeat' (first | ((with_reducible show wpAny _ _ (PySem.call _ _ _) _ _ _); with_reducible (first | (((show wpAny _ _ (PySem.call (Value.ref 756) _ _) _ _ _); k_dflt (refine' by_contract0 ?B ?F ?X ?N ?T ?hA ?hf ?hk (fun g' G' => c_gaps ?a1 ?a2 G') ?_; (case B => k_asm); (case F => k_asm); (case X => k_asm); (case N => k_asm); (case T => k_asm); (case hA => exact rfl); (case hf => exact rfl); (case hk => exact rfl); (case a1 => walk_at "m.un"); (case a2 => walk_at "m.un"); (rintro v' small' h' tk' hk' F' N' l' ⟨l8, t0, t1, t2, t3, t4, t5, e1', e2'⟩); subst e1'; subst e2'; (rename Heap.Ns _ _ _ => hn'); (replace hn' := Heap.Ns.keeps hn' hk')))) | (((show wpAny _ _ (PySem.call (Value.ref 763) _ _) _ _ _); k_dflt (refine' by_contract0 ?B ?F ?X ?N ?T ?hA ?hf ?hk (fun g' G' => c_octet ?a1 ?a2 G') ?_; (case B => k_asm); (case F => k_asm); (case X => k_asm); (case N => k_asm); (case T => k_asm); (case hA => exact rfl); (case hf => exact rfl); (case hk => exact rfl); (case a1 => walk_at "m.un"); (case a2 => walk_at "m.un"); (rintro v' small' h' tk' hk' F' N' l' ⟨e1', t', e2'⟩); subst e1'; subst e2'; (rename Heap.Ns _ _ _ => hn'); (replace hn' := Heap.Ns.keeps hn' hk')))))) | ((with_reducible show wpAny _ _ (eval (Expr.Name _ _) _) _ _ _); with_reducible (first | (((with_reducible show wpAny _ _ (eval (Expr.Name (Str.ofString "chr") _) (compEnv _ _ _)) _ _ _); k_dflt (refine' chr_comp ?ma ?mb ?mc ?md ?_ ?me ?mf ?mg ?mh; (case ma => k_asm); (case mb => k_asm); (case mc => k_asm); (case md => k_is); (case me => rfl); (case mf => rfl); (case mg => rfl); (case mh => rfl); (try dsimp only)))))) | walk_at "m.step"))
  all_goals (try dsimp only)
  refine And.intro (Exists.intro _ rfl) (Exists.intro _ (Exists.intro _ (And.intro rfl ?hk)))
  case hk => 
    intro b o e
    solve_by_elim
theorem test_nl {p1 p2 p3 : Pos} {c : Nat} {t : Tok}
    (hn : s.heap.Ns C m₃) (hx : m₃ (Str.ofString "sign") = some (.str ⟨#[c]⟩ t)) :
    wpAny (model PySem.Challenge.pw_il0179_01 w) (Aat dp un (envOf nm ⟨.function, ns, ig, ic, mo⟩ L fa cd :: outer))
      (isTrue (.Compare (.Name (Str.ofString "sign") p1) [.Eq] [.Constant (.str (Str.ofString "\n")) 0 p2] p3) (compEnv { kind := .function, names := [(Str.ofString ".0", .local), (Str.ofString "sign", .local)], isGenerator := false, isCoroutine := false } C (envOf nm ⟨.function, ns, ig, ic, mo⟩ L fa cd))
      (eval (.Compare (.Name (Str.ofString "sign") p1) [.Eq] [.Constant (.str (Str.ofString "\n")) 0 p2] p3)
        (compEnv { kind := .function, names := [(Str.ofString ".0", .local), (Str.ofString "sign", .local)], isGenerator := false, isCoroutine := false } C (envOf nm ⟨.function, ns, ig, ic, mo⟩ L fa cd))))
      (fun r s₄ => Held (r = (⟨#[c]⟩ == Str.ofString "\n") ∧ Keeps s s₄)) E s := by
  (repeat' (first | ((with_reducible show wpAny _ _ (PySem.call _ _ _) _ _ _); with_reducible (first | (((show wpAny _ _ (PySem.call (Value.ref 756) _ _) _ _ _); k_dflt (refine' by_contract0 ?B ?F ?X ?N ?T ?hA ?hf ?hk (fun g' G' => c_gaps ?a1 ?a2 G') ?_; (case B => k_asm); (case F => k_asm); (case X => k_asm); (case N => k_asm); (case T => k_asm); (case hA => exact rfl); (case hf => exact rfl); (case hk => exact rfl); (case a1 => walk_at "m.un"); (case a2 => walk_at "m.un"); (rintro v' small' h' tk' hk' F' N' l' ⟨l8, t0, t1, t2, t3, t4, t5, e1', e2'⟩); subst e1'; subst e2'; (rename Heap.Ns _ _ _ => hn'); (replace hn' := Heap.Ns.keeps hn' hk')))) | (((show wpAny _ _ (PySem.call (Value.ref 763) _ _) _ _ _); k_dflt (refine' by_contract0 ?B ?F ?X ?N ?T ?hA ?hf ?hk (fun g' G' => c_octet ?a1 ?a2 G') ?_; (case B => k_asm); (case F => k_asm); (case X => k_asm); (case N => k_asm); (case T => k_asm); (case hA => exact rfl); (case hf => exact rfl); (case hk => exact rfl); (case a1 => walk_at "m.un"); (case a2 => walk_at "m.un"); (rintro v' small' h' tk' hk' F' N' l' ⟨e1', t', e2'⟩); subst e1'; subst e2'; (rename Heap.Ns _ _ _ => hn'); (replace hn' := Heap.Ns.keeps hn' hk')))))) | ((with_reducible show wpAny _ _ (eval (Expr.Name _ _) _) _ _ _); with_reducible (first | (((with_reducible show wpAny _ _ (eval (Expr.Name (Str.ofString "chr") _) (compEnv _ _ _)) _ _ _); k_dflt (refine' chr_comp ?ma ?mb ?mc ?md ?_ ?me ?mf ?mg ?mh; (case ma => k_asm); (case mb => k_asm); (case mc => k_asm); (case md => k_is); (case me => rfl); (case mf => rfl); (case mg => rfl); (case mh => rfl); (try dsimp only)))))) | walk_at "m.step"))
  all_goals (try dsimp only)
  exact And.intro rfl (Exists.intro _ (Exists.intro _ (And.intro rfl (fun _ _ e => e))))
theorem elt_sign {p1 : Pos} {v : Value}
    (hn : s.heap.Ns C m₃) (hx : m₃ (Str.ofString "sign") = some v) :
    wpAny (model PySem.Challenge.pw_il0179_01 w) (Aat dp un (envOf nm ⟨.function, ns, ig, ic, mo⟩ L fa cd :: outer))
      (eval (.Name (Str.ofString "sign") p1)
        (compEnv { kind := .function, names := [(Str.ofString ".0", .local), (Str.ofString "sign", .local)], isGenerator := false, isCoroutine := false } C (envOf nm ⟨.function, ns, ig, ic, mo⟩ L fa cd)))
      (fun r s₄ => Held (r = v ∧ Keeps s s₄)) E s := by
  (repeat' (first | ((with_reducible show wpAny _ _ (PySem.call _ _ _) _ _ _); with_reducible (first | (((show wpAny _ _ (PySem.call (Value.ref 756) _ _) _ _ _); k_dflt (refine' by_contract0 ?B ?F ?X ?N ?T ?hA ?hf ?hk (fun g' G' => c_gaps ?a1 ?a2 G') ?_; (case B => k_asm); (case F => k_asm); (case X => k_asm); (case N => k_asm); (case T => k_asm); (case hA => exact rfl); (case hf => exact rfl); (case hk => exact rfl); (case a1 => walk_at "m.un"); (case a2 => walk_at "m.un"); (rintro v' small' h' tk' hk' F' N' l' ⟨l8, t0, t1, t2, t3, t4, t5, e1', e2'⟩); subst e1'; subst e2'; (rename Heap.Ns _ _ _ => hn'); (replace hn' := Heap.Ns.keeps hn' hk')))) | (((show wpAny _ _ (PySem.call (Value.ref 763) _ _) _ _ _); k_dflt (refine' by_contract0 ?B ?F ?X ?N ?T ?hA ?hf ?hk (fun g' G' => c_octet ?a1 ?a2 G') ?_; (case B => k_asm); (case F => k_asm); (case X => k_asm); (case N => k_asm); (case T => k_asm); (case hA => exact rfl); (case hf => exact rfl); (case hk => exact rfl); (case a1 => walk_at "m.un"); (case a2 => walk_at "m.un"); (rintro v' small' h' tk' hk' F' N' l' ⟨e1', t', e2'⟩); subst e1'; subst e2'; (rename Heap.Ns _ _ _ => hn'); (replace hn' := Heap.Ns.keeps hn' hk')))))) | ((with_reducible show wpAny _ _ (eval (Expr.Name _ _) _) _ _ _); with_reducible (first | (((with_reducible show wpAny _ _ (eval (Expr.Name (Str.ofString "chr") _) (compEnv _ _ _)) _ _ _); k_dflt (refine' chr_comp ?ma ?mb ?mc ?md ?_ ?me ?mf ?mg ?mh; (case ma => k_asm); (case mb => k_asm); (case mc => k_asm); (case md => k_is); (case me => rfl); (case mf => rfl); (case mg => rfl); (case mh => rfl); (try dsimp only)))))) | walk_at "m.step"))
  all_goals (try dsimp only)
  exact And.intro rfl (Exists.intro _ (Exists.intro _ (And.intro rfl (fun _ _ e => e))))
end
end PartC2
section PartC3
local macro_rules | `(tactic| walk_at "pad") => `(tactic| skip)
local macro_rules | `(tactic| walk_at "getItem ref int") => `(tactic| k_dflt (refine' getLast_K ?ma ?mb ?_; (case ma => k_asm); (case mb => k_mem)))
local macro_rules | `(tactic| walk_at "setItem ref int") => `(tactic| k_dflt (refine' setLast_K ?ma ?mb ?mc ?_; (case ma => k_asm); (case mb => k_asm); (case mc => k_upd); intro h' F' N'; (try k_sweep)))
local macro_rules | `(tactic| walk_at "exec For Name Name cons nil") => `(tactic| refine held_tree ?_)
/-- the words so far, the last one that goes on or not -/
noncomputable def cutF : List (List Nat) → Bool → List Int → List (List Nat)
  | acc, _, [] => acc
  | acc, going, x :: r => if (going && isLet (octN x) && gapN x == 0) = true then cutF (acc.dropLast ++ [acc.getLastD [] ++ [octN x]]) (isLet (octN x)) r else cutF (acc ++ [[octN x]]) (isLet (octN x)) r
noncomputable def strsOf (A : List (List Nat)) : List Str := A.map fun l => ⟨l.toArray⟩
theorem News.swap {g h : Heap} {L : Addr} {a b : Addr × Obj} {r : List (Addr × Obj)} (N : News g L h (a :: b :: r)) : News g L h (b :: a :: r) := fun q hq => by
  rcases List.mem_cons.mp hq with rfl | hq
  · exact N _ (.tail _ (.head _))
  · rcases List.mem_cons.mp hq with rfl | hq
    · exact N _ (.head _)
    · exact N _ (.tail _ (.tail _ hq))
theorem bit_let : ∀ o : Nat, o < 256 → (Builtin.bitAnd (o : Int) 64 = 0 ↔ isLet o = false) := by decide +kernel
theorem strs_snoc {A : List (List Nat)} : ∀ {us : List Value}, StrsAre us (strsOf A) → A ≠ [] → ∃ us' A' w t, us = us' ++ [.str ⟨w.toArray⟩ t] ∧ A = A' ++ [w] ∧ StrsAre us' (strsOf A') := by
  induction A with
  | nil => intro us _ h; exact absurd rfl h
  | cons a A ih =>
    intro us h _
    cases h with
    | cons y t h =>
      by_cases hA : A = []
      · subst hA
        cases h
        exact ⟨[], [], a, t, rfl, rfl, .nil⟩
      · obtain ⟨us', A', w, t', rfl, rfl, h'⟩ := ih h hA
        exact ⟨_ :: us', a :: A', w, t', rfl, rfl, .cons _ _ h'⟩
theorem strs_app {A : List (List Nat)} {w : List Nat} {t : Tok} : ∀ {us : List Value}, StrsAre us (strsOf A) → StrsAre (us ++ [.str ⟨w.toArray⟩ t]) (strsOf (A ++ [w])) := by
  induction A with
  | nil => intro us h; cases h; exact .cons _ _ .nil
  | cons a A ih =>
    intro us h
    cases h with
    | cons y t h => exact .cons _ _ (ih h)
theorem strs_len {A : List (List Nat)} : ∀ {us : List Value}, StrsAre us (strsOf A) → us.length = A.length := by
  induction A with
  | nil => intro us h; cases h; rfl
  | cons a A ih =>
    intro us h
    cases h with
    | cons y t h => rw [List.length_cons, List.length_cons, ih h]
theorem ints_get {vs : List Value} {ns : List Int} (h : IntsAre vs ns) : ∀ {i : Nat} {v : Value}, vs[i]? = some v → ∃ x t, ns[i]? = some x ∧ v = .int x t := by
  induction h with
  | nil => intro i v hv; cases hv
  | cons n t _ ih =>
    intro i v hv
    cases i with
    | zero => cases hv; exact ⟨n, t, rfl, rfl⟩
    | succ i => exact ih hv
section
variable {w : World} {dp un : Nat} {s : Shared} {base g : Heap} {fr : List Env} {p : Program} {loose : List Str} {mean : ExcName → Option Value} {mg mb : Str → Option Value}
noncomputable def CutJ (l : Addr) (ns : List Int) (i : Nat) (m : Str → Option Value) (nw : List (Addr × Obj)) : Prop :=
  ∃ T us ct go A, m (Str.ofString "tokens") = some (.ref T) ∧ m (Str.ofString "going") = some (.bool go) ∧ nw = [(T, listOf us.toArray ct)] ∧ l ≠ T ∧ StrsAre us (strsOf A) ∧ cutF A go (ns.drop i) = cutF [] false ns ∧ (go = true → A ≠ []) ∧ A.length ≤ i ∧ ∀ t ∈ A, t.length ≤ i
theorem bit_ne {x : Int} : (Builtin.bitAnd ((((octN x : Nat) : Int).toNat : Nat) : Int) 64 != 0) = isLet (octN x) := by
  rw [Int.toNat_natCast]
  have h := bit_let _ (oct_lt x)
  cases e : isLet (octN x) with
  | false => rw [e] at h; rw [h.mpr rfl]; rfl
  | true =>
    rw [e] at h
    rw [bne_iff_ne]
    intro e'
    exact absurd (h.mp e') (by decide)
theorem cut_end {h₀ h' : Heap} {L I l T : Addr} {m₂ : Str → Option Value} {us : List Value} {ct : Nat} {A : List (List Nat)} {ns : List Int} {i tk : Nat} {go : Bool} {oI ol : Obj} {Q : Flow → Shared → Prop}
    (F : Fr h₀ L h' m₂) (N : News h₀ L h' [(I, oI), (l, ol), (T, listOf us.toArray ct)]) (e1 : m₂ (Str.ofString "tokens") = some (.ref T)) (e2 : m₂ (Str.ofString "going") = some (.bool go)) (hTI : T ≠ I) (hlT : l ≠ T)
    (hA : StrsAre us (strsOf A)) (hc : cutF A go (ns.drop (i + 1)) = cutF [] false ns) (hne : A ≠ []) (hl : A.length ≤ i + 1) (hls : ∀ t ∈ A, t.length ≤ i + 1) :
    ForEnd h₀ L s (CutJ l ns (i + 1)) Q I oI l ol .next { s with heap := h', toks := tk } :=
  ⟨h', tk, m₂, _, rfl, F, N, fun p hp => by rw [List.mem_singleton.mp hp]; exact hTI, T, us, ct, go, A, e1, e2, rfl, hlT, hA, hc, fun _ => hne, hl, hls⟩
theorem c_cut {l : Addr} {vs : List Value} {c : Nat} {ns : List Int} (hd : dp ≤ 500) (hu : un ≤ 4000) (hi : IntsAre vs ns) (hz : vs.length ≤ 100)
    (G : Gd w (Aat dp un fr) base fr p loose mean mg mb g s.heap [(l, listOf vs.toArray c)]) :
    codeAny (model PySem.Challenge.pw_il0179_01 w) (Aat dp un fr) (.call (.ref 770) ⟨[.ref l], []⟩) (Post g (fun v n => ∃ T us ct, v = .ref T ∧ n = [(T, listOf us.toArray ct), (l, listOf vs.toArray c)] ∧ StrsAre us (strsOf (cutF [] false ns))) s) s := by
  walk_at "m.enter"
  (repeat' (first | ((with_reducible show wpAny _ _ (PySem.call _ _ _) _ _ _); with_reducible (first | (((show wpAny _ _ (PySem.call (Value.ref 763) _ _) _ _ _); k_dflt (refine' by_contract ?B ?F ?X ?N ?T ?hA ?hf ?hk (fun g' G' => c_octet ?a1 ?a2 G') ?P ?S ?_; walk_at "m.site"; (case a1 => walk_at "m.un"); (case a2 => walk_at "m.un"); rintro v' small' h' tk' F' N' ⟨e1', t', e2'⟩; subst e1'; subst e2'; walk_at "m.led"))) | ((with_reducible show wpAny _ _ (PySem.call (Value.builtin "list.append") _ _) _ _ _); k_dflt (refine' appendL ?ma ?mb ?mz ?mc ?_; (case ma => k_asm); (case mb => k_asm); (case mz => first | assumption | omega); (case mc => k_upd); intro h' F' N'; (try k_sweep))))) | walk_at "m.step"))
  all_goals (try dsimp only)
  rename Fr _ _ _ _ => F1
  rename News _ _ _ _ => N1
  refine for_list (l := l) (vs := vs) (c := c) (CutJ l ns) (by rfl) (by rfl) rfl ?_ F1 (News.swap N1) ?_ ?_ ?_ (by first | assumption | passes_own)
  · intro E' Q' hq
    (repeat' (first | ((with_reducible show wpAny _ _ (PySem.call _ _ _) _ _ _); with_reducible (first | (((show wpAny _ _ (PySem.call (Value.ref 763) _ _) _ _ _); k_dflt (refine' by_contract ?B ?F ?X ?N ?T ?hA ?hf ?hk (fun g' G' => c_octet ?a1 ?a2 G') ?P ?S ?_; walk_at "m.site"; (case a1 => walk_at "m.un"); (case a2 => walk_at "m.un"); rintro v' small' h' tk' F' N' ⟨e1', t', e2'⟩; subst e1'; subst e2'; walk_at "m.led"))) | ((with_reducible show wpAny _ _ (PySem.call (Value.builtin "list.append") _ _) _ _ _); k_dflt (refine' appendL ?ma ?mb ?mz ?mc ?_; (case ma => k_asm); (case mb => k_asm); (case mz => first | assumption | omega); (case mc => k_upd); intro h' F' N'; (try k_sweep))))) | walk_at "m.step"))
    all_goals (try dsimp only)
    exact hq
  · refine ⟨_, [], 0, false, [], rfl, rfl, rfl, ?_, .nil, rfl, (fun h => nomatch h), Nat.le_refl _, List.forall_mem_nil _⟩
    exact Nat.ne_of_lt (by assumption)
  · rintro I i v m₁ news₁ h₁ tk₁ hv ⟨T, us, ct, go, A, e1, e2, rfl, hlT, hA, hcut, hgo, hlen, hlens⟩ hlI hI F2 N2
    have hTI : T ≠ I := hI _ (.head _)
    have hIT : I ≠ T := Ne.symm hTI
    have hTl : T ≠ l := Ne.symm hlT
    have hIl : I ≠ l := Ne.symm hlI
    have F3 := fr_know (a := Str.ofString "tokens") (v := .ref T) (by rw [if_neg (by decide)]; exact e1) F2
    have F4 := fr_know (a := Str.ofString "going") (v := .bool go) (by rw [if_neg (by decide), if_neg (by decide)]; exact e2) F3
    clear F1 N1 F2 F3
    obtain ⟨x, t, hx, rfl⟩ : ∃ x t, ns[i]? = some x ∧ v = .int x t := ints_get hi hv
    have ho := oct_lt x
    have hus := strs_len hA
    have hilt : i < ns.length := by
      rcases Nat.lt_or_ge i ns.length with h | h
      · exact h
      · rw [List.getElem?_eq_none h] at hx; cases hx
    have hvn := hi.length
    have hdrop : ns.drop i = x :: ns.drop (i + 1) := by
      rw [List.drop_eq_getElem_cons hilt]
      rw [List.getElem?_eq_getElem hilt] at hx
      rw [Option.some.inj hx]
    rw [hdrop, cutF] at hcut
    have hb := bit_let _ ho
    have hg9 := gap_idx x
    have hone : ((⟨#[((octN x : Nat) : Int).toNat]⟩ : Str)) = ⟨[octN x].toArray⟩ := by rw [Int.toNat_natCast]
    cases go
    · have hcut2 : cutF (A ++ [[octN x]]) (isLet (octN x)) (ns.drop (i + 1)) = cutF [] false ns := hcut
      (repeat' (first | ((with_reducible show wpAny _ _ (PySem.call _ _ _) _ _ _); with_reducible (first | (((show wpAny _ _ (PySem.call (Value.ref 763) _ _) _ _ _); k_dflt (refine' by_contract ?B ?F ?X ?N ?T ?hA ?hf ?hk (fun g' G' => c_octet ?a1 ?a2 G') ?P ?S ?_; walk_at "m.site"; (case a1 => walk_at "m.un"); (case a2 => walk_at "m.un"); rintro v' small' h' tk' F' N' ⟨e1', t', e2'⟩; subst e1'; subst e2'; walk_at "m.led"))) | ((with_reducible show wpAny _ _ (PySem.call (Value.builtin "list.append") _ _) _ _ _); k_dflt (refine' appendL ?ma ?mb ?mz ?mc ?_; (case ma => k_asm); (case mb => k_asm); (case mz => first | assumption | omega); (case mc => k_upd); intro h' F' N'; (try k_sweep))))) | walk_at "m.step"))
      all_goals (try dsimp only)
      rename News _ _ _ _ => N9
      rw [List.push_toArray, hone] at N9
      refine cut_end (by k_asm) N9 rfl rfl hTI hlT (strs_app hA) (by rw [bit_ne]; exact hcut2) (by simp) (by rw [List.length_append, List.length_singleton]; omega) (fun t ht => ?_)
      rcases List.mem_append.mp ht with ht | ht
      · have := hlens t ht; omega
      · rw [List.mem_singleton.mp ht, List.length_singleton]; omega
    · obtain ⟨us', A', w9, t9, rfl, rfl, hA'⟩ := strs_snoc hA (hgo rfl)
      have hw9 : (⟨w9.toArray⟩ : Str).length ≤ i := hlens _ (List.mem_append.mpr (.inr (.head _)))
      have hus' : us'.length ≤ 100 := by
        rw [List.length_append, List.length_append, List.length_singleton, List.length_singleton] at hus
        rw [List.length_append, List.length_singleton] at hlen
        omega
      have hus9 : (us' ++ [Value.str ⟨w9.toArray⟩ t9]).length ≤ 900 := by rw [List.length_append, List.length_singleton]; omega
      have hlast : (A' ++ [w9]).dropLast ++ [(A' ++ [w9]).getLastD [] ++ [octN x]] = A' ++ [w9 ++ [octN x]] := by simp
      rw [hlast, Bool.true_and] at hcut
      rw [List.length_append, List.length_singleton] at hlen
      have cat : ((⟨w9.toArray⟩ : Str) ++ (⟨#[((octN x : Nat) : Int).toNat]⟩ : Str)) = ⟨(w9 ++ [octN x]).toArray⟩ := by
        rw [hone]
        show Str.mk (w9.toArray ++ #[octN x]) = _
        simp
      rw [← Int.toNat_natCast (octN x)] at hb
      (repeat' (first | ((with_reducible show wpAny _ _ (PySem.call _ _ _) _ _ _); with_reducible (first | (((show wpAny _ _ (PySem.call (Value.ref 763) _ _) _ _ _); k_dflt (refine' by_contract ?B ?F ?X ?N ?T ?hA ?hf ?hk (fun g' G' => c_octet ?a1 ?a2 G') ?P ?S ?_; walk_at "m.site"; (case a1 => walk_at "m.un"); (case a2 => walk_at "m.un"); rintro v' small' h' tk' F' N' ⟨e1', t', e2'⟩; subst e1'; subst e2'; walk_at "m.led"))) | ((with_reducible show wpAny _ _ (PySem.call (Value.builtin "list.append") _ _) _ _ _); k_dflt (refine' appendL ?ma ?mb ?mz ?mc ?_; (case ma => k_asm); (case mb => k_asm); (case mz => first | assumption | omega); (case mc => k_upd); intro h' F' N'; (try k_sweep))))) | walk_at "m.step"))
      all_goals (try dsimp only)
      · rename News _ _ _ _ => N9
        rename (¬ (_ = (0 : Int))) => q1
        rename ((_ : Int) = 0) => q2
        rw [cat] at N9
        have hl1 : isLet (octN x) = true := by
          cases e : isLet (octN x) with
          | true => rfl
          | false => exact absurd (hb.mpr (by rw [Int.toNat_natCast]; exact e)) q1
        have hg0 : gapN x = 0 := by omega
        rw [hl1, hg0] at hcut
        refine cut_end (by k_asm) N9 rfl rfl hTI hlT (strs_app hA') (by rw [bit_ne, hl1]; exact hcut) (by simp) (by rw [List.length_append, List.length_singleton]; omega) (fun t ht => ?_)
        rcases List.mem_append.mp ht with ht | ht
        · have := hlens t (List.mem_append.mpr (.inl ht)); omega
        · rw [List.mem_singleton.mp ht, List.length_append, List.length_singleton]
          have := hlens w9 (List.mem_append.mpr (.inr (.head _)))
          omega
      · rename News _ _ _ _ => N9
        have q2 : (x.fdiv 256).fmod 6 ≠ 0 := by assumption
        have hc2 : (isLet (octN x) && gapN x == 0) = false := by
          rw [Bool.and_eq_false_iff]
          exact .inr (by rw [beq_eq_false_iff_ne]; omega)
        rw [hc2] at hcut
        rw [hone] at N9
        refine cut_end (by k_asm) N9 rfl rfl hTI hlT (strs_app hA) (by rw [bit_ne]; exact hcut) (by simp) (by rw [List.length_append, List.length_append, List.length_singleton, List.length_singleton]; omega) (fun t ht => ?_)
        rcases List.mem_append.mp ht with ht | ht
        · have := hlens t ht; omega
        · rw [List.mem_singleton.mp ht, List.length_singleton]; omega
      · rename News _ _ _ _ => N9
        have hc2 : (isLet (octN x) && gapN x == 0) = false := by
          have q := hb.mp (by assumption)
          rw [Int.toNat_natCast] at q
          rw [q]; rfl
        rw [hc2] at hcut
        rw [hone] at N9
        refine cut_end (by k_asm) N9 rfl rfl hTI hlT (strs_app hA) (by rw [bit_ne]; exact hcut) (by simp) (by rw [List.length_append, List.length_append, List.length_singleton, List.length_singleton]; omega) (fun t ht => ?_)
        rcases List.mem_append.mp ht with ht | ht
        · have := hlens t ht; omega
        · rw [List.mem_singleton.mp ht, List.length_singleton]; omega
  · rintro m₁ news₁ h₁ tk₁ ⟨T, us, ct, go, A, e1, e2, rfl, hlT, hA, hcut, hgo, hlen, hlens⟩ F2 N2
    have F3 := fr_know (a := Str.ofString "tokens") (v := .ref T) e1 F2
    rw [List.drop_eq_nil_of_le (by rw [hi.length]; exact Nat.le_refl _), cutF] at hcut
    (repeat' (first | ((with_reducible show wpAny _ _ (PySem.call _ _ _) _ _ _); with_reducible (first | (((show wpAny _ _ (PySem.call (Value.ref 763) _ _) _ _ _); k_dflt (refine' by_contract ?B ?F ?X ?N ?T ?hA ?hf ?hk (fun g' G' => c_octet ?a1 ?a2 G') ?P ?S ?_; walk_at "m.site"; (case a1 => walk_at "m.un"); (case a2 => walk_at "m.un"); rintro v' small' h' tk' F' N' ⟨e1', t', e2'⟩; subst e1'; subst e2'; walk_at "m.led"))) | ((with_reducible show wpAny _ _ (PySem.call (Value.builtin "list.append") _ _) _ _ _); k_dflt (refine' appendL ?ma ?mb ?mz ?mc ?_; (case ma => k_asm); (case mb => k_asm); (case mz => first | assumption | omega); (case mc => k_upd); intro h' F' N'; (try k_sweep))))) | walk_at "m.step"))
    all_goals (try dsimp only)
    refine Post.intro (by k_asm) (News.swap (by k_asm)) (fun _ h => h) ⟨T, us, ct, rfl, rfl, ?_⟩
    rw [← hcut]
    exact hA
end
end PartC3
section PartForS
section
variable {prog : Program} {w : World} {A : Around} {E : Value → Shared → Prop} {s : Shared} {env : Env} {h₀ : Heap} {L : Addr} {m : Str → Option Value} {news : List (Addr × Obj)}

noncomputable abbrev strO (T : String) (b : Str) (tb : Tok) : Obj := { cls := .type T, data := .fields #[.str b tb, .int 0 0] }
noncomputable def WalkEnd (h₀ : Heap) (L : Addr) (s : Shared) (J : (Str → Option Value) → List (Addr × Obj) → Prop) (Q : Flow → Shared → Prop) (I : Addr) (oI : Obj) (f : Flow) (s₃ : Shared) : Prop :=
  match f with
  | .next | .cont => ∃ h' tk m₂ news₂, s₃ = { s with heap := h', toks := tk } ∧ Fr h₀ L h' m₂ ∧ News h₀ L h' ((I, oI) :: news₂) ∧ (∀ p ∈ news₂, p.1 ≠ I) ∧ J m₂ news₂
  | .brk => Q .next s₃
  | .ret v => Q (.ret v) s₃

theorem walk_iter {Q : Flow → Shared → Prop} {x : Str} {px : Pos} {body : List Stmt} {I : Addr} {o₀ : Obj} {n : Nat} {P : Nat → Value → Prop} {St : Nat → Heap → Prop} (J : Nat → (Str → Option Value) → List (Addr × Obj) → Prop)
    (W : Walks prog w A I [I] [I] n P St) (hob : ∀ i h, St i h → ∃ o, h.get? I = some o)
    (hx : env.kindOf x = some .local) (hp : (env.scope.kind == .class || (env.scope.kind == .module && env.locals != env.globals)) = false)
    (F : Fr h₀ env.locals s.heap m) (N : News h₀ env.locals s.heap ((I, o₀) :: news)) (hSt : St 0 s.heap) (hI : ∀ p ∈ news, p.1 ≠ I) (h0 : J 0 m news)
    (turn : ∀ i v m₁ news₁ h₁ tk₁ oI, i < n → P i v → J i m₁ news₁ → (∀ p ∈ news₁, p.1 ≠ I) → Fr h₀ env.locals h₁ (fun y => if y = x then some v else m₁ y) → News h₀ env.locals h₁ ((I, oI) :: news₁) →
      wpAny (model prog w) A (execs body env) (WalkEnd h₀ env.locals s (J (i + 1)) Q I oI) E { s with heap := h₁, toks := tk₁ })
    (done : ∀ m₁ news₁ h₁ tk₁, J n m₁ news₁ → Fr h₀ env.locals h₁ m₁ → News h₀ env.locals h₁ news₁ → Q .next { s with heap := h₁, toks := tk₁ })
    (hE : PassesOwn (model prog w) A env E) :
    codeAny (model prog w) A (.forLoop (.Name x px) (.ref I) body [] env) (fun r s' => match r with | .ok f => Q f s' | .error e => cameBackBy (model prog w) A env E e s') s := by
  have hIL : I ≠ env.locals := (N (I, o₀) (.head _)).2.1
  have hI0 : h₀.get? I = none := (N (I, o₀) (.head _)).2.2
  have old : ∀ b o, h₀.get? b = some o → b ∉ [I] := fun b o e hb => by rw [List.mem_singleton.mp hb, hI0] at e; cases e
  refine codeAny_forLoop
    (fun k s' => ∃ h' tk m' news' i, s' = { s with heap := h', toks := tk } ∧ St i h' ∧ Fr h₀ env.locals h' m' ∧ News h₀ env.locals h' news' ∧ (∀ p ∈ news', p.1 ≠ I) ∧ J i m' news' ∧ i ≤ n ∧ k = n + 1 - i) ?_ (n + 1)
    ⟨s.heap, s.toks, m, news, 0, rfl, hSt, F, fun p hp => N p (.tail _ hp), hI, h0, Nat.zero_le _, rfl⟩
  rintro k s' ⟨h', tk, m', news', i, rfl, hst', F', N', hI', hJ, hi, rfl⟩
  have next : ∀ h₁ : Heap, (∀ b o, b ∉ [I] → h'.get? b = some o → h₁.get? b = some o) → Fr h₀ env.locals h₁ m' ∧ News h₀ env.locals h₁ news' := fun h₁ hk₁ =>
    ⟨⟨F'.ns.at' fun o e => hk₁ _ o (fun hm => hIL (List.mem_singleton.mp hm).symm) e, fun b o e => hk₁ b o (old b o e) (F'.keep b o e), F'.above⟩,
      fun p hp => ⟨hk₁ _ _ (fun hm => hI' p hp (List.mem_singleton.mp hm)) (N' p hp).1, (N' p hp).2⟩⟩
  by_cases hlt : i < n
  · refine W.item i _ _ _ hlt hst' fun v h₁ tk₁ hP hst₁ hk₁ => ?_
    obtain ⟨F₁, N₁⟩ := next h₁ hk₁
    refine wpAny_assign_Name (wpAny_storeName_local hx F₁.ns (fun h₂ hn₂ hs₂ => ?_) hp)
    have F₂ := F₁.set hn₂ hs₂
    have N₂ := N₁.set hs₂
    have hst₂ : St (i + 1) h₂ := W.frame _ _ _ hst₁ fun b hb o e => (hs₂.2 b fun q => hIL ((List.mem_singleton.mp hb).symm.trans q)).trans e
    obtain ⟨oI, hoI⟩ := hob _ _ hst₂
    have N₃ : News h₀ env.locals h₂ ((I, oI) :: news') := fun p hp => by
      rcases List.mem_cons.mp hp with rfl | hp
      · exact ⟨hoI, hIL, hI0⟩
      · exact N₂ p hp
    refine wpAny_passesOwn hE (wpAny_mono (turn i v m' news' h₂ _ oI hlt hP hJ hI' F₂ N₃) (fun f s₃ h₃ => ?_) fun _ _ e => e)
    have go : ∀ {h₃' : Heap} {news₂ : List (Addr × Obj)}, News h₀ env.locals h₃' ((I, oI) :: news₂) → St (i + 1) h₃' := fun N₄ =>
      W.frame _ _ _ hst₂ fun b hb o e => by
        rw [List.mem_singleton.mp hb] at e ⊢
        rw [hoI] at e
        cases e
        exact (N₄ (I, oI) (.head _)).1
    cases f with
    | ret v => exact h₃
    | brk => exact h₃
    | cont =>
      obtain ⟨h₃', tk₃, m₂, news₂, rfl, F₃, N₄, ha₃, hJ₃⟩ := h₃
      exact ⟨n + 1 - (i + 1), by omega, h₃', tk₃, m₂, news₂, i + 1, rfl, go N₄, F₃, fun p hp => N₄ p (.tail _ hp), ha₃, hJ₃, hlt, rfl⟩
    | next =>
      obtain ⟨h₃', tk₃, m₂, news₂, rfl, F₃, N₄, ha₃, hJ₃⟩ := h₃
      exact ⟨n + 1 - (i + 1), by omega, h₃', tk₃, m₂, news₂, i + 1, rfl, go N₄, F₃, fun p hp => N₄ p (.tail _ hp), ha₃, hJ₃, hlt, rfl⟩
  · have hin : i = n := by omega
    subst hin
    refine W.done _ _ _ hst' fun h₁ tk₁ hk₁ => wpAny_execs_nil ?_
    obtain ⟨F₁, N₁⟩ := next h₁ hk₁
    exact done m' news' h₁ tk₁ hJ F₁ N₁

/-- for x in it: .., it an iterator -/
theorem for_of {Q : Flow → Shared → Prop} {x : Str} {px pos : Pos} {iter : Expr} {body : List Stmt} {I : Addr}
    (hi : ∀ E' Q', Q' (.ref I) s → wpAny (model prog w) A (eval iter env) Q' E' s)
    (hself : ∀ E' Q', Q' (.ref I) s → wpAny (model prog w) A (pyIter (.ref I)) Q' E' s)
    (h : codeAny (model prog w) A (.forLoop (.Name x px) (.ref I) body [] env) (fun r s' => match r with | .ok f => Q f s' | .error e => cameBackBy (model prog w) A env E e s') s)
    (hs : ∀ x, foldedSetIterable iter env x = pure x := by intro _; rfl) :
    wpAny (model prog w) A (exec (.For (.Name x px) iter body [] pos) env) Q E s :=
  wpAny_For (hi _ _ (hself _ _ h)) hs

/-- iter(text) -/
theorem iter_str_K {b : Str} {tb : Tok} {Q : Value → Shared → Prop} (F : Fr h₀ L s.heap m) (N : News h₀ L s.heap news)
    (h : ∀ (I : Addr) h' T, (T = "str_ascii_iterator" ∨ T = "str_iterator") → Fr h₀ L h' m → News h₀ L h' ((I, strO T b tb) :: news) → (∀ p ∈ news, p.1 < I) → Q (.ref I) { s with heap := h' }) :
    wpAny (model prog w) A (call (.builtin "iter") [.str b tb]) Q E s := by
  refine call_function_entry (by decide +kernel) (by decide +kernel) kdk_entry_iter (kdk_args_iter _) ?_
  unfold Builtin.«iter»
  refine wpAny_bind (m := someArgs "iter" 1 2 _) (wpAny_of_eq (a := [Value.str b tb]) (by first | rfl | kernel_rfl!) ?_)
  show wpAny _ _ (pyIter (.str b tb) >>= _) _ _ _
  refine wpAny_bind ?_
  cases ha : b.cps.all (· < 128)
  · refine wpAny_pyIter_wide ha ?_
    exact wpAny_pure ⟨_, rfl, h _ _ _ (.inr rfl) (F.push _) (News.push F N _ rfl) (fun q hq => Heap.lt_size (N q hq).1)⟩
  · refine wpAny_pyIter_ascii ha ?_
    exact wpAny_pure ⟨_, rfl, h _ _ _ (.inl rfl) (F.push _) (News.push F N _ rfl) (fun q hq => Heap.lt_size (N q hq).1)⟩

theorem for_str {Q : Flow → Shared → Prop} {x : Str} {px pos : Pos} {iter : Expr} {body : List Stmt} {I : Addr} {b : Str} {tb : Tok} {T : String} (J : Nat → (Str → Option Value) → List (Addr × Obj) → Prop)
    (hh : A.handled = none) (hT : T = "str_ascii_iterator" ∨ T = "str_iterator")
    (hx : env.kindOf x = some .local) (hp : (env.scope.kind == .class || (env.scope.kind == .module && env.locals != env.globals)) = false)
    (hi : ∀ E' Q', Q' (.ref I) s → wpAny (model prog w) A (eval iter env) Q' E' s)
    (F : Fr h₀ env.locals s.heap m) (N : News h₀ env.locals s.heap ((I, strO T b tb) :: news)) (hI : ∀ p ∈ news, p.1 ≠ I) (h0 : J 0 m news)
    (turn : ∀ i v m₁ news₁ h₁ tk₁ oI, i < b.cps.size → SignAt b i v → J i m₁ news₁ → (∀ p ∈ news₁, p.1 ≠ I) → Fr h₀ env.locals h₁ (fun y => if y = x then some v else m₁ y) → News h₀ env.locals h₁ ((I, oI) :: news₁) →
      wpAny (model prog w) A (execs body env) (WalkEnd h₀ env.locals s (J (i + 1)) Q I oI) E { s with heap := h₁, toks := tk₁ })
    (done : ∀ m₁ news₁ h₁ tk₁, J b.cps.size m₁ news₁ → Fr h₀ env.locals h₁ m₁ → News h₀ env.locals h₁ news₁ → Q .next { s with heap := h₁, toks := tk₁ })
    (hE : PassesOwn (model prog w) A env E)
    (hs : ∀ x, foldedSetIterable iter env x = pure x := by intro _; rfl) :
    wpAny (model prog w) A (exec (.For (.Name x px) iter body [] pos) env) Q E s := by
  have hSt : s.heap.IsStrIter I T b tb 0 := ⟨_, (N _ (.head _)).1, rfl, rfl⟩
  rcases hT with rfl | rfl
  · have W := Walks.strAscii (prog := prog) (w := w) (A := A) hh I b tb
    exact for_of hi (fun E' Q' hq => W.self 0 _ _ _ hSt hq) (walk_iter J W (fun i h st => let ⟨o, ho, _⟩ := st; ⟨o, ho⟩) hx hp F N hSt hI h0 turn done hE) hs
  · have W := Walks.strWide (prog := prog) (w := w) (A := A) hh I b tb
    exact for_of hi (fun E' Q' hq => W.self 0 _ _ _ hSt hq) (walk_iter J W (fun i h st => let ⟨o, ho, _⟩ := st; ⟨o, ho⟩) hx hp F N hSt hI h0 turn done hE) hs
end
end PartForS
section PartC4
local macro_rules | `(tactic| walk_at "exec For Name Name cons nil") => `(tactic| refine held_tree ?_)
local macro_rules | `(tactic| walk_at "compareOp Is int ref") => `(tactic| refine wpAny_is_other (by rfl) (by intro x; cases x) ?_)
section
variable {w : World} {dp un : Nat} {s : Shared} {base g : Heap} {fr : List Env} {p : Program} {loose : List Str} {mean : ExcName → Option Value} {mg mb : Str → Option Value}
theorem c_digit {v : Int} {c : Nat} {tv tc : Tok} (hd : dp ≤ 600) (hu : un ≤ 5000) (hc : c < 256)
    (G : Gd w (Aat dp un fr) base fr p loose mean mg mb g s.heap []) :
    codeAny (model PySem.Challenge.pw_il0179_01 w) (Aat dp un fr) (.call (.ref 777) ⟨[.int v tv, .str ⟨#[c]⟩ tc], []⟩) (Post g (fun r n => n = [] ∧ ∃ t, r = .int (v * 64 + ((c % 64 : Nat) : Int)) t) s) s := by
  walk_at "m.enter"
  (repeat' (first | ((with_reducible show wpAny _ _ (PySem.call _ _ _) _ _ _); with_reducible (first | ((with_reducible show wpAny _ _ (PySem.call (Value.builtin "iter") _ _) _ _ _); ((with_reducible show wpAny _ _ (PySem.call (Value.builtin "iter") [Value.str _ _]) _ _ _); k_dflt (refine' iter_str_K ?ma ?mb ?_; (case ma => k_asm); (case mb => k_asm); intro I' h' T9 hT' F' N' l1; (try k_lt l1); (try k_sweep)))))) | walk_at "m.step"))
  all_goals (try dsimp only)
  have e : ((c : Int)).fmod 64 = ((c % 64 : Nat) : Int) := by rw [Int.fmod_eq_emod_of_nonneg _ (by decide)]; omega
  rw [e]
  exact Post.intro (by k_asm) (by k_asm) (fun _ h => h) ⟨rfl, _, rfl⟩
end
section
variable {w : World} {dp un : Nat} {s : Shared} {base g : Heap} {fr : List Env} {p : Program} {loose : List Str} {mean : ExcName → Option Value} {mg mb : Str → Option Value}
noncomputable def DigJ (b : Str) (i : Nat) (m : Str → Option Value) (nw : List (Addr × Obj)) : Prop :=
  ∃ t, m (Str.ofString "value") = some (.int ((b.cps.toList.take i).foldl (fun v c => v * 64 + ((c % 64 : Nat) : Int)) 0) t) ∧ m (Str.ofString "function") = some (.ref 777) ∧ nw = []
theorem c_redDigit {b : Str} {tb tz : Tok} (hd : dp ≤ 500) (hu : un ≤ 4000) (hb : ∀ c ∈ b.cps.toList, c < 256)
    (G : Gd w (Aat dp un fr) base fr p loose mean mg mb g s.heap []) :
    codeAny (model PySem.Challenge.pw_il0179_01 w) (Aat dp un fr) (.call (.ref 742) ⟨[.ref 777, .str b tb, .int 0 tz], []⟩) (Post g (fun r n => n = [] ∧ ∃ t, r = .int (b.cps.toList.foldl (fun v c => v * 64 + ((c % 64 : Nat) : Int)) 0) t) s) s := by
  walk_at "m.enter"
  (repeat' (first | ((with_reducible show wpAny _ _ (PySem.call _ _ _) _ _ _); with_reducible (first | (((show wpAny _ _ (PySem.call (Value.ref 777) _ _) _ _ _); k_dflt (refine' by_contract ?B ?F ?X ?N ?T ?hA ?hf ?hk (fun g' G' => c_digit ?a1 ?a2 ?a3 G') ?P ?S ?_; walk_at "m.site"; (case a1 => walk_at "m.un"); (case a2 => walk_at "m.un"); (case a3 => k_asm); rintro v' small' h' tk' F' N' ⟨e1', t', e2'⟩; subst e1'; subst e2'; walk_at "m.led"))) | ((with_reducible show wpAny _ _ (PySem.call (Value.builtin "iter") _ _) _ _ _); ((with_reducible show wpAny _ _ (PySem.call (Value.builtin "iter") [Value.str _ _]) _ _ _); k_dflt (refine' iter_str_K ?ma ?mb ?_; (case ma => k_asm); (case mb => k_asm); intro I' h' T9 hT' F' N' l1; (try k_lt l1); (try k_sweep)))))) | walk_at "m.step"))
  all_goals (try dsimp only)
  rename Fr _ _ _ _ => F1
  rename News _ _ _ _ => N1
  refine for_str (b := b) (DigJ b) rfl (by assumption) (by rfl) (by rfl) ?_ F1 N1 (List.forall_mem_nil _) ⟨_, rfl, rfl, rfl⟩ ?_ ?_ (by first | assumption | passes_own)
  · intro E' Q' hq
    (repeat' (first | ((with_reducible show wpAny _ _ (PySem.call _ _ _) _ _ _); with_reducible (first | (((show wpAny _ _ (PySem.call (Value.ref 777) _ _) _ _ _); k_dflt (refine' by_contract ?B ?F ?X ?N ?T ?hA ?hf ?hk (fun g' G' => c_digit ?a1 ?a2 ?a3 G') ?P ?S ?_; walk_at "m.site"; (case a1 => walk_at "m.un"); (case a2 => walk_at "m.un"); (case a3 => k_asm); rintro v' small' h' tk' F' N' ⟨e1', t', e2'⟩; subst e1'; subst e2'; walk_at "m.led"))) | ((with_reducible show wpAny _ _ (PySem.call (Value.builtin "iter") _ _) _ _ _); ((with_reducible show wpAny _ _ (PySem.call (Value.builtin "iter") [Value.str _ _]) _ _ _); k_dflt (refine' iter_str_K ?ma ?mb ?_; (case ma => k_asm); (case mb => k_asm); intro I' h' T9 hT' F' N' l1; (try k_lt l1); (try k_sweep)))))) | walk_at "m.step"))
    all_goals (try dsimp only)
    exact hq
  · rintro i v m₁ news₁ h₁ tk₁ oI hi ⟨c, u, hc, rfl⟩ ⟨t, e1, e2, rfl⟩ _ F2 N2
    have hcl : c < 256 := hb c (by rw [← Array.getElem?_toList] at hc; exact List.mem_of_getElem? hc)
    have F3 := fr_know (a := Str.ofString "value") (by rw [if_neg (by decide)]; exact e1) F2
    have F4 := fr_know (a := Str.ofString "function") (v := .ref 777) (by rw [if_neg (by decide), if_neg (by decide)]; exact e2) F3
    clear F1 N1 F2 F3
    (repeat' (first | ((with_reducible show wpAny _ _ (PySem.call _ _ _) _ _ _); with_reducible (first | (((show wpAny _ _ (PySem.call (Value.ref 777) _ _) _ _ _); k_dflt (refine' by_contract ?B ?F ?X ?N ?T ?hA ?hf ?hk (fun g' G' => c_digit ?a1 ?a2 ?a3 G') ?P ?S ?_; walk_at "m.site"; (case a1 => walk_at "m.un"); (case a2 => walk_at "m.un"); (case a3 => k_asm); rintro v' small' h' tk' F' N' ⟨e1', t', e2'⟩; subst e1'; subst e2'; walk_at "m.led"))) | ((with_reducible show wpAny _ _ (PySem.call (Value.builtin "iter") _ _) _ _ _); ((with_reducible show wpAny _ _ (PySem.call (Value.builtin "iter") [Value.str _ _]) _ _ _); k_dflt (refine' iter_str_K ?ma ?mb ?_; (case ma => k_asm); (case mb => k_asm); intro I' h' T9 hT' F' N' l1; (try k_lt l1); (try k_sweep)))))) | walk_at "m.step"))
    all_goals (try dsimp only)
    have hs : b.cps.toList.take (i + 1) = b.cps.toList.take i ++ [c] := by
      rw [List.take_add_one, Array.getElem?_toList, hc]; rfl
    have hs2 : (b.cps.toList.take (i + 1)).foldl (fun v c => v * 64 + ((c % 64 : Nat) : Int)) 0 = (b.cps.toList.take i).foldl (fun v c => v * 64 + ((c % 64 : Nat) : Int)) 0 * 64 + ((c % 64 : Nat) : Int) := by
      rw [hs, List.foldl_append]; rfl
    exact ⟨_, _, _, [], rfl, by k_asm, by k_asm, List.forall_mem_nil _, _, (congrArg (fun z => some (Value.int z _)) hs2.symm), rfl, rfl⟩
  · rintro m₁ news₁ h₁ tk₁ ⟨t, e1, e2, rfl⟩ F2 N2
    have F3 := fr_know (a := Str.ofString "value") e1 F2
    (repeat' (first | ((with_reducible show wpAny _ _ (PySem.call _ _ _) _ _ _); with_reducible (first | (((show wpAny _ _ (PySem.call (Value.ref 777) _ _) _ _ _); k_dflt (refine' by_contract ?B ?F ?X ?N ?T ?hA ?hf ?hk (fun g' G' => c_digit ?a1 ?a2 ?a3 G') ?P ?S ?_; walk_at "m.site"; (case a1 => walk_at "m.un"); (case a2 => walk_at "m.un"); (case a3 => k_asm); rintro v' small' h' tk' F' N' ⟨e1', t', e2'⟩; subst e1'; subst e2'; walk_at "m.led"))) | ((with_reducible show wpAny _ _ (PySem.call (Value.builtin "iter") _ _) _ _ _); ((with_reducible show wpAny _ _ (PySem.call (Value.builtin "iter") [Value.str _ _]) _ _ _); k_dflt (refine' iter_str_K ?ma ?mb ?_; (case ma => k_asm); (case mb => k_asm); intro I' h' T9 hT' F' N' l1; (try k_lt l1); (try k_sweep)))))) | walk_at "m.step"))
    all_goals (try dsimp only)
    rw [show b.cps.size = b.cps.toList.length by simp, List.take_length]
    exact Post.intro (by k_asm) (by k_asm) (fun _ h => h) ⟨rfl, _, rfl⟩
end
section
variable {w : World} {dp un : Nat} {s : Shared} {base g : Heap} {fr : List Env} {p : Program} {loose : List Str} {mean : ExcName → Option Value} {mg mb : Str → Option Value}
noncomputable abbrev tupO (vs : List Value) : Obj := { cls := .type "tuple", data := .seq vs.toArray }
noncomputable def numOf (l : List Nat) : Int := l.foldl (fun v c => v * 64 + ((c % 64 : Nat) : Int)) 0
noncomputable def tokStep (st : List Int × List Nat) (t : List Nat) : List Int × List Nat := if isLet (t.headD 0) = true then (st.1, st.2 ++ t) else (numOf (st.2 ++ t) :: st.1, [])
theorem str_item0 {prog : Program} {A : Around} {E : Value → Shared → Prop} {value slice : Expr} {b : Str} {tb u : Tok} {c0 : Nat} {tl : List Nat} {Q : Value → Shared → Prop} (hk : b.cps.toList = c0 :: tl) (h : ∀ t k, Q (.str ⟨#[c0]⟩ t) { s with toks := k })
    (hs : subscripted slice false (.str b tb) (.int 0 u) = operate [.str b tb, .int 0 u] (getItem (.str b tb) (.int 0 u)) := by with_unfolding_all rfl) (ht : ∀ r, letTemporaryGo value (.str b tb) r = pure () := by intro _; with_unfolding_all rfl) :
    wpAny (model prog w) A (subscriptTail value slice (.str b tb) (.int 0 u)) Q E s := by
  refine tail_any (typeIs_str s b tb) PySem.F.slot_str_getitem.lookup (P.getItem_str (by decide) (c := c0) ?_ (h _ _)) hs
  have hl : b.length = tl.length + 1 := by
    have := congrArg List.length hk
    simpa [Str.length] using this
  have hc : b.cps[0]? = some c0 := by rw [← Array.getElem?_toList, hk]; rfl
  rw [hl]
  have e : seqIndex? 0 (tl.length + 1) = some 0 := by
    unfold seqIndex?
    simp
  rw [e]
  exact hc
end
local macro_rules | `(tactic| walk_at "subscriptTail") => `(tactic| k_dflt (refine' str_item0 ?ma ?_ ?mb ?mc; (case ma => k_asm); (case mb => with_unfolding_all rfl); (case mc => (intro _; with_unfolding_all rfl)); intro t' k'))
section
variable {w : World} {dp un : Nat} {s : Shared} {base g : Heap} {fr : List Env} {p : Program} {loose : List Str} {mean : ExcName → Option Value} {mg mb : Str → Option Value}
noncomputable def TokΦ (st : List Int × List Nat) (r : Value) (n : List (Addr × Obj)) : Prop :=
  ∃ (T' l' : Addr) (us' : List Value) (c' : Nat) (W' : Str) (tw' : Tok), r = .ref T' ∧ @LT.lt Nat _ l' T' ∧ n = [(T', tupO [.ref l', .str W' tw']), (l', listOf us'.toArray c')] ∧ IntsAre us' st.1 ∧ W'.cps.toList = st.2
theorem c_token {T l : Addr} {us : List Value} {ns : List Int} {c : Nat} {wd tok : Str} {tw tt : Tok} {c0 : Nat} {tl : List Nat} (hd : dp ≤ 450) (hu : un ≤ 3500) (hi : IntsAre us ns) (hz : us.length ≤ 100) (hW : wd.length ≤ 100) (hk : tok.cps.toList = c0 :: tl) (hkl : tok.length ≤ 100)
    (hb : ∀ c ∈ (wd ++ tok).cps.toList, c < 256) (hTl : @LT.lt Nat _ l T)
    (G : Gd w (Aat dp un fr) base fr p loose mean mg mb g s.heap [(T, tupO [.ref l, .str wd tw]), (l, listOf us.toArray c)]) :
    codeAny (model PySem.Challenge.pw_il0179_01 w) (Aat dp un fr) (.call (.ref 784) ⟨[.ref T, .str tok tt], []⟩) (Post g (TokΦ (tokStep (ns, wd.cps.toList) (c0 :: tl))) s) s := by
  have hi' := hi
  have hzl := hi.length
  have ho : c0 < 256 := hb c0 (by
    show c0 ∈ (wd.cps ++ tok.cps).toList
    rw [Array.toList_append, hk]
    simp)
  walk_at "m.enter"
  (repeat' (first | ((with_reducible show wpAny _ _ (PySem.call _ _ _) _ _ _); with_reducible (first | (((show wpAny _ _ (PySem.call (Value.ref 742) _ _) _ _ _); k_dflt (refine' by_contract ?B ?F ?X ?N ?T ?hA ?hf ?hk (fun g' G' => c_redDigit ?a1 ?a2 ?a3 G') ?P ?S ?_; walk_at "m.site"; (case a1 => walk_at "m.un"); (case a2 => walk_at "m.un"); (case a3 => k_asm); rintro v' small' h' tk' F' N' ⟨e1', t', e2'⟩; subst e1'; subst e2'; walk_at "m.led"))) | (((show wpAny _ _ (PySem.call (Value.ref 777) _ _) _ _ _); k_dflt (refine' by_contract ?B ?F ?X ?N ?T ?hA ?hf ?hk (fun g' G' => c_digit ?a1 ?a2 ?a3 G') ?P ?S ?_; walk_at "m.site"; (case a1 => walk_at "m.un"); (case a2 => walk_at "m.un"); (case a3 => k_asm); rintro v' small' h' tk' F' N' ⟨e1', t', e2'⟩; subst e1'; subst e2'; walk_at "m.led"))) | ((with_reducible show wpAny _ _ (PySem.call (Value.builtin "iter") _ _) _ _ _); ((with_reducible show wpAny _ _ (PySem.call (Value.builtin "iter") [Value.str _ _]) _ _ _); k_dflt (refine' iter_str_K ?ma ?mb ?_; (case ma => k_asm); (case mb => k_asm); intro I' h' T9 hT' F' N' l1; (try k_lt l1); (try k_sweep)))))) | walk_at "m.step"))
  all_goals (try dsimp only)
  · have hl1 : isLet c0 = true := by
      have q := bit_let _ ho
      cases e : isLet c0 with
      | true => rfl
      | false => exact absurd (q.mpr e) (by assumption)
    have hst : tokStep (ns, wd.cps.toList) (c0 :: tl) = (ns, wd.cps.toList ++ (c0 :: tl)) := by
      unfold tokStep
      exact if_pos hl1
    rw [hst]
    refine' Post.intro (by k_asm) (by k_asm) ?led ⟨_, _, _, _, _, _, rfl, ?lt, rfl, ?I, ?W⟩
    case led => k_allIn
    case lt => omega
    case I => exact hi
    case W =>
      show (wd.cps ++ tok.cps).toList = _
      rw [Array.toList_append, hk]
  · have hl0 : isLet c0 = false := (bit_let _ ho).mp (by assumption)
    have hwt : (wd ++ tok).cps.toList = wd.cps.toList ++ (c0 :: tl) := by
      show (wd.cps ++ tok.cps).toList = _
      rw [Array.toList_append, hk]
    have hst : tokStep (ns, wd.cps.toList) (c0 :: tl) = (numOf (wd ++ tok).cps.toList :: ns, []) := by
      unfold tokStep
      rw [hwt]
      exact if_neg (by show ¬ (isLet c0 = true); rw [hl0]; decide)
    rw [hst]
    refine' Post.intro (by k_asm) (by k_asm) ?led ⟨_, _, _, _, _, _, rfl, ?lt, rfl, ?I, ?W⟩
    case led => k_allIn
    case lt => omega
    case I => assumption
    case W => exact lit_nil
end
end PartC4
section PartBy2
section
variable {prog : Program} {w : World} {A₀ A : Around} {s : Shared} {base h₀ : Heap} {outer : List Env} {env : Env} {L : Addr} {m : Str → Option Value} {p : Program} {loose : List Str} {mean : ExcName → Option Value} {mg mb : Str → Option Value}
  {all small rest : List (Addr × Obj)} {E : Value → Shared → Prop}
/-- a call by its contract; what it hands back lies apart from what stood -/
theorem by_contract2 {f : Value} {pos : List Value} {kw : List (Str × Value)} {Q : Value → Shared → Prop} {Φ : Value → List (Addr × Obj) → Prop}
    (B : Below A₀ base outer h₀) (F : Fr h₀ L s.heap m) (X₀ : (hd.heap_39 w.params).In h₀) (N : News h₀ L s.heap all) (T : Top p loose mean mg mb h₀) (hA : A.frames = some (env :: outer)) (hf : env.frame = some L) (hke : env.scope.kind = .function)
    (C : ∀ g, Gd w A base (env :: outer) p loose mean mg mb g s.heap small → codeAny (model prog w) A (.call f ⟨pos, kw⟩) (Post g Φ s) s)
    (hp : Pick small all rest) (hsep : ∀ q ∈ small, ∀ p ∈ rest, p.1 ≠ q.1)
    (h : ∀ v small' h' tk, Fr h₀ L h' m → News h₀ L h' (small' ++ rest) → (∀ q ∈ small', ∀ p ∈ rest, p.1 ≠ q.1) → Φ v small' → Q v { s with heap := h', toks := tk }) :
    wpAny (model prog w) A (PySem.call f pos kw) Q E s := by
  have Ns : News h₀ L s.heap small := fun q hq => N q (hp.mem.1 q hq)
  obtain ⟨FG, BG, st, _⟩ := groundX (R := fun _ _ => True) B F Ns hA hf hke
  refine wpAny_call (codeAny_mono (C _ ⟨BG, X₀.keeps st, T.keeps st, fun b o e => of_hideAll _ e, Nat.le_of_eq (hideAll_size _ _), fun q hq => ⟨(Ns q hq).1, hideAll_none _ (List.mem_map_of_mem hq)⟩⟩) fun r s' hr => ?_)
  obtain ⟨v, small', h', tk, L', m', rfl, rfl, F', N', hΦ⟩ := hr
  obtain ⟨oL, es, ep, hL, hLd, hLk, hLf⟩ := FG.ns
  have vis : ∀ q ∈ rest, (hideAll s.heap (small.map (·.1))).get? q.1 = some q.2 := fun q hq => hideAll_get _ (N q (hp.mem.2 q hq)).1 fun hm => by
    obtain ⟨y, hy, e⟩ := List.mem_map.mp hm
    exact hsep y hy q hq e.symm
  refine h v small' h' tk ⟨⟨oL, es, ep, F'.keep L oL hL, hLd, hLk, hLf⟩, fun b o e => F'.keep b o (st b o e), F.above⟩ (fun q hq => ?_) (fun q hq p hp e => ?_) hΦ
  · rcases List.mem_append.mp hq with hq | hq
    · refine ⟨(N' q hq).1, fun e => ?_, ?_⟩
      · have := (N' q hq).2.2; rw [e, hL] at this; cases this
      · cases e : h₀.get? q.1 with
        | none => rfl
        | some o => have := (N' q hq).2.2; rw [st _ _ e] at this; cases this
    · exact ⟨F'.keep _ _ (vis q hq), (N q (hp.mem.2 q hq)).2⟩
  · have := (N' q hq).2.2
    rw [← e, vis p hp] at this; cases this
end
end PartBy2
section PartC5
local macro_rules | `(tactic| walk_at "exec For Name Name cons nil") => `(tactic| refine held_tree ?_)
theorem is_tup_other {M : Model} {A : Around} {E : Value → Shared → Prop} {s : Shared} {x y : Addr} {ox oy : Obj} {Q : Value → Shared → Prop} (hxy : x ≠ y) (hx : s.heap.get? x = some ox) (hy : s.heap.get? y = some oy) (hb : oy.cls ≠ Value.type "tuple") (h : Q (.bool false) s) :
    wpAny M A (compareOp .Is (.ref x) (.ref y)) Q E s := by
  unfold compareOp isSame
  dsimp only
  refine wpAny_bind ?_
  rw [if_neg (by simpa using hxy)]
  refine wpAny_bind (wpAny_load hx (wpAny_bind (wpAny_load hy ?_)))
  split
  · rename_i h1 _ _ _
    exact absurd (by assumption) hb
  · exact wpAny_pure (wpAny_pure h)
theorem is_tup_K {M : Model} {A : Around} {E : Value → Shared → Prop} {s : Shared} {K : Frag} {h₀ : Heap} {L x y : Addr} {m : Str → Option Value} {ox oy : Obj} {news : List (Addr × Obj)} {Q : Value → Shared → Prop} (F : Fr h₀ L s.heap m) (N : News h₀ L s.heap news) (X₀ : K.In h₀) (hm : (x, ox) ∈ news) (hy : K.lookup y = some oy) (hb : oy.cls ≠ Value.type "tuple") (h : Q (.bool false) s) :
    wpAny M A (compareOp .Is (.ref x) (.ref y)) Q E s := is_tup_other (kto_neNK N hm X₀ hy) (N _ hm).1 (F.keep _ _ (X₀ _ _ hy)) hb h
theorem strs_get {A : List (List Nat)} : ∀ {vs : List Value}, StrsAre vs (strsOf A) → ∀ {i : Nat} {v : Value}, vs[i]? = some v → ∃ a t, A[i]? = some a ∧ v = .str ⟨a.toArray⟩ t := by
  induction A with
  | nil => intro vs h i v hv; cases h; cases hv
  | cons a A ih =>
    intro vs h i v hv
    cases h with
    | cons y t h =>
      cases i with
      | zero => cases hv; exact ⟨a, t, rfl, rfl⟩
      | succ i => exact ih h hv
theorem mem_flat {ts : List (List Nat)} {n : Nat} {c : Nat} (h : c ∈ (ts.take n).flatten) : c ∈ ts.flatten := by
  obtain ⟨t, ht, hc⟩ := List.mem_flatten.mp h
  exact List.mem_flatten.mpr ⟨t, List.mem_of_mem_take ht, hc⟩
theorem len_flat (ts : List (List Nat)) (n : Nat) : (ts.take n).flatten.length ≤ ts.flatten.length := by
  have := congrArg (fun l => l.flatten.length) (List.take_append_drop n ts)
  simp only [List.flatten_append, List.length_append] at this
  omega
theorem len_mem {ts : List (List Nat)} {t : List Nat} (h : t ∈ ts) : t.length ≤ ts.flatten.length := by
  induction ts with
  | nil => cases h
  | cons a r ih =>
    rw [List.flatten_cons, List.length_append]
    rcases List.mem_cons.mp h with rfl | h
    · omega
    · have := ih h; omega
theorem toks_inv (ts : List (List Nat)) : (ts.foldl tokStep ([], [])).1.length ≤ ts.length ∧ (ts.foldl tokStep ([], [])).2.length ≤ ts.flatten.length ∧ ∀ c ∈ (ts.foldl tokStep ([], [])).2, c ∈ ts.flatten := by
  have key : ∀ (ts : List (List Nat)) (st : List Int × List Nat), (ts.foldl tokStep st).1.length ≤ st.1.length + ts.length ∧ (ts.foldl tokStep st).2.length ≤ st.2.length + ts.flatten.length ∧ ∀ c ∈ (ts.foldl tokStep st).2, c ∈ st.2 ∨ c ∈ ts.flatten := by
    intro ts
    induction ts with
    | nil => intro st; exact ⟨Nat.le_refl _, Nat.le_refl _, fun c hc => .inl hc⟩
    | cons t ts ih =>
      intro st
      have q := ih (tokStep st t)
      rw [List.foldl_cons, List.flatten_cons, List.length_cons, List.length_append]
      have z : (tokStep st t).1.length ≤ st.1.length + 1 ∧ (tokStep st t).2.length ≤ st.2.length + t.length ∧ ∀ c ∈ (tokStep st t).2, c ∈ st.2 ∨ c ∈ t := by
        unfold tokStep
        split
        · refine ⟨Nat.le_succ _, by simp, fun c hc => List.mem_append.mp hc⟩
        · exact ⟨by simp, by simp, fun c hc => (nomatch hc)⟩
      refine ⟨by omega, by omega, fun c hc => ?_⟩
      rcases q.2.2 c hc with h | h
      · rcases z.2.2 c h with h | h
        · exact .inl h
        · exact .inr (List.mem_append.mpr (.inl h))
      · exact .inr (List.mem_append.mpr (.inr h))
  have := key ts ([], [])
  refine ⟨by simpa using this.1, by simpa using this.2.1, fun c hc => ?_⟩
  rcases this.2.2 c hc with h | h
  · cases h
  · exact h
section
variable {w : World} {dp un : Nat} {s : Shared} {base g : Heap} {fr : List Env} {p : Program} {loose : List Str} {mean : ExcName → Option Value} {mg mb : Str → Option Value}
noncomputable def TokJ (ts : List (List Nat)) (TL : Addr) (i : Nat) (m : Str → Option Value) (nw : List (Addr × Obj)) : Prop :=
  ∃ (v : Value), m (Str.ofString "value") = some v ∧ m (Str.ofString "function") = some (.ref 784) ∧ TokΦ ((ts.take i).foldl tokStep ([], [])) v nw ∧ ∀ q ∈ nw, TL ≠ q.1
theorem c_redToken {TL T l : Addr} {vs us : List Value} {c cu : Nat} {ts : List (List Nat)} {tw : Tok} (hd : dp ≤ 420) (hu : un ≤ 3200) (hv : StrsAre vs (strsOf ts)) (hne : ∀ t ∈ ts, t ≠ []) (h1 : ts.length ≤ 60) (h2 : ts.flatten.length ≤ 60) (h3 : ∀ c ∈ ts.flatten, c < 256)
    (hTl : @LT.lt Nat _ l T) (hTT : @LT.lt Nat _ TL l)
    (G : Gd w (Aat dp un fr) base fr p loose mean mg mb g s.heap [(TL, listOf vs.toArray c), (T, tupO [.ref l, .str (Str.ofString "") tw]), (l, listOf ([] : List Value).toArray cu)]) :
    codeAny (model PySem.Challenge.pw_il0179_01 w) (Aat dp un fr) (.call (.ref 742) ⟨[.ref 784, .ref TL, .ref T], []⟩) (Post g (fun r n => ∃ n', n = (TL, listOf vs.toArray c) :: n' ∧ TokΦ (ts.foldl tokStep ([], [])) r n') s) s := by
  walk_at "m.enter"
  (repeat' (first | ((with_reducible show wpAny _ _ (compareOp _ _ _) _ _ _); with_reducible (first | (((with_reducible show wpAny _ _ (compareOp CmpOp.Is (Value.ref _) (Value.ref 734)) _ _ _); k_dflt (refine' is_tup_K ?F ?N ?X ?m ?y ?b ?_; (case F => k_asm); (case N => k_asm); (case X => k_asm); (case m => k_mem); (case y => k_is); (case b => kto_not)))))) | ((with_reducible show wpAny _ _ (PySem.call _ _ _) _ _ _); with_reducible (first | (((show wpAny _ _ (PySem.call (Value.ref 784) _ _) _ _ _); refine held_tree ?_)) | ((with_reducible show wpAny _ _ (PySem.call (Value.builtin "iter") _ _) _ _ _); ((with_reducible show wpAny _ _ (PySem.call (Value.builtin "iter") [Value.ref _]) _ _ _); k_dflt (refine' iter_list_K ?ma ?mb ?mc ?_; (case ma => k_asm); (case mb => k_asm); (case mc => k_mem); intro I' h' F' N' l1; (try k_lt l1); (try k_sweep)))))) | walk_at "m.step"))
  all_goals (try dsimp only)
  rename Fr _ _ _ _ => F1
  rename News _ _ _ _ => N1
  rename (TL < _ ∧ T < _ ∧ l < _) => q1
  rename (TL < _ ∧ T < _ ∧ l < _) => q2
  refine for_of (hi := ?hi) (hself := ?hself) (h := for_iter (TokJ ts TL) (l := TL) (vs := vs) (c := c) (by rfl) (by rfl) rfl (neN (by omega)) (Nat.zero_le _) F1 N1 ?hI ?h0 ?turn ?done (by first | assumption | passes_own))
  case hi =>
    intro E' Q' hq
    (repeat' (first | ((with_reducible show wpAny _ _ (compareOp _ _ _) _ _ _); with_reducible (first | (((with_reducible show wpAny _ _ (compareOp CmpOp.Is (Value.ref _) (Value.ref 734)) _ _ _); k_dflt (refine' is_tup_K ?F ?N ?X ?m ?y ?b ?_; (case F => k_asm); (case N => k_asm); (case X => k_asm); (case m => k_mem); (case y => k_is); (case b => kto_not)))))) | ((with_reducible show wpAny _ _ (PySem.call _ _ _) _ _ _); with_reducible (first | (((show wpAny _ _ (PySem.call (Value.ref 784) _ _) _ _ _); refine held_tree ?_)) | ((with_reducible show wpAny _ _ (PySem.call (Value.builtin "iter") _ _) _ _ _); ((with_reducible show wpAny _ _ (PySem.call (Value.builtin "iter") [Value.ref _]) _ _ _); k_dflt (refine' iter_list_K ?ma ?mb ?mc ?_; (case ma => k_asm); (case mb => k_asm); (case mc => k_mem); intro I' h' F' N' l1; (try k_lt l1); (try k_sweep)))))) | walk_at "m.step"))
    all_goals (try dsimp only)
    exact hq
  case hself =>
    intro E' Q' hq
    exact wpAny_pyIter_listiter ⟨_, (N1 _ (.head _)).1, rfl, rfl⟩ hq
  case hI =>
    refine List.forall_mem_cons.mpr ⟨neN (by omega), List.forall_mem_cons.mpr ⟨neN (by omega), List.forall_mem_nil _⟩⟩
  case h0 =>
    refine ⟨_, rfl, rfl, ⟨T, l, [], cu, Str.ofString "", tw, rfl, hTl, rfl, .nil, lit_nil⟩, ?_⟩
    refine List.forall_mem_cons.mpr ⟨neN (by omega), List.forall_mem_cons.mpr ⟨neN (by omega), List.forall_mem_nil _⟩⟩
  case turn =>
    rintro i v m₁ news₁ h₁ tk₁ hvi ⟨st, e1, e2, ⟨T', l', us', c', W', tw', rfl, hlt, rfl, hI', hW'⟩, hsp⟩ hsI F2 N2
    obtain ⟨a, t, ha, rfl⟩ := strs_get hv hvi
    have hmem : a ∈ ts := List.mem_of_getElem? ha
    obtain ⟨c0, tl, rfl⟩ : ∃ c0 tl, a = c0 :: tl := by
      cases a with
      | nil => exact absurd rfl (hne _ hmem)
      | cons c0 tl => exact ⟨c0, tl, rfl⟩
    have F3 := fr_know (a := Str.ofString "value") (by rw [if_neg (by decide)]; exact e1) F2
    have F4 := fr_know (a := Str.ofString "function") (v := .ref 784) (by rw [if_neg (by decide), if_neg (by decide)]; exact e2) F3
    have hinv := toks_inv (ts.take i)
    have hil : (ts.take i).length ≤ 60 := by rw [List.length_take]; omega
    have hfl := len_flat ts i
    have hal := len_mem hmem
    have hus := hI'.length
    clear F1 N1 F2 F3
    have hW9 : W'.length ≤ 100 := by
      have e : W'.length = W'.cps.toList.length := by simp [Str.length]
      rw [e, hW']; omega
    have hk9 : (⟨(c0 :: tl).toArray⟩ : Str).length ≤ 100 := by show (c0 :: tl).length ≤ 100; omega
    have hb9 : ∀ c ∈ (W' ++ (⟨(c0 :: tl).toArray⟩ : Str)).cps.toList, c < 256 := by
      intro c hc
      have hc' : c ∈ (W'.cps ++ (c0 :: tl).toArray).toList := hc
      rw [Array.toList_append, hW'] at hc'
      rcases List.mem_append.mp hc' with h | h
      · exact h3 c (mem_flat (hinv.2.2 c h))
      · exact h3 c (List.mem_flatten.mpr ⟨_, hmem, h⟩)
    have s1 : @Ne Nat T' _ := hsI (T', tupO [.ref l', .str W' tw']) (.head _)
    have s2 : @Ne Nat l' _ := hsI (l', listOf us'.toArray c') (.tail _ (.head _))
    have s3 : @Ne Nat TL T' := hsp (T', tupO [.ref l', .str W' tw']) (.head _)
    have s4 : @Ne Nat TL l' := hsp (l', listOf us'.toArray c') (.tail _ (.head _))
    have hst : ts.take (i + 1) = ts.take i ++ [c0 :: tl] := by rw [List.take_add_one, ha]; rfl
    (repeat' (first | ((with_reducible show wpAny _ _ (compareOp _ _ _) _ _ _); with_reducible (first | (((with_reducible show wpAny _ _ (compareOp CmpOp.Is (Value.ref _) (Value.ref 734)) _ _ _); k_dflt (refine' is_tup_K ?F ?N ?X ?m ?y ?b ?_; (case F => k_asm); (case N => k_asm); (case X => k_asm); (case m => k_mem); (case y => k_is); (case b => kto_not)))))) | ((with_reducible show wpAny _ _ (PySem.call _ _ _) _ _ _); with_reducible (first | (((show wpAny _ _ (PySem.call (Value.ref 784) _ _) _ _ _); refine held_tree ?_)) | ((with_reducible show wpAny _ _ (PySem.call (Value.builtin "iter") _ _) _ _ _); ((with_reducible show wpAny _ _ (PySem.call (Value.builtin "iter") [Value.ref _]) _ _ _); k_dflt (refine' iter_list_K ?ma ?mb ?mc ?_; (case ma => k_asm); (case mb => k_asm); (case mc => k_mem); intro I' h' F' N' l1; (try k_lt l1); (try k_sweep)))))) | walk_at "m.step"))
    all_goals (try dsimp only)
    refine' by_contract2 ?B ?F ?X ?N ?T ?hA ?hf ?hk (fun g' G' => c_token ?a1 ?a2 hI' (by omega) hW9 (tok := ⟨(c0 :: tl).toArray⟩) rfl hk9 hb9 hlt G') ?P ?S ?_
    walk_at "m.site"
    case a1 => walk_at "m.un"
    case a2 => walk_at "m.un"
    rintro v' small' h' tk' F' N' S' ⟨T2, l2, us2, c2, W2, tw2, rfl, lt2, rfl, hI2, hW2⟩
    simp only [List.cons_append, List.nil_append] at N'
    (repeat' (first | ((with_reducible show wpAny _ _ (compareOp _ _ _) _ _ _); with_reducible (first | (((with_reducible show wpAny _ _ (compareOp CmpOp.Is (Value.ref _) (Value.ref 734)) _ _ _); k_dflt (refine' is_tup_K ?F ?N ?X ?m ?y ?b ?_; (case F => k_asm); (case N => k_asm); (case X => k_asm); (case m => k_mem); (case y => k_is); (case b => kto_not)))))) | ((with_reducible show wpAny _ _ (PySem.call _ _ _) _ _ _); with_reducible (first | (((show wpAny _ _ (PySem.call (Value.ref 784) _ _) _ _ _); refine held_tree ?_)) | ((with_reducible show wpAny _ _ (PySem.call (Value.builtin "iter") _ _) _ _ _); ((with_reducible show wpAny _ _ (PySem.call (Value.builtin "iter") [Value.ref _]) _ _ _); k_dflt (refine' iter_list_K ?ma ?mb ?mc ?_; (case ma => k_asm); (case mb => k_asm); (case mc => k_mem); intro I' h' F' N' l1; (try k_lt l1); (try k_sweep)))))) | walk_at "m.step"))
    all_goals (try dsimp only)
    have hfin : (ts.take (i + 1)).foldl tokStep ([], []) = tokStep (((ts.take i).foldl tokStep ([], [])).1, W'.cps.toList) (c0 :: tl) := by
      rw [hst, List.foldl_append, hW']; rfl
    refine ⟨_, _, _, [(T2, tupO [.ref l2, .str W2 tw2]), (l2, listOf us2.toArray c2)], rfl, by k_asm, News.sub (by k_asm) (by k_allIn), ?_, .ref T2, rfl, rfl, ?_, ?_⟩
    · intro q hq
      exact Ne.symm (S' q hq _ (.head _))
    · rw [hfin]
      exact ⟨T2, l2, us2, c2, W2, tw2, rfl, lt2, rfl, hI2, hW2⟩
    · intro q hq
      exact S' q hq _ (.tail _ (.head _))
  case done =>
    rintro m₁ news₁ h₁ tk₁ ⟨st, e1, e2, hΦ, hsp⟩ F2 N2
    have F3 := fr_know (a := Str.ofString "value") e1 F2
    (repeat' (first | ((with_reducible show wpAny _ _ (compareOp _ _ _) _ _ _); with_reducible (first | (((with_reducible show wpAny _ _ (compareOp CmpOp.Is (Value.ref _) (Value.ref 734)) _ _ _); k_dflt (refine' is_tup_K ?F ?N ?X ?m ?y ?b ?_; (case F => k_asm); (case N => k_asm); (case X => k_asm); (case m => k_mem); (case y => k_is); (case b => kto_not)))))) | ((with_reducible show wpAny _ _ (PySem.call _ _ _) _ _ _); with_reducible (first | (((show wpAny _ _ (PySem.call (Value.ref 784) _ _) _ _ _); refine held_tree ?_)) | ((with_reducible show wpAny _ _ (PySem.call (Value.builtin "iter") _ _) _ _ _); ((with_reducible show wpAny _ _ (PySem.call (Value.builtin "iter") [Value.ref _]) _ _ _); k_dflt (refine' iter_list_K ?ma ?mb ?mc ?_; (case ma => k_asm); (case mb => k_asm); (case mc => k_mem); intro I' h' F' N' l1; (try k_lt l1); (try k_sweep)))))) | walk_at "m.step"))
    all_goals (try dsimp only)
    have hl : vs.length = ts.length := strs_len hv
    rw [hl, List.take_length] at hΦ
    refine Post.intro (small' := (TL, listOf vs.toArray c) :: news₁) (by k_asm) (by k_asm) (fun _ h => .tail _ h) ⟨_, rfl, hΦ⟩
end
end PartC5
section PartC6
local macro_rules | `(tactic| walk_at "pad") => `(tactic| skip)
local macro_rules | `(tactic| walk_at "pad") => `(tactic| skip)
theorem catL {prog : Program} {w : World} {A : Around} {E : Value → Shared → Prop} {s : Shared} {h₀ : Heap} {L a b : Addr} {m : Str → Option Value} {news : List (Addr × Obj)} {xs ys : List Value} {na nb : Nat} {Q : Value → Shared → Prop}
    (F : Fr h₀ L s.heap m) (N : News h₀ L s.heap news) (ha : (a, listOf xs.toArray na) ∈ news) (hb : (b, listOf ys.toArray nb) ∈ news) (hz : xs.length + ys.length ≤ 1000)
    (h : ∀ D h', Fr h₀ L h' m → News h₀ L h' ((D, listOf (xs ++ ys).toArray 0) :: news) → (∀ p ∈ news, p.1 < D) → Q (.ref D) { s with heap := h' }) : wpAny (model prog w) A (binaryOp .Add (.ref a) (.ref b)) Q E s :=
  kmk_add_lit F N ⟨_, (N _ ha).1, rfl, _, rfl⟩ ⟨_, (N _ hb).1, rfl, _, rfl⟩ (by simp) h (by rw [sizeLine_eq]; simp; omega)
local macro_rules | `(tactic| walk_at "binaryOp Add ref ref") => `(tactic| k_dflt (refine' catL ?F ?N ?a ?b ?z ?_; (case F => k_asm); (case N => k_asm); (case a => k_mem); (case b => k_mem); (case z => ((try simp only [List.length_cons, List.length_nil, List.length_append, List.length_singleton]); omega)); intro D' h' F' N' l1; (try k_lt l1); (try k_sweep)))
local macro_rules | `(tactic| walk_at "subscriptTail Name Slice ref ref") => `(tactic| ((with_reducible show wpAny _ _ (subscriptTail _ (PySem.Expr.Slice _ _ none _) (Value.ref _) (Value.ref _)) _ _ _); k_dflt (refine' kmk_slice_lit ?F ?N ?l ?p ?q ?e ?_ ?s ?t ?z; (case F => k_asm); (case N => k_asm); (case l => kmk_list); (case p => kmk_part); (case q => kmk_part); (case e => assumption); (case s => with_unfolding_all rfl); (case t => kmk_pure); (case z => (rw [List.size_toArray, sizeLine_eq]; omega)); intro D' h' F' N' l1; (try k_lt l1); (try k_sweep))))
section
variable {w : World} {dp un : Nat} {s : Shared} {base g : Heap} {fr : List Env} {p : Program} {loose : List Str} {mean : ExcName → Option Value} {mg mb : Str → Option Value}
theorem c_front {l : Addr} {vs : List Value} {c : Nat} {n : Int} {tn : Tok} (hd : dp ≤ 450) (hu : un ≤ 3500) (hz : vs.length ≤ 100)
    (G : Gd w (Aat dp un fr) base fr p loose mean mg mb g s.heap [(l, listOf vs.toArray c)]) :
    codeAny (model PySem.Challenge.pw_il0179_01 w) (Aat dp un fr) (.call (.ref 791) ⟨[.ref l, .int n tn], []⟩)
      (Post g (fun r nw => ∃ (R a : Addr) (cR ca : Nat), r = .ref R ∧ @LT.lt Nat _ a R ∧ nw = [(R, listOf (.ref a :: vs.drop (n % 3).toNat).toArray cR), (a, listOf (.int n tn :: vs.take (n % 3).toNat).toArray ca)]) s) s := by
  have hn3 : n.fmod 3 = (((n % 3).toNat : Nat) : Int) := by rw [fmod_pos n 3 (by decide)]; omega
  have hk3 : (n % 3).toNat < 3 := by omega
  have hU : (slicePick vs.toArray none (some (n.fmod 3)) none).toList = vs.take (n % 3).toNat := by rw [hn3, slicePick_upto']
  have hD : (slicePick vs.toArray (some (n.fmod 3)) none none).toList = vs.drop (n % 3).toNat := by rw [hn3, slicePick_from']
  have hUl : (vs.take (n % 3).toNat).length ≤ 100 := by rw [List.length_take]; omega
  have hDl : (vs.drop (n % 3).toNat).length ≤ 100 := by rw [List.length_drop]; omega
  walk_at "m.enter"
  walk_at "m.steps"
  all_goals (try dsimp only)
  refine' Post.intro (by k_asm) (by k_asm) ?led ⟨_, _, _, _, rfl, ?lt, rfl⟩
  case led => k_allIn
  case lt => omega
end
local macro_rules | `(tactic| walk_at "exec For Name Name cons nil") => `(tactic| refine held_tree ?_)
local macro_rules | `(tactic| k_all) => `(tactic| assumption)
theorem News.rot {g h : Heap} {L : Addr} {a b c d : Addr × Obj} {r : List (Addr × Obj)} (N : News g L h (a :: b :: c :: d :: r)) : News g L h (c :: d :: a :: b :: r) := fun q hq => by
  rcases List.mem_cons.mp hq with rfl | hq
  · exact N _ (.tail _ (.tail _ (.head _)))
  rcases List.mem_cons.mp hq with rfl | hq
  · exact N _ (.tail _ (.tail _ (.tail _ (.head _))))
  rcases List.mem_cons.mp hq with rfl | hq
  · exact N _ (.head _)
  rcases List.mem_cons.mp hq with rfl | hq
  · exact N _ (.tail _ (.head _))
  exact N _ (.tail _ (.tail _ (.tail _ (.tail _ hq))))
noncomputable def front (ts : List Dat) (n : Int) : List Dat := .list (.int n :: ts.take (n % 3).toNat) :: ts.drop (n % 3).toNat
theorem datAll_take {news : List (Addr × Obj)} {vs : List Value} {ds : List Dat} (h : DatAll news vs ds) : ∀ k, DatAll news (vs.take k) (ds.take k) := by
  induction vs generalizing ds with
  | nil => intro k; cases h; cases k <;> exact .nil
  | cons v vs ih =>
    intro k
    cases h with
    | cons h r =>
      cases k with
      | zero => exact .nil
      | succ k => exact .cons h (ih r k)
theorem datAll_drop {news : List (Addr × Obj)} {vs : List Value} {ds : List Dat} (h : DatAll news vs ds) : ∀ k, DatAll news (vs.drop k) (ds.drop k) := by
  induction vs generalizing ds with
  | nil => intro k; cases h; cases k <;> exact .nil
  | cons v vs ih =>
    intro k
    cases h with
    | cons h r =>
      cases k with
      | zero => exact .cons h r
      | succ k => exact ih r k
theorem front_len (ns : List Int) : ∀ ts : List Dat, (ns.foldl front ts).length ≤ ts.length + ns.length := by
  induction ns with
  | nil => intro ts; exact Nat.le_refl _
  | cons n ns ih =>
    intro ts
    have := ih (front ts n)
    rw [List.foldl_cons, List.length_cons]
    have e : (front ts n).length ≤ ts.length + 1 := by
      unfold front
      rw [List.length_cons, List.length_drop]
      omega
    omega
section
variable {w : World} {dp un : Nat} {s : Shared} {base g : Heap} {fr : List Env} {p : Program} {loose : List Str} {mean : ExcName → Option Value} {mg mb : Str → Option Value}
noncomputable def FrontJ (ns : List Int) (NL : Addr) (off i : Nat) (m : Str → Option Value) (nw : List (Addr × Obj)) : Prop :=
  ∃ (R : Addr) (vs : List Value) (cR : Nat) (kids : List (Addr × Obj)), m (Str.ofString "value") = some (.ref R) ∧ m (Str.ofString "function") = some (.ref 791) ∧ nw = (R, listOf vs.toArray cR) :: kids ∧ DatAll kids vs ((ns.take (i - off)).foldl front []) ∧ (∀ p ∈ kids, p.1 ≠ R) ∧ (∀ p ∈ nw, p.1 ≠ NL) ∧ off ≤ i
noncomputable def FrontΦ (NL : Addr) (oN : Obj) (ds : List Dat) (r : Value) (n : List (Addr × Obj)) : Prop := ∃ kids, n = (NL, oN) :: kids ∧ DatIn kids r (.list ds)
theorem c_redFront {NL l : Addr} {us : List Value} {c cl : Nat} {ns : List Int} (hd : dp ≤ 420) (hu : un ≤ 3200) (hi : IntsAre us ns) (hz : us.length ≤ 60) (hNl : @LT.lt Nat _ NL l)
    (G : Gd w (Aat dp un fr) base fr p loose mean mg mb g s.heap [(NL, listOf us.toArray c), (l, listOf ([] : List Value).toArray cl)]) :
    codeAny (model PySem.Challenge.pw_il0179_01 w) (Aat dp un fr) (.call (.ref 742) ⟨[.ref 791, .ref NL, .ref l], []⟩) (Post g (FrontΦ NL (listOf us.toArray c) (ns.foldl front [])) s) s := by
  walk_at "m.enter"
  (repeat' (first | ((with_reducible show wpAny _ _ (PySem.call _ _ _) _ _ _); with_reducible (first | (((show wpAny _ _ (PySem.call (Value.ref 791) _ _) _ _ _); refine held_tree ?_)) | ((with_reducible show wpAny _ _ (PySem.call (Value.builtin "iter") _ _) _ _ _); ((with_reducible show wpAny _ _ (PySem.call (Value.builtin "iter") [Value.ref _]) _ _ _); k_dflt (refine' iter_list_K ?ma ?mb ?mc ?_; (case ma => k_asm); (case mb => k_asm); (case mc => k_mem); intro I' h' F' N' l1; (try k_lt l1); (try k_sweep)))))) | walk_at "m.step"))
  all_goals (try dsimp only)
  rename Fr _ _ _ _ => F1
  rename News _ _ _ _ => N1
  rename (NL < _ ∧ l < _) => q1
  rename (NL < _ ∧ l < _) => q2
  refine for_of (hi := ?hi) (hself := ?hself) (h := for_iter (FrontJ ns NL 0) (l := NL) (vs := us) (c := c) (by rfl) (by rfl) rfl (neN (by omega)) (Nat.zero_le _) F1 N1 ?hI ?h0 ?turn ?done (by first | assumption | passes_own))
  case hi =>
    intro E' Q' hq
    (repeat' (first | ((with_reducible show wpAny _ _ (PySem.call _ _ _) _ _ _); with_reducible (first | (((show wpAny _ _ (PySem.call (Value.ref 791) _ _) _ _ _); refine held_tree ?_)) | ((with_reducible show wpAny _ _ (PySem.call (Value.builtin "iter") _ _) _ _ _); ((with_reducible show wpAny _ _ (PySem.call (Value.builtin "iter") [Value.ref _]) _ _ _); k_dflt (refine' iter_list_K ?ma ?mb ?mc ?_; (case ma => k_asm); (case mb => k_asm); (case mc => k_mem); intro I' h' F' N' l1; (try k_lt l1); (try k_sweep)))))) | walk_at "m.step"))
    all_goals (try dsimp only)
    exact hq
  case hself =>
    intro E' Q' hq
    exact wpAny_pyIter_listiter ⟨_, (N1 _ (.head _)).1, rfl, rfl⟩ hq
  case hI => exact List.forall_mem_cons.mpr ⟨neN (by omega), List.forall_mem_nil _⟩
  case h0 =>
    refine ⟨l, [], cl, [], rfl, rfl, rfl, .nil, List.forall_mem_nil _, ?_, Nat.le_refl _⟩
    exact List.forall_mem_cons.mpr ⟨neN (by omega), List.forall_mem_nil _⟩
  case turn =>
    rintro i v m₁ news₁ h₁ tk₁ hvi ⟨R, vs, cR, kids, e1, e2, rfl, hD, hkR, hNL, hoff⟩ hsI F2 N2
    obtain ⟨n, tn, hn, rfl⟩ := ints_get hi hvi
    have hli : i < us.length := by
      rcases Nat.lt_or_ge i us.length with h | h
      · exact h
      · rw [List.getElem?_eq_none h] at hvi; cases hvi
    have hvl := hD.length
    have hfl := front_len (ns.take (i - 0)) []
    have htl : (ns.take (i - 0)).length ≤ 60 := by rw [List.length_take]; omega
    have hvs : vs.length ≤ 100 := by rw [hvl]; simp only [List.length_nil] at hfl; omega
    have hst : ns.take (i + 1 - 0) = ns.take (i - 0) ++ [n] := by rw [Nat.sub_zero, Nat.sub_zero, List.take_add_one, hn]; rfl
    have F3 := fr_know (a := Str.ofString "value") (v := .ref R) (by rw [if_neg (by decide)]; exact e1) F2
    have F4 := fr_know (a := Str.ofString "function") (v := .ref 791) (by rw [if_neg (by decide), if_neg (by decide)]; exact e2) F3
    clear F1 N1 F2 F3
    have s1 : @Ne Nat R _ := hsI _ (.head _)
    have s2 : @Ne Nat R NL := hNL _ (.head _)
    (repeat' (first | ((with_reducible show wpAny _ _ (PySem.call _ _ _) _ _ _); with_reducible (first | (((show wpAny _ _ (PySem.call (Value.ref 791) _ _) _ _ _); refine held_tree ?_)) | ((with_reducible show wpAny _ _ (PySem.call (Value.builtin "iter") _ _) _ _ _); ((with_reducible show wpAny _ _ (PySem.call (Value.builtin "iter") [Value.ref _]) _ _ _); k_dflt (refine' iter_list_K ?ma ?mb ?mc ?_; (case ma => k_asm); (case mb => k_asm); (case mc => k_mem); intro I' h' F' N' l1; (try k_lt l1); (try k_sweep)))))) | walk_at "m.step"))
    all_goals (try dsimp only)
    refine' by_contract2 ?B ?F ?X ?N ?T ?hA ?hf ?hk (fun g' G' => c_front ?a1 ?a2 hvs G') ?P ?S ?_
    walk_at "m.site"
    case a1 => walk_at "m.un"
    case a2 => walk_at "m.un"
    rintro v' small' h' tk' F' N' S' ⟨R2, a2, cR2, ca2, rfl, haR, rfl⟩
    simp only [List.cons_append, List.nil_append] at N'
    (repeat' (first | ((with_reducible show wpAny _ _ (PySem.call _ _ _) _ _ _); with_reducible (first | (((show wpAny _ _ (PySem.call (Value.ref 791) _ _) _ _ _); refine held_tree ?_)) | ((with_reducible show wpAny _ _ (PySem.call (Value.builtin "iter") _ _) _ _ _); ((with_reducible show wpAny _ _ (PySem.call (Value.builtin "iter") [Value.ref _]) _ _ _); k_dflt (refine' iter_list_K ?ma ?mb ?mc ?_; (case ma => k_asm); (case mb => k_asm); (case mc => k_mem); intro I' h' F' N' l1; (try k_lt l1); (try k_sweep)))))) | walk_at "m.step"))
    all_goals (try dsimp only)
    refine ⟨_, _, _, (R2, _) :: (a2, _) :: kids, rfl, by k_asm, News.rot (by k_asm), ?_, R2, _, cR2, (a2, _) :: kids, rfl, rfl, rfl, ?_, ?_, ?_, by omega⟩
    · intro q hq
      rcases List.mem_cons.mp hq with rfl | hq
      · exact Ne.symm (S' _ (.head _) _ (.head _))
      rcases List.mem_cons.mp hq with rfl | hq
      · exact Ne.symm (S' _ (.tail _ (.head _)) _ (.head _))
      exact hsI q (.tail _ hq)
    · rw [hst, List.foldl_append]
      exact .cons (.list (.head _) (.cons (.int n tn) ((datAll_take hD _).mono fun _ h => .tail _ h))) ((datAll_drop hD _).mono fun _ h => .tail _ h)
    · intro q hq
      rcases List.mem_cons.mp hq with rfl | hq
      · exact Nat.ne_of_lt haR
      exact S' _ (.head _) q (.tail _ (.tail _ hq))
    · intro q hq
      rcases List.mem_cons.mp hq with rfl | hq
      · exact Ne.symm (S' _ (.head _) _ (.tail _ (.head _)))
      rcases List.mem_cons.mp hq with rfl | hq
      · exact Ne.symm (S' _ (.tail _ (.head _)) _ (.tail _ (.head _)))
      exact hNL q (.tail _ hq)
  case done =>
    rintro m₁ news₁ h₁ tk₁ ⟨R, vs, cR, kids, e1, e2, rfl, hD, hkR, hNL, hoff⟩ F2 N2
    have F3 := fr_know (a := Str.ofString "value") e1 F2
    (repeat' (first | ((with_reducible show wpAny _ _ (PySem.call _ _ _) _ _ _); with_reducible (first | (((show wpAny _ _ (PySem.call (Value.ref 791) _ _) _ _ _); refine held_tree ?_)) | ((with_reducible show wpAny _ _ (PySem.call (Value.builtin "iter") _ _) _ _ _); ((with_reducible show wpAny _ _ (PySem.call (Value.builtin "iter") [Value.ref _]) _ _ _); k_dflt (refine' iter_list_K ?ma ?mb ?mc ?_; (case ma => k_asm); (case mb => k_asm); (case mc => k_mem); intro I' h' F' N' l1; (try k_lt l1); (try k_sweep)))))) | walk_at "m.step"))
    all_goals (try dsimp only)
    rw [hi.length, Nat.sub_zero, List.take_length] at hD
    exact Post.intro (by k_asm) (by k_asm) (fun _ h => .tail _ h) ⟨_, rfl, .list (.head _) (hD.mono fun _ h => .tail _ h)⟩
theorem c_redFrontI {IT NL l : Addr} {us : List Value} {c cl : Nat} {ns : List Int} (hd : dp ≤ 420) (hu : un ≤ 3200) (hi : IntsAre us ns) (hz : us.length ≤ 60) (hNl : @LT.lt Nat _ l NL) (hIN : @LT.lt Nat _ NL IT)
    (G : Gd w (Aat dp un fr) base fr p loose mean mg mb g s.heap [(IT, liO NL 0), (NL, listOf (.ref l :: us).toArray c), (l, listOf ([] : List Value).toArray cl)]) :
    codeAny (model PySem.Challenge.pw_il0179_01 w) (Aat dp un fr) (.call (.ref 742) ⟨[.ref 791, .ref IT], []⟩) (Post g (fun r n => DatIn n r (.list (ns.foldl front []))) s) s := by
  walk_at "m.enter"
  (repeat' (first | ((with_reducible show wpAny _ _ (PySem.call _ _ _) _ _ _); with_reducible (first | ((with_reducible show wpAny _ _ (PySem.call (Value.builtin "iter") _ _) _ _ _); ((with_reducible show wpAny _ _ (PySem.call (Value.builtin "iter") [Value.ref _]) _ _ _); k_dflt (refine' iter_li_K ?ma ?mb ?_; (case ma => k_asm); (case mb => k_mem)))) | ((with_reducible show wpAny _ _ (PySem.call (Value.builtin "next") _ _) _ _ _); k_dflt (refine' next_item_K ?ma ?mb ?mc ?md ?me ?_; (case ma => k_asm); (case mb => k_asm); (case mc => k_mem); (case md => k_upd); (case me => rfl); intro h' F' N'; (try k_sweep))) | (((show wpAny _ _ (PySem.call (Value.ref 791) _ _) _ _ _); refine held_tree ?_)) | ((with_reducible show wpAny _ _ (PySem.call (Value.builtin "iter") _ _) _ _ _); ((with_reducible show wpAny _ _ (PySem.call (Value.builtin "iter") [Value.ref _]) _ _ _); k_dflt (refine' iter_list_K ?ma ?mb ?mc ?_; (case ma => k_asm); (case mb => k_asm); (case mc => k_mem); intro I' h' F' N' l1; (try k_lt l1); (try k_sweep)))))) | walk_at "m.step"))
  all_goals (try dsimp only)
  rename Fr _ _ _ _ => F1
  rename News _ _ _ _ => N1
  rename (IT < _ ∧ NL < _ ∧ l < _) => q1
  refine for_of (hi := ?hi) (hself := ?hself) (h := for_iter (FrontJ ns NL 1) (l := NL) (vs := .ref l :: us) (c := c) (by rfl) (by rfl) rfl (neN (by omega)) (Nat.succ_le_succ (Nat.zero_le _)) F1 N1 ?hI ?h0 ?turn ?done (by first | assumption | passes_own))
  case hi =>
    intro E' Q' hq
    (repeat' (first | ((with_reducible show wpAny _ _ (PySem.call _ _ _) _ _ _); with_reducible (first | ((with_reducible show wpAny _ _ (PySem.call (Value.builtin "iter") _ _) _ _ _); ((with_reducible show wpAny _ _ (PySem.call (Value.builtin "iter") [Value.ref _]) _ _ _); k_dflt (refine' iter_li_K ?ma ?mb ?_; (case ma => k_asm); (case mb => k_mem)))) | ((with_reducible show wpAny _ _ (PySem.call (Value.builtin "next") _ _) _ _ _); k_dflt (refine' next_item_K ?ma ?mb ?mc ?md ?me ?_; (case ma => k_asm); (case mb => k_asm); (case mc => k_mem); (case md => k_upd); (case me => rfl); intro h' F' N'; (try k_sweep))) | (((show wpAny _ _ (PySem.call (Value.ref 791) _ _) _ _ _); refine held_tree ?_)) | ((with_reducible show wpAny _ _ (PySem.call (Value.builtin "iter") _ _) _ _ _); ((with_reducible show wpAny _ _ (PySem.call (Value.builtin "iter") [Value.ref _]) _ _ _); k_dflt (refine' iter_list_K ?ma ?mb ?mc ?_; (case ma => k_asm); (case mb => k_asm); (case mc => k_mem); intro I' h' F' N' l1; (try k_lt l1); (try k_sweep)))))) | walk_at "m.step"))
    all_goals (try dsimp only)
    exact hq
  case hself =>
    intro E' Q' hq
    exact wpAny_pyIter_listiter ⟨_, (N1 _ (.head _)).1, rfl, rfl⟩ hq
  case hI => exact List.forall_mem_cons.mpr ⟨neN (by omega), List.forall_mem_nil _⟩
  case h0 =>
    refine ⟨l, [], cl, [], rfl, rfl, rfl, .nil, List.forall_mem_nil _, ?_, Nat.le_refl _⟩
    exact List.forall_mem_cons.mpr ⟨neN (by omega), List.forall_mem_nil _⟩
  case turn =>
    rintro i v m₁ news₁ h₁ tk₁ hvi ⟨R, vs, cR, kids, e1, e2, rfl, hD, hkR, hNL, hoff⟩ hsI F2 N2
    obtain ⟨j, rfl⟩ : ∃ j, i = j + 1 := ⟨i - 1, by omega⟩
    rw [List.getElem?_cons_succ] at hvi
    obtain ⟨n, tn, hn, rfl⟩ := ints_get hi hvi
    have hli : j < us.length := by
      rcases Nat.lt_or_ge j us.length with h | h
      · exact h
      · rw [List.getElem?_eq_none h] at hvi; cases hvi
    rw [Nat.add_sub_cancel] at hD
    have hvl := hD.length
    have hfl := front_len (ns.take j) []
    have htl : (ns.take j).length ≤ 60 := by rw [List.length_take]; omega
    have hvs : vs.length ≤ 100 := by rw [hvl]; simp only [List.length_nil] at hfl; omega
    have hst : ns.take (j + 1 + 1 - 1) = ns.take j ++ [n] := by rw [Nat.add_sub_cancel, List.take_add_one, hn]; rfl
    have F3 := fr_know (a := Str.ofString "value") (v := .ref R) (by rw [if_neg (by decide)]; exact e1) F2
    have F4 := fr_know (a := Str.ofString "function") (v := .ref 791) (by rw [if_neg (by decide), if_neg (by decide)]; exact e2) F3
    clear F1 N1 F2 F3
    have s1 : @Ne Nat R _ := hsI _ (.head _)
    have s2 : @Ne Nat R NL := hNL _ (.head _)
    (repeat' (first | ((with_reducible show wpAny _ _ (PySem.call _ _ _) _ _ _); with_reducible (first | ((with_reducible show wpAny _ _ (PySem.call (Value.builtin "iter") _ _) _ _ _); ((with_reducible show wpAny _ _ (PySem.call (Value.builtin "iter") [Value.ref _]) _ _ _); k_dflt (refine' iter_li_K ?ma ?mb ?_; (case ma => k_asm); (case mb => k_mem)))) | ((with_reducible show wpAny _ _ (PySem.call (Value.builtin "next") _ _) _ _ _); k_dflt (refine' next_item_K ?ma ?mb ?mc ?md ?me ?_; (case ma => k_asm); (case mb => k_asm); (case mc => k_mem); (case md => k_upd); (case me => rfl); intro h' F' N'; (try k_sweep))) | (((show wpAny _ _ (PySem.call (Value.ref 791) _ _) _ _ _); refine held_tree ?_)) | ((with_reducible show wpAny _ _ (PySem.call (Value.builtin "iter") _ _) _ _ _); ((with_reducible show wpAny _ _ (PySem.call (Value.builtin "iter") [Value.ref _]) _ _ _); k_dflt (refine' iter_list_K ?ma ?mb ?mc ?_; (case ma => k_asm); (case mb => k_asm); (case mc => k_mem); intro I' h' F' N' l1; (try k_lt l1); (try k_sweep)))))) | walk_at "m.step"))
    all_goals (try dsimp only)
    refine' by_contract2 ?B ?F ?X ?N ?T ?hA ?hf ?hk (fun g' G' => c_front ?a1 ?a2 hvs G') ?P ?S ?_
    walk_at "m.site"
    case a1 => walk_at "m.un"
    case a2 => walk_at "m.un"
    rintro v' small' h' tk' F' N' S' ⟨R2, a2, cR2, ca2, rfl, haR, rfl⟩
    simp only [List.cons_append, List.nil_append] at N'
    (repeat' (first | ((with_reducible show wpAny _ _ (PySem.call _ _ _) _ _ _); with_reducible (first | ((with_reducible show wpAny _ _ (PySem.call (Value.builtin "iter") _ _) _ _ _); ((with_reducible show wpAny _ _ (PySem.call (Value.builtin "iter") [Value.ref _]) _ _ _); k_dflt (refine' iter_li_K ?ma ?mb ?_; (case ma => k_asm); (case mb => k_mem)))) | ((with_reducible show wpAny _ _ (PySem.call (Value.builtin "next") _ _) _ _ _); k_dflt (refine' next_item_K ?ma ?mb ?mc ?md ?me ?_; (case ma => k_asm); (case mb => k_asm); (case mc => k_mem); (case md => k_upd); (case me => rfl); intro h' F' N'; (try k_sweep))) | (((show wpAny _ _ (PySem.call (Value.ref 791) _ _) _ _ _); refine held_tree ?_)) | ((with_reducible show wpAny _ _ (PySem.call (Value.builtin "iter") _ _) _ _ _); ((with_reducible show wpAny _ _ (PySem.call (Value.builtin "iter") [Value.ref _]) _ _ _); k_dflt (refine' iter_list_K ?ma ?mb ?mc ?_; (case ma => k_asm); (case mb => k_asm); (case mc => k_mem); intro I' h' F' N' l1; (try k_lt l1); (try k_sweep)))))) | walk_at "m.step"))
    all_goals (try dsimp only)
    refine ⟨_, _, _, (R2, _) :: (a2, _) :: kids, rfl, by k_asm, News.rot (by k_asm), ?_, R2, _, cR2, (a2, _) :: kids, rfl, rfl, rfl, ?_, ?_, ?_, by omega⟩
    · intro q hq
      rcases List.mem_cons.mp hq with rfl | hq
      · exact Ne.symm (S' _ (.head _) _ (.head _))
      rcases List.mem_cons.mp hq with rfl | hq
      · exact Ne.symm (S' _ (.tail _ (.head _)) _ (.head _))
      exact hsI q (.tail _ hq)
    · rw [hst, List.foldl_append]
      exact .cons (.list (.head _) (.cons (.int n tn) ((datAll_take hD _).mono fun _ h => .tail _ h))) ((datAll_drop hD _).mono fun _ h => .tail _ h)
    · intro q hq
      rcases List.mem_cons.mp hq with rfl | hq
      · exact Nat.ne_of_lt haR
      exact S' _ (.head _) q (.tail _ (.tail _ hq))
    · intro q hq
      rcases List.mem_cons.mp hq with rfl | hq
      · exact Ne.symm (S' _ (.head _) _ (.tail _ (.head _)))
      rcases List.mem_cons.mp hq with rfl | hq
      · exact Ne.symm (S' _ (.tail _ (.head _)) _ (.tail _ (.head _)))
      exact hNL q (.tail _ hq)
  case done =>
    rintro m₁ news₁ h₁ tk₁ ⟨R, vs, cR, kids, e1, e2, rfl, hD, hkR, hNL, hoff⟩ F2 N2
    have F3 := fr_know (a := Str.ofString "value") e1 F2
    (repeat' (first | ((with_reducible show wpAny _ _ (PySem.call _ _ _) _ _ _); with_reducible (first | ((with_reducible show wpAny _ _ (PySem.call (Value.builtin "iter") _ _) _ _ _); ((with_reducible show wpAny _ _ (PySem.call (Value.builtin "iter") [Value.ref _]) _ _ _); k_dflt (refine' iter_li_K ?ma ?mb ?_; (case ma => k_asm); (case mb => k_mem)))) | ((with_reducible show wpAny _ _ (PySem.call (Value.builtin "next") _ _) _ _ _); k_dflt (refine' next_item_K ?ma ?mb ?mc ?md ?me ?_; (case ma => k_asm); (case mb => k_asm); (case mc => k_mem); (case md => k_upd); (case me => rfl); intro h' F' N'; (try k_sweep))) | (((show wpAny _ _ (PySem.call (Value.ref 791) _ _) _ _ _); refine held_tree ?_)) | ((with_reducible show wpAny _ _ (PySem.call (Value.builtin "iter") _ _) _ _ _); ((with_reducible show wpAny _ _ (PySem.call (Value.builtin "iter") [Value.ref _]) _ _ _); k_dflt (refine' iter_list_K ?ma ?mb ?mc ?_; (case ma => k_asm); (case mb => k_asm); (case mc => k_mem); intro I' h' F' N' l1; (try k_lt l1); (try k_sweep)))))) | walk_at "m.step"))
    all_goals (try dsimp only)
    rw [List.length_cons, hi.length, Nat.add_sub_cancel, List.take_length] at hD
    exact Post.intro (small' := (R, listOf vs.toArray cR) :: kids) (by k_asm) N2 (fun _ h => .tail _ (.tail _ h)) (.list (.head _) (hD.mono fun _ h => .tail _ h))
end
end PartC6
section PartKts
/-- a call that may have caught an exception of its own: the frames below may have been turned in their slots -/
noncomputable def PostT (g : Heap) (fr : List Env) (Φ : Value → List (Addr × Obj) → Prop) (s : Shared) (r : Result) (s' : Shared) : Prop := ∃ g', KtsTurn (fr.filterMap (·.frame)) g g' ∧ Post g' Φ s r s'
structure GdT (w : World) (A : Around) (base : Heap) (fr : List Env) (p : Program) (loose : List Str) (mean : ExcName → Option Value) (mg mb : Str → Option Value) (g h : Heap) (small : List (Addr × Obj)) : Prop where
  G : Gd w A base fr p loose mean mg mb g h small
  XB : (hd.heap_39 w.params).In base
  TB : Top p loose mean mg mb base
  D : KtsDicts (fr.filterMap (·.frame)) g
/-- what holds of the ground of a frame -/
structure Gr (w : World) (A : Around) (base : Heap) (fr : List Env) (p : Program) (loose : List Str) (mean : ExcName → Option Value) (mg mb : Str → Option Value) (g₀ g : Heap) : Prop where
  B : Below A base fr g
  X : (hd.heap_39 w.params).In g
  T : Top p loose mean mg mb g
  D : KtsDicts (fr.filterMap (·.frame)) g
  turn : KtsTurn (fr.filterMap (·.frame)) g₀ g
theorem PostT.of {g g' : Heap} {fr : List Env} {Φ : Value → List (Addr × Obj) → Prop} {s : Shared} {r : Result} {s' : Shared} (T : KtsTurn (fr.filterMap (·.frame)) g g') (P : Post g' Φ s r s') : PostT g fr Φ s r s' := ⟨g', T, P⟩
section
variable {prog : Program} {w : World} {A₀ A : Around} {s : Shared} {base h₀ g₀ : Heap} {outer : List Env} {env : Env} {L : Addr} {m : Str → Option Value} {p : Program} {loose : List Str} {mean : ExcName → Option Value} {mg mb : Str → Option Value}
  {all small rest : List (Addr × Obj)} {E : Value → Shared → Prop}
theorem frame_mem {b : Addr} (hf : env.frame = some L) (hm : b ∈ (env :: outer).filterMap (·.frame)) : b = L ∨ b ∈ outer.filterMap (·.frame) := by
  obtain ⟨e, he, hb⟩ := List.mem_filterMap.mp hm
  rcases List.mem_cons.mp he with rfl | he
  · rw [hf] at hb; exact .inl (Option.some.inj hb).symm
  · exact .inr (List.mem_filterMap.mpr ⟨e, he, hb⟩)
/-- the ground behind such a call -/
theorem ground_turn (Gr₀ : Gr w A₀ base outer p loose mean mg mb g₀ h₀) (XB : (hd.heap_39 w.params).In base) (TB : Top p loose mean mg mb base) (hf : env.frame = some L) {gc gc' h' : Heap} (FG : Fr h₀ L gc m) (Tn : KtsTurn ((env :: outer).filterMap (·.frame)) gc gc')
    (keep : ∀ b o, gc'.get? b = some o → h'.get? b = some o) :
    ∃ h₁, Gr w A₀ base outer p loose mean mg mb g₀ h₁ ∧ Fr h₁ L h' m ∧ ∀ b, h₀.get? b = none → h₁.get? b = none := by
  have K := Gr₀.B
  have hL0 : h₀.get? L = none := kts_self FG
  have Lm : L ∈ (env :: outer).filterMap (·.frame) := List.mem_filterMap.mpr ⟨env, .head _, hf⟩
  obtain ⟨T, S⟩ := kts_turn_at (h := h') (fs := outer.filterMap (·.frame)) (g := h₀)
    (fun b hb => by
      obtain ⟨_, o, ho, _⟩ := K.frames.mem hb
      exact ⟨o, ho⟩)
    (fun b o e nm => keep _ _ (Tn.other b o (FG.keep b o e) (fun hm => by
      rcases frame_mem hf hm with z | z
      · rw [z, hL0] at e; cases e
      · exact nm z)))
    (fun b o e hm => by
      obtain ⟨sl, hs⟩ := Tn.frame b o (FG.keep b o e) (by
        obtain ⟨x, hx, hb⟩ := List.mem_filterMap.mp hm
        exact List.mem_filterMap.mpr ⟨x, .tail _ hx, hb⟩)
      exact ⟨sl, keep _ _ hs⟩)
  have st : base.StaysIn (ktsHeap h' (outer.filterMap (·.frame)) h₀) := fun b o e => T.other b o (K.stays b o e) (fun hm => by
    rw [(K.frames.mem hm).1] at e; cases e)
  refine ⟨_, ⟨⟨K.stack, st, K.frames.of_keeps fun b o e _ => ?_⟩, XB.keeps st, TB.keeps st, Gr₀.D.turn T, Gr₀.turn.trans T⟩, ⟨?_, S, by rw [T.size]; exact FG.above⟩, T.none_⟩
  · obtain ⟨sl, hs⟩ := T.up e
    exact ⟨_, hs, rfl⟩
  · obtain ⟨oL, es, ep, hL, hLd, hLk, hLf⟩ := FG.ns
    obtain ⟨sl, hs⟩ := Tn.frame L oL hL Lm
    exact ⟨_, es, ep, keep _ _ hs, hLd, hLk, hLf⟩

theorem by_contractT {f : Value} {pos : List Value} {kw : List (Str × Value)} {Q : Value → Shared → Prop} {Φ : Value → List (Addr × Obj) → Prop}
    (Gr₀ : Gr w A₀ base outer p loose mean mg mb g₀ h₀) (XB : (hd.heap_39 w.params).In base) (TB : Top p loose mean mg mb base) (F : Fr h₀ L s.heap m) (N : News h₀ L s.heap all) (hA : A.frames = some (env :: outer)) (hf : env.frame = some L) (hke : env.scope.kind = .function)
    (C : ∀ g, GdT w A base (env :: outer) p loose mean mg mb g s.heap small → codeAny (model prog w) A (.call f ⟨pos, kw⟩) (PostT g (env :: outer) Φ s) s)
    (hp : Pick small all rest) (hsep : ∀ q ∈ small, ∀ p ∈ rest, p.1 ≠ q.1)
    (h : ∀ v small' h' tk h₁, Gr w A₀ base outer p loose mean mg mb g₀ h₁ → Fr h₁ L h' m → News h₁ L h' (small' ++ rest) → (∀ q ∈ small', ∀ p ∈ rest, p.1 ≠ q.1) → Φ v small' → Q v { s with heap := h', toks := tk }) :
    wpAny (model prog w) A (PySem.call f pos kw) Q E s := by
  have Ns : News h₀ L s.heap small := fun q hq => N q (hp.mem.1 q hq)
  obtain ⟨FG, BG, st, _⟩ := groundX (R := fun _ _ => True) Gr₀.B F Ns hA hf hke
  have DG : KtsDicts ((env :: outer).filterMap (·.frame)) (hideAll s.heap (small.map (·.1))) := by
    intro b hb
    rcases frame_mem hf hb with rfl | hb
    · obtain ⟨oL, es, ep, hL, hLd, _⟩ := FG.ns
      exact ⟨oL, es, ep, hL, hLd⟩
    · obtain ⟨o, es, n, ho, hd⟩ := Gr₀.D b hb
      exact ⟨o, es, n, st _ _ ho, hd⟩
  refine wpAny_call (codeAny_mono (C _ ⟨⟨BG, Gr₀.X.keeps st, Gr₀.T.keeps st, fun b o e => of_hideAll _ e, Nat.le_of_eq (hideAll_size _ _), fun q hq => ⟨(Ns q hq).1, hideAll_none _ (List.mem_map_of_mem hq)⟩⟩, XB, TB, DG⟩) fun r s' hr => ?_)
  obtain ⟨g', Tn, v, small', h', tk, L', m', rfl, rfl, F', N', hΦ⟩ := hr
  obtain ⟨h₁, Gr₁, F₁, none₁⟩ := ground_turn Gr₀ XB TB hf FG Tn F'.keep
  have Lm : L ∈ (env :: outer).filterMap (·.frame) := List.mem_filterMap.mpr ⟨env, .head _, hf⟩
  obtain ⟨oL, es, ep, hL, hLd, hLk, hLf⟩ := FG.ns
  have vis : ∀ q ∈ rest, g'.get? q.1 = some q.2 := fun q hq => Tn.other _ _ (hideAll_get _ (N q (hp.mem.2 q hq)).1 fun hm => by
    obtain ⟨y, hy, e⟩ := List.mem_map.mp hm
    exact hsep y hy q hq e.symm) (fun hm => by
      rcases frame_mem hf hm with z | z
      · exact (N q (hp.mem.2 q hq)).2.1 z
      · obtain ⟨o, _, _, ho, _⟩ := Gr₀.D _ z
        rw [(N q (hp.mem.2 q hq)).2.2] at ho; cases ho)
  have gone : ∀ b, g'.get? b = none → h₀.get? b = none := fun b e => by
    cases q : h₀.get? b with
    | none => rfl
    | some o =>
      obtain ⟨sl, hs⟩ := Tn.up (st _ _ q)
      rw [e] at hs; cases hs
  refine h v small' h' tk h₁ Gr₁ F₁ (fun q hq => ?_) (fun q hq p hp' e => ?_) hΦ
  · rcases List.mem_append.mp hq with hq | hq
    · refine ⟨(N' q hq).1, fun e => ?_, none₁ _ (gone _ (N' q hq).2.2)⟩
      obtain ⟨sl, hs⟩ := Tn.frame L oL hL Lm
      have := (N' q hq).2.2; rw [e, hs] at this; cases this
    · exact ⟨F'.keep _ _ (vis q hq), (N q (hp.mem.2 q hq)).2.1, none₁ _ (N q (hp.mem.2 q hq)).2.2⟩
  · have := (N' q hq).2.2
    rw [← e, vis p hp'] at this; cases this
end
section
variable {w : World} {A : Around} {s : Shared} {base g : Heap} {fr : List Env} {p : Program} {loose : List Str} {mean : ExcName → Option Value} {mg mb : Str → Option Value} {h : Heap} {small : List (Addr × Obj)}
theorem GdT.gr (G : GdT w A base fr p loose mean mg mb g h small) : Gr w A base fr p loose mean mg mb g g := ⟨G.G.B, G.G.X, G.G.T, G.D, KtsTurn.refl⟩
end
noncomputable def LoopEndT (Gd' : Heap → Prop) (L : Addr) (s : Shared) (J : Nat → Heap → (Str → Option Value) → List (Addr × Obj) → Prop) (Q : Flow → Shared → Prop) (n : Nat) (f : Flow) (s₃ : Shared) : Prop :=
  match f with
  | .next | .cont => ∃ h₁ h' tk m₂ news₂ n', s₃ = { s with heap := h', toks := tk } ∧ Gd' h₁ ∧ Fr h₁ L h' m₂ ∧ News h₁ L h' news₂ ∧ n' < n ∧ J n' h₁ m₂ news₂
  | .brk => Q .next s₃
  | .ret v => Q (.ret v) s₃
theorem while_mT {prog : Program} {w : World} {A : Around} {E : Value → Shared → Prop} {Q : Flow → Shared → Prop} {s : Shared} {env : Env} {h₀ : Heap} {L : Addr} (Gd' : Heap → Prop)
    {test : Expr} {body : List Stmt} {pos : Pos} {m : Str → Option Value} {news : List (Addr × Obj)} (J : Nat → Heap → (Str → Option Value) → List (Addr × Obj) → Prop) {n₀ : Nat}
    (G₀ : Gd' h₀) (F : Fr h₀ L s.heap m) (N : News h₀ L s.heap news) (hJ : J n₀ h₀ m news)
    (turn : ∀ n g₁ m₁ news₁ h₁ tk₁, Gd' g₁ → Fr g₁ L h₁ m₁ → News g₁ L h₁ news₁ → J n g₁ m₁ news₁ →
      wpAny (model prog w) A (isTrue test env (eval test env)) (fun b s₂ =>
        if b = true then wpAny (model prog w) A (execs body env) (LoopEndT Gd' L s J Q n) E s₂ else Q .next s₂) E { s with heap := h₁, toks := tk₁ })
    (hE : PassesOwn (model prog w) A env E) :
    wpAny (model prog w) A (exec (.While test body [] pos) env) Q E s := by
  refine wpAny_While (codeAny_whileLoop (fun n s' => ∃ g₁ h₁ tk₁ m₁ news₁, s' = { s with heap := h₁, toks := tk₁ } ∧ Gd' g₁ ∧ Fr g₁ L h₁ m₁ ∧ News g₁ L h₁ news₁ ∧ J n g₁ m₁ news₁) ?_ n₀ ⟨h₀, s.heap, s.toks, m, news, rfl, G₀, F, N, hJ⟩)
  rintro n s' ⟨g₁, h₁, tk₁, m₁, news₁, rfl, G₁, F₁, N₁, J₁⟩
  refine wpAny_mono (turn n g₁ m₁ news₁ h₁ tk₁ G₁ F₁ N₁ J₁) (fun b s₂ h₂ => ?_) hE
  cases b with
  | false =>
    simp only [Bool.false_eq_true, if_false] at h₂ ⊢
    exact wpAny_execs_nil h₂
  | true =>
    simp only [if_true] at h₂ ⊢
    refine wpAny_mono h₂ (fun f s₃ h₃ => ?_) hE
    cases f with
    | next =>
      obtain ⟨g₂, h', tk, m₂, news₂, n', rfl, G₂, F₂, N₂, hn, J₂⟩ := h₃
      exact ⟨n', hn, g₂, h', tk, m₂, news₂, rfl, G₂, F₂, N₂, J₂⟩
    | cont =>
      obtain ⟨g₂, h', tk, m₂, news₂, n', rfl, G₂, F₂, N₂, hn, J₂⟩ := h₃
      exact ⟨n', hn, g₂, h', tk, m₂, news₂, rfl, G₂, F₂, N₂, J₂⟩
    | brk => exact h₃
    | ret v => exact h₃
end PartKts
section PartKts2
noncomputable abbrev rgO (i n : Int) : Obj := { cls := .type "range_iterator", dict := none, data := .fields #[rawInt i, rawInt (n - i), rawInt 1], slots := #[] }
section
variable {prog : Program} {w : World} {A : Around} {E : Value → Shared → Prop} {s : Shared} {env : Env} {h₀ : Heap} {L : Addr} {m : Str → Option Value} {news : List (Addr × Obj)}
noncomputable def ForEndT (Gd' : Heap → Prop) (L : Addr) (s : Shared) (J : Heap → (Str → Option Value) → List (Addr × Obj) → Prop) (Q : Flow → Shared → Prop) (I : Addr) (oI : Obj) (f : Flow) (s₃ : Shared) : Prop :=
  match f with
  | .next | .cont => ∃ g₂ h' tk m₂ news₂, s₃ = { s with heap := h', toks := tk } ∧ Gd' g₂ ∧ Fr g₂ L h' m₂ ∧ News g₂ L h' ((I, oI) :: news₂) ∧ (∀ p ∈ news₂, p.1 ≠ I) ∧ J g₂ m₂ news₂
  | .brk => Q .next s₃
  | .ret v => Q (.ret v) s₃
theorem for_rangeT {Q : Flow → Shared → Prop} {x : Str} {px : Pos} {body : List Stmt} {I : Addr} {n : Nat} (Gd' : Heap → Prop) (J : Nat → Heap → (Str → Option Value) → List (Addr × Obj) → Prop)
    (hx : env.kindOf x = some .local) (hp : (env.scope.kind == .class || (env.scope.kind == .module && env.locals != env.globals)) = false) (hh : A.handled = none)
    (G₀ : Gd' h₀) (F : Fr h₀ env.locals s.heap m) (N : News h₀ env.locals s.heap ((I, rgO 0 n) :: news)) (hI : ∀ p ∈ news, p.1 ≠ I) (h0 : J 0 h₀ m news)
    (turn : ∀ i g₁ m₁ news₁ h₁ tk₁ t, i < n → Gd' g₁ → J i g₁ m₁ news₁ → (∀ p ∈ news₁, p.1 ≠ I) → Fr g₁ env.locals h₁ (fun y => if y = x then some (.int i t) else m₁ y) → News g₁ env.locals h₁ ((I, rgO ((i + 1 : Nat) : Int) n) :: news₁) →
      wpAny (model prog w) A (execs body env) (ForEndT Gd' env.locals s (J (i + 1)) Q I (rgO ((i + 1 : Nat) : Int) n)) E { s with heap := h₁, toks := tk₁ })
    (done : ∀ g₁ m₁ news₁ h₁ tk₁, Gd' g₁ → J n g₁ m₁ news₁ → Fr g₁ env.locals h₁ m₁ → News g₁ env.locals h₁ news₁ → Q .next { s with heap := h₁, toks := tk₁ })
    (hE : PassesOwn (model prog w) A env E) :
    codeAny (model prog w) A (.forLoop (.Name x px) (.ref I) body [] env) (fun r s' => match r with | .ok f => Q f s' | .error e => cameBackBy (model prog w) A env E e s') s := by
  refine codeAny_forLoop
    (fun k s' => ∃ g₁ h' tk m' news' i, s' = { s with heap := h', toks := tk } ∧ Gd' g₁ ∧ Fr g₁ env.locals h' m' ∧ News g₁ env.locals h' ((I, rgO ((i : Nat) : Int) n) :: news') ∧ (∀ p ∈ news', p.1 ≠ I) ∧ J i g₁ m' news' ∧ i ≤ n ∧ k = n + 1 - i) ?_ (n + 1)
    ⟨h₀, s.heap, s.toks, m, news, 0, rfl, G₀, F, N, hI, h0, Nat.zero_le _, rfl⟩
  rintro k s' ⟨g₁, h', tk, m', news', i, rfl, G₁, F', N', hI', hJ, hi, rfl⟩
  have zI := N' (I, rgO ((i : Nat) : Int) n) (.head _)
  by_cases hlt : i < n
  · refine wpAny_pyNext_range_item (it := I) (x := i) (left := (n : Int) - i) (step := 1) zI.1 (by omega) fun h₁ hg hs => ?_
    have F₁ := F'.change hs zI.2.1 zI.2.2
    have hg' : h₁.get? I = some (rgO ((i + 1 : Nat) : Int) n) := by
      rw [hg, show ((i : Int) + 1) = ((i + 1 : Nat) : Int) from by omega, show ((n : Int) - i - 1) = (n : Int) - ((i + 1 : Nat) : Int) from by omega]
    have N₁ := news_set (pre := []) N' (fun _ h => (nomatch h)) hI' hs hg'
    refine wpAny_assign_Name (wpAny_storeName_local hx F₁.ns (fun h₂ hn₂ hs₂ => ?_) hp)
    have F₂ := F₁.set hn₂ hs₂
    have N₂ := N₁.set hs₂
    refine wpAny_passesOwn hE (wpAny_mono (turn i g₁ m' news' h₂ _ _ hlt G₁ hJ hI' F₂ N₂) (fun f s₃ h₃ => ?_) fun _ _ e => e)
    cases f with
    | ret v => exact h₃
    | brk => exact h₃
    | cont =>
      obtain ⟨g₂, h₃', tk₃, m₂, news₂, rfl, G₃, F₃, N₃, ha₃, hJ₃⟩ := h₃
      exact ⟨n + 1 - (i + 1), by omega, g₂, h₃', tk₃, m₂, news₂, i + 1, rfl, G₃, F₃, N₃, ha₃, hJ₃, hlt, rfl⟩
    | next =>
      obtain ⟨g₂, h₃', tk₃, m₂, news₂, rfl, G₃, F₃, N₃, ha₃, hJ₃⟩ := h₃
      exact ⟨n + 1 - (i + 1), by omega, g₂, h₃', tk₃, m₂, news₂, i + 1, rfl, G₃, F₃, N₃, ha₃, hJ₃, hlt, rfl⟩
  · have hin : i = n := by omega
    subst hin
    refine wpAny_pyNext_range_end (it := I) (x := i) (left := (i : Int) - i) (step := 1) hh zI.1 (by omega) fun h₁ hs => wpAny_execs_nil ?_
    have old : ∀ b o, g₁.get? b = some o → b ≠ I := fun b o e q => by rw [q, zI.2.2] at e; cases e
    refine done g₁ m' news' h₁ tk G₁ hJ ⟨F'.ns.at' fun o e => hs _ o (Ne.symm zI.2.1) e, fun b o e => hs b o (old b o e) (F'.keep b o e), F'.above⟩ fun p hp => ?_
    have z := N' p (.tail _ hp)
    exact ⟨hs _ _ (hI' p hp) z.1, z.2⟩
theorem range_small : ∀ k : Nat, k < 3 → Builtin.Range.small 0 (k : Int) 1 = true ∧ Builtin.Range.rangeSize 0 (k : Int) 1 = (k : Int) := by decide +kernel
/-- iter(range(k)) -/
theorem iter_range {r : Addr} {k : Nat} {t u v : Tok} {Q : Value → Shared → Prop} (hk : k < 3) (hr : IsRange s.heap r 0 (k : Int) 1 t u v) (F : Fr h₀ L s.heap m) (N : News h₀ L s.heap news)
    (h : ∀ I h', Fr h₀ L h' m → News h₀ L h' ((I, rgO 0 k) :: news) → (∀ p ∈ news, p.1 < I) → Q (.ref I) { s with heap := h' }) : wpAny (model prog w) A (pyIter (.ref r)) Q E s := by
  obtain ⟨h1, h2⟩ := range_small k hk
  refine wpAny_pyIter_range hr h1 ?_
  rw [h2]
  refine h _ _ (F.push _) ?_ (fun p hp => Heap.lt_size (N p hp).1)
  have := News.push F N (rgO 0 k) rfl
  rwa [show (rgO 0 (k : Int)) = { cls := .type "range_iterator", data := .fields #[rawInt 0, rawInt (k : Int), rawInt 1] } from by simp [rgO]] at this ⊢
end
section
variable {prog : Program} {w : World} {A : Around} {E : Value → Shared → Prop} {s : Shared} {h₀ : Heap} {L : Addr} {news n₁ n₂ : List (Addr × Obj)} {v v' : Value} {ds es : List Dat} {Q : Value → Shared → Prop}
theorem dat_eqv {n k : Nat} (ha : ∀ d ∈ ds, kqdOk n d = true) (hb : ∀ d ∈ es, kqdOk k d = true) : PyData.eqv (kqdP (.list ds)) (kqdP (.list es)) = true ↔ ds = es := by
  have q := kqd_eqv (n + 1) (.list ds) (.list es) (k + 1) (by simpa [kqdOk] using ha) (by simpa [kqdOk] using hb)
  rw [Dat.list.injEq] at q
  exact q
theorem dat_shaped {n : Nat} (hn : n ≤ 60) (ha : ∀ d ∈ ds, kqdOk n d = true) : SeqAt.shaped (kqdP (.list ds)) = true := by
  have la := kqd_lay (n + 1) (.list ds) (by simpa [kqdOk] using ha)
  unfold SeqAt.shaped
  rw [la.1, Bool.true_and]
  exact decide_eq_true (Nat.le_trans la.2 (by omega))
theorem dat_ne {n k : Nat} (N : News h₀ L s.heap news) (Da : DatIn n₁ v (.list ds)) (sa : ∀ p ∈ n₁, p ∈ news) (Db : DatIn n₂ v' (.list es)) (sb : ∀ p ∈ n₂, p ∈ news) (hn : n ≤ 60) (hk : k ≤ 60) (ha : ∀ d ∈ ds, kqdOk n d = true) (hb : ∀ d ∈ es, kqdOk k d = true)
    (hu : A.units + 64 < cLine) (h : ∀ b : Bool, (b = true ↔ ds ≠ es) → Q (.bool b) s) : wpAny (model prog w) A (compareOp .NotEq v v') Q E s := by
  obtain ⟨as, ra⟩ := kqd_in N (n + 1) (Da.mono sa) (by simpa [kqdOk] using ha)
  obtain ⟨bs, rb⟩ := kqd_in N (k + 1) (Db.mono sb) (by simpa [kqdOk] using hb)
  refine ne_dataH ra rb (dat_shaped hn ha) (dat_shaped hk hb) hu (h _ ?_)
  have q := dat_eqv ha hb
  cases e : PyData.eqv (kqdP (.list ds)) (kqdP (.list es)) with
  | true => simp [q.mp e]
  | false =>
    simp only [Bool.not_false, true_iff]
    intro e'
    rw [q.mpr e'] at e; cases e
theorem dat_eq {n k : Nat} (N : News h₀ L s.heap news) (Da : DatIn n₁ v (.list ds)) (sa : ∀ p ∈ n₁, p ∈ news) (Db : DatIn n₂ v' (.list es)) (sb : ∀ p ∈ n₂, p ∈ news) (hn : n ≤ 60) (hk : k ≤ 60) (ha : ∀ d ∈ ds, kqdOk n d = true) (hb : ∀ d ∈ es, kqdOk k d = true)
    (hu : A.units + 64 < cLine) (h : ∀ b : Bool, (b = true ↔ ds = es) → Q (.bool b) s) : wpAny (model prog w) A (compareOp .Eq v v') Q E s := by
  obtain ⟨as, ra⟩ := kqd_in N (n + 1) (Da.mono sa) (by simpa [kqdOk] using ha)
  obtain ⟨bs, rb⟩ := kqd_in N (k + 1) (Db.mono sb) (by simpa [kqdOk] using hb)
  exact eq_dataH ra rb (dat_shaped hn ha) (dat_shaped hk hb) hu (h _ (dat_eqv ha hb))
end
end PartKts2
section PartC7
local macro_rules | `(tactic| walk_at "pad") => `(tactic| skip)
local macro_rules | `(tactic| walk_at "pad") => `(tactic| skip)
local macro_rules | `(tactic| walk_at "pad") => `(tactic| skip)
local macro_rules | `(tactic| walk_at "pad") => `(tactic| skip)
local macro_rules | `(tactic| walk_at "pad") => `(tactic| skip)
local macro_rules | `(tactic| walk_at "pad") => `(tactic| skip)
noncomputable def PostR (base g : Heap) (fr : List Env) (Φ : Value → List (Addr × Obj) → Prop) (Ψ : List (Addr × Obj) → Prop) (s : Shared) (r : Result) (s' : Shared) : Prop :=
  Post g Φ s r s' ∨ ∃ e small' h' tk, r = .error (.ref e) ∧ s' = { s with heap := h', toks := tk } ∧ RaisedSN base g fr e (.type "StopIteration") small' h' ∧ g.UpToSlots h' ∧ Ψ small'
/-- what is left of the row -/
noncomputable def RowAt (l : Addr) (os : List Nat) (o : Obj) (r : List Nat) : Prop := (∃ i, o = liO l i ∧ i ≤ os.length ∧ os.drop i = r) ∨ (∃ i, o = liE i ∧ r = [])
noncomputable def vint : Int → List Nat → Option (Int × List Nat)
  | _, [] => none
  | v, b :: r => if isLet b = true then vint (v * 64 + ((b % 64 : Nat) : Int)) r else some (v * 64 + ((b % 64 : Nat) : Int), r)
theorem row_nil {l : Addr} {os : List Nat} {o : Obj} (h : RowAt l os o []) : o = liO l os.length ∨ ∃ i, o = liE i := by
  rcases h with ⟨i, rfl, hi, hd⟩ | ⟨i, rfl, _⟩
  · have : i = os.length := by
      have := congrArg List.length hd
      simp at this
      omega
    exact .inl (by rw [this])
  · exact .inr ⟨i, rfl⟩
theorem row_cons {l : Addr} {os : List Nat} {o : Obj} {b : Nat} {r : List Nat} (h : RowAt l os o (b :: r)) : ∃ i, o = liO l i ∧ os[i]? = some b ∧ i < os.length ∧ RowAt l os (liO l (i + 1)) r := by
  rcases h with ⟨i, rfl, hi, hd⟩ | ⟨i, rfl, h⟩
  · have hlt : i < os.length := by
      have := congrArg List.length hd
      simp at this
      omega
    refine ⟨i, rfl, ?_, hlt, .inl ⟨i + 1, rfl, hlt, ?_⟩⟩
    · rw [← List.head?_drop, hd]; rfl
    · rw [← List.drop_drop, hd]; rfl
  · cases h
theorem bit63 : ∀ b : Nat, b < 256 → Builtin.bitAnd (b : Int) 63 = ((b % 64 : Nat) : Int) := by decide +kernel
theorem bits_le {n j : Nat} (h : n < 64 ^ j) (hj : j ≤ 100) : (Builtin.Int.intBits (n : Int) : Int) + 6 ≤ 2 ^ 27 := by
  unfold Builtin.Int.intBits
  split
  · decide
  · rename_i h0
    have hn : n ≠ 0 := by
      intro e
      rw [e] at h0
      exact h0 rfl
    have hp : n < 2 ^ (6 * j) := by rw [Nat.pow_mul]; exact h
    have := (Nat.log2_lt hn).mpr hp
    rw [Int.natAbs_natCast]
    omega
theorem or_digit (n c : Nat) (hc : c < 64) : Builtin.bitOr ((n : Int) * 2 ^ (6 : Int).toNat) (c : Int) = (n : Int) * 64 + (c : Int) := by
  have e1 : ((n : Int) * 2 ^ (6 : Int).toNat) = ((n * 64 : Nat) : Int) := by
    rw [Int.natCast_mul]; rfl
  have e2 : (n * 64) &&& c = 0 := by
    have h1 : c = c &&& (2 ^ 6 - 1) := by rw [Nat.and_two_pow_sub_one_eq_mod]; omega
    have h2 : (n * 64) &&& (2 ^ 6 - 1) = 0 := by rw [Nat.and_two_pow_sub_one_eq_mod]; omega
    rw [h1, Nat.and_comm c, ← Nat.and_assoc, h2, Nat.zero_and]
  have e3 : Builtin.bitAnd ((n * 64 : Nat) : Int) (c : Int) = 0 := by
    unfold Builtin.bitAnd
    rw [decide_eq_true (Int.natCast_nonneg _), decide_eq_true (Int.natCast_nonneg _)]
    simp only [Int.toNat_natCast]
    rw [e2]; rfl
  rw [PyProof.Rows.bitOr_and, e1, e3]
  omega
local macro_rules | `(tactic| walk_at "inplaceOp LShift int int") => `(tactic| k_dflt (refine' ilshift_int (by decide) ?hb ?_; (case hb => assumption)))
local macro_rules | `(tactic| walk_at "leaving ref") => `(tactic| k_dflt (refine' leave_newS ?k1 ?k0 ?k2 ?k3 ?_; (case k1 => k_asm); (case k0 => assumption); (case k2 => k_asm); (case k3 => k_asm); intro h' R' R2' U'))
section
variable {w : World} {dp un : Nat} {s : Shared} {base g : Heap} {fr : List Env} {p : Program} {loose : List Str} {mean : ExcName → Option Value} {mg mb : Str → Option Value}
noncomputable def VarJ (row l : Addr) (ol : Obj) (os : List Nat) (target : Option (Int × List Nat)) (n : Nat) (m : Str → Option Value) (nw : List (Addr × Obj)) : Prop :=
  ∃ (b vn j : Nat) (r : List Nat) (o : Obj) (tb tv : Tok), m (Str.ofString "b") = some (.int b tb) ∧ m (Str.ofString "val") = some (.int vn tv) ∧ m (Str.ofString "iterator") = some (.ref row) ∧ nw = [(row, o), (l, ol)] ∧ RowAt l os o r ∧ b < 256 ∧ vn < 64 ^ j ∧ j + r.length ≤ 100 ∧ n = r.length ∧
    (if isLet b = true then vint vn r else some ((vn : Int), r)) = target
theorem c_varint {row l : Addr} {o : Obj} {vs : List Value} {c : Nat} {os r : List Nat} (hd : dp ≤ 600) (hu : un ≤ 5000) (hi : IntsAre vs (os.map Int.ofNat)) (hr : RowAt l os o r) (hb : ∀ b ∈ os, b < 256) (hlr : @LT.lt Nat _ l row) (hz : os.length ≤ 90)
    (G : Gd w (Aat dp un fr) base fr p loose mean mg mb g s.heap [(row, o), (l, listOf vs.toArray c)]) :
    codeAny (model PySem.Challenge.pw_il0179_01 w) (Aat dp un fr) (.call (.ref 46) ⟨[.ref row], []⟩)
      (PostR base g fr (fun v n => ∃ x r' o', vint 0 r = some (x, r') ∧ (∃ t, v = .int x t) ∧ RowAt l os o' r' ∧ n = [(row, o'), (l, listOf vs.toArray c)]) (fun n => vint 0 r = none ∧ ∃ o', RowAt l os o' [] ∧ n = [(row, o'), (l, listOf vs.toArray c)]) s) s := by
  have hvl : vs.length = os.length := by rw [hi.length, List.length_map]
  have none_ : vs.toArray[os.length]? = none := by simp [hvl]
  have item_ : ∀ {i b : Nat}, os[i]? = some b → ∃ t, vs.toArray[i]? = some (.int (b : Int) t) := fun {i b} h => by
    have h1 : i < vs.length := by
      rcases Nat.lt_or_ge i vs.length with h2 | h2
      · exact h2
      · rw [List.getElem?_eq_none (by omega)] at h; cases h
    obtain ⟨x, t, hx, hv⟩ := ints_get hi (List.getElem?_eq_getElem h1)
    rw [List.getElem?_map, h] at hx
    have : x = (b : Int) := (Option.some.inj hx).symm
    exact ⟨t, by rw [List.getElem?_toArray, List.getElem?_eq_getElem h1, hv, this]⟩
  cases r with
  | nil =>
    rcases row_nil hr with rfl | ⟨i, rfl⟩
    · walk_at "m.enter"
      (repeat' (first | ((with_reducible show wpAny _ _ (PySem.call _ _ _) _ _ _); with_reducible (first | ((with_reducible show wpAny _ _ (PySem.call (Value.builtin "next") _ _) _ _ _); k_dflt (first | (refine' next_item_K ?ma ?mb ?mc ?md ?me ?_; (case ma => k_asm); (case mb => k_asm); (case mc => k_mem); (case md => k_upd); (case me => assumption); intro h' F' N'; (try k_sweep)) | (refine' next_end_K rfl ?ma ?mb ?mc ?md ?me ?_; (case ma => k_asm); (case mb => k_asm); (case mc => k_mem); (case md => k_upd); (case me => assumption); intro h1' h' e' F' N' x'; (try k_sweep)) | (refine' next_spent_K rfl ?ma ?mb ?mc ?_; (case ma => k_asm); (case mb => k_asm); (case mc => k_mem); intro h' e' F' N' x'; (try k_sweep)))))) | walk_at "m.step"))
      all_goals (try dsimp only)
      exact .inr ⟨_, _, _, _, rfl, rfl, by assumption, by assumption, rfl, _, .inr ⟨_, rfl, rfl⟩, rfl⟩
    · walk_at "m.enter"
      (repeat' (first | ((with_reducible show wpAny _ _ (PySem.call _ _ _) _ _ _); with_reducible (first | ((with_reducible show wpAny _ _ (PySem.call (Value.builtin "next") _ _) _ _ _); k_dflt (first | (refine' next_item_K ?ma ?mb ?mc ?md ?me ?_; (case ma => k_asm); (case mb => k_asm); (case mc => k_mem); (case md => k_upd); (case me => assumption); intro h' F' N'; (try k_sweep)) | (refine' next_end_K rfl ?ma ?mb ?mc ?md ?me ?_; (case ma => k_asm); (case mb => k_asm); (case mc => k_mem); (case md => k_upd); (case me => assumption); intro h1' h' e' F' N' x'; (try k_sweep)) | (refine' next_spent_K rfl ?ma ?mb ?mc ?_; (case ma => k_asm); (case mb => k_asm); (case mc => k_mem); intro h' e' F' N' x'; (try k_sweep)))))) | walk_at "m.step"))
      all_goals (try dsimp only)
      exact .inr ⟨_, _, _, _, rfl, rfl, by assumption, by assumption, rfl, _, .inr ⟨_, rfl, rfl⟩, rfl⟩
  | cons b r =>
    obtain ⟨i, rfl, hbi, hlt, hr'⟩ := row_cons hr
    obtain ⟨tb, hit⟩ := item_ hbi
    have hb9 : b < 256 := hb b (List.mem_of_getElem? hbi)
    have hrl : r.length + 1 ≤ os.length := by
      rcases hr with ⟨i', _, _, e⟩ | ⟨_, _, e⟩
      · have := congrArg List.length e
        rw [List.length_drop, List.length_cons] at this
        omega
      · cases e
    walk_at "m.enter"
    (repeat' (first | ((with_reducible show wpAny _ _ (PySem.call _ _ _) _ _ _); with_reducible (first | ((with_reducible show wpAny _ _ (PySem.call (Value.builtin "next") _ _) _ _ _); k_dflt (first | (refine' next_item_K ?ma ?mb ?mc ?md ?me ?_; (case ma => k_asm); (case mb => k_asm); (case mc => k_mem); (case md => k_upd); (case me => assumption); intro h' F' N'; (try k_sweep)) | (refine' next_end_K rfl ?ma ?mb ?mc ?md ?me ?_; (case ma => k_asm); (case mb => k_asm); (case mc => k_mem); (case md => k_upd); (case me => assumption); intro h1' h' e' F' N' x'; (try k_sweep)) | (refine' next_spent_K rfl ?ma ?mb ?mc ?_; (case ma => k_asm); (case mb => k_asm); (case mc => k_mem); intro h' e' F' N' x'; (try k_sweep)))))) | walk_at "m.step"))
    all_goals (try dsimp only)
    rename Fr _ _ _ _ => F1
    rename News _ _ _ _ => N1
    rw [bit63 b hb9] at F1
    refine while_m (n₀ := r.length) (VarJ row l (listOf vs.toArray c) os (vint 0 (b :: r))) F1 N1 ?_ ?_ (by first | assumption | passes_own)
    · refine ⟨b, b % 64, 1, r, _, _, _, rfl, rfl, rfl, rfl, hr', hb9, by omega, by omega, rfl, ?_⟩
      rw [vint, Int.zero_mul, Int.zero_add]
    · rintro n m₁ news₁ h₁ tk₁ F2 N2 ⟨b, vn, j, r, o, tb, tv, e1, e2, e3, rfl, hR, hb1, hvn, hj, rfl, htar⟩
      have F3 := fr_know3 e1 e2 e3 F2
      clear F1 N1 F2
      have hbits := bits_le hvn (by omega)
      have hbl := bit_let b hb1
      by_cases hl : isLet b = true
      · have hne : Builtin.bitAnd (b : Int) 64 ≠ 0 := fun e => by rw [hbl.mp e] at hl; cases hl
        have hq : (Builtin.bitAnd (b : Int) 64 != 0) = true := by rw [bne_iff_ne]; exact hne
        rw [if_pos hl] at htar
        cases r with
        | nil =>
          rcases row_nil hR with rfl | ⟨i, rfl⟩
          · (repeat' (first | ((with_reducible show wpAny _ _ (PySem.call _ _ _) _ _ _); with_reducible (first | ((with_reducible show wpAny _ _ (PySem.call (Value.builtin "next") _ _) _ _ _); k_dflt (first | (refine' next_item_K ?ma ?mb ?mc ?md ?me ?_; (case ma => k_asm); (case mb => k_asm); (case mc => k_mem); (case md => k_upd); (case me => assumption); intro h' F' N'; (try k_sweep)) | (refine' next_end_K rfl ?ma ?mb ?mc ?md ?me ?_; (case ma => k_asm); (case mb => k_asm); (case mc => k_mem); (case md => k_upd); (case me => assumption); intro h1' h' e' F' N' x'; (try k_sweep)) | (refine' next_spent_K rfl ?ma ?mb ?mc ?_; (case ma => k_asm); (case mb => k_asm); (case mc => k_mem); intro h' e' F' N' x'; (try k_sweep)))))) | walk_at "m.step"))
            all_goals (try dsimp only)
            exact .inr ⟨_, _, _, _, rfl, rfl, by assumption, by assumption, htar.symm, _, .inr ⟨_, rfl, rfl⟩, rfl⟩
          · (repeat' (first | ((with_reducible show wpAny _ _ (PySem.call _ _ _) _ _ _); with_reducible (first | ((with_reducible show wpAny _ _ (PySem.call (Value.builtin "next") _ _) _ _ _); k_dflt (first | (refine' next_item_K ?ma ?mb ?mc ?md ?me ?_; (case ma => k_asm); (case mb => k_asm); (case mc => k_mem); (case md => k_upd); (case me => assumption); intro h' F' N'; (try k_sweep)) | (refine' next_end_K rfl ?ma ?mb ?mc ?md ?me ?_; (case ma => k_asm); (case mb => k_asm); (case mc => k_mem); (case md => k_upd); (case me => assumption); intro h1' h' e' F' N' x'; (try k_sweep)) | (refine' next_spent_K rfl ?ma ?mb ?mc ?_; (case ma => k_asm); (case mb => k_asm); (case mc => k_mem); intro h' e' F' N' x'; (try k_sweep)))))) | walk_at "m.step"))
            all_goals (try dsimp only)
            exact .inr ⟨_, _, _, _, rfl, rfl, by assumption, by assumption, htar.symm, _, .inr ⟨_, rfl, rfl⟩, rfl⟩
        | cons b2 r2 =>
          obtain ⟨i2, rfl, hbi2, hlt2, hr2⟩ := row_cons hR
          obtain ⟨tb2, hit2⟩ := item_ hbi2
          have hb2 : b2 < 256 := hb b2 (List.mem_of_getElem? hbi2)
          have hcast : ((vn * 64 + b2 % 64 : Nat) : Int) = (vn : Int) * 64 + ((b2 % 64 : Nat) : Int) := by omega
          have hval : Builtin.bitOr ((vn : Int) * 2 ^ (6 : Int).toNat) (Builtin.bitAnd (b2 : Int) 63) = ((vn * 64 + b2 % 64 : Nat) : Int) := by
            rw [bit63 _ hb2, or_digit _ _ (Nat.mod_lt _ (by decide)), hcast]
          have hlt64 : vn * 64 + b2 % 64 < 64 ^ (j + 1) := by
            rw [Nat.pow_succ]
            have := Nat.mod_lt b2 (show 64 > 0 by decide)
            omega
          rw [vint, ← hcast] at htar
          (repeat' (first | ((with_reducible show wpAny _ _ (PySem.call _ _ _) _ _ _); with_reducible (first | ((with_reducible show wpAny _ _ (PySem.call (Value.builtin "next") _ _) _ _ _); k_dflt (first | (refine' next_item_K ?ma ?mb ?mc ?md ?me ?_; (case ma => k_asm); (case mb => k_asm); (case mc => k_mem); (case md => k_upd); (case me => assumption); intro h' F' N'; (try k_sweep)) | (refine' next_end_K rfl ?ma ?mb ?mc ?md ?me ?_; (case ma => k_asm); (case mb => k_asm); (case mc => k_mem); (case md => k_upd); (case me => assumption); intro h1' h' e' F' N' x'; (try k_sweep)) | (refine' next_spent_K rfl ?ma ?mb ?mc ?_; (case ma => k_asm); (case mb => k_asm); (case mc => k_mem); intro h' e' F' N' x'; (try k_sweep)))))) | walk_at "m.step"))
          all_goals (try dsimp only)
          rw [List.length_cons] at hj
          exact ⟨r2.length, Nat.lt_succ_self _, b2, vn * 64 + b2 % 64, j + 1, r2, _, _, _, rfl, congrArg (fun z => some (Value.int z _)) hval, rfl, rfl, hr2, hb2, hlt64, by omega, rfl, htar⟩
      · have hl0 : isLet b = false := by cases e : isLet b with | true => exact absurd e hl | false => rfl
        have h0 : Builtin.bitAnd (b : Int) 64 = 0 := hbl.mpr hl0
        have hq : (Builtin.bitAnd (b : Int) 64 != 0) = false := by rw [h0]; rfl
        rw [if_neg hl] at htar
        (repeat' (first | ((with_reducible show wpAny _ _ (PySem.call _ _ _) _ _ _); with_reducible (first | ((with_reducible show wpAny _ _ (PySem.call (Value.builtin "next") _ _) _ _ _); k_dflt (first | (refine' next_item_K ?ma ?mb ?mc ?md ?me ?_; (case ma => k_asm); (case mb => k_asm); (case mc => k_mem); (case md => k_upd); (case me => assumption); intro h' F' N'; (try k_sweep)) | (refine' next_end_K rfl ?ma ?mb ?mc ?md ?me ?_; (case ma => k_asm); (case mb => k_asm); (case mc => k_mem); (case md => k_upd); (case me => assumption); intro h1' h' e' F' N' x'; (try k_sweep)) | (refine' next_spent_K rfl ?ma ?mb ?mc ?_; (case ma => k_asm); (case mb => k_asm); (case mc => k_mem); intro h' e' F' N' x'; (try k_sweep)))))) | walk_at "m.step"))
        all_goals (try dsimp only)
        exact .inl (Post.intro (by k_asm) (by k_asm) (fun _ h => h) ⟨_, _, _, htar.symm, ⟨_, rfl⟩, hR, rfl⟩)
end
end PartC7
section PartC8
section
variable {prog : Program} {w : World} {A₀ A : Around} {s : Shared} {base h₀ : Heap} {outer : List Env} {env : Env} {L : Addr} {m : Str → Option Value} {p : Program} {loose : List Str} {mean : ExcName → Option Value} {mg mb : Str → Option Value}
  {all : List (Addr × Obj)} {E : Value → Shared → Prop}
theorem by_contractR {f : Value} {pos : List Value} {kw : List (Str × Value)} {Q : Value → Shared → Prop} {Φ : Value → List (Addr × Obj) → Prop} {Ψ : List (Addr × Obj) → Prop}
    (B : Below A₀ base outer h₀) (F : Fr h₀ L s.heap m) (X₀ : (hd.heap_39 w.params).In h₀) (N : News h₀ L s.heap all) (T : Top p loose mean mg mb h₀) (hA : A.frames = some (env :: outer)) (hf : env.frame = some L) (hke : env.scope.kind = .function)
    (C : ∀ g, Gd w A base (env :: outer) p loose mean mg mb g s.heap all → codeAny (model prog w) A (.call f ⟨pos, kw⟩) (PostR base g (env :: outer) Φ Ψ s) s)
    (h : ∀ v small' h' tk, Fr h₀ L h' m → News h₀ L h' small' → Φ v small' → Q v { s with heap := h', toks := tk })
    (herr : ∀ e small' h' tk gc, Fr h₀ L gc m → RaisedSN base gc (env :: outer) e (.type "StopIteration") small' h' → gc.UpToSlots h' → Ψ small' → E (.ref e) { s with heap := h', toks := tk }) :
    wpAny (model prog w) A (PySem.call f pos kw) Q E s := by
  obtain ⟨FG, BG, st, _⟩ := groundX (R := fun _ _ => True) B F N hA hf hke
  refine wpAny_call (codeAny_mono (C _ ⟨BG, X₀.keeps st, T.keeps st, fun b o e => of_hideAll _ e, Nat.le_of_eq (hideAll_size _ _), fun q hq => ⟨(N q hq).1, hideAll_none _ (List.mem_map_of_mem hq)⟩⟩) fun r s' hr => ?_)
  rcases hr with ⟨v, small', h', tk, L', m', rfl, rfl, F', N', hΦ⟩ | ⟨e, small', h', tk, rfl, rfl, R, U, hΨ⟩
  · obtain ⟨oL, es, ep, hL, hLd, hLk, hLf⟩ := FG.ns
    refine h v small' h' tk ⟨⟨oL, es, ep, F'.keep L oL hL, hLd, hLk, hLf⟩, fun b o e => F'.keep b o (st b o e), F.above⟩ (fun q hq => ?_) hΦ
    refine ⟨(N' q hq).1, fun e => ?_, ?_⟩
    · have := (N' q hq).2.2; rw [e, hL] at this; cases this
    · cases e : h₀.get? q.1 with
      | none => rfl
      | some o => have := (N' q hq).2.2; rw [st _ _ e] at this; cases this
  · exact herr e small' h' tk _ FG R U hΨ
end
theorem exc_base : isSubtype (.type "StopIteration") (.type "BaseException") = pure true := by rw [isSubtype_type]; kernel_rfl
section
variable {w : World} {dp un : Nat} {s : Shared} {base g : Heap} {fr : List Env} {p : Program} {loose : List Str} {mean : ExcName → Option Value} {mg mb : Str → Option Value}
noncomputable def numL (r : List Nat) : List Int × List Nat := match vint 0 r with
  | some (x, r') => ([x], r')
  | none => ([], [])
noncomputable def NumΦ (row l : Addr) (ol : Obj) (os r : List Nat) (v : Value) (n : List (Addr × Obj)) : Prop :=
  ∃ (a : Addr) (us : List Value) (c : Nat) (o : Obj), v = .ref a ∧ n = [(a, listOf us.toArray c), (row, o), (l, ol)] ∧ IntsAre us (numL r).1 ∧ RowAt l os o (numL r).2 ∧ @LT.lt Nat _ row a ∧ @LT.lt Nat _ l a
theorem c_number {row l : Addr} {o : Obj} {vs : List Value} {c : Nat} {os r : List Nat} (hd : dp ≤ 590) (hu : un ≤ 4900) (hi : IntsAre vs (os.map Int.ofNat)) (hr : RowAt l os o r) (hb : ∀ b ∈ os, b < 256) (hlr : @LT.lt Nat _ l row) (hz : os.length ≤ 90)
    (GT : GdT w (Aat dp un fr) base fr p loose mean mg mb g s.heap [(row, o), (l, listOf vs.toArray c)]) :
    codeAny (model PySem.Challenge.pw_il0179_01 w) (Aat dp un fr) (.call (.ref 798) ⟨[.ref row], []⟩) (PostT g fr (NumΦ row l (listOf vs.toArray c) os r) s) s := by
  obtain ⟨G, XB, TB, D⟩ := GT
  ((have XS' := Gd.XS (by k_asm)); refine' enter ?G ?ho ?hcd ?hroom ?hbind ?hloc ?_ ?hcell ?h1 ?h2 ?h3; (case G => k_asm); (case ho => k_is); (case hcd => k_is); (case hroom => k_room); (case hbind => first | exact BindsTo.of_eq rfl | exact binds_K (by k_in) rfl (by k_is) rfl rfl rfl); (case hloc => exact locs rfl); (case hcell => decide); (case h1 => exact rfl); (case h2 => exact rfl); (case h3 => exact rfl); clear XS'; intro L' h' F' N' l1 B' X' T'; (try k_lt l1); (try dsimp only))
  (repeat' (first | ((with_reducible show wpAny _ _ (PySem.call _ _ _) _ _ _); with_reducible (first | (((show wpAny _ _ (PySem.call (Value.ref 46) _ _) _ _ _); refine held_tree ?_)))) | walk_at "m.step"))
  all_goals (try dsimp only)
  refine' by_contractR ?B ?F ?X ?N ?T rfl rfl rfl (fun g' G' => c_varint ?a1 ?a2 hi hr hb hlr hz G') ?_ ?_
  case B => k_asm
  case F => k_asm
  case X => k_asm
  case N => k_asm
  case T => k_asm
  case a1 => walk_at "m.un"
  case a2 => walk_at "m.un"
  · rintro v small' h' tk F' N' ⟨x, r', o', hv, ⟨t, rfl⟩, hR, rfl⟩
    (repeat' (first | ((with_reducible show wpAny _ _ (PySem.call _ _ _) _ _ _); with_reducible (first | (((show wpAny _ _ (PySem.call (Value.ref 46) _ _) _ _ _); refine held_tree ?_)))) | walk_at "m.step"))
    all_goals (try dsimp only)
    have hn : numL r = ([x], r') := by unfold numL; rw [hv]
    refine PostT.of KtsTurn.refl (Post.intro (by k_asm) (by k_asm) (fun _ h => h) ⟨_, [.int x t], _, o', rfl, rfl, ?_, ?_, by omega, by omega⟩)
    · rw [hn]; exact .cons x t .nil
    · rw [hn]; exact hR
  · rintro e small' h' tk gc FG R U ⟨hv, o', hR, rfl⟩
    (repeat' (first | ((with_reducible show wpAny _ _ (PySem.call _ _ _) _ _ _); with_reducible (first | (((show wpAny _ _ (PySem.call (Value.ref 46) _ _) _ _ _); refine held_tree ?_)))) | walk_at "m.step"))
    all_goals (try dsimp only)
    have hn : numL r = ([], []) := by unfold numL; rw [hv]
    refine PostT.of (by assumption) (Post.intro (by k_asm) (by k_asm) (fun _ h => h) ⟨_, [], _, o', rfl, rfl, ?_, ?_, by omega, by omega⟩)
    · rw [hn]; exact .nil
    · rw [hn]; exact hR
end
end PartC8
section PartC9
local macro_rules | `(tactic| walk_at "exec For Name Call cons nil") => `(tactic| refine held_tree ?_)
local macro_rules | `(tactic| k_all) => `(tactic| assumption)
local macro_rules | `(tactic| walk_at "compareOp NotEq ref ref") => `(tactic| refine held_tree ?_)
mutual
noncomputable def treeO : Nat → List Nat → List Dat × List Nat
  | 0, r => ([], r)
  | k + 1, r => match vint 0 r with
    | none => ([], [])
    | some (x, r1) => (.int x :: (partsO k (x % 3).toNat r1).1, (partsO k (x % 3).toNat r1).2)
  termination_by k _ => (k, 0)
noncomputable def partsO (k : Nat) : Nat → List Nat → List Dat × List Nat
  | 0, r => ([], r)
  | j + 1, r => ((if (treeO k r).1.isEmpty = true then (partsO k j (treeO k r).2).1 else .list (treeO k r).1 :: (partsO k j (treeO k r).2).1), (partsO k j (treeO k r).2).2)
  termination_by j _ => (k, j + 1)
end
theorem vint_len : ∀ (r : List Nat) (v x : Int) (r1 : List Nat), vint v r = some (x, r1) → r1.length < r.length
  | [], v, x, r1, h => by simp [vint] at h
  | b :: r, v, x, r1, h => by
    rw [vint] at h
    split at h
    · have := vint_len r _ x r1 h
      rw [List.length_cons]; omega
    · cases h
      exact Nat.lt_succ_self _
theorem treeO_len : ∀ (k : Nat), (∀ r, (treeO k r).2.length ≤ r.length) ∧ ∀ j r, (partsO k j r).2.length ≤ r.length := by
  intro k
  induction k with
  | zero =>
    have h0 : ∀ r, (treeO 0 r).2.length ≤ r.length := fun r => by rw [treeO]; exact Nat.le_refl _
    refine ⟨h0, fun j => ?_⟩
    induction j with
    | zero => intro r; rw [partsO]; exact Nat.le_refl _
    | succ j ih => intro r; rw [partsO]; exact Nat.le_trans (ih _) (h0 _)
  | succ k ih =>
    have h0 : ∀ r, (treeO (k + 1) r).2.length ≤ r.length := fun r => by
      rw [treeO]
      split
      · exact Nat.zero_le _
      · rename_i x r1 h
        exact Nat.le_trans (ih.2 _ _) (Nat.le_of_lt (vint_len _ _ _ _ h))
    refine ⟨h0, fun j => ?_⟩
    induction j with
    | zero => intro r; rw [partsO]; exact Nat.le_refl _
    | succ j ih => intro r; rw [partsO]; exact Nat.le_trans (ih _) (h0 _)
theorem parts_ok {k : Nat} (h : ∀ r, ∀ d ∈ (treeO k r).1, kqdOk k d = true) : ∀ j r, ∀ d ∈ (partsO k j r).1, kqdOk (k + 1) d = true := by
  intro j
  induction j with
  | zero => intro r d hd; rw [partsO] at hd; cases hd
  | succ j ih =>
    intro r d hd
    rw [partsO] at hd
    dsimp only at hd
    split at hd
    · exact ih _ d hd
    · rcases List.mem_cons.mp hd with rfl | hd
      · rw [kqdOk, List.all_eq_true]
        exact h r
      · exact ih _ d hd
theorem treeO_ok : ∀ (k : Nat), ∀ r, ∀ d ∈ (treeO k r).1, kqdOk k d = true := by
  intro k
  induction k with
  | zero => intro r d hd; rw [treeO] at hd; cases hd
  | succ k ih =>
    intro r d hd
    rw [treeO] at hd
    split at hd
    · cases hd
    · rcases List.mem_cons.mp hd with rfl | hd
      · rfl
      · exact parts_ok ih _ _ d hd
section
variable {w : World} {dp un : Nat} {s : Shared} {base g : Heap} {fr : List Env} {p : Program} {loose : List Str} {mean : ExcName → Option Value} {mg mb : Str → Option Value}
noncomputable def TreeΦ (row l : Addr) (ol : Obj) (os : List Nat) (q : List Dat × List Nat) (v : Value) (n : List (Addr × Obj)) : Prop :=
  ∃ (o : Obj) (kids : List (Addr × Obj)), n = (row, o) :: (l, ol) :: kids ∧ DatIn kids v (.list q.1) ∧ RowAt l os o q.2 ∧ ∀ p ∈ kids, p.1 ≠ row ∧ p.1 ≠ l
noncomputable def TrJ (k : Nat) (row l a : Addr) (ol : Obj) (os : List Nat) (x : Int) (r1 : List Nat) (n i : Nat) (_ : Heap) (m : Str → Option Value) (nw : List (Addr × Obj)) : Prop :=
  ∃ (us : List Value) (ca : Nat) (o : Obj) (kids : List (Addr × Obj)) (r' : List Nat) (acc : List Dat), m (Str.ofString "tree") = some (.ref a) ∧ m (Str.ofString "row") = some (.ref row) ∧ nw = (a, listOf us.toArray ca) :: (row, o) :: (l, ol) :: kids ∧ DatAll kids us (.int x :: acc) ∧ RowAt l os o r' ∧ r'.length ≤ r1.length ∧ us.length ≤ i + 1 ∧
    (∀ p ∈ kids, p.1 ≠ a ∧ p.1 ≠ row ∧ p.1 ≠ l) ∧ acc ++ (partsO k (n - i) r').1 = (partsO k n r1).1 ∧ (partsO k (n - i) r').2 = (partsO k n r1).2
theorem c_tree {row l : Addr} {vs : List Value} {c : Nat} {os : List Nat} (hi : IntsAre vs (os.map Int.ofNat)) (hb : ∀ b ∈ os, b < 256) (hlr : @LT.lt Nat _ l row) (hz : os.length ≤ 60) : ∀ (k dp un : Nat) (s : Shared) (g : Heap) (fr : List Env) (o : Obj) (r : List Nat), r.length < k → k ≤ 60 → dp + 2 * k ≤ 500 → un + 20 * k ≤ 4800 → RowAt l os o r →
    GdT w (Aat dp un fr) base fr p loose mean mg mb g s.heap [(row, o), (l, listOf vs.toArray c)] →
    codeAny (model PySem.Challenge.pw_il0179_01 w) (Aat dp un fr) (.call (.ref 805) ⟨[.ref row], []⟩) (PostT g fr (TreeΦ row l (listOf vs.toArray c) os (treeO k r)) s) s := by
  intro k
  induction k with
  | zero => intro dp un s g fr o r h _; exact absurd h (Nat.not_lt_zero _)
  | succ k ih =>
    intro dp un s g fr o r hrk hk60 hd hu hr GT
    have GT' := GT
    obtain ⟨G, XB, TB, D⟩ := GT
    walk_at "m.enter"
    (repeat' (first | ((with_reducible show wpAny _ _ (PySem.call _ _ _) _ _ _); with_reducible (first | ((with_reducible show wpAny _ _ (PySem.call (Value.builtin "list.append") _ _) _ _ _); k_dflt (refine' appendL ?ma ?mb ?mz ?mc ?_; (case ma => k_asm); (case mb => k_asm); (case mz => first | assumption | omega); (case mc => k_upd); intro h' F' N'; (try k_sweep))) | (((show wpAny _ _ (PySem.call (Value.ref 805) _ _) _ _ _); refine held_tree ?_)) | (((show wpAny _ _ (PySem.call (Value.ref 798) _ _) _ _ _); refine held_tree ?_)))) | walk_at "m.step"))
    all_goals (try dsimp only)
    refine' by_contractT GT'.gr XB TB ?F ?N rfl rfl rfl (fun g' G' => c_number ?a1 ?a2 hi hr hb hlr (by omega) G') ?P ?S ?_
    case F => k_asm
    case N => k_asm
    case a1 => walk_at "m.un"
    case a2 => walk_at "m.un"
    case P => walk_at "m.pick"
    case S => walk_at "m.sep"
    rintro v small' h' tk h₁ Gr₁ F' N' S' ⟨a, us, ca, o1, rfl, rfl, hus, hR1, hra, hla⟩
    simp only [List.cons_append, List.nil_append] at N'
    obtain ⟨B1, X1, T1, D1, turn1⟩ := id Gr₁
    cases hv : vint 0 r with
    | none =>
      have hn : numL r = ([], []) := by unfold numL; rw [hv]
      rw [hn] at hus hR1
      cases hus
      (repeat' (first | ((with_reducible show wpAny _ _ (PySem.call _ _ _) _ _ _); with_reducible (first | ((with_reducible show wpAny _ _ (PySem.call (Value.builtin "list.append") _ _) _ _ _); k_dflt (refine' appendL ?ma ?mb ?mz ?mc ?_; (case ma => k_asm); (case mb => k_asm); (case mz => first | assumption | omega); (case mc => k_upd); intro h' F' N'; (try k_sweep))) | (((show wpAny _ _ (PySem.call (Value.ref 805) _ _) _ _ _); refine held_tree ?_)) | (((show wpAny _ _ (PySem.call (Value.ref 798) _ _) _ _ _); refine held_tree ?_)))) | walk_at "m.step"))
      all_goals (try dsimp only)
      have ht : treeO (k + 1) r = ([], []) := by rw [treeO, hv]
      rw [ht]
      rename News _ _ _ _ => N9
      rename (_ < _ ∧ a < _ ∧ row < _ ∧ l < _) => q9
      refine PostT.of turn1 (Post.intro (small' := [(row, o1), (l, listOf vs.toArray c), (_, listOf #[] 0)]) (by k_asm) N9 (by k_allIn) ⟨o1, [(_, listOf #[] 0)], rfl, .list (vs := []) (.head _) .nil, hR1, List.forall_mem_cons.mpr ⟨⟨neN (by omega), neN (by omega)⟩, List.forall_mem_nil _⟩⟩)
    | some q =>
      obtain ⟨x, r1⟩ := q
      have hn : numL r = ([x], r1) := by unfold numL; rw [hv]
      rw [hn] at hus hR1
      cases hus with
      | cons x t h0 =>
        cases h0
        (repeat' (first | ((with_reducible show wpAny _ _ (PySem.call _ _ _) _ _ _); with_reducible (first | ((with_reducible show wpAny _ _ (PySem.call (Value.builtin "list.append") _ _) _ _ _); k_dflt (refine' appendL ?ma ?mb ?mz ?mc ?_; (case ma => k_asm); (case mb => k_asm); (case mz => first | assumption | omega); (case mc => k_upd); intro h' F' N'; (try k_sweep))) | (((show wpAny _ _ (PySem.call (Value.ref 805) _ _) _ _ _); refine held_tree ?_)) | (((show wpAny _ _ (PySem.call (Value.ref 798) _ _) _ _ _); refine held_tree ?_)))) | walk_at "m.step"))
        all_goals (try dsimp only)
        · rename (decide ([x] = []) = true) => hcon
          simp at hcon
        refine wpAny_For ?_ (by intro _; rfl)
        have hx3 : x.fmod 3 = (((x % 3).toNat : Nat) : Int) := by rw [fmod_pos x 3 (by decide)]; omega
        have hk3 : (x % 3).toNat < 3 := by omega
        (repeat' (first | ((with_reducible show wpAny _ _ (PySem.call _ _ _) _ _ _); with_reducible (first | ((with_reducible show wpAny _ _ (PySem.call (Value.builtin "list.append") _ _) _ _ _); k_dflt (refine' appendL ?ma ?mb ?mz ?mc ?_; (case ma => k_asm); (case mb => k_asm); (case mz => first | assumption | omega); (case mc => k_upd); intro h' F' N'; (try k_sweep))) | (((show wpAny _ _ (PySem.call (Value.ref 805) _ _) _ _ _); refine held_tree ?_)) | (((show wpAny _ _ (PySem.call (Value.ref 798) _ _) _ _ _); refine held_tree ?_)))) | walk_at "m.step"))
        all_goals (try dsimp only)
        rename Fr _ _ _ _ => F1
        rename News _ _ _ _ => N1
        rename IsRange _ _ _ _ _ _ _ _ => hrg
        have hvl := vint_len _ _ _ _ hv
        have hxx : ([x].getD (Int.toNat 0) 0).fmod 3 = (((x % 3).toNat : Nat) : Int) := hx3
        rw [hxx] at hrg
        refine iter_range hk3 hrg F1 N1 ?_
        intro I h' FI NI lI
        have lI' : ∀ p ∈ [(a, listOf [Value.int x t].toArray ca), (row, o1), (l, listOf vs.toArray c)], p.1 ≠ I := fun p hp => Nat.ne_of_lt (lI p (.tail _ hp))
        have har : @Ne Nat a row := Nat.ne_of_gt hra
        have hal : @Ne Nat a l := Nat.ne_of_gt hla
        refine for_rangeT (n := (x % 3).toNat) (fun g₁ => Gr w (Aat dp un fr) base fr p loose mean mg mb g g₁) (TrJ k row l a (listOf vs.toArray c) os x r1 (x % 3).toNat) (by rfl) (by rfl) rfl Gr₁ FI
          (news := [(a, listOf [Value.int x t].toArray ca), (row, o1), (l, listOf vs.toArray c)]) (News.sub NI ?_) lI' ?_ ?_ ?_ (by first | assumption | passes_own)
        · k_allIn
        · refine ⟨[.int x t], ca, o1, [], r1, [], rfl, rfl, rfl, .cons (.int x t) .nil, hR1, Nat.le_refl _, Nat.le_refl _, List.forall_mem_nil _, ?_, ?_⟩
          · rw [Nat.sub_zero, List.nil_append]
          · rw [Nat.sub_zero]
        · rintro i g₁ m₁ news₁ h₁ tk₁ tt hi3 Gr₂ ⟨us, ca, o, kids, r', acc, e1, e2, rfl, hDs, hRr, hrl, hul, hkids, heq1, heq2⟩ hsI F2 N2
          have s1 : @Ne Nat a I := hsI _ (.head _)
          have s2 : @Ne Nat row I := hsI _ (.tail _ (.head _))
          have s3 : @Ne Nat l I := hsI _ (.tail _ (.tail _ (.head _)))
          have hk1 : ∀ p ∈ kids, p.1 ≠ row := fun p hp => (hkids p hp).2.1
          have hk2 : ∀ p ∈ kids, p.1 ≠ l := fun p hp => (hkids p hp).2.2
          have F3 := fr_know (a := Str.ofString "tree") (v := .ref a) (by rw [if_neg (by decide)]; exact e1) F2
          have F4 := fr_know (a := Str.ofString "row") (v := .ref row) (by rw [if_neg (by decide), if_neg (by decide)]; exact e2) F3
          clear F1 N1 F2 F3 FI NI
          obtain ⟨B2, X2, T2, D2, turn2⟩ := id Gr₂
          (repeat' (first | ((with_reducible show wpAny _ _ (PySem.call _ _ _) _ _ _); with_reducible (first | ((with_reducible show wpAny _ _ (PySem.call (Value.builtin "list.append") _ _) _ _ _); k_dflt (refine' appendL ?ma ?mb ?mz ?mc ?_; (case ma => k_asm); (case mb => k_asm); (case mz => first | assumption | omega); (case mc => k_upd); intro h' F' N'; (try k_sweep))) | (((show wpAny _ _ (PySem.call (Value.ref 805) _ _) _ _ _); refine held_tree ?_)) | (((show wpAny _ _ (PySem.call (Value.ref 798) _ _) _ _ _); refine held_tree ?_)))) | walk_at "m.step"))
          all_goals (try dsimp only)
          refine' by_contractT Gr₂ XB TB ?F ?N rfl rfl rfl (fun g' G' => ih _ _ _ _ _ _ r' ?a0 (by omega) ?a1 ?a2 hRr G') ?P ?S ?_
          case F => k_asm
          case N => k_asm
          case a0 => omega
          case a1 => walk_at "m.un"
          case a2 => walk_at "m.un"
          case P => walk_at "m.pick"
          case S => walk_at "m.sep"
          rintro v3 small3 h3 tk3 g3 Gr₃ F5 N5 S5 ⟨o3, kids3, rfl, hD3, hR3, hk3⟩
          cases hD3 with
          | list hm3 hall3 =>
            rename_i b vs3 c3
            obtain ⟨B3, X3, T3, D3, turn3⟩ := id Gr₃
            clear F4 N2
            have k3a : ∀ p ∈ kids3 ++ kids, p.1 ≠ a := fun p hp => by
              rcases List.mem_append.mp hp with hp | hp
              · exact Ne.symm (S5 p (.tail _ (.tail _ hp)) _ (.tail _ (.head _)))
              · exact (hkids p hp).1
            have k3I : ∀ p ∈ kids3 ++ kids, p.1 ≠ I := fun p hp => by
              rcases List.mem_append.mp hp with hp | hp
              · exact Ne.symm (S5 p (.tail _ (.tail _ hp)) _ (.head _))
              · exact hsI p (.tail _ (.tail _ (.tail _ hp)))
            have k3r : ∀ p ∈ kids3 ++ kids, p.1 ≠ row ∧ p.1 ≠ l := fun p hp => by
              rcases List.mem_append.mp hp with hp | hp
              · exact hk3 p hp
              · exact (hkids p hp).2
            have N6 : News _ _ _ ((a, listOf us.toArray ca) :: (row, o3) :: (l, listOf vs.toArray c) :: (I, rgO ((i + 1 : Nat) : Int) (x % 3).toNat) :: (kids3 ++ kids)) := News.sub N5 (fun q hq => by
              simp only [List.mem_cons, List.mem_append, List.cons_append] at hq ⊢
              rcases hq with h | h | h | h | h | h
              · exact .inr (.inr (.inr (.inr (.inl h))))
              · exact .inl h
              · exact .inr (.inl h)
              · exact .inr (.inr (.inr (.inl h)))
              · exact .inr (.inr (.inl h))
              · exact .inr (.inr (.inr (.inr (.inr h)))))
            clear N5
            have hus9 : us.length ≤ 900 := by omega
            have htl := (treeO_len k).1 r'
            obtain ⟨j, hj⟩ : ∃ j, (x % 3).toNat - i = j + 1 := ⟨(x % 3).toNat - i - 1, by omega⟩
            have hj1 : (x % 3).toNat - (i + 1) = j := by omega
            rw [hj, partsO] at heq1 heq2
            dsimp only at heq1 heq2
            (repeat' (first | ((with_reducible show wpAny _ _ (PySem.call _ _ _) _ _ _); with_reducible (first | ((with_reducible show wpAny _ _ (PySem.call (Value.builtin "list.append") _ _) _ _ _); k_dflt (refine' appendL ?ma ?mb ?mz ?mc ?_; (case ma => k_asm); (case mb => k_asm); (case mz => first | assumption | omega); (case mc => k_upd); intro h' F' N'; (try k_sweep))) | (((show wpAny _ _ (PySem.call (Value.ref 805) _ _) _ _ _); refine held_tree ?_)) | (((show wpAny _ _ (PySem.call (Value.ref 798) _ _) _ _ _); refine held_tree ?_)))) | walk_at "m.step"))
            all_goals (try dsimp only)
            rename Fr _ _ _ _ => F7
            rename News _ _ _ _ => N7
            refine dat_ne (n := k) (k := 0) N7 (.list hm3 hall3) (fun p hp => .tail _ (.tail _ (.tail _ (.tail _ (.tail _ (List.mem_append.mpr (.inl hp))))))) (n₂ := [(_, listOf #[] 0)]) (es := []) (.list (vs := []) (.head _) .nil) (fun p hp => by rw [List.mem_singleton.mp hp]; exact .head _) (by omega) (by omega) (treeO_ok k r') (fun d hd => nomatch hd) ?_ ?_
            · (try dsimp only [Aat, Around.deeper, Around.in1, Around.under]); simp only [cLine]; omega
            intro bb hbb
            cases bb
            · have hds : (treeO k r').1 = [] := Classical.byContradiction fun h => by have := hbb.mpr h; cases this
              rw [hds, if_pos (show ([] : List Dat).isEmpty = true from rfl)] at heq1
              (repeat' (first | ((with_reducible show wpAny _ _ (PySem.call _ _ _) _ _ _); with_reducible (first | ((with_reducible show wpAny _ _ (PySem.call (Value.builtin "list.append") _ _) _ _ _); k_dflt (refine' appendL ?ma ?mb ?mz ?mc ?_; (case ma => k_asm); (case mb => k_asm); (case mz => first | assumption | omega); (case mc => k_upd); intro h' F' N'; (try k_sweep))) | (((show wpAny _ _ (PySem.call (Value.ref 805) _ _) _ _ _); refine held_tree ?_)) | (((show wpAny _ _ (PySem.call (Value.ref 798) _ _) _ _ _); refine held_tree ?_)))) | walk_at "m.step"))
              all_goals (try dsimp only)
              refine ⟨g3, _, _, _, (a, listOf (us).toArray ca) :: (row, o3) :: (l, listOf vs.toArray c) :: (kids3 ++ kids), rfl, Gr₃, by k_asm, News.sub (by k_asm) (fun q hq => ?_), ?_, us, ca, o3, kids3 ++ kids, (treeO k r').2, acc, rfl, rfl, rfl, hDs.mono (fun p hp => List.mem_append.mpr (.inr hp)), hR3, by omega, by omega, ?_, ?_, ?_⟩
              · simp only [List.mem_cons] at hq ⊢
                rcases hq with h | h | h | h | h
                · exact .inr (.inr (.inr (.inr (.inl h))))
                · exact .inr (.inl h)
                · exact .inr (.inr (.inl h))
                · exact .inr (.inr (.inr (.inl h)))
                · exact .inr (.inr (.inr (.inr (.inr h))))
              · exact List.forall_mem_cons.mpr ⟨s1, List.forall_mem_cons.mpr ⟨s2, List.forall_mem_cons.mpr ⟨s3, k3I⟩⟩⟩
              · exact fun p hp => ⟨k3a p hp, k3r p hp⟩
              · rw [hj1]; exact heq1
              · rw [hj1]; exact heq2
            · have hds : (treeO k r').1.isEmpty = false := by
                have := hbb.mp rfl
                cases e : (treeO k r').1 with
                | nil => exact absurd e this
                | cons _ _ => rfl
              rw [hds, if_neg (by decide)] at heq1
              (repeat' (first | ((with_reducible show wpAny _ _ (PySem.call _ _ _) _ _ _); with_reducible (first | ((with_reducible show wpAny _ _ (PySem.call (Value.builtin "list.append") _ _) _ _ _); k_dflt (refine' appendL ?ma ?mb ?mz ?mc ?_; (case ma => k_asm); (case mb => k_asm); (case mz => first | assumption | omega); (case mc => k_upd); intro h' F' N'; (try k_sweep))) | (((show wpAny _ _ (PySem.call (Value.ref 805) _ _) _ _ _); refine held_tree ?_)) | (((show wpAny _ _ (PySem.call (Value.ref 798) _ _) _ _ _); refine held_tree ?_)))) | walk_at "m.step"))
              all_goals (try dsimp only)
              refine ⟨g3, _, _, _, (a, listOf (us ++ [Value.ref b]).toArray (ca + 1)) :: (row, o3) :: (l, listOf vs.toArray c) :: (kids3 ++ kids), rfl, Gr₃, by k_asm, News.sub (by k_asm) (fun q hq => ?_), ?_, us ++ [Value.ref b], (ca + 1), o3, kids3 ++ kids, (treeO k r').2, acc ++ [Dat.list (treeO k r').1], rfl, rfl, rfl, ((hDs.mono (fun p hp => List.mem_append.mpr (.inr hp))).append (DatAll.one ((DatIn.list hm3 hall3).mono (fun p hp => List.mem_append.mpr (.inl hp))))), hR3, by omega, by rw [List.length_append, List.length_singleton]; omega, ?_, ?_, ?_⟩
              · simp only [List.mem_cons] at hq ⊢
                rcases hq with h | h | h | h | h
                · exact .inr (.inr (.inr (.inr (.inl h))))
                · exact .inr (.inl h)
                · exact .inr (.inr (.inl h))
                · exact .inr (.inr (.inr (.inl h)))
                · exact .inr (.inr (.inr (.inr (.inr h))))
              · exact List.forall_mem_cons.mpr ⟨s1, List.forall_mem_cons.mpr ⟨s2, List.forall_mem_cons.mpr ⟨s3, k3I⟩⟩⟩
              · exact fun p hp => ⟨k3a p hp, k3r p hp⟩
              · rw [hj1, List.append_assoc]; exact heq1
              · rw [hj1]; exact heq2
        · rintro g₁ m₁ news₁ h₁ tk₁ Gr₂ ⟨us, ca, o, kids, r', acc, e1, e2, rfl, hDs, hRr, hrl, hul, hkids, heq1, heq2⟩ F2 N2
          have F3 := fr_know (a := Str.ofString "tree") (v := .ref a) e1 F2
          clear F1 N1 F2 FI NI
          obtain ⟨B2, X2, T2, D2, turn2⟩ := id Gr₂
          rw [Nat.sub_self, partsO] at heq1 heq2
          have ht : treeO (k + 1) r = (.int x :: acc, r') := by
            rw [treeO, hv]
            dsimp only
            rw [← heq1, ← heq2, List.append_nil]
          (repeat' (first | ((with_reducible show wpAny _ _ (PySem.call _ _ _) _ _ _); with_reducible (first | ((with_reducible show wpAny _ _ (PySem.call (Value.builtin "list.append") _ _) _ _ _); k_dflt (refine' appendL ?ma ?mb ?mz ?mc ?_; (case ma => k_asm); (case mb => k_asm); (case mz => first | assumption | omega); (case mc => k_upd); intro h' F' N'; (try k_sweep))) | (((show wpAny _ _ (PySem.call (Value.ref 805) _ _) _ _ _); refine held_tree ?_)) | (((show wpAny _ _ (PySem.call (Value.ref 798) _ _) _ _ _); refine held_tree ?_)))) | walk_at "m.step"))
          all_goals (try dsimp only)
          rw [ht]
          refine PostT.of turn2 (Post.intro (small' := (row, o) :: (l, listOf vs.toArray c) :: (a, listOf us.toArray ca) :: kids) (by k_asm) N2 (fun q hq => ?_) ⟨o, _, rfl, .list (.head _) (hDs.mono fun _ h => .tail _ h), hRr, List.forall_mem_cons.mpr ⟨⟨har, hal⟩, fun p hp => (hkids p hp).2⟩⟩)
          simp only [List.mem_cons] at hq ⊢
          rcases hq with h | h | h | h
          · exact .inr (.inl h)
          · exact .inr (.inr (.inl h))
          · exact .inl h
          · exact .inr (.inr (.inr h))
end
end PartC9
section PartC10
local macro_rules | `(tactic| walk_at "m.enter") => `(tactic| ((have XS' := Gd.XS (by k_asm)); refine' enter ?G ?ho ?hcd ?hroom ?hbind ?hloc ?_ ?hcell ?h1 ?h2 ?h3; (case G => k_asm); (case ho => k_is); (case hcd => k_is); (case hroom => k_room); (case hbind => first | exact BindsTo.of_eq rfl | exact binds_K (by k_in) rfl (by k_is) rfl rfl rfl); (case hloc => exact locs rfl); (case hcell => decide); (case h1 => exact rfl); (case h2 => exact rfl); (case h3 => exact rfl); clear XS'; intro L' h' F' N' l1 B' X' T'; (try k_lt l1); (try dsimp only)))
local macro_rules | `(tactic| walk_at "execs cons") => `(tactic| ((with_reducible refine wpAny_execs_cons ?_); (try dsimp only)))
local macro_rules | `(tactic| walk_at "call ref") => `(tactic| ((show wpAny _ _ (PySem.call (Value.ref 805) _ _) _ _ _); refine held_tree ?_))
local macro_rules | `(tactic| walk_at "call builtin:iter") => `(tactic| ((with_reducible show wpAny _ _ (PySem.call (Value.builtin "iter") [Value.ref _]) _ _ _); k_dflt (refine' iter_list_K ?ma ?mb ?mc ?_; (case ma => k_asm); (case mb => k_asm); (case mc => k_mem); intro I' h' F' N' l1; (try k_lt l1); (try k_sweep))))
local macro_rules | `(tactic| k_all) => `(tactic| assumption)
local macro_rules | `(tactic| walk_at "compareOp NotEq ref ref") => `(tactic| refine held_tree ?_)
local macro_rules | `(tactic| walk_at "call builtin:list.append") => `(tactic| k_dflt (refine' appendL ?ma ?mb ?mz ?mc ?_; (case ma => k_asm); (case mb => k_asm); (case mz => first | assumption | omega); (case mc => k_upd); intro h' F' N'; (try k_sweep)))
noncomputable def forestO (k : Nat) : Nat → List Nat → List Dat
  | 0, _ => []
  | f + 1, r => if (treeO k r).1.isEmpty = true then [] else .list (treeO k r).1 :: forestO k f (treeO k r).2
theorem tree_lt {k : Nat} {r : List Nat} (h : (treeO k r).1.isEmpty = false) : (treeO k r).2.length < r.length := by
  cases k with
  | zero => rw [treeO] at h; cases h
  | succ k =>
    rw [treeO] at h ⊢
    split at h
    · cases h
    · rename_i x r1 hv
      exact Nat.lt_of_le_of_lt ((treeO_len k).2 _ _) (vint_len _ _ _ _ hv)
theorem forest_fuel {k : Nat} : ∀ (n : Nat) (r : List Nat), r.length ≤ n → ∀ f, r.length < f → forestO k f r = forestO k (r.length + 1) r := by
  intro n
  induction n with
  | zero =>
    intro r hr f hf
    obtain ⟨f, rfl⟩ : ∃ f', f = f' + 1 := ⟨f - 1, by omega⟩
    rw [forestO, forestO]
    split
    · rfl
    · rename_i h
      have h' : (treeO k r).1.isEmpty = false := by cases e : (treeO k r).1.isEmpty with | true => exact absurd e h | false => rfl
      have := tree_lt h'
      omega
  | succ n ih =>
    intro r hr f hf
    obtain ⟨f, rfl⟩ : ∃ f', f = f' + 1 := ⟨f - 1, by omega⟩
    rw [forestO, forestO]
    split
    · rfl
    · rename_i h
      have h' : (treeO k r).1.isEmpty = false := by cases e : (treeO k r).1.isEmpty with | true => exact absurd e h | false => rfl
      have hlt := tree_lt h'
      rw [ih _ (by omega) f (by omega), ih _ (by omega) r.length hlt]
theorem forest_ok {k : Nat} : ∀ f r, ∀ d ∈ forestO k f r, kqdOk (k + 1) d = true := by
  intro f
  induction f with
  | zero => intro r d hd; cases hd
  | succ f ih =>
    intro r d hd
    rw [forestO] at hd
    split at hd
    · cases hd
    · rcases List.mem_cons.mp hd with rfl | hd
      · rw [kqdOk, List.all_eq_true]
        exact treeO_ok k r
      · exact ih _ d hd
section
variable {w : World} {dp un : Nat} {s : Shared} {base g : Heap} {fr : List Env} {p : Program} {loose : List Str} {mean : ExcName → Option Value} {mg mb : Str → Option Value}
noncomputable def FoJ (row l T : Addr) (ol : Obj) (os : List Nat) (n : Nat) (_ : Heap) (m : Str → Option Value) (nw : List (Addr × Obj)) : Prop :=
  ∃ (us : List Value) (cu : Nat) (o : Obj) (kids : List (Addr × Obj)) (r : List Nat) (acc : List Dat) (b : Addr) (vs3 : List Value) (c3 : Nat), m (Str.ofString "trees") = some (.ref T) ∧ m (Str.ofString "tree") = some (.ref b) ∧ m (Str.ofString "row") = some (.ref row) ∧
    nw = (T, listOf us.toArray cu) :: (row, o) :: (l, ol) :: kids ∧ DatAll kids us acc ∧ (b, listOf vs3.toArray c3) ∈ kids ∧ DatAll kids vs3 (treeO 31 r).1 ∧ RowAt l os o (treeO 31 r).2 ∧ us.length + r.length ≤ os.length ∧
    (∀ p ∈ kids, p.1 ≠ T ∧ p.1 ≠ row ∧ p.1 ≠ l) ∧ acc ++ forestO 31 (r.length + 1) r = forestO 31 (os.length + 1) os ∧ n = r.length
theorem c_forest {l : Addr} {vs : List Value} {c : Nat} {os : List Nat} (hd : dp ≤ 420) (hu : un ≤ 3000) (hi : IntsAre vs (os.map Int.ofNat)) (hb : ∀ b ∈ os, b < 256) (hz : os.length ≤ 30)
    (GT : GdT w (Aat dp un fr) base fr p loose mean mg mb g s.heap [(l, listOf vs.toArray c)]) :
    codeAny (model PySem.Challenge.pw_il0179_01 w) (Aat dp un fr) (.call (.ref 812) ⟨[.ref l], []⟩)
      (PostT g fr (fun v n => ∃ kids, n = (l, listOf vs.toArray c) :: kids ∧ DatIn kids v (.list (forestO 31 (os.length + 1) os))) s) s := by
  have GT' := GT
  obtain ⟨G, XB, TB, D⟩ := GT
  walk_at "m.enter"
  walk_at "m.steps"
  all_goals (try dsimp only)
  rename_i row x1 q1 x2 T x3 q2 x4 F1 N1
  have hTr : @Ne Nat T row := Nat.ne_of_gt q2.1
  have hTl : @Ne Nat T l := Nat.ne_of_gt q2.2
  refine' by_contractT GT'.gr XB TB F1 N1 rfl rfl rfl (fun g' G' => c_tree hi hb q1 (by omega) 31 _ _ _ _ _ _ os (by omega) (by decide) ?a1 ?a2 (.inl ⟨0, rfl, Nat.zero_le _, rfl⟩) G') ?P ?S ?_
  case a1 => walk_at "m.un"
  case a2 => walk_at "m.un"
  case P => walk_at "m.pick"
  case S => walk_at "m.sep"
  rintro v3 small3 h3 tk3 g3 Gr₃ F5 N5 S5 ⟨o3, kids3, rfl, hD3, hR3, hk3⟩
  cases hD3 with
  | list hm3 hall3 =>
    rename_i b vs3 c3
    obtain ⟨B3, X3, T3, D3, turn3⟩ := id Gr₃
    have k3T : ∀ p ∈ kids3, p.1 ≠ T := fun p hp => Ne.symm (S5 p (.tail _ (.tail _ hp)) _ (.head _))
    have N6 : News _ _ _ ((T, listOf ([] : List Value).toArray 0) :: (row, o3) :: (l, listOf vs.toArray c) :: kids3) := News.sub N5 (fun q hq => by
      simp only [List.mem_cons, List.mem_append, List.cons_append, List.not_mem_nil, or_false] at hq ⊢
      rcases hq with h | h | h | h
      · exact .inr (.inr (.inr h))
      · exact .inl h
      · exact .inr (.inl h)
      · exact .inr (.inr (.inl h)))
    clear N5 F1 N1
    walk_at "m.steps"
    all_goals (try dsimp only)
    rename Fr _ _ _ _ => F7
    rename News _ _ _ _ => N6
    refine while_mT (n₀ := os.length) (fun g₁ => Gr w (Aat dp un fr) base fr p loose mean mg mb g g₁) (FoJ row l T (listOf vs.toArray c) os) Gr₃ F7 N6 ?_ ?_ (by first | assumption | passes_own)
    · exact ⟨[], 0, o3, kids3, os, [], b, vs3, c3, rfl, rfl, rfl, rfl, .nil, hm3, hall3, hR3, by simp, fun p hp => ⟨k3T p hp, hk3 p hp⟩, rfl, rfl⟩
    · rintro n g₁ m₁ news₁ h₁ tk₁ Gr₂ F2 N2 ⟨us, cu, o, kids, r, acc, b, vs3, c3, e1, e2, e3, rfl, hDs, hmb, hall, hRr, hul, hkids, heq, rfl⟩
      have F3 := fr_know3 e1 e2 e3 F2
      clear F7 N6 F2
      obtain ⟨B2, X2, T2, D2, turn2⟩ := id Gr₂
      have hkT : ∀ p ∈ kids, p.1 ≠ T := fun p hp => (hkids p hp).1
      have hkr : ∀ p ∈ kids, p.1 ≠ row := fun p hp => (hkids p hp).2.1
      have hkl : ∀ p ∈ kids, p.1 ≠ l := fun p hp => (hkids p hp).2.2
      have hus9 : us.length ≤ 900 := by omega
      walk_at "m.steps"
      all_goals (try dsimp only)
      rename Fr _ _ _ _ => F7
      rename News _ _ _ _ => N7
      refine dat_ne (n := 31) (k := 0) N7 (.list hmb hall) (fun p hp => .tail _ (.tail _ (.tail _ (.tail _ hp)))) (n₂ := [(_, listOf #[] 0)]) (es := []) (.list (vs := []) (.head _) .nil) (fun p hp => by rw [List.mem_singleton.mp hp]; exact .head _) (by decide) (by decide) (treeO_ok 31 r) (fun d hd => nomatch hd) ?_ ?_
      · (try dsimp only [Aat, Around.deeper, Around.in1, Around.under]); simp only [cLine]; omega
      intro bb hbb
      rw [forestO] at heq
      cases bb
      · have hds : (treeO 31 r).1 = [] := Classical.byContradiction fun h => by have := hbb.mpr h; cases this
        rw [hds, if_pos (show ([] : List Dat).isEmpty = true from rfl), List.append_nil] at heq
        walk_at "m.steps"
        all_goals (try dsimp only)
        refine PostT.of turn2 (Post.intro (small' := (l, listOf vs.toArray c) :: (T, listOf us.toArray cu) :: kids) (by k_asm) (by k_asm) (fun q hq => ?_) ⟨_, rfl, ?_⟩)
        · simp only [List.mem_cons] at hq ⊢
          rcases hq with h | h | h
          · exact .inr (.inr (.inr (.inl h)))
          · exact .inr (.inl h)
          · exact .inr (.inr (.inr (.inr h)))
        · rw [← heq]
          exact .list (.head _) (hDs.mono fun _ h => .tail _ h)
      · have hds : (treeO 31 r).1.isEmpty = false := by
          have := hbb.mp rfl
          cases e : (treeO 31 r).1 with
          | nil => exact absurd e this
          | cons _ _ => rfl
        have hlt := tree_lt hds
        rw [hds, if_neg (by decide)] at heq
        walk_at "m.steps"
        all_goals (try dsimp only)
        rename Fr _ _ _ _ => F8
        rename News _ _ _ _ => N8
        have N9 : News _ _ _ ((row, o) :: (l, listOf vs.toArray c) :: (T, listOf (us ++ [Value.ref b]).toArray (cu + 1)) :: kids) := News.sub N8 (fun q hq => by
          simp only [List.mem_cons] at hq ⊢
          rcases hq with h | h | h | h
          · exact .inr (.inr (.inl h))
          · exact .inr (.inr (.inr (.inl h)))
          · exact .inr (.inl h)
          · exact .inr (.inr (.inr (.inr h))))
        refine' by_contractT Gr₂ XB TB F8 N9 rfl rfl rfl (fun g' G' => c_tree hi hb q1 (by omega) 31 _ _ _ _ _ _ (treeO 31 r).2 (by omega) (by decide) ?a1 ?a2 hRr G') ?P ?S ?_
        case a1 => walk_at "m.un"
        case a2 => walk_at "m.un"
        case P => walk_at "m.pick"
        case S => walk_at "m.sep"
        rintro v4 small4 h4 tk4 g4 Gr₄ F5 N5 S5 ⟨o4, kids4, rfl, hD4, hR4, hk4⟩
        cases hD4 with
        | list hm4 hall4 =>
          rename_i b4 vs4 c4
          obtain ⟨B4, X4, T4, D4, turn4⟩ := id Gr₄
          have N6 : News _ _ _ ((T, listOf (us ++ [Value.ref b]).toArray (cu + 1)) :: (row, o4) :: (l, listOf vs.toArray c) :: (kids4 ++ kids)) := News.sub N5 (fun q hq => by
            simp only [List.mem_cons, List.mem_append, List.cons_append] at hq ⊢
            rcases hq with h | h | h | h | h
            · exact .inr (.inr (.inr (.inl h)))
            · exact .inl h
            · exact .inr (.inl h)
            · exact .inr (.inr (.inl h))
            · exact .inr (.inr (.inr (.inr h))))
          clear N5
          walk_at "m.steps"
          all_goals (try dsimp only)
          refine ⟨g4, _, _, _, _, _, rfl, Gr₄, by k_asm, by k_asm, hlt, us ++ [Value.ref b], cu + 1, o4, kids4 ++ kids, (treeO 31 r).2, acc ++ [Dat.list (treeO 31 r).1], b4, vs4, c4, rfl, rfl, rfl, rfl, ?_, List.mem_append.mpr (.inl hm4), hall4.mono (fun p hp => List.mem_append.mpr (.inl hp)), hR4, ?_, ?_, ?_, rfl⟩
          · exact (hDs.mono (fun p hp => List.mem_append.mpr (.inr hp))).append (DatAll.one (.list (List.mem_append.mpr (.inr hmb)) (hall.mono (fun p hp => List.mem_append.mpr (.inr hp)))))
          · rw [List.length_append, List.length_singleton]; omega
          · intro p hp
            rcases List.mem_append.mp hp with hp | hp
            · exact ⟨Ne.symm (S5 p (.tail _ (.tail _ hp)) _ (.head _)), hk4 p hp⟩
            · exact hkids p hp
          · rw [List.append_assoc]
            rw [← heq, forest_fuel (treeO 31 r).2.length (treeO 31 r).2 (Nat.le_refl _) r.length hlt]
            rfl
end
end PartC10
section PartP2
/-- the cells cut as the law cuts them are the words -/
theorem cut_words : ∀ (r : List Int) (acc : List (List Nat)) (w : List Nat), cutF (acc ++ (if w.isEmpty = true then [] else [w])) (!w.isEmpty) r = acc ++ words w r := by
  intro r
  induction r with
  | nil =>
    intro acc w
    cases w with
    | nil => rw [words, cutF]; rfl
    | cons c t => rw [words, cutF]; rfl
  | cons x r ih =>
    intro acc w
    cases w with
    | nil =>
      rw [words, cutF]
      simp only [List.isEmpty_nil, if_true, Bool.not_true, Bool.false_and, Bool.false_eq_true, if_false, List.append_nil]
      cases hl : isLet (octN x) with
      | true =>
        rw [if_pos rfl]
        exact ih acc [octN x]
      | false =>
        rw [if_neg (by simp)]
        have := ih (acc ++ [[octN x]]) []
        simp only [List.isEmpty_nil, if_true, Bool.not_true, List.append_nil, List.append_assoc] at this
        exact this
    | cons c t =>
      rw [words, cutF]
      simp only [List.isEmpty_cons, Bool.false_eq_true, if_false, Bool.not_false, Bool.true_and]
      cases hl : isLet (octN x) with
      | true =>
        rw [if_pos rfl]
        by_cases hg : gapN x = 0
        · rw [if_pos hg, if_pos (by rw [hg]; rfl)]
          have := ih acc (c :: t ++ [octN x])
          simp only [List.cons_append, List.isEmpty_cons, Bool.false_eq_true, if_false, Bool.not_false] at this
          simpa using this
        · rw [if_neg hg, if_neg (by simpa using hg)]
          have := ih (acc ++ [c :: t]) [octN x]
          simpa using this
      | false =>
        rw [if_neg (by simp), if_neg (by simp)]
        have := ih (acc ++ [c :: t] ++ [[octN x]]) []
        simpa using this
theorem cut_is (r : List Int) : cutF [] false r = words [] r := cut_words r [] []

noncomputable def octStep (st : List Int × List Nat) (c : Nat) : List Int × List Nat := if isLet c = true then (st.1, st.2 ++ [c]) else (numOf (st.2 ++ [c]) :: st.1, [])
theorem fold_words : ∀ (r : List Int) (st : List Int × List Nat), (words [] r).foldl tokStep st = (r.map octN).foldl octStep st ∧ ∀ c t, isLet c = true → (words (c :: t) r).foldl tokStep st = (r.map octN).foldl octStep (st.1, st.2 ++ (c :: t)) := by
  intro r
  induction r with
  | nil =>
    intro st
    refine ⟨rfl, fun c t h => ?_⟩
    rw [words]
    show tokStep st (c :: t) = _
    unfold tokStep
    exact if_pos h
  | cons x r ih =>
    intro st
    have lone : ∀ (st : List Int × List Nat), isLet (octN x) = false → tokStep st [octN x] = octStep st (octN x) := fun st h => by
      unfold tokStep octStep
      rw [show ([octN x].headD 0) = octN x from rfl, h]
    refine ⟨?_, fun c t h => ?_⟩
    · rw [words, List.map_cons, List.foldl_cons]
      cases hl : isLet (octN x) with
      | true =>
        rw [if_pos rfl, (ih st).2 _ _ hl]
        have e : octStep st (octN x) = (st.1, st.2 ++ [octN x]) := by unfold octStep; exact if_pos hl
        rw [e]
      | false =>
        rw [if_neg (by decide), List.foldl_cons, lone st hl]
        exact (ih _).1
    · rw [words, List.map_cons, List.foldl_cons]
      have tok : tokStep st (c :: t) = (st.1, st.2 ++ (c :: t)) := by unfold tokStep; exact if_pos h
      cases hl : isLet (octN x) with
      | true =>
        rw [if_pos rfl]
        by_cases hg : gapN x = 0
        · rw [if_pos hg]
          have := (ih st).2 c (t ++ [octN x]) h
          rw [show c :: t ++ [octN x] = c :: (t ++ [octN x]) from rfl, this]
          unfold octStep
          rw [if_pos hl]
          simp
        · rw [if_neg hg, List.foldl_cons, tok, (ih _).2 _ _ hl]
          unfold octStep
          rw [if_pos hl]
      | false =>
        rw [if_neg (by decide), List.foldl_cons, List.foldl_cons, tok, lone _ hl]
        exact (ih _).1

noncomputable def numsFrom : Int → List Nat → List Int
  | _, [] => []
  | v, c :: r => if isLet c = true then numsFrom (v * 64 + ((c % 64 : Nat) : Int)) r else (v * 64 + ((c % 64 : Nat) : Int)) :: numsFrom 0 r
theorem numOf_snoc (w : List Nat) (c : Nat) : numOf (w ++ [c]) = numOf w * 64 + ((c % 64 : Nat) : Int) := by
  unfold numOf
  rw [List.foldl_append]
  rfl
theorem fold_nums : ∀ (os : List Nat) (acc : List Int) (w : List Nat), (os.foldl octStep (acc, w)).1 = (numsFrom (numOf w) os).reverse ++ acc := by
  intro os
  induction os with
  | nil => intro acc w; rfl
  | cons c r ih =>
    intro acc w
    rw [List.foldl_cons, numsFrom, ← numOf_snoc]
    unfold octStep
    cases hl : isLet c with
    | true =>
      rw [if_pos rfl, if_pos rfl]
      exact ih acc (w ++ [c])
    | false =>
      rw [if_neg (by decide), if_neg (by decide), List.reverse_cons, List.append_assoc]
      exact ih (numOf (w ++ [c]) :: acc) []
theorem vint_nums : ∀ (r : List Nat) (v : Int), (vint v r = none → numsFrom v r = []) ∧ ∀ x r1, vint v r = some (x, r1) → numsFrom v r = x :: numsFrom 0 r1 := by
  intro r
  induction r with
  | nil => intro v; exact ⟨fun _ => rfl, fun x r1 h => by rw [vint] at h; cases h⟩
  | cons c r ih =>
    intro v
    rw [vint, numsFrom]
    cases hl : isLet c with
    | true => rw [if_pos rfl, if_pos rfl]; exact ih _
    | false =>
      rw [if_neg (by decide), if_neg (by decide)]
      exact ⟨fun h => (by cases h), fun x r1 h => (by cases h; rfl)⟩

/-- the forest over the numbers, from the right -/
noncomputable def FoR (ns : List Int) : List Dat := ns.foldr (fun n acc => front acc n) []
theorem foR_cons (n : Int) (ns : List Int) : FoR (n :: ns) = .list (.int n :: (FoR ns).take (n % 3).toNat) :: (FoR ns).drop (n % 3).toNat := rfl
noncomputable def TreeOk (k : Nat) : Prop := ∀ r : List Nat, r.length < k → ((treeO k r).1.isEmpty = true → FoR (numsFrom 0 r) = [] ∧ FoR (numsFrom 0 (treeO k r).2) = []) ∧
  ((treeO k r).1.isEmpty = false → FoR (numsFrom 0 r) = .list (treeO k r).1 :: FoR (numsFrom 0 (treeO k r).2))
theorem parts_are {k : Nat} (h : TreeOk k) : ∀ (j : Nat) (r : List Nat), r.length < k → (partsO k j r).1 = (FoR (numsFrom 0 r)).take j ∧ FoR (numsFrom 0 (partsO k j r).2) = (FoR (numsFrom 0 r)).drop j := by
  intro j
  induction j with
  | zero => intro r _; rw [partsO]; exact ⟨rfl, rfl⟩
  | succ j ih =>
    intro r hr
    have hl := (treeO_len k).1 r
    have q := ih (treeO k r).2 (Nat.lt_of_le_of_lt hl hr)
    rw [partsO]
    dsimp only
    cases e : (treeO k r).1.isEmpty with
    | true =>
      obtain ⟨h1, h2⟩ := (h r hr).1 e
      rw [if_pos rfl, q.1, q.2, h1, h2]
      cases j <;> exact ⟨rfl, rfl⟩
    | false =>
      rw [if_neg (by decide), (h r hr).2 e, q.1, q.2]
      exact ⟨rfl, rfl⟩
theorem tree_is : ∀ k, TreeOk k := by
  intro k
  induction k with
  | zero => intro r h; exact absurd h (Nat.not_lt_zero _)
  | succ k ih =>
    intro r hr
    have hvn := vint_nums r 0
    cases hv : vint 0 r with
    | none =>
      have h1 := hvn.1 hv
      rw [treeO, hv]
      refine ⟨fun _ => ?_, fun h => (by cases h)⟩
      rw [h1]
      exact ⟨rfl, rfl⟩
    | some q =>
      obtain ⟨x, r1⟩ := q
      have h1 := hvn.2 x r1 hv
      have hlt := vint_len _ _ _ _ hv
      obtain ⟨p1, p2⟩ := parts_are ih (x % 3).toNat r1 (by omega)
      rw [treeO, hv]
      dsimp only
      refine ⟨fun h => (by cases h), fun _ => ?_⟩
      rw [h1, foR_cons, p1, p2]
theorem forest_is {k : Nat} : ∀ (f : Nat) (r : List Nat), r.length < f → r.length < k → forestO k f r = FoR (numsFrom 0 r) := by
  intro f
  induction f with
  | zero => intro r h; exact absurd h (Nat.not_lt_zero _)
  | succ f ih =>
    intro r hr hk
    rw [forestO]
    cases e : (treeO k r).1.isEmpty with
    | true =>
      rw [if_pos rfl]
      exact ((tree_is k r hk).1 e).1.symm
    | false =>
      have hlt := tree_lt e
      rw [if_neg (by decide), ih _ (by omega) (by omega)]
      exact ((tree_is k r hk).2 e).symm
/-- the forest from the left is the fold over the numbers that the words give -/
theorem law_forest (ns : List Int) (h : ns.length ≤ 30) :
    forestO 31 ((ns.map octN).length + 1) (ns.map octN) = ((words [] ns).foldl tokStep ([], [])).1.foldl front [] := by
  rw [(fold_words ns ([], [])).1, fold_nums, List.append_nil, List.foldl_reverse]
  exact forest_is _ _ (Nat.lt_succ_self _) (by rw [List.length_map]; omega)
theorem words_ne : ∀ (r : List Int) (w : List Nat), ∀ t ∈ words w r, t ≠ [] := by
  intro r
  induction r with
  | nil =>
    intro w t ht
    cases w with
    | nil => rw [words] at ht; cases ht
    | cons c u => rw [words] at ht; rw [List.mem_singleton.mp ht]; exact List.cons_ne_nil _ _
  | cons x r ih =>
    intro w t ht
    cases w with
    | nil =>
      rw [words] at ht
      split at ht
      · exact ih _ t ht
      · rcases List.mem_cons.mp ht with rfl | ht
        · exact List.cons_ne_nil _ _
        · exact ih _ t ht
    | cons c u =>
      rw [words] at ht
      split at ht
      · split at ht
        · exact ih _ t ht
        · rcases List.mem_cons.mp ht with rfl | ht
          · exact List.cons_ne_nil _ _
          · exact ih _ t ht
      · rcases List.mem_cons.mp ht with rfl | ht
        · exact List.cons_ne_nil _ _
        rcases List.mem_cons.mp ht with rfl | ht
        · exact List.cons_ne_nil _ _
        · exact ih _ t ht
theorem words_flat : ∀ (r : List Int), ((words [] r).flatten = r.map octN ∧ (words [] r).length ≤ r.length) ∧ ∀ c u, (words (c :: u) r).flatten = c :: u ++ r.map octN ∧ (words (c :: u) r).length ≤ r.length + 1 := by
  intro r
  induction r with
  | nil =>
    refine ⟨⟨rfl, Nat.le_refl _⟩, fun c u => ?_⟩
    rw [words]
    exact ⟨by simp, Nat.le_refl _⟩
  | cons x r ih =>
    obtain ⟨⟨a1, a2⟩, a3⟩ := ih
    refine ⟨?_, fun c u => ?_⟩
    · rw [words]
      split
      · obtain ⟨b1, b2⟩ := a3 (octN x) []
        exact ⟨by rw [b1]; rfl, by rw [List.length_cons]; exact b2⟩
      · exact ⟨by rw [List.flatten_cons, a1]; rfl, by rw [List.length_cons, List.length_cons]; omega⟩
    · rw [words]
      split
      · split
        · obtain ⟨b1, b2⟩ := a3 c (u ++ [octN x])
          rw [show c :: u ++ [octN x] = c :: (u ++ [octN x]) from rfl]
          exact ⟨by rw [b1]; simp, by rw [List.length_cons]; omega⟩
        · obtain ⟨b1, b2⟩ := a3 (octN x) []
          exact ⟨by rw [List.flatten_cons, b1]; simp, by rw [List.length_cons, List.length_cons]; omega⟩
      · exact ⟨by rw [List.flatten_cons, List.flatten_cons, a1]; simp, by rw [List.length_cons, List.length_cons, List.length_cons]; omega⟩
end PartP2
section PartP3
noncomputable def eltStr (x : Int) : Str := ⟨(gaps (gapN x) ++ [octN x]).toArray⟩
noncomputable def EltT (v y : Value) : Prop := ∃ x t u, v = .int x t ∧ y = .str (eltStr x) u
noncomputable def EltO (v y : Value) : Prop := ∃ x t u, v = .int x t ∧ y = .int (octN x : Int) u
theorem paired_strs {ws : List Value} {cs : List Int} (h : IntsAre ws cs) : ∀ {ys : List Value}, Paired EltT ws ys → StrsAre ys (cs.map eltStr) := by
  induction h with
  | nil => intro ys hp; cases hp; exact .nil
  | cons n t _ ih =>
    intro ys hp
    cases hp with
    | cons h1 h2 =>
      obtain ⟨x, t', u, e, rfl⟩ := h1
      cases e
      exact .cons _ u (ih h2)
theorem paired_octs {ws : List Value} {cs : List Int} (h : IntsAre ws cs) : ∀ {ys : List Value}, Paired EltO ws ys → IntsAre ys ((cs.map octN).map Int.ofNat) := by
  induction h with
  | nil => intro ys hp; cases hp; exact .nil
  | cons n t _ ih =>
    intro ys hp
    cases hp with
    | cons h1 h2 =>
      obtain ⟨x, t', u, e, rfl⟩ := h1
      cases e
      exact .cons _ u (ih h2)
theorem str_app (a b : Str) : (a ++ b).cps.toList = a.cps.toList ++ b.cps.toList := by
  show (a.cps ++ b.cps).toList = _
  simp
theorem join_nil : ∀ ys : List Str, (Str.join (Str.ofString "") ys).cps.toList = (ys.map fun y => y.cps.toList).flatten := by
  have h0 : (Str.ofString "").cps.toList = [] := lit_nil
  intro ys
  induction ys with
  | nil => rw [Str.join]; decide
  | cons y r ih =>
    cases r with
    | nil => simp [Str.join]
    | cons z r =>
      rw [Str.join, str_app, str_app, h0, ih]
      · simp
      · intro e; cases e
theorem txt_join (sep : Str) (ys : List Str) : Txt.join sep ys = Str.join sep ys := by
  first | rfl | exact StrLaws.glued_eq_join sep ys | (unfold Txt.join; exact StrLaws.glued_eq_join sep ys)
theorem text_is (cs : List Int) : (Str.join (Str.ofString "") (cs.map eltStr)).cps.toList = textOf cs := by
  rw [join_nil]
  induction cs with
  | nil => rfl
  | cons x r ih =>
    rw [List.map_cons, List.map_cons, List.flatten_cons, ih, textOf]
    show (gaps (gapN x) ++ [octN x]) ++ textOf r = _
    simp
theorem gap_len' (k : Nat) : (gaps k).length ≤ 6 := by
  match k with
  | 0 => decide
  | 1 => decide
  | 2 => decide
  | 3 => decide
  | 4 => decide
  | n + 5 => show 6 ≤ 6; decide
theorem text_len (cs : List Int) : (textOf cs).length ≤ 7 * cs.length := by
  induction cs with
  | nil => exact Nat.le_refl _
  | cons x r ih =>
    have := gap_len' (gapN x)
    rw [textOf, List.length_append, List.length_cons, List.length_cons]
    omega
theorem elts_sum (cs : List Int) : ((cs.map eltStr).map (·.length)).sum + (cs.map eltStr).length * (Str.ofString "").length ≤ 7 * cs.length := by
  have h0 : (Str.ofString "").length = 0 := by decide
  rw [h0, Nat.mul_zero, Nat.add_zero]
  induction cs with
  | nil => exact Nat.le_refl _
  | cons x r ih =>
    have := gap_len' (gapN x)
    have e : (eltStr x).length = (gaps (gapN x)).length + 1 := by show ((gaps (gapN x) ++ [octN x]).toArray).size = _; simp
    rw [List.map_cons, List.map_cons, List.sum_cons, List.length_cons, e]
    omega
noncomputable def isNl (v : Value) : Bool := match v with | .str x _ => x == Str.ofString "\n" | _ => false
theorem nl_one (c : Nat) : ((⟨#[c]⟩ : Str) == Str.ofString "\n") = (c == 10) := by
  by_cases h : c = 10
  · subst h; decide
  · rw [no_nl h]
    exact (beq_eq_false_iff_ne.mpr h).symm
theorem sign_count {b : Str} {us : List Value} (hl : us.length = b.length) (h : ∀ j v, us[j]? = some v → SignAt b j v) : (us.filter isNl).length = cnt b.cps.toList := by
  have e : us.map isNl = b.cps.toList.map (· == 10) := by
    refine List.ext_getElem? fun j => ?_
    rw [List.getElem?_map, List.getElem?_map]
    cases hj : us[j]? with
    | none =>
      have : b.cps.toList.length ≤ j := by
        have := List.getElem?_eq_none_iff.mp hj
        simp only [Array.length_toList]
        show b.length ≤ j
        omega
      rw [List.getElem?_eq_none this]
      rfl
    | some v =>
      obtain ⟨c, u, hc, rfl⟩ := h j v hj
      rw [← Array.getElem?_toList] at hc
      rw [hc]
      show some (isNl (.str ⟨#[c]⟩ u)) = some (c == 10)
      rw [← nl_one c]
      rfl
  unfold cnt
  rw [← List.countP_eq_length_filter, List.count]
  have h1 : us.countP isNl = (us.map isNl).countP id := by rw [List.countP_map]; rfl
  have h2 : b.cps.toList.countP (· == 10) = (b.cps.toList.map (· == 10)).countP id := by rw [List.countP_map]; rfl
  rw [h1, h2, e]
theorem paired_len {α β : Type} {F : α → β → Prop} {l₁ : List α} {l₂ : List β} (h : Paired F l₁ l₂) : l₁.length = l₂.length := by
  induction h with
  | nil => rfl
  | cons _ _ ih => rw [List.length_cons, List.length_cons, ih]
theorem strs_dat {news : List (Addr × Obj)} {A : List (List Nat)} : ∀ {us : List Value}, StrsAre us (strsOf A) → DatAll news us ((strsOf A).map Dat.str) := by
  induction A with
  | nil => intro us h; cases h; exact .nil
  | cons a A ih =>
    intro us h
    cases h with
    | cons y t h => exact .cons (.str _ t) (ih h)
theorem strs_ok {A : List (List Nat)} (h : ∀ t ∈ A, ∀ c ∈ t, c < 256) : ∀ d ∈ (strsOf A).map Dat.str, kqdOk 0 d = true := by
  intro d hd
  obtain ⟨x, hx, rfl⟩ := List.mem_map.mp hd
  obtain ⟨t, ht, rfl⟩ := List.mem_map.mp hx
  show PyData.strOk _ = true
  unfold PyData.strOk
  rw [Array.all_eq_true']
  intro c hc
  have := h t ht c (by simpa using hc)
  simp
  omega
end PartP3
section PartLexLaw
section
variable {w : World} {s : Shared} {base h₀ : Heap} {A₀ : Around} {dp un : Nat} {outer : List Env} {L : Addr} {m : Str → Option Value} {p : Program} {loose : List Str} {mean : ExcName → Option Value} {mg mb : Str → Option Value}
  {nm : Str} {ns : List (Str × NameKind)} {ig ic : Bool} {mo : List (Str × Const)} {fa : Addr} {cd : Value} {q1 q2 : Addr} {o1 o2 : Obj}
theorem make_lexer2 {buf : Str} {tb : Tok} {E : Value → Shared → Prop} {Q : Value → Shared → Prop}
    (hdp : dp ≤ 400) (hu : un ≤ 3000) (hb : buf.length ≤ 1000)
    (B : Below A₀ h₀ outer h₀) (X₀ : (hd.heap_39 w.params).In h₀) (T : Top p loose mean mg mb h₀) (F : Fr h₀ L s.heap m)
    (N : News h₀ L s.heap [(q1, o1), (q2, o2)])
    (k : ∀ (x dx a d pb fs : Addr) (hs hs' : Nat → Int × Tok) (ts : Nat → Tok) (tn tst tl tt tp : Tok) (h' : Heap) (tk : Nat), Fr h₀ L h' m →
      News h₀ L h' (lexL hs hs' ts tn tb buf x dx a d pb fs (stV .sp tst) ((1 : Nat) : Int) tl (Str.ofString "") tt ((0 : Nat) : Int) tp 0 [] ++ [(fs, dqO 0 []), (q1, o1), (q2, o2)]) →
      @LT.lt Nat _ q1 dx ∧ @LT.lt Nat _ q2 dx ∧ @LT.lt Nat _ dx x ∧ @LT.lt Nat _ x d ∧ @LT.lt Nat _ d a ∧ @LT.lt Nat _ a pb ∧ @LT.lt Nat _ pb fs → Q (.ref x) { s with heap := h', toks := tk }) :
    wpAny (model PySem.Challenge.pw_il0179_01 w) (Aat dp un (envOf nm ⟨.function, ns, ig, ic, mo⟩ L fa cd :: outer)) (PySem.call (.ref 729) [.str buf tb] [(Str.ofString "posix", .bool true)]) Q E s :=
  make_lexer hdp hu hb B X₀ T F N fun x dx a d pb fs hs hs' ts tn tst tl tt tp h' tk F' N' hlt ho => k x dx a d pb fs hs hs' ts tn tst tl tt tp h' tk F' N' ⟨hlt _ (.head _), hlt _ (.tail _ (.head _)), ho⟩
theorem lex_pick {hs hs' : Nat → Int × Tok} {ts : Nat → Tok} {tn tb tl tp tt : Tok} {buf tok : Str} {x dx a d pb fs : Addr} {st : Value} {ln pos nq : Int} {items : List Value} {g h : Heap} {q s9 f q' : Addr × Obj}
    (N : News g L h (s9 :: (lexL hs hs' ts tn tb buf x dx a d pb fs st ln tl tok tt pos tp nq items ++ [f, q, q']))) : News g L h [s9, (x, instObj 729 dx), (dx, lexD hs ts wcS a pb fs st ln tl tok tt), q] := fun y hy => by
  rcases List.mem_cons.mp hy with rfl | hy
  · exact N _ (.head _)
  rcases List.mem_cons.mp hy with rfl | hy
  · exact N _ (.tail _ (List.mem_append.mpr (.inl (.head _))))
  rcases List.mem_cons.mp hy with rfl | hy
  · exact N _ (.tail _ (List.mem_append.mpr (.inl (.tail _ (.head _)))))
  rw [List.mem_singleton.mp hy]
  exact N _ (.tail _ (List.mem_append.mpr (.inr (.tail _ (.head _)))))
theorem lex_drop {P : List (Addr × Obj)} {g h : Heap} {q s9 f q' : Addr × Obj} (N : News g L h (s9 :: (P ++ [f, q, q']))) : News g L h [s9, q, q'] := fun y hy => by
  rcases List.mem_cons.mp hy with rfl | hy
  · exact N _ (.head _)
  rcases List.mem_cons.mp hy with rfl | hy
  · exact N _ (.tail _ (List.mem_append.mpr (.inr (.tail _ (.head _)))))
  rw [List.mem_singleton.mp hy]
  exact N _ (.tail _ (List.mem_append.mpr (.inr (.tail _ (.tail _ (.head _))))))
theorem news_dup {g h : Heap} {q : Addr × Obj} (N : News g L h [q]) : News g L h [q, q] := fun y hy => by
  rcases List.mem_cons.mp hy with rfl | hy
  · exact N _ (.head _)
  · exact N _ hy
theorem News.tail {g h : Heap} {a : Addr × Obj} {r : List (Addr × Obj)} (N : News g L h (a :: r)) : News g L h r := fun q hq => N q (.tail _ hq)
theorem news_first {g h : Heap} {a : Addr × Obj} {r : List (Addr × Obj)} (N : News g L h (a :: r)) : News g L h [a] := fun q hq => by rw [List.mem_singleton.mp hq]; exact N _ (.head _)
end
theorem dat_neD {prog : Program} {w : World} {A : Around} {E : Value → Shared → Prop} {s : Shared} {h₀ : Heap} {L : Addr} {news n₁ n₂ : List (Addr × Obj)} {v v' : Value} {d e : Dat} {Q : Value → Shared → Prop} {n k : Nat} (N : News h₀ L s.heap news) (Da : DatIn n₁ v d) (sa : ∀ p ∈ n₁, p ∈ news) (Db : DatIn n₂ v' e) (sb : ∀ p ∈ n₂, p ∈ news) (hn : n ≤ 60) (hk : k ≤ 60) (ha : kqdOk n d = true) (hb : kqdOk k e = true)
    (hu : A.units + 64 < cLine) (h : ∀ b : Bool, (b = true ↔ d ≠ e) → Q (.bool b) s) : wpAny (model prog w) A (compareOp .NotEq v v') Q E s := by
  obtain ⟨as, ra⟩ := kqd_in N n (Da.mono sa) ha
  obtain ⟨bs, rb⟩ := kqd_in N k (Db.mono sb) hb
  have sh : ∀ {m : Nat} {x : Dat}, m ≤ 60 → kqdOk m x = true → SeqAt.shaped (kqdP x) = true := fun {m x} hm hx => by
    have l := kqd_lay m x hx
    unfold SeqAt.shaped
    rw [l.1, Bool.true_and]
    exact decide_eq_true (Nat.le_trans l.2 (by omega))
  refine ne_dataH ra rb (sh hn ha) (sh hk hb) hu (h _ ?_)
  have q := kqd_eqv n d e k ha hb
  cases e' : PyData.eqv (kqdP d) (kqdP e) with
  | true => simp [q.mp e']
  | false =>
    simp only [Bool.not_false, true_iff]
    intro e2
    rw [q.mpr e2] at e'; cases e'
theorem str_nil {W : Str} (h : W.cps.toList = []) : W = Str.ofString "" := by
  rw [lit_nil']
  obtain ⟨⟨l⟩⟩ := W
  have : l = [] := h
  rw [this]
end PartLexLaw
section PartLawEnd
theorem pair_ok : kqdOk 2 (.tuple [.list [], .str (Str.ofString "")]) = true := by
  simp only [kqdOk, List.all_cons, List.all_nil, Bool.and_true, Bool.true_and]
  decide +kernel
theorem numsFrom_len : ∀ (os : List Nat) (v : Int), (numsFrom v os).length ≤ os.length
  | [], _ => Nat.le_refl _
  | c :: r, v => by
    rw [numsFrom]
    split
    · exact Nat.le_succ_of_le (numsFrom_len r _)
    · exact Nat.succ_le_succ (numsFrom_len r _)
theorem nums_len (cs : List Int) : ((words [] cs).foldl tokStep ([], [])).1.length ≤ cs.length := by
  rw [(fold_words cs ([], [])).1, fold_nums, List.append_nil, List.length_reverse]
  exact Nat.le_trans (numsFrom_len _ _) (by rw [List.length_map]; exact Nat.le_refl _)
theorem fr_back {g h : Heap} {L : Addr} {g' : Heap} {m : Str → Option Value} (K : KtsTurn [] g g') (F : Fr g' L h m) : Fr g L h m :=
  ⟨F.ns, fun b o e => F.keep b o (K.other b o e (fun hm => nomatch hm)), by rw [← K.size]; exact F.above⟩
theorem news_back {g h : Heap} {L : Addr} {g' : Heap} {news : List (Addr × Obj)} (K : KtsTurn [] g g') (N : News g' L h news) : News g L h news := fun q hq => by
  obtain ⟨a, b, c⟩ := N q hq
  refine ⟨a, b, ?_⟩
  cases e : g.get? q.1 with
  | none => rfl
  | some o => rw [K.other _ _ e (fun hm => nomatch hm)] at c; cases c
end PartLawEnd
section PartLaw
local macro_rules | `(tactic| k_qdec) => `(tactic| decide +kernel)
local macro_rules | `(tactic| walk_at "execs cons") => `(tactic| ((with_reducible refine wpAny_execs_cons ?_); (try dsimp only)))
local macro_rules | `(tactic| walk_at "eval ListComp") => `(tactic| refine held_tree ?_)
local macro_rules | `(tactic| walk_at "call ref") => `(tactic| refine held_tree ?_)
local macro_rules | `(tactic| walk_at "call type:list") => `(tactic| refine held_tree ?_)
local macro_rules | `(tactic| walk_at "call builtin:str.join") => `(tactic| refine held_tree ?_)
local macro_rules | `(tactic| walk_at "compareOp NotEq ref ref") => `(tactic| refine held_tree ?_)
local macro_rules | `(tactic| walk_at "compareOp Eq ref ref") => `(tactic| refine held_tree ?_)
local macro_rules | `(tactic| walk_at "call builtin:len") => `(tactic| refine held_tree ?_)
/-- in the last part of the walk alone -/
inductive Flag : Prop
  | here
local macro_rules | `(tactic| walk_at "binaryOp Add ref ref") => `(tactic| ((with_reducible rename Flag => hflag); (refine held_tree ?_)))
local macro_rules | `(tactic| walk_at "call builtin:iter") => `(tactic| ((with_reducible rename Flag => hflag); (refine held_tree ?_)))
local macro_rules | `(tactic| walk_at "m.last") => `(tactic| repeat' (first | (k_unfold; (try dsimp only)) | walk1 | (dsimp only; walk1) | (leave1; (try dsimp only)) | fail "no step"))
theorem law_holds : PySem.Challenge.rw_il0179_01.Holds := by
  refine hd (by rfl) (by rfl) (by rfl) ?_
  k_go0
  all_goals (try k_fold)
  rename_i w s₀ s₁ mg mb G Y fa o pm doc kV ho hg X0 XP V GL T0 Bt TE TW w9 w8 M w7 w6 hcd ns hs hlay0 hL1 hr1 hl2 w4 w3 sl vs as hL ra w1 r0 hI hr hcond1 hcond K0 hD h₁ F0 N0
  clear G Y ho XP V GL Bt TE TW M hcd hs hlay0 hL1 hr1 hl2 ra w1 r0 hr hcond hD
  have hgood : ∀ h' tk m L, Fr s₁.heap L h' m → GoodW PySem.Challenge.rw_il0179_01.row.claim (classAt s₀.heap) (ExcName.means s₀.heap) [ofPy (PyData.list (List.map PyData.int ns))] s₁ (.ok (.ret (.bool true))) { heap := h', gens := s₁.gens, drawn := s₁.drawn, toks := tk, os := s₁.os } := by
    intro h' tk m L F
    wrow_close
  have hprog : PySem.Challenge.rw_il0179_01.row.prog = PySem.Challenge.pw_il0179_01 := rfl
  rw [hprog]
  walk_at "m.steps"
  rename_i z1 z2 z3 z4 D ws z7 hws z9 hp F1 N1
  obtain ⟨cs, hcs⟩ : ∃ cs : List Int, cs = [5, 66, 323, 260, 1027] ++ ns.take 20 := ⟨_, rfl⟩
  have hcl : cs.length ≤ 25 := by rw [hcs, List.length_append, List.length_take]; simp; omega
  rw [← hcs] at hws
  have hwl : ws.length ≤ 25 := by rw [hws.length]; exact hcl
  have N2 : News _ _ _ [(D, listOf ws.toArray 0)] := News.sub N1 (by k_allIn)
  clear N1 z1 z2 z3 z4 z9
  refine comp_list EltT (l := D) (vs := ws) (c := 0) rfl F1 N2 (.head _) (by omega) (by decide) (by decide) rfl (by decide) rfl ?_ ?_ ?_
  · intro E' Q' hq
    walk_at "m.steps"
    all_goals (try dsimp only)
    exact hq
  · intro C v s3 m3 E' hv hn hx F N
    obtain ⟨i, hvi⟩ := List.getElem?_of_mem hv
    obtain ⟨x, t, _, rfl⟩ := ints_get hws hvi
    refine wpAny_mono (elt_text (dp := _) (un := _) ?_ ?_ K0 X0 T0 F N hn hx) (fun y s4 h => ?_) fun _ _ e => e
    · decide
    · decide
    · obtain ⟨⟨u, rfl⟩, hk⟩ := h
      exact ⟨⟨x, t, u, rfl, rfl⟩, hk⟩
  · intro Dl h' tk ys c' F3 N3 hne hP
    have hys := paired_strs hws hP
    walk_at "m.steps"
    all_goals (try dsimp only)
    refine join_list ⟨_, (N3 _ (.head _)).1, rfl, _, rfl⟩ (by simpa using hys) (Nat.le_trans (elts_sum cs) (by omega)) fun tb k => ?_
    have hbuf : (Txt.join (Str.ofString "") (cs.map eltStr)).cps.toList = textOf cs := by rw [txt_join]; exact text_is cs
    have hbl : (Txt.join (Str.ofString "") (cs.map eltStr)).length ≤ 175 := by
      have h1 := text_len cs
      rw [← hbuf] at h1
      simp only [Array.length_toList] at h1
      exact Nat.le_trans h1 (by omega)
    generalize Txt.join (Str.ofString "") (cs.map eltStr) = buf at hbuf hbl ⊢
    have N4 : News _ _ _ [(D, listOf ws.toArray 0)] := News.sub N3 (fun q hq => .tail _ hq)
    clear N3 N2 hne hP hys F1
    walk_at "m.steps"
    all_goals (try dsimp only)
    rename Fr _ _ _ _ => F5
    rename News _ _ _ _ => N5
    refine make_lexer2 (by decide) (by decide) (by omega) K0 X0 T0 F5 (news_dup N5) fun x dx a d pb fs hs hs' ts tn tst tl tt tp h6 tk6 F6 N6 ho6 => ?_
    clear F5 N5
    walk_at "m.steps"
    all_goals (try dsimp only)
    rename Fr _ _ _ _ => F7
    rename News _ _ _ _ => N7
    have hwf := words_flat cs
    have hwn := hwf.1.2
    have hw256 : ∀ t ∈ words [] cs, ∀ c ∈ t, c < 256 := by
      intro t ht c hc
      have hm : c ∈ (words [] cs).flatten := List.mem_flatten.mpr ⟨t, ht, hc⟩
      rw [hwf.1.1] at hm
      obtain ⟨y, _, rfl⟩ := List.mem_map.mp hm
      exact oct_lt y
    refine list_lexer (tl9 := words [] cs) (by decide) (by decide) (by omega) (by omega) ho6 K0 X0 T0 ((toks_text cs).1 1) (by rw [List.drop_zero]; exact hbuf) (Nat.zero_le _) rfl F7 N7 fun S h8 tk8 tvs ct8 pos' tst' tl' tt' tp' nq' items' F9 N9 hS htvs => ?_
    have NA := lex_pick N9
    clear N9 N7 F7
    walk_at "m.steps"
    all_goals (try dsimp only)
    rename Fr _ _ _ _ => F10
    rename News _ _ _ _ => N10
    refine' by_contract2 K0 F10 X0 N10 T0 rfl rfl rfl (fun g' G' => c_cut (dp := _) (un := _) ?a1 ?a2 hws (by omega) G') ?P ?S ?_
    case a1 => decide
    case a2 => decide
    case P => walk_at "m.pick"
    case S => walk_at "m.sep"
    rintro v11 small11 h11 tk11 F11 N11 S11 ⟨T2, us2, ct2, rfl, rfl, hus2⟩
    rw [cut_is] at hus2
    simp only [List.cons_append, List.nil_append] at N11
    clear N10 F10
    walk_at "m.steps"
    all_goals (try dsimp only)
    rename Fr _ _ _ _ => F12
    rename News _ _ _ _ => N12
    refine dat_ne (n := 0) (k := 0) N12 (n₁ := _) (n₂ := _) (ds := (strsOf (words [] cs)).map Dat.str) (es := (strsOf (words [] cs)).map Dat.str) (.list (by k_mem) (strs_dat htvs)) (fun _ h => h) (.list (by k_mem) (strs_dat hus2)) (fun _ h => h) (by decide) (by decide) (strs_ok hw256) (strs_ok hw256) (by show callerA.units + 3 + 64 < cLine; decide) (fun bq hbq => ?_)
    have hbq0 : bq = false := by cases bq with | false => rfl | true => exact absurd rfl (hbq.mp rfl)
    subst hbq0
    clear hbq S11
    walk_at "m.steps"
    all_goals (try dsimp only)
    rename Fr _ _ _ _ => F13
    rename News _ _ _ _ => N13
    refine comp_text isNl (fun v y => y = v) (b := buf) (tb := tb) rfl F13 N13 (by omega) (by decide) (by decide) rfl (by decide) rfl ?_ ?_ ?_ ?_
    · intro E' Q' hq
      walk_at "m.steps"
      all_goals (try dsimp only)
      exact hq
    · intro C c u s3 m3 E' hn hx
      exact test_nl (dp := _) (un := _) hn hx
    · intro C c u s3 m3 E' hn hx
      exact elt_sign (dp := _) (un := _) hn hx
    intro Dn h14 tk14 ys14 c14 us14 F14 N14 hne14 hl14 hs14 hP14
    have hcnt : ys14.length = cnt (textOf cs) := by rw [← paired_len hP14, sign_count hl14 hs14, hbuf]
    have hcs : cnt (textOf cs) ≤ 175 := by
      have h1 : cnt (textOf cs) ≤ (textOf cs).length := List.count_le_length
      have h2 := text_len cs
      omega
    clear hne14 hs14 hP14 N13 F13
    walk_at "m.steps"
    all_goals (try dsimp only)
    rename Fr _ _ _ _ => F15
    rename News _ _ _ _ => N15
    refine kst_len N15 (k := cnt (textOf cs)) (.head _) hcnt (by omega) ?_
    have N16 : News _ _ _ [(S, listOf tvs.toArray ct8), (D, listOf ws.toArray 0)] := News.sub N15 (by k_allIn)
    clear N15 
    walk_at "m.steps"
    all_goals (try dsimp only)
    have hDS : @LT.lt Nat _ D S := by omega
    clear ho6 hS hcs hcnt hl14
    rename Fr _ _ _ _ => F17
    rename News _ _ _ _ => N17
    refine make_lexer2 (by decide) (by decide) (by decide) K0 X0 T0 F17 N17 fun x dx a d pb fs hs hs' ts tn tst tl tt tp h18 tk18 F18 N18 ho18 => ?_
    clear N17 F17
    walk_at "m.steps"
    all_goals (try dsimp only)
    rename Fr _ _ _ _ => F19
    rename News _ _ _ _ => N19
    have hT0 := (toks_text []).1 1
    have hw0 : words [] [] = [] := by rw [words]
    rw [hw0] at hT0
    refine list_lexer (tl9 := []) (by decide) (by decide) (by decide) (by decide) ho18 K0 X0 T0 hT0 (by rw [List.drop_zero]; exact lit_nil) (Nat.zero_le _) rfl F19 N19 fun S2 h21 tk21 tvs2 ct21 pos2 tst2 tl2 tt2 tp2 nq2 items2 F21 N21 hS2 htvs2 => ?_
    have hv2 : tvs2 = [] := by cases htvs2; rfl
    subst hv2
    have N22 := lex_drop N21
    have hSS : @LT.lt Nat _ S S2 := by omega
    clear N21 N19 F19 hS2 ho18
    walk_at "m.steps"
    all_goals (try dsimp only)
    rename Fr _ _ _ _ => F23
    rename News _ _ _ _ => N23
    refine' by_contract2 K0 F23 X0 N23 T0 rfl rfl rfl (fun g' G' => c_redToken (dp := _) (un := _) (ts := []) (vs := []) (us := []) ?a1 ?a2 .nil (fun t ht => nomatch ht) (by decide) (by decide) (fun c hc => nomatch hc) ?l1 ?l2 G') ?P ?S ?_
    case P => walk_at "m.pick"
    case S => walk_at "m.sep"
    case a1 => decide
    case a2 => decide
    case l1 => omega
    case l2 => omega
    rintro v24 small24 h24 tk24 F24 N24 S24 ⟨n24, rfl, T24, l24, us24, c24, W24, tw24, rfl, hlt24, rfl, hI24, hW24⟩
    have hus24 : us24 = [] := by cases hI24; rfl
    have hW24' := str_nil hW24
    subst hus24 hW24'
    simp only [List.cons_append, List.nil_append] at N24
    clear N23 F23
    walk_at "m.steps"
    all_goals (try dsimp only)
    rename Fr _ _ _ _ => F25
    rename News _ _ _ _ => N25
    refine dat_neD (n := 2) (k := 2) N25 (d := .tuple [.list [], .str (Str.ofString "")]) (e := .tuple [.list [], .str (Str.ofString "")]) (n₁ := _) (n₂ := _) (.tuple (vs := [_, _]) (n := 0) (by k_mem) (.cons (.list (vs := []) (by k_mem) .nil) (.cons (.str _ _) .nil))) (fun _ h => h) (.tuple (vs := [_, _]) (n := 0) (by k_mem) (.cons (.list (vs := []) (by k_mem) .nil) (.cons (.str _ _) .nil))) (fun _ h => h) (by decide) (by decide) pair_ok pair_ok (by show callerA.units + 3 + 64 < cLine; decide) (fun bq hbq => ?_)
    have hbq0 : bq = false := by cases bq with | false => rfl | true => exact absurd rfl (hbq.mp rfl)
    subst hbq0
    have N26 : News _ _ _ [(S, listOf tvs.toArray ct8), (D, listOf ws.toArray 0)] := News.sub N25 (by k_allIn)
    clear hbq S24 N25 hSS
    walk_at "m.steps"
    all_goals (try dsimp only)
    rename Fr _ _ _ _ => F27
    rename News _ _ _ _ => N27
    refine' by_contract2 K0 F27 X0 N27 T0 rfl rfl rfl (fun g' G' => c_redToken (dp := _) (un := _) (ts := words [] cs) (us := []) ?a1 ?a2 htvs (words_ne cs []) ?b1 ?b2 ?b3 ?l1 ?l2 G') ?P ?S ?_
    case P => walk_at "m.pick"
    case S => walk_at "m.sep"
    case a1 => decide
    case a2 => decide
    case b1 => omega
    case b2 => rw [hwf.1.1, List.length_map]; omega
    case b3 =>
      intro c hc
      rw [hwf.1.1] at hc
      obtain ⟨y, _, rfl⟩ := List.mem_map.mp hc
      exact oct_lt y
    case l1 => omega
    case l2 => omega
    rintro v28 small28 h28 tk28 F28 N28 S28 ⟨n28, rfl, T28, l28, us28, c28, W28, tw28, rfl, hlt28, rfl, hI28, hW28⟩
    have hu28 : us28.length ≤ 25 := by rw [hI28.length]; exact Nat.le_trans (nums_len cs) hcl
    simp only [List.cons_append, List.nil_append] at N28
    have hDl : @Ne Nat D l28 := S28 _ (.tail _ (.tail _ (.head _))) _ (.head _)
    have N29 : News _ _ _ [(T28, tupO [.ref l28, .str W28 tw28]), (l28, listOf us28.toArray c28), (D, listOf ws.toArray 0)] := News.sub N28 (by k_allIn)
    clear S28 N28 N27 F27
    walk_at "m.steps"
    all_goals (try dsimp only)
    rename Fr _ _ _ _ => F30
    rename News _ _ _ _ => N30
    have N31 : News _ _ _ [(l28, listOf us28.toArray c28), (D, listOf ws.toArray 0)] := News.sub N30 (by k_allIn)
    clear N30
    refine comp_list EltO (l := D) (vs := ws) (c := 0) rfl F30 N31 (.tail _ (.head _)) (by omega) (by decide) (by decide) rfl (by decide) rfl ?_ ?_ ?_
    · intro E' Q' hq
      walk_at "m.steps"
      all_goals (try dsimp only)
      exact hq
    · intro C v s3 m3 E' hv hn hx F N
      obtain ⟨i, hvi⟩ := List.getElem?_of_mem hv
      obtain ⟨x, t, _, rfl⟩ := ints_get hws hvi
      refine wpAny_mono (elt_oct (dp := _) (un := _) ?_ ?_ K0 X0 T0 F N hn hx) (fun y s4 h => ?_) fun _ _ e => e
      · decide
      · decide
      · obtain ⟨⟨u, rfl⟩, hk⟩ := h
        exact ⟨⟨x, t, u, rfl, rfl⟩, hk⟩
    intro Oc h32 tk32 ys32 c32 F32 N32 hne32 hP32
    have hI32 := paired_octs hws hP32
    have hlO : @Ne Nat l28 Oc := hne32 _ (.head _)
    have hDO : @Ne Nat D Oc := hne32 _ (.tail _ (.head _))
    clear hP32 hne32 F30 N31
    walk_at "m.steps"
    all_goals (try dsimp only)
    have hflag : Flag := .here
    rename Fr _ _ _ _ => F33
    rename News _ _ _ _ => N33
    refine' by_contractT ⟨K0, X0, T0, ktsDicts_nil, KtsTurn.refl⟩ X0 T0 F33 N33 rfl rfl rfl (fun g' G' => c_forest (dp := _) (un := _) (os := cs.map octN) ?a1 ?a2 hI32 ?b1 ?b2 G') ?P ?S ?_
    case P => walk_at "m.pick"
    case S => walk_at "m.sep"
    case a1 => decide
    case a2 => decide
    case b1 =>
      intro c hc
      obtain ⟨y, _, rfl⟩ := List.mem_map.mp hc
      exact oct_lt y
    case b2 => rw [List.length_map]; omega
    rintro v34 small34 h34 tk34 g34 Gr34 F34 N34 S34 ⟨kids, rfl, hD34⟩
    have F35 := fr_back Gr34.turn F34
    have N35 := news_back Gr34.turn N34
    have hkl : ∀ p ∈ kids, @Ne Nat p.1 l28 := fun p hp => Ne.symm (S34 _ (.tail _ hp) _ (.head _))
    have N36 : News _ _ _ ((l28, listOf us28.toArray c28) :: kids) := fun q hq => by
      rcases List.mem_cons.mp hq with rfl | hq
      · exact N35 _ (List.mem_append.mpr (.inr (.head _)))
      · exact N35 _ (List.mem_append.mpr (.inl (.tail _ hq)))
    rw [law_forest cs (by omega)] at hD34
    have hok : ∀ d ∈ ((words [] cs).foldl tokStep ([], [])).1.foldl front [], kqdOk 32 d = true := by
      rw [← law_forest cs (by omega)]
      exact forest_ok _ _
    generalize ((words [] cs).foldl tokStep ([], [])).1 = nums at hD34 hok hI28
    clear F34 N34 F33 N33 N35 S34 Gr34
    cases hD34 with
    | list hm34 hall34 =>
    rename_i fb fvs fc
    walk_at "m.steps"
    all_goals (try dsimp only)
    rename Fr _ _ _ _ => F37
    rename News _ _ _ _ => N37
    rename (l28 < _ ∧ AllLt _ kids) => q37
    have hkl2 := kst_ltOf q37.2
    refine' by_contract2 K0 F37 X0 N37 T0 rfl rfl rfl (fun g' G' => c_redFront (dp := _) (un := _) (ns := nums) ?a1 ?a2 hI28 (by omega) q37.1 G') ?P ?S ?_
    case P => walk_at "m.pick"
    case S => exact List.forall_mem_cons.mpr ⟨hkl, List.forall_mem_cons.mpr ⟨fun p hp => Nat.ne_of_lt (hkl2 p hp), List.forall_mem_nil _⟩⟩
    case a1 => decide
    case a2 => decide
    rintro v38 small38 h38 tk38 F38 N38 S38 ⟨kids2, rfl, hD38⟩
    walk_at "m.steps"
    all_goals (try dsimp only)
    rename Fr _ _ _ _ => F39
    rename News _ _ _ _ => N39
    refine dat_ne (n := 32) (k := 32) N39 (n₁ := kids) (n₂ := kids2) (.list hm34 hall34) (fun p hp => List.mem_append.mpr (.inr hp)) hD38 (fun p hp => List.mem_append.mpr (.inl (.tail _ hp))) (by decide) (by decide) hok hok (by show callerA.units + 3 + 64 < cLine; decide) (fun bq hbq => ?_)
    have hbq0 : bq = false := by cases bq with | false => rfl | true => exact absurd rfl (hbq.mp rfl)
    subst hbq0
    have N40 : News _ _ _ ((l28, listOf us28.toArray c28) :: kids) := fun q hq => by
      rcases List.mem_cons.mp hq with rfl | hq
      · exact N39 _ (List.mem_append.mpr (.inl (.head _)))
      · exact N39 _ (List.mem_append.mpr (.inr hq))
    clear hbq N39 S38 q37 hkl2
    (try clear N38)
    (try clear F38)
    (try clear F37)
    (try clear N37)
    walk_at "m.steps"
    all_goals (try dsimp only)
    rename Fr _ _ _ _ => F41
    rename News _ _ _ _ => N41
    rename_i l41 h41a q41 X41 h41b q42
    refine catL (xs := [.ref l41]) (ys := us28) F41 N41 (by k_mem) (by k_mem) (by simp only [List.length_cons, List.length_nil]; omega) fun D2 h43 F43 N43 hlt43 => ?_
    clear F41 N41
    walk_at "m.steps"
    all_goals (try dsimp only)
    rename Fr _ _ _ _ => F44
    rename News _ _ _ _ => N44
    refine iter_list_K F44 N44 (.head _) fun IT h45 F45 N45 hlt45 => ?_
    clear F44 N44
    walk_at "m.steps"
    all_goals (try dsimp only)
    rename Fr _ _ _ _ => F46
    rename News _ _ _ _ => N46
    have N47 : News _ _ _ ((IT, liO D2 0) :: (D2, listOf (.ref l41 :: us28).toArray 0) :: (l41, listOf ([] : List Value).toArray 0) :: kids) := fun q hq => by
      rcases List.mem_cons.mp hq with rfl | hq
      · exact N46 _ (.head _)
      rcases List.mem_cons.mp hq with rfl | hq
      · exact N46 _ (.tail _ (.head _))
      rcases List.mem_cons.mp hq with rfl | hq
      · exact N46 _ (.tail _ (.tail _ (.tail _ (.head _))))
      · exact N46 _ (.tail _ (.tail _ (.tail _ (.tail _ (.tail _ hq)))))
    have s1 : ∀ p ∈ kids, @Ne Nat p.1 IT := fun p hp => Nat.ne_of_lt (hlt45 p (.tail _ (.tail _ (.tail _ (.tail _ hp)))))
    have s2 : ∀ p ∈ kids, @Ne Nat p.1 D2 := fun p hp => Nat.ne_of_lt (hlt43 p (.tail _ (.tail _ (.tail _ hp))))
    have s3 : ∀ p ∈ kids, @Ne Nat p.1 l41 := fun p hp => Nat.ne_of_lt (kst_ltOf q41.2 p hp)
    have lt1 : @LT.lt Nat _ l41 D2 := hlt43 (l41, _) (.tail _ (.head _))
    have lt2 : @LT.lt Nat _ D2 IT := hlt45 (D2, _) (.head _)
    clear N46
    refine' by_contract2 K0 F46 X0 N47 T0 rfl rfl rfl (fun g' G' => c_redFrontI (dp := _) (un := _) (ns := nums) ?a1 ?a2 hI28 (by omega) lt1 lt2 G') ?P ?S ?_
    case P => walk_at "m.pick"
    case S => exact List.forall_mem_cons.mpr ⟨s1, List.forall_mem_cons.mpr ⟨s2, List.forall_mem_cons.mpr ⟨s3, List.forall_mem_nil _⟩⟩⟩
    case a1 => decide
    case a2 => decide
    rintro v48 small48 h48 tk48 F48 N48 S48 hD48
    clear F46 N47 s1 s2 s3 S48
    walk_at "m.steps"
    all_goals (try dsimp only)
    rename Fr _ _ _ _ => F49
    rename News _ _ _ _ => N49
    refine dat_eq (n := 32) (k := 32) N49 (n₁ := kids) (n₂ := small48) (.list hm34 hall34) (fun p hp => List.mem_append.mpr (.inr hp)) hD48 (fun p hp => List.mem_append.mpr (.inl hp)) (by decide) (by decide) hok hok (by show callerA.units + 3 + 64 < cLine; decide) (fun bq hbq => ?_)
    have hbq0 : bq = true := hbq.mpr rfl
    subst hbq0
    clear hbq
    walk_at "m.last"
    exact hgood _ _ _ _ F49
end PartLaw
end Mine

theorem PySem.Challenge.cw_il0179_01_holds : PySem.Challenge.rw_il0179_01.Holds := by
  exact Mine.law_holds
