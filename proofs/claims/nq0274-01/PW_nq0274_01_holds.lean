import PyProof.Rows.All
import Wide.All
import OpenK.AllK
import Wide.FinOn
import PyProof.Draws
import PyProof.EnumMake
import PyProof.IsiStr
import PyProof.SliceMore
import Lean
import PySem.Challenge.RW_nq0274_01
set_option Elab.async false
set_option maxRecDepth 100000
set_option linter.unusedVariables false
set_option linter.unusedSimpArgs false
set_option maxHeartbeats 2000000
local macro_rules | `(tactic| ktd_said $s:str) => do
  let tab : List (String × String) := [
    ("n", "nm"), ("m", "mem"), ("p", "rep"), ("#s", "T o|~! lt_ble R|T V"), ("#t", "B|T o|~! lt_ble R|T V"), ("#v", "T d|T S"), ("#w", "T o|T S|T U"), ("#x", "T d|T o"), ("#y", "~! PyProof.noPylong_small o|~! PyProof.noPylong_of_log2 K"), ("#z", "T d|~! lt_ble R"), ("#u", "~! PySem.IntMulOk.of_left d"), ("#i", "~! isSome_of n"),
    ("nm", "A|~! mset_eq|~= mset_ne d @ nm"),
    ("nq", "B|~! mset_eq|~= mset_ne d @ nq"),
    ("ev", "= y_ld a n|= y_int|= y_attrN|= y_str|= y_none|= y_cbool|= wpAny_BinOp|= Subscript_|= y_callM|= y_call|= y_fn a a k|= y_bi a a k b d|= y_sliceE|= y_tuple"),
    ("ex", "= y_assign|= y_if|= y_expr|= y_ret|= y_assignAttr|= y_augAttr|= y_assignSub|= y_assignTup|= y_break|= y_continue|= y_nil_then"),
    ("tr", "=. wpAny_isTrue_Compare1 ? r|= isTrue_and_nil|= isTrue_and|= isTrue_or_nil|= isTrue_or|= isTrue_not|=. isTrue_plain ? r"),
    ("it", "= y_ifT|= y_ifF|= y_ifNot|= y_ifHF a|= y_ifHF R|= y_ifHT a|= y_ifHT R"),
    ("yT", "= wpAny_truthy_bool|= y_truth a a a o|= y_truthS #s"),
    ("yN", "= y_st a ; 2"),
    ("yW", "= y_cwFn a k|= y_cwBi|= y_cwM0|= y_cwM|= y_cwFnM a k|= y_cwFnM0 a a k"),
    ("yC", "= y_len a a a o ; 1|= y_append a a a o ; 4|= y_pop a a a o o ; 5|= y_lenS o ; 1"),
    ("yM", "= y_meth a a a PySem.F.slot_list_append PySem.F.type_list_append|= y_meth a a a PySem.F.slot_list_pop PySem.F.type_list_pop|= y_methI a a a a a k k k n"),
    ("yA", "= y_attr a a a a a k k k k n r"),
    ("yO", "= y_eqS|= y_inS|= y_notInS|= y_ge|= y_isNO r R|= y_isNS r|= y_isO r R|= y_isS r|= y_lt|= y_gt"),
    ("yZ", "= y_setattr a a a a a k k k k #i o ; 4"),
    ("yB", "= y_mul #u|= y_sub|= y_add|= y_shr1"),
    ("yY", "= y_args|= y_args0|= y_item a a a o o o ; 1|= y_set a a a o o o ; 4|= y_andK a a|= y_inTup2 a ; 2|= y_sliceS a o ; 4|= y_iaddS #t ; 2|= y_tup2 a rfl r ; 2|= y_asName|= y_asSub|= then_cont|= then_brk|= then_ret|= then_next|= loop_brk|= loop_ret"),
    ("y1", "& g_eval ev|& g_execs ex|& g_ite it|& g_true tr|& g_call yC|& g_cw yW|& g_meth yM|& g_getA yA|& g_cmp yO|& g_tru yT|& g_stn yN|& g_setA yZ|& g_bin yB|yY"),
    ("mem", "A|! List.mem_cons_self|= List.mem_cons_of_mem _ @ mem|= List.mem_append_left _ @ mem"),
    ("rep", "! Rep.z|ap Rep.s @ rep"),
    ("sub", "! List.Sublist.refl _|= List.Sublist.cons_cons _ @ sub|= List.Sublist.cons _ @ sub"),
    ("fE", "ev|= y_ifexp|= y_list"),
    ("fX", "= y_swap2|ex|= y_aug"),
    ("fI", "= y_ifS|= y_ifI|it"),
    ("fC", "= v_append a p #w ; 2|= PySem.SC.endswith|yC"),
    ("fW", "= y_cwT1|yW"),
    ("fM", "= v_meth a m PySem.F.slot_list_append PySem.F.type_list_append|= y_methS PySem.F.slot_str_join PySem.F.type_str_join|= y_methS PySem.F.slot_str_endswith PySem.F.type_str_endswith|yM"),
    ("fO", "= y_eqI|= y_le|yO"),
    ("fT", "= y_truthI|yT"),
    ("fB", "= y_and|yB"),
    ("fY", "= y_un2s a rfl ; 2|= y_bind|= y_ldn a n|= y_newListF a #v ; 3|= for_brk|yY"),
    ("f1", "& g_eval fE|& g_execs fX|& g_ite fI|& g_true tr|& g_call fC|& g_cw fW|& g_meth fM|& g_getA yA|& g_cmp fO|& g_tru fT|& g_stn yN|& g_setA yZ|& g_bin fB|fY"),
    ("gE", "= c_ld a a n|= c_ldCM a a m a|= c_fn a a k|= y_ldCM a a m a|fE"),
    ("gX", "? g_ac fX"),
    ("gN", "= c_st a a ; 4|= y_stC2 a a a ; 4|= y_stC3 a a a ; 4|yN"),
    ("gB", "fB|= y_mod #x|= y_pow #x #x d|= y_fdiv #x #y"),
    ("gY", "= c_tests0|= c_tests1|fY"),
    ("g1", "& g_eval gE|& g_execs gX|& g_ite fI|& g_true tr|& g_call fC|& g_cw fW|& g_meth fM|& g_getA yA|& g_cmp fO|& g_tru fT|& g_stn gN|& g_setA yZ|& g_bin gB|gY"),
    ("lC", "= lx_dqApp a a ; 4|= lx_dqPop a a ; 4|yC"),
    ("lM", "= lx_methR a a a a|= lx_meth a a a k k k n|= lx_dqMeth a a dq_slot_append dq_type_append|= lx_dqMeth a a dq_slot_pop dq_type_pop|yM"),
    ("lA", "= lx_attr a a a k k k k n r|yA"),
    ("lP", "= lx_prop a a a a rfl o o ; 3|lA"),
    ("lT", "= lx_dqTruth a a #z|yT"),
    ("lD", "= lx_dqT0 a a|= lx_dqT1 a a|lT"),
    ("lZ", "= lx_setState a a a ; 4|= lx_setToken a a a ; 4|yZ"),
    ("l1", "& g_eval ev|& g_execs ex|& g_ite it|& g_true tr|& g_call lC|& g_cw yW|& g_meth lM|& g_getA lA|& g_cmp yO|& g_tru lT|& g_stn yN|& g_setA lZ|& g_bin yB|yY"),
    ("l2", "& g_eval ev|& g_execs ex|& g_ite it|& g_true tr|& g_call lC|& g_cw yW|& g_meth lM|& g_getA lP|& g_cmp yO|& g_tru lT|& g_stn yN|& g_setA lZ|& g_bin yB|yY"),
    ("l3", "& g_eval ev|& g_execs ex|& g_ite it|& g_true tr|& g_call lC|& g_cw yW|& g_meth lM|& g_getA lP|& g_cmp yO|& g_tru lD|& g_stn yN|& g_setA lZ|& g_bin yB|yY"),
    ("sC", "= y_typeS|yC"),
    ("sW", "= y_cwT|yW"),
    ("sA", "= os_get a a a k k k n r|yA"),
    ("sO", "= y_neS|yO"),
    ("sZ", "= os_set a a a k #i d ; 4|= os_new a a a k d ; 4|yZ"),
    ("s2", "& g_eval ev|& g_execs ex|& g_ite it|& g_true tr|& g_call sC|& g_cw sW|& g_meth yM|& g_getA sA|& g_cmp sO|& g_tru yT|& g_stn yN|& g_setA sZ|& g_bin yB|yY"),
    ("i1", "y1|= y_cwT|= y_typeI|= y_intI|= wpAny_UnaryOp"),
    ("mC", "= ob_sio a a rfl o o ; 7|= ob_dq a a o o ; 4|= ob_mt a a ; 6|= ob_tr a a a rfl r r r ; 4|= y_isiS|yC"),
    ("mW", "= ob_cw a|= y_cwT0|yW"),
    ("mM", "= ob_mtm|= ob_trm|= ob_fkm a a o o ; 4|yM"),
    ("mA", "= ob_get a a a k k k n r|yA"),
    ("mZ", "= ob_set' a a a k #i d ; 4|= ob_new a a a k d ; 4|yZ"),
    ("mY", "= ob_fk a a o o ; 9|yY"),
    ("m1", "& g_eval ev|& g_execs ex|& g_ite it|& g_true tr|& g_call mC|& g_cw mW|& g_meth mM|& g_getA mA|& g_cmp yO|& g_tru yT|& g_stn yN|& g_setA mZ|& g_bin yB|mY"),
    ("w1", "g1|= wpAny_UnaryOp|= y_neg|= y_iaddI"),
    ("v1", "? g_if w1"),
    ("x4", "~= hret _ _ _ _ B @ x5"), ("x5", "~! new_ex 0 rfl rfl|~! new_ex 1 rfl rfl|~! new_ex 2 rfl rfl|~! new_ex 3 rfl rfl|~! new_ex 4 rfl rfl|~! new_ex 5 rfl rfl|~! new_ex 6 rfl rfl"),
    ("x6", "~= hret _ _ _ _ B @ x7"), ("x7", "~! Exists.intro 0 rfl|~! Exists.intro 1 rfl|~! Exists.intro 2 rfl"),
    ("x8", "~= hret _ _ _ _ B @ x9"), ("x9", "~! fk_ex 0 rfl|~! fk_ex 1 rfl|~! fk_ex 2 rfl|~! fk_ex 3 rfl|~! fk_ex 4 rfl")]
  let rec at_ (e : String) : Lean.MacroM (Lean.TSyntax `tactic) := do
    let l := Lean.Syntax.mkStrLit e
    `(tactic| ktd_said $l:str)
  let rec tac (c : String) : Lean.MacroM (Lean.TSyntax `tactic) := match c with
    | "a" => `(tactic| with_reducible assumption)
    | "B" => `(tactic| assumption)
    | "k" => `(tactic| k_is)
    | "r" => `(tactic| kernel_rfl)
    | "R" => `(tactic| kernel_rfl!)
    | "o" => `(tactic| omega)
    | "d" => `(tactic| decide)
    | "b" => `(tactic| boot_fast)
    | "S" => `(tactic| (simp; done))
    | "U" => `(tactic| (simp; omega))
    | "V" => `(tactic| (simp [PySem.Str.length]; omega))
    | "K" => `(tactic| decide +kernel)
    | c => at_ c
  let rec arg (c : String) : Lean.MacroM Lean.Term := do
    if ["a", "B", "n", "k", "r", "R", "o", "d", "b", "m", "p", "K", "#s", "#t", "#v", "#w", "#x", "#y", "#z", "#u", "#i"].contains c then
      let t ← tac c
      `((by $t:tactic))
    else match c with
    | "?" => `(?_)
    | "_" => `(_)
    | c => if c.isNat then pure (Lean.Syntax.mkNumLit c) else pure (Lean.mkIdent c.toName)
  let rec head (k : String) (f : Lean.Term) (as : Array Lean.Term) : Lean.MacroM (Lean.TSyntax `tactic) := match k with
    | "=" => `(tactic| with_reducible refine $f $as* ?_)
    | "=." => `(tactic| with_reducible refine $f $as*)
    | "~=" => `(tactic| refine $f $as* ?_)
    | "!" => if as.isEmpty then `(tactic| with_reducible exact $f) else `(tactic| with_reducible exact $f $as*)
    | "~!" => if as.isEmpty then `(tactic| exact $f) else `(tactic| exact $f $as*)
    | _ => `(tactic| with_reducible apply $f)
  let rec rest (k : String) (f : Lean.Term) (ws es : List String) : Lean.MacroM (Lean.TSyntax `tactic) := do
    let as ← ws.mapM arg
    let h ← head k f as.toArray
    match es with
    | ";" :: n :: _ => do
      let us := Array.replicate n.toNat! (← `(_))
      `(tactic| ($h:tactic; intro $us*))
    | "@" :: n :: _ => do
      let q ← at_ n
      `(tactic| ($h:tactic; $q:tactic))
    | _ => pure h
  let rec no (t : Lean.TSyntax `tactic) : Lean.MacroM (Lean.TSyntax `tactic) := `(tactic| fail_if_success $t:tactic)
  let rec one (ws : List String) : Lean.MacroM (Lean.TSyntax `tactic) := match ws with
    | ["A"] => tac "a"
    | ["B"] => tac "B"
    | ["T", c] => tac c
    | [t] => at_ t
    | ["?", g, n] => do
      let q ← at_ n
      let t ← no (← head "=" (Lean.mkIdent g.toName) #[])
      `(tactic| ($t:tactic; $q:tactic))
    | ["&", g, n] => do
      let q ← at_ n
      let t ← no (← no (← head "=" (Lean.mkIdent g.toName) #[]))
      `(tactic| ($t:tactic; $q:tactic))
    | k :: f :: ws =>
      let q := ws.span (fun w => w != ";" && w != "@")
      rest k (Lean.mkIdent f.toName) q.1 q.2
    | _ => Lean.Macro.throwUnsupported
  let l := match tab.lookup s.getString with
    | some l => l
    | none => s.getString
  match l.splitOn "|" with
  | [] => Lean.Macro.throwUnsupported
  | [e] => one (e.splitOn " ")
  | e :: es => do
    let p ← one (e.splitOn " ")
    let q ← at_ ("|".intercalate es)
    `(tactic| first | $p:tactic | $q:tactic)
/-! text N0 -/
namespace Mine
open PySem PySem.W
/-! the text's top, run over a tree of objects, in one piece -/
noncomputable def runT (stp : SharedT → Thread → Option (SharedT × Thread)) (ok : Thread → Bool) : Nat → SharedT → Thread → Option SharedT
  | 0, _, _ => none
  | n + 1, s, t => match through t with
    | true => some s
    | false => match ok t with
      | false => none
      | true => match stp s t with
        | some (s', t') => runT stp ok n s' t'
        | none => none
noncomputable def impT (fin : Thread → Option (List Value)) (stp : SharedT → Thread → Option (SharedT × Thread)) : Nat → SharedT → Thread → Option SharedT
  | 0, _, _ => none
  | n + 1, s, t => match fin t with
    | some [] => some s
    | some (_ :: _) => none
    | none => match stp s t with
      | some (s', t') => impT fin stp n s' t'
      | none => none
theorem runT_of {tb : String → Option Builtin} {p : Program} {w : World} {n₀ : Nat} {ann : Option Value} : ∀ {n : Nat} {s s' : SharedT} {t : Thread}, runT (stepT (denote tb) p w) (stepOk n₀ ann) n s t = some s' → topRun tb p w n₀ ann n s.abs t = some s'.abs
  | 0, _, _, _, h => by cases h
  | n + 1, s, s', t, h => by
    unfold runT at h
    unfold topRun
    cases ht : through t with
    | true => rw [ht] at h; cases h; rfl
    | false =>
      rw [ht] at h
      cases hk : stepOk n₀ ann t with
      | false => rw [hk] at h; cases h
      | true =>
        rw [hk] at h
        cases hs : stepT (denote tb) p w s t with
        | none => rw [hs] at h; cases h
        | some r => obtain ⟨s₂, t₂⟩ := r; rw [hs] at h; dsimp only; rw [stepT_spec hs]; exact runT_of h
theorem impT_of {tb : String → Option Builtin} {p : Program} {w : World} : ∀ {n : Nat} {s s' : SharedT} {t : Thread}, impT Thread.atExitBegin (stepT (denote tb) p w) n s t = some s' → importEnds tb p w n s.abs t = some s'.abs
  | 0, _, _, _, h => by cases h
  | n + 1, s, s', t, h => by
    unfold impT at h
    unfold importEnds
    cases he : t.atExitBegin with
    | some x =>
      rw [he] at h
      cases x with
      | nil => cases h; rfl
      | cons a r => cases h
    | none =>
      rw [he] at h
      cases hs : stepT (denote tb) p w s t with
      | none => rw [hs] at h; cases h
      | some r => obtain ⟨s₂, t₂⟩ := r; rw [hs] at h; dsimp only; rw [stepT_spec hs]; exact impT_of h
noncomputable def fenceT (m : Str) (S : SharedT) : Option SharedT :=
  match boundIn S.abs.heap sysModules m, tameNamesOf? m with
  | some (.ref a), some row => (match S.abs.heap.get? a with
    | some o => (match o.dict with
      | some D => (match Nat.blt D S.n, S.tree.get D with
        | true, some od => (match alive od with
          | some od1 => (fenceDict? m row od1).map fun od' => { S with tree := S.tree.set D fun _ => od' }
          | none => none)
        | _, _ => none)
      | none => none)
    | none => none)
  | _, _ => none
theorem fenceT_of {m : Str} {S S' : SharedT} (h : fenceT m S = some S') : fenceModule? m S.abs = some S'.abs := by
  unfold fenceT at h
  unfold fenceModule?
  split at h
  · rename_i a row h1 h2
    rw [h1, h2]
    dsimp only
    split at h
    · rename_i o h3
      rw [h3]
      dsimp only
      split at h
      · rename_i D h4
        rw [h4]
        dsimp only
        split at h
        · rename_i od h5 h6
          have lt : D < S.n := Nat.le_of_ble_eq_true h5
          split at h
          · rename_i od1 h7
            have e : S.abs.heap.get? D = some od1 := (abs_get (t := S.tree) (life := S.life) lt h6).trans h7
            rw [e]
            dsimp only
            obtain ⟨od', hf, rfl⟩ := Option.map_eq_some_iff.mp h
            rw [hf]
            show some _ = some _
            congr 1
            have := absHeap_set (t := S.tree) (n := S.n) (life := S.life) (f := fun _ => od') h6
            show Shared.mk _ _ _ _ _ = Shared.mk _ _ _ _ _
            exact congrArg (fun H => Shared.mk H S.gens S.drawn S.toks S.os) this.symm
          · cases h
        · cases h
      · cases h
    · cases h
  · cases h
/-- where the start stands, as a tree -/
noncomputable def startT (os : OsState) : SharedT := ⟨.nil, 0, ({ os := os } : Shared).heap.life, ({ os := os } : Shared).gens, ({ os := os } : Shared).drawn, ({ os := os } : Shared).toks, os⟩
theorem startT_abs (os : OsState) : (startT os).abs = { os := os } := by
  rfl
/-- what stands at a, read off the tree -/
noncomputable def getT (S : SharedT) (a : Nat) : Option Obj := match Nat.blt a S.n with
  | true => match S.tree.get a with
    | some o => alive o
    | none => some default
  | false => none
theorem getT_eq (S : SharedT) (a : Nat) : getT S a = S.abs.heap.get? a := by
  unfold getT
  cases h : Nat.blt a S.n with
  | true =>
    have lt : a < S.n := Nat.le_of_ble_eq_true h
    cases g : S.tree.get a with
    | some o => exact (abs_get (t := S.tree) (life := S.life) lt g).symm
    | none =>
      show some default = (absHeap S.tree S.n S.life).get? a
      unfold Heap.get?
      rw [absHeap_at, if_pos lt, g]
      rfl
  | false =>
    have nl : ¬ a < S.n := fun q => by rw [show Nat.blt a S.n = true from Nat.ble_eq_true_of_le q] at h; cases h
    exact (abs_get_none nl).symm
/-! the text's top in parts: the states between them are laid from the heap's list -/
noncomputable def segT (stp : SharedT → Thread → Option (SharedT × Thread)) (ok : Thread → Bool) : Nat → SharedT → Thread → Option (Flow × SharedT × Code × Pos)
  | 0, _, _ => none
  | n + 1, s, t => match endAt 1 t with
    | some f => some (f, s, t.code, t.pos)
    | none => match ok t with
      | false => none
      | true => match stp s t with
        | some (s', t') => segT stp ok n s' t'
        | none => none
noncomputable def goT (stp : SharedT → Thread → Option (SharedT × Thread)) (ok : Thread → Bool) : Nat → SharedT → Thread → Option (SharedT × Thread)
  | 0, s, t => some (s, t)
  | n + 1, s, t => match through t with
    | true => none
    | false => match ok t with
      | false => none
      | true => match stp s t with
        | some (s', t') => goT stp ok n s' t'
        | none => none
theorem segT_of {tb : String → Option Builtin} {p : Program} {w : World} {n₀ : Nat} {ann : Option Value} : ∀ {n : Nat} {s s' : SharedT} {t : Thread} {f : Flow} {c : Code} {q : Pos}, segT (stepT (denote tb) p w) (stepOk n₀ ann) n s t = some (f, s', c, q) → segRun tb p w n₀ ann 1 n s.abs t = some (f, s'.abs, c, q)
  | 0, _, _, _, _, _, _, h => by cases h
  | n + 1, s, s', t, f, c, q, h => by
    unfold segT at h
    unfold segRun
    cases he : endAt 1 t with
    | some x => rw [he] at h; cases h; rfl
    | none =>
      rw [he] at h
      cases hk : stepOk n₀ ann t with
      | false => rw [hk] at h; cases h
      | true =>
        rw [hk] at h
        cases hs : stepT (denote tb) p w s t with
        | none => rw [hs] at h; cases h
        | some r => obtain ⟨s₂, t₂⟩ := r; rw [hs] at h; dsimp only; rw [stepT_spec hs]; exact segT_of h
theorem goT_of {tb : String → Option Builtin} {p : Program} {w : World} {n₀ : Nat} {ann : Option Value} : ∀ {n : Nat} {s s' : SharedT} {t t' : Thread}, goT (stepT (denote tb) p w) (stepOk n₀ ann) n s t = some (s', t') → topGo tb p w n₀ ann n s.abs t = some (s'.abs, t')
  | 0, _, _, _, _, h => by cases h; rfl
  | n + 1, s, s', t, t', h => by
    unfold goT at h
    unfold topGo
    cases ht : through t with
    | true => rw [ht] at h; cases h
    | false =>
      rw [ht] at h
      cases hk : stepOk n₀ ann t with
      | false => rw [hk] at h; cases h
      | true =>
        rw [hk] at h
        cases hs : stepT (denote tb) p w s t with
        | none => rw [hs] at h; cases h
        | some r => obtain ⟨s₂, t₂⟩ := r; rw [hs] at h; dsimp only; rw [stepT_spec hs]; exact goT_of h
theorem open_ofT {p : Program} {w : World} {N : Nat} {m : Str} {S : SharedT} (hm : importedModules p.main.body = [m]) (hn : p.main.body.any namesNumpy = false) (os : OsState) (hs : (start (opening p)).1 = { os := os })
    (h : (impT Thread.atExitBegin (stepT (denote treeTable) (opening p) w) N (startT os) (start (opening p)).2).bind (fenceT m) = some S) : fencedOpening treeTable p w N = some S.abs := by
  obtain ⟨S₀, h0, h1⟩ := Option.bind_eq_some_iff.mp h
  have i0 : importEnds treeTable (opening p) w N (start (opening p)).1 (start (opening p)).2 = some S₀.abs := by
    rw [hs, ← startT_abs]
    exact impT_of h0
  unfold fencedOpening
  rw [i0]
  show fenceModules? p S₀.abs = _
  unfold fenceModules?
  rw [hm, hn]
  show ((fenceModule? m S₀.abs).bind (fenceAll? [])).bind _ = _
  rw [fenceT_of h1]
  rfl
theorem cut4 {α : Type} (l : List α) : l = l.take 15 ++ ((l.drop 15).take 1 ++ ((l.drop 16).take 1 ++ (l.drop 17 ++ []))) := by
  have h1 := List.take_append_drop 15 l
  have h2 : (l.drop 15).take 1 ++ l.drop 16 = l.drop 15 := by
    have := List.take_append_drop 1 (l.drop 15)
    rwa [List.drop_drop] at this
  have h3 : (l.drop 16).take 1 ++ l.drop 17 = l.drop 16 := by
    have := List.take_append_drop 1 (l.drop 16)
    rwa [List.drop_drop] at this
  rw [List.append_nil, h3, h2, h1]
/-- every second item -/
noncomputable def alt : Bool → List Obj → List Obj
  | _, [] => []
  | true, o :: l => o :: alt false l
  | false, _ :: l => alt true l
noncomputable def lay : Nat → List Obj → BT
  | 0, _ => .nil
  | _ + 1, [] => .nil
  | f + 1, o :: l => .node o (lay f (alt true l)) (lay f (alt false l))
noncomputable def mg : List (Nat × Nat) → List Obj → List Obj → List Obj
  | [], _, _ => []
  | (a, b) :: r, hs, xs => hs.take a ++ (xs.take b ++ mg r (hs.drop a) (xs.drop b))
noncomputable def pat : List (Nat × (Obj → Obj)) → List Obj → List Obj
  | [], l => l
  | (i, f) :: r, l => l.take i ++ match l.drop i with
    | [] => []
    | o :: l' => f o :: pat r l'
noncomputable def dpre (m : Nat) : Obj → Obj
  | ⟨c, d, .dict es _, s⟩ => ⟨c, d, .dict (es.toList.take m).toArray m, s⟩
  | o => o
noncomputable def npre (m : Nat) (v : Value) : Obj → Obj
  | ⟨c, d, .dict es _, s⟩ => ⟨c, d, .dict (match es.toList with | e :: l => DictEntry.mk e.hash e.key v :: l.take m | [] => []).toArray (m + 1), s⟩
  | o => o
noncomputable def fpre (m : Nat) : Obj → Obj
  | ⟨c, d, .fields es, s⟩ => ⟨c, d, .fields (es.toList.take m).toArray, s⟩
  | o => o
noncomputable def cpre (m : Nat) : Obj → Obj
  | ⟨c, d, .cls k, s⟩ => ⟨c, d, .cls { k with subclasses := k.subclasses.take m }, s⟩
  | o => o
end Mine
/-! text HN -/
namespace Mine
open PySem PySem.W PyProof.Rows
@[reducible] noncomputable def PG : Program := PySem.Challenge.pw_nq0274_01
noncomputable def vw : Program := view PySem.Challenge.pw_nq0274_01 [0, 1, 3, 4, 5, 6, 7, 8, 10, 11, 12, 13, 14, 15, 16, 17, 19, 20, 21, 22, 23, 24, 26, 28, 29, 30, 31, 32, 33, 34, 35, 36, 37, 38, 39, 40, 41, 42, 43, 44, 45, 46, 47, 48, 49, 51, 52, 53, 54, 55, 56]
theorem im1 : importedModules PySem.Challenge.pw_nq0274_01.main.body = [Str.ofString "_collections"] := by kernel_rfl
theorem im2 : PySem.Challenge.pw_nq0274_01.main.body.any namesNumpy = false := by kernel_rfl
theorem st1 : (start (opening PySem.Challenge.pw_nq0274_01)).1 = { os := { stdin := #[] } } := by kernel_rfl

@[reducible] noncomputable def lv0 : List (Str × WData) := [(Str.ofString "_filemode_table", .tuple [.tuple [.tuple [.int 40960, .str ⟨#[108]⟩], .tuple [.int 49152, .str ⟨#[115]⟩], .tuple [.int 32768, .str ⟨#[45]⟩], .tuple [.int 24576, .str ⟨#[98]⟩], .tuple [.int 16384, .str ⟨#[100]⟩], .tuple [.int 8192, .str ⟨#[99]⟩], .tuple [.int 4096, .str ⟨#[112]⟩]],
  .tuple [.tuple [.int 256, .str ⟨#[114]⟩]], .tuple [.tuple [.int 128, .str ⟨#[119]⟩]], .tuple [.tuple [.int 2112, .str ⟨#[115]⟩], .tuple [.int 2048, .str ⟨#[83]⟩], .tuple [.int 64, .str ⟨#[120]⟩]],
  .tuple [.tuple [.int 32, .str ⟨#[114]⟩]], .tuple [.tuple [.int 16, .str ⟨#[119]⟩]], .tuple [.tuple [.int 1032, .str ⟨#[115]⟩], .tuple [.int 1024, .str ⟨#[83]⟩], .tuple [.int 8, .str ⟨#[120]⟩]],
  .tuple [.tuple [.int 4, .str ⟨#[114]⟩]], .tuple [.tuple [.int 2, .str ⟨#[119]⟩]], .tuple [.tuple [.int 513, .str ⟨#[116]⟩], .tuple [.int 512, .str ⟨#[84]⟩], .tuple [.int 1, .str ⟨#[120]⟩]]])]
@[reducible] noncomputable def ls0 : List Str := [Str.ofString "UnsupportedOperation", Str.ofString "IOBase", Str.ofString "BufferedIOBase", Str.ofString "TextIOBase", Str.ofString "BytesIO", Str.ofString "StringIO", Str.ofString "shlex", Str.ofString "_filemode_table"]
namespace N
theorem sd1 : namesResolve PySem.Challenge.pw_nq0274_01 = true := by
  rw [PySem.W.Fast.te8377067652309620493]
  kernel_rfl
theorem sd2 : namesMeet PySem.Challenge.pw_nq0274_01 PySem.Challenge.pw_nq0274_01.main.body (fun _ n => attrL n) = true := by
  rw [PySem.W.Fast.te17119622794617984870]
  rw [PySem.W.Fast.te17868728402115742887]
  kernel_rfl
theorem sd3 : readsOut PySem.Challenge.pw_nq0274_01 PySem.Challenge.pw_nq0274_01.main.body ("vars" : Str) = false := by
  rw [PySem.W.Fast.te13343964577679436407]
  kernel_rfl
theorem sd4 : readsOut PySem.Challenge.pw_nq0274_01 PySem.Challenge.pw_nq0274_01.main.body ("dir" : Str) = false := by
  rw [PySem.W.Fast.te13343964577679436407]
  kernel_rfl
theorem sd5 : readsOut PySem.Challenge.pw_nq0274_01 PySem.Challenge.pw_nq0274_01.main.body ("locals" : Str) = false := by
  rw [PySem.W.Fast.te13343964577679436407]
  kernel_rfl
theorem filt3 {α : Type} {f : α → Bool} {a b c : α} (ha : f a = false) (hb : f b = false) (hc : f c = false) : [a, b, c].filter f = [] := by
  simp [ha, hb, hc]
theorem sd6 : (["vars", "dir", "locals"] : List Str).filter (readsOut PySem.Challenge.pw_nq0274_01 PySem.Challenge.pw_nq0274_01.main.body) = [] := filt3 sd3 sd4 sd5
theorem sda : PySem.Challenge.pw_nq0274_01.boundNames.all (fun n => !worldNames.contains n) = true := by
  rw [PySem.W.Fast.te18344453789297297638]
  rw [PySem.W.Fast.te14412699480532031325]
  kernel_rfl
theorem sd7 : looksOpen PySem.Challenge.pw_nq0274_01 = true := by
  unfold looksOpen
  rw [sd1, sd2, sd6, sda]
  rw [PySem.W.Fast.te11788848310118352699]
  rw [PySem.W.Fast.te9807087744658564304]
  rw [PySem.W.Fast.te12862048085361865435]
  rw [PySem.W.Fast.te8326940854005059898]
  rw [PySem.W.Fast.te5923862056798008813]
  rw [PySem.W.Fast.te17691160309236699985]
  kernel_rfl
theorem sd8 : PySem.Challenge.rw_nq0274_01.row.wellSaid = true := by
  unfold OpenRow.wellSaid OpenRow.partSaid
  rw [show looksOpen PySem.Challenge.rw_nq0274_01.row.prog = true from sd7]
  rw [PySem.W.Fast.te18344453789297297638]
  rw [PySem.W.Fast.te13582783067957832011]
  rw [PySem.W.Fast.te12749700546528644094]
  kernel_rfl
theorem sd9 : namesMeet PySem.Challenge.pw_nq0274_01 PySem.Challenge.rw_nq0274_01.above (fun _ n => !PySem.Challenge.rw_nq0274_01.own.contains n) = true := by
  rw [PySem.W.Fast.te17119622794617984870]
  rw [PySem.W.Fast.te10792542408131684335]
  kernel_rfl
theorem said1 : PySem.Challenge.rw_nq0274_01.wellSaid = true := by
  unfold OpenLaw.wellSaid
  rw [sd8, show namesMeet PySem.Challenge.rw_nq0274_01.prog PySem.Challenge.rw_nq0274_01.above (fun _ n => !PySem.Challenge.rw_nq0274_01.own.contains n) = true from sd9]
  rw [PySem.W.Fast.te10501279942588096481]
  rw [PySem.W.Fast.te8179353310426384613]
  rw [PySem.W.Fast.te8326940854005059898]
  rw [PySem.W.Fast.te9558739934217749035]
  rw [PySem.W.Fast.te16286561074155671207]
  rw [PySem.W.Fast.te17119622794617984870]
  rw [PySem.W.Fast.te10792542408131684335]
  kernel_rfl
end N
local macro_rules | `(tactic| o_law) => `(tactic| refine holds_law N.said1 fun said => ?_)
namespace N
local macro_rules | `(tactic| o_head $_) => `(tactic| assumption)
theorem hp (H : PySem.Challenge.rw_nq0274_01.row.Holds) : PySem.Challenge.rw_nq0274_01.Holds := by
  o_law
  x_head
/-! what stands in no list of the heap: tuples, frames and codes left behind -/
noncomputable def xL (P : Params) : List Obj := [
  .mk (.type "tuple") none (.seq #[] 0) #[],
  .mk (.type "getset_descriptor") none (.fields #[.str (.ofString "__dict__") 203, .ref 15, .builtin "function.__dict__", .builtin "function.__dict__#set"]) #[],
  .mk (.type "getset_descriptor") none (.fields #[.str (.ofString "__weakref__") 205, .ref 15, .builtin "ExceptionGroup.__weakref__", .none]) #[],
  .mk (.none) none (.seq #[.int 14 0, .str ⟨#[6, 191, 10, 95, 95, 109, 111, 100, 117, 108, 101, 95, 95, 6, 188, 17, 95, 102, 114, 111, 122, 101, 110, 95, 105, 109, 112, 111, 114, 116, 108, 105, 98, 6, 192, 15, 95, 95, 102, 105, 114, 115, 116, 108, 105, 110, 101, 110, 111, 95, 95, 4, 189, 0, 971, 6, 193, 7, 95, 95, 100, 111, 99, 95, 95, 9, 52, 95, 102, 114, 111, 122, 101, 110, 95, 105, 109, 112, 111, 114, 116, 108, 105, 98, 46, 66, 117, 105, 108, 116, 105, 110, 73, 109, 112, 111, 114, 116, 101, 114, 46, 95, 95, 100, 111, 99, 95, 95, 58, 115, 116, 114, 35, 111, 112, 97, 113, 117, 101, 6, 194, 7, 95, 79, 82, 73, 71, 73, 78, 6, 190, 8, 98, 117, 105, 108, 116, 45, 105, 110, 6, 195, 9, 102, 105, 110, 100, 95, 115, 112, 101, 99, 9, 50, 95, 102, 114, 111, 122, 101, 110, 95, 105, 109, 112, 111, 114, 116, 108, 105, 98, 46, 66, 117, 105, 108, 116, 105, 110, 73, 109, 112, 111, 114, 116, 101, 114, 46, 102, 105, 110, 100, 95, 115, 112, 101, 99, 35, 111, 112, 97, 113, 117, 101, 6, 196, 13, 99, 114, 101, 97, 116, 101, 95, 109, 111, 100, 117, 108, 101, 9, 54, 95, 102, 114, 111, 122, 101, 110, 95, 105, 109, 112, 111, 114, 116, 108, 105, 98, 46, 66, 117, 105, 108, 116, 105, 110, 73, 109, 112, 111, 114, 116, 101, 114, 46, 99, 114, 101, 97, 116, 101, 95, 109, 111, 100, 117, 108, 101, 35, 111, 112, 97, 113, 117, 101, 6, 197, 11, 101, 120, 101, 99, 95, 109, 111, 100, 117, 108, 101, 9, 52, 95, 102, 114, 111, 122, 101, 110, 95, 105, 109, 112, 111, 114, 116, 108, 105, 98, 46, 66, 117, 105, 108, 116, 105, 110, 73, 109, 112, 111, 114, 116, 101, 114, 46, 101, 120, 101, 99, 95, 109, 111, 100, 117, 108, 101, 35, 111, 112, 97, 113, 117, 101, 6, 198, 8, 103, 101, 116, 95, 99, 111, 100, 101, 9, 49, 95, 102, 114, 111, 122, 101, 110, 95, 105, 109, 112, 111, 114, 116, 108, 105, 98, 46, 66, 117, 105, 108, 116, 105, 110, 73, 109, 112, 111, 114, 116, 101, 114, 46, 103, 101, 116, 95, 99, 111, 100, 101, 35, 111, 112, 97, 113, 117, 101, 6, 199, 10, 103, 101, 116, 95, 115, 111, 117, 114, 99, 101, 9, 51, 95, 102, 114, 111, 122, 101, 110, 95, 105, 109, 112, 111, 114, 116, 108, 105, 98, 46, 66, 117, 105, 108, 116, 105, 110, 73, 109, 112, 111, 114, 116, 101, 114, 46, 103, 101, 116, 95, 115, 111, 117, 114, 99, 101, 35, 111, 112, 97, 113, 117, 101, 6, 200, 10, 105, 115, 95, 112, 97, 99, 107, 97, 103, 101, 9, 51, 95, 102, 114, 111, 122, 101, 110, 95, 105, 109, 112, 111, 114, 116, 108, 105, 98, 46, 66, 117, 105, 108, 116, 105, 110, 73, 109, 112, 111, 114, 116, 101, 114, 46, 105, 115, 95, 112, 97, 99, 107, 97, 103, 101, 35, 111, 112, 97, 113, 117, 101, 6, 201, 11, 108, 111, 97, 100, 95, 109, 111, 100, 117, 108, 101, 9, 52, 95, 102, 114, 111, 122, 101, 110, 95, 105, 109, 112, 111, 114, 116, 108, 105, 98, 46, 66, 117, 105, 108, 116, 105, 110, 73, 109, 112, 111, 114, 116, 101, 114, 46, 108, 111, 97, 100, 95, 109, 111, 100, 117, 108, 101, 35, 111, 112, 97, 113, 117, 101, 6, 202, 21, 95, 95, 115, 116, 97, 116, 105, 99, 95, 97, 116, 116, 114, 105, 98, 117, 116, 101, 115, 95, 95, 4, 0, 0, 16, 6, 204, 8, 95, 95, 100, 105, 99, 116, 95, 95, 4, 0, 0, 17, 6, 206, 11, 95, 95, 119, 101, 97, 107, 114, 101, 102, 95, 95, 4, 0, 0, 18]⟩ 0, .bool true, .bool true, .str (.ofString "") 207, .int 22 0, .str ⟨#[6, 229, 10, 95, 95, 109, 111, 100, 117, 108, 101, 95, 95, 6, 219, 17, 95, 102, 114, 111, 122, 101, 110, 95, 105, 109, 112, 111, 114, 116, 108, 105, 98, 6, 230, 15, 95, 95, 102, 105, 114, 115, 116, 108, 105, 110, 101, 110, 111, 95, 95, 4, 220, 0, 562, 6, 231, 7, 95, 95, 100, 111, 99, 95, 95, 9, 47, 95, 102, 114, 111, 122, 101, 110, 95, 105, 109, 112, 111, 114, 116, 108, 105, 98, 46, 77, 111, 100, 117, 108, 101, 83, 112, 101, 99, 46, 95, 95, 100, 111, 99, 95, 95, 58, 115, 116, 114, 35, 111, 112, 97, 113, 117, 101, 6, 232, 8, 95, 95, 105, 110, 105, 116, 95, 95, 9, 44, 95, 102, 114, 111, 122, 101, 110, 95, 105, 109, 112, 111, 114, 116, 108, 105, 98, 46, 77, 111, 100, 117, 108, 101, 83, 112, 101, 99, 46, 95, 95, 105, 110, 105, 116, 95, 95, 35, 111, 112, 97, 113, 117, 101, 6, 233, 8, 95, 95, 114, 101, 112, 114, 95, 95, 9, 44, 95, 102, 114, 111, 122, 101, 110, 95, 105, 109, 112, 111, 114, 116, 108, 105, 98, 46, 77, 111, 100, 117, 108, 101, 83, 112, 101, 99, 46, 95, 95, 114, 101, 112, 114, 95, 95, 35, 111, 112, 97, 113, 117, 101, 6, 234, 6, 95, 95, 101, 113, 95, 95, 9, 42, 95, 102, 114, 111, 122, 101, 110, 95, 105, 109, 112, 111, 114, 116, 108, 105, 98, 46, 77, 111, 100, 117, 108, 101, 83, 112, 101, 99, 46, 95, 95, 101, 113, 95, 95, 35, 111, 112, 97, 113, 117, 101, 6, 235, 6, 99, 97, 99, 104, 101, 100, 9, 42, 95, 102, 114, 111, 122, 101, 110, 95, 105, 109, 112, 111, 114, 116, 108, 105, 98, 46, 77, 111, 100, 117, 108, 101, 83, 112, 101, 99, 46, 99, 97, 99, 104, 101, 100, 35, 111, 112, 97, 113, 117, 101, 6, 236, 6, 112, 97, 114, 101, 110, 116, 9, 42, 95, 102, 114, 111, 122, 101, 110, 95, 105, 109, 112, 111, 114, 116, 108, 105, 98, 46, 77, 111, 100, 117, 108, 101, 83, 112, 101, 99, 46, 112, 97, 114, 101, 110, 116, 35, 111, 112, 97, 113, 117, 101, 6, 237, 12, 104, 97, 115, 95, 108, 111, 99, 97, 116, 105, 111, 110, 9, 48, 95, 102, 114, 111, 122, 101, 110, 95, 105, 109, 112, 111, 114, 116, 108, 105, 98, 46, 77, 111, 100, 117, 108, 101, 83, 112, 101, 99, 46, 104, 97, 115, 95, 108, 111, 99, 97, 116, 105, 111, 110, 35, 111, 112, 97, 113, 117, 101, 6, 238, 21, 95, 95, 115, 116, 97, 116, 105, 99, 95, 97, 116, 116, 114, 105, 98, 117, 116, 101, 115, 95, 95, 4, 0, 0, 24, 6, 240, 8, 95, 95, 100, 105, 99, 116, 95, 95, 4, 0, 0, 25, 6, 242, 11, 95, 95, 119, 101, 97, 107, 114, 101, 102, 95, 95, 4, 0, 0, 26, 6, 243, 8, 95, 95, 104, 97, 115, 104, 95, 95, 0]⟩ 0, .bool true, .bool true, .str (.ofString "") 244] 1) #[],
  .mk (.type "list") none (.seq #[] 0) #[],
  .mk (.type "dict") none (.dict #[.mk (PyData.keyHash P (.ofString "name")) (.str (.ofString "name") 210) (.str (.ofString "_collections") 209), .mk (PyData.keyHash P (.ofString "loader")) (.str (.ofString "loader") 211) (.ref 15), .mk (PyData.keyHash P (.ofString "origin")) (.str (.ofString "origin") 212) (.str (.ofString "built-in") 186), .mk (PyData.keyHash P (.ofString "loader_state")) (.str (.ofString "loader_state") 213) (.none), .mk (PyData.keyHash P (.ofString "submodule_search_locations")) (.str (.ofString "submodule_search_locations") 214) (.none), .mk (PyData.keyHash P (.ofString "_uninitialized_submodules")) (.str (.ofString "_uninitialized_submodules") 215) (.ref 20), .mk (PyData.keyHash P (.ofString "_set_fileattr")) (.str (.ofString "_set_fileattr") 216) (.bool false), .mk (PyData.keyHash P (.ofString "_cached")) (.str (.ofString "_cached") 217) (.none), .mk (PyData.keyHash P (.ofString "_initializing")) (.str (.ofString "_initializing") 245) (.bool false)] 9) #[],
  .mk (.type "dict") none (.dict #[.mk (PyData.keyHash P (.ofString "__module__")) (.str (.ofString "__module__") 229) (.str (.ofString "_frozen_importlib") 219), .mk (PyData.keyHash P (.ofString "__firstlineno__")) (.str (.ofString "__firstlineno__") 230) (.int 562 220), .mk (PyData.keyHash P (.ofString "__doc__")) (.str (.ofString "__doc__") 231) (.builtin "_frozen_importlib.ModuleSpec.__doc__:str#opaqu\u0065"), .mk (PyData.keyHash P (.ofString "__init__")) (.str (.ofString "__init__") 232) (.builtin "_frozen_importlib.ModuleSpec.__init__#opaqu\u0065"), .mk (PyData.keyHash P (.ofString "__repr__")) (.str (.ofString "__repr__") 233) (.builtin "_frozen_importlib.ModuleSpec.__repr__#opaqu\u0065"), .mk (PyData.keyHash P (.ofString "__eq__")) (.str (.ofString "__eq__") 234) (.builtin "_frozen_importlib.ModuleSpec.__eq__#opaqu\u0065"), .mk (PyData.keyHash P (.ofString "cached")) (.str (.ofString "cached") 235) (.builtin "_frozen_importlib.ModuleSpec.cached#opaqu\u0065"), .mk (PyData.keyHash P (.ofString "parent")) (.str (.ofString "parent") 236) (.builtin "_frozen_importlib.ModuleSpec.parent#opaqu\u0065"), .mk (PyData.keyHash P (.ofString "has_location")) (.str (.ofString "has_location") 237) (.builtin "_frozen_importlib.ModuleSpec.has_location#opaqu\u0065"), .mk (PyData.keyHash P (.ofString "__static_attributes__")) (.str (.ofString "__static_attributes__") 238) (.ref 24), .mk (PyData.keyHash P (.ofString "__dict__")) (.str (.ofString "__dict__") 240) (.ref 25), .mk (PyData.keyHash P (.ofString "__weakref__")) (.str (.ofString "__weakref__") 242) (.ref 26), .mk (PyData.keyHash P (.ofString "__hash__")) (.str (.ofString "__hash__") 243) (.none)] 13) #[],
  .mk (.type "type") none (.cls (.mk (.ofString "ModuleSpec") [.type "object"] [.ref 23, .type "object"] 22 (.ofString "ModuleSpec") true [] [] false none false)) #[],
  .mk (.type "tuple") none (.seq #[.str (.ofString "_cached") 221, .str (.ofString "_set_fileattr") 222, .str (.ofString "_uninitialized_submodules") 223, .str (.ofString "loader") 224, .str (.ofString "loader_state") 225, .str (.ofString "name") 226, .str (.ofString "origin") 227, .str (.ofString "submodule_search_locations") 228] 0) #[],
  .mk (.type "getset_descriptor") none (.fields #[.str (.ofString "__dict__") 239, .ref 23, .builtin "function.__dict__", .builtin "function.__dict__#set"]) #[],
  .mk (.type "getset_descriptor") none (.fields #[.str (.ofString "__weakref__") 241, .ref 23, .builtin "ExceptionGroup.__weakref__", .none]) #[],
  .mk (.ref 23) (some 21) (.plain) #[],
  .mk (.none) none (.seq #[.int 12 0, .str ⟨#[6, 250, 8, 95, 95, 110, 97, 109, 101, 95, 95, 6, 249, 12, 95, 99, 111, 108, 108, 101, 99, 116, 105, 111, 110, 115, 6, 251, 7, 95, 95, 100, 111, 99, 95, 95, 9, 31, 95, 99, 111, 108, 108, 101, 99, 116, 105, 111, 110, 115, 46, 95, 95, 100, 111, 99, 95, 95, 58, 115, 116, 114, 35, 111, 112, 97, 113, 117, 101, 6, 253, 11, 95, 95, 112, 97, 99, 107, 97, 103, 101, 95, 95, 6, 252, 0, 6, 254, 10, 95, 95, 108, 111, 97, 100, 101, 114, 95, 95, 4, 0, 0, 15, 6, 255, 8, 95, 95, 115, 112, 101, 99, 95, 95, 4, 0, 0, 27, 6, 256, 15, 95, 99, 111, 117, 110, 116, 95, 101, 108, 101, 109, 101, 110, 116, 115, 9, 28, 95, 99, 111, 108, 108, 101, 99, 116, 105, 111, 110, 115, 46, 95, 99, 111, 117, 110, 116, 95, 101, 108, 101, 109, 101, 110, 116, 115, 6, 257, 5, 100, 101, 113, 117, 101, 8, 17, 99, 111, 108, 108, 101, 99, 116, 105, 111, 110, 115, 46, 100, 101, 113, 117, 101, 6, 258, 11, 100, 101, 102, 97, 117, 108, 116, 100, 105, 99, 116, 8, 23, 99, 111, 108, 108, 101, 99, 116, 105, 111, 110, 115, 46, 100, 101, 102, 97, 117, 108, 116, 100, 105, 99, 116, 6, 259, 15, 95, 100, 101, 113, 117, 101, 95, 105, 116, 101, 114, 97, 116, 111, 114, 8, 27, 99, 111, 108, 108, 101, 99, 116, 105, 111, 110, 115, 46, 95, 100, 101, 113, 117, 101, 95, 105, 116, 101, 114, 97, 116, 111, 114, 6, 260, 23, 95, 100, 101, 113, 117, 101, 95, 114, 101, 118, 101, 114, 115, 101, 95, 105, 116, 101, 114, 97, 116, 111, 114, 8, 35, 99, 111, 108, 108, 101, 99, 116, 105, 111, 110, 115, 46, 95, 100, 101, 113, 117, 101, 95, 114, 101, 118, 101, 114, 115, 101, 95, 105, 116, 101, 114, 97, 116, 111, 114, 6, 261, 12, 95, 116, 117, 112, 108, 101, 103, 101, 116, 116, 101, 114, 8, 24, 99, 111, 108, 108, 101, 99, 116, 105, 111, 110, 115, 46, 95, 116, 117, 112, 108, 101, 103, 101, 116, 116, 101, 114, 6, 262, 11, 79, 114, 100, 101, 114, 101, 100, 68, 105, 99, 116, 8, 23, 99, 111, 108, 108, 101, 99, 116, 105, 111, 110, 115, 46, 79, 114, 100, 101, 114, 101, 100, 68, 105, 99, 116]⟩ 0, .bool true, .bool false, .str (.ofString "_collections") 264] 0) #[],
  .mk (.type "tuple") none (.seq #[] 0) #[],
  .mk (.none) none (.fields #[.int 2 0, .int 0 0, .ref 38, .int 6 0, .int 0 0, .ref 45, .int 9 0, .int 0 0, .ref 52, .int 17 0, .int 0 0, .ref 59, .int 22 0, .int 0 0, .ref 66, .int 27 0, .int 0 0, .ref 73, .int 38 0, .int 0 0, .ref 80, .int 53 0, .int 0 0, .ref 87, .int 58 0, .int 0 0, .ref 94, .int 65 0, .int 0 0, .ref 101, .int 67 0, .int 0 0, .ref 114, .int 74 0, .int 0 0, .ref 136, .int 76 0, .int 0 0, .ref 148, .int 78 0, .int 0 0, .ref 160, .int 248 0, .int 0 0, .ref 390, .int 454 0, .int 0 0, .ref 637, .int 475 0, .int 0 0, .ref 644, .int 480 0, .int 0 0, .ref 651, .int 485 0, .int 0 0, .ref 658, .int 488 0, .int 0 0, .ref 665, .int 508 0, .int 0 0, .ref 672, .int 517 0, .int 0 0, .ref 679, .int 770 0, .int 0 0, .ref 774, .int 792 0, .int 0 0, .ref 814, .int 810 0, .int 0 0, .ref 821, .int 818 0, .int 0 0, .ref 826, .int 826 0, .int 0 0, .ref 831, .int 836 0, .int 0 0, .ref 838, .int 843 0, .int 0 0, .ref 843, .int 855 0, .int 0 0, .ref 848]) #[],
  .mk (.type "code") none (.fields #[.str (.ofString "<module>") 274, .str (.ofString "<module>") 275, .str (.ofString "/claim/cut.py") 276, .int 1 0, .int 0 0, .int 0 0, .int 0 0, .int 0 0, .ref 29, .bool false, .int 273 0, .ref 30, .none, .none, .none, .none, .int 277 0, .int 1 0, .str (.ofString "/claim/cut.py") 278]) #[],
  .mk (.type "frame") none (.plain) #[some (.ref 31), some (.ref 3), some (.ref 3), none, some (.str (.ofString "__main__") 164), none, some (.ref 0)],
  .mk (.type "builtin_function_or_method") none (.fields #[.builtin "type.__prepare__", .type "type"]) #[],
  .mk (.type "dict") none (.dict #[.mk (PyData.keyHash P (.ofString "__module__")) (.str (.ofString "__module__") 372) (.str (.ofString "io") 377), .mk (PyData.keyHash P (.ofString "__qualname__")) (.str (.ofString "__qualname__") 374) (.str (.ofString "UnsupportedOperation") 373), .mk (PyData.keyHash P (.ofString "__firstlineno__")) (.str (.ofString "__firstlineno__") 376) (.int 65 375), .mk (PyData.keyHash P (.ofString "__static_attributes__")) (.str (.ofString "__static_attributes__") 379) (.ref 103)] 4) #[],
  .mk (.type "tuple") none (.seq #[] 0) #[],
  .mk (.none) none (.fields #[]) #[],
  .mk (.type "code") none (.fields #[.str (.ofString "UnsupportedOperation") 367, .str (.ofString "UnsupportedOperation") 368, .str (.ofString "/claim/cut.py") 369, .int 65 0, .int 0 0, .int 0 0, .int 0 0, .int 0 0, .ref 99, .bool false, .int 273 0, .ref 100, .none, .none, .none, .none, .int 370 0, .int 65 0, .str (.ofString "/claim/cut.py") 371]) #[],
  .mk (.type "frame") none (.plain) #[some (.ref 101), some (.ref 3), some (.ref 98), none, some (.str (.ofString "io") 347), none, some (.ref 0)],
  .mk (.type "super") none (.fields #[.ref 105, .ref 105, .ref 105]) #[],
  .mk (.type "builtin_function_or_method") none (.fields #[.builtin "object.__init_subclass__", .ref 105]) #[],
  .mk (.type "tuple") none (.seq #[] 0) #[],
  .mk (.type "builtin_function_or_method") none (.fields #[.builtin "type.__prepare__", .type "type"]) #[],
  .mk (.type "dict") none (.dict #[.mk (PyData.keyHash P (.ofString "__module__")) (.str (.ofString "__module__") 394) (.str (.ofString "io") 399), .mk (PyData.keyHash P (.ofString "__qualname__")) (.str (.ofString "__qualname__") 396) (.str (.ofString "IOBase") 395), .mk (PyData.keyHash P (.ofString "__firstlineno__")) (.str (.ofString "__firstlineno__") 398) (.int 67 397), .mk (PyData.keyHash P (.ofString "__new__")) (.str (.ofString "__new__") 409) (.ref 122), .mk (PyData.keyHash P (.ofString "__static_attributes__")) (.str (.ofString "__static_attributes__") 410) (.ref 123)] 5) #[],
  .mk (.type "tuple") none (.seq #[] 0) #[],
  .mk (.none) none (.fields #[.int 70 0, .int 4 0, .ref 121]) #[],
  .mk (.type "code") none (.fields #[.str (.ofString "IOBase") 389, .str (.ofString "IOBase") 390, .str (.ofString "/claim/cut.py") 391, .int 67 0, .int 0 0, .int 0 0, .int 0 0, .int 0 0, .ref 112, .bool false, .int 273 0, .ref 113, .none, .none, .none, .none, .int 392 0, .int 67 0, .str (.ofString "/claim/cut.py") 393]) #[],
  .mk (.type "frame") none (.plain) #[some (.ref 114), some (.ref 3), some (.ref 111), none, some (.str (.ofString "io") 347), none, some (.ref 0)],
  .mk (.type "super") none (.fields #[.ref 125, .ref 125, .ref 125]) #[],
  .mk (.type "builtin_function_or_method") none (.fields #[.builtin "object.__init_subclass__", .ref 125]) #[],
  .mk (.type "builtin_function_or_method") none (.fields #[.builtin "type.__prepare__", .type "type"]) #[],
  .mk (.type "dict") none (.dict #[.mk (PyData.keyHash P (.ofString "__module__")) (.str (.ofString "__module__") 426) (.str (.ofString "io") 431), .mk (PyData.keyHash P (.ofString "__qualname__")) (.str (.ofString "__qualname__") 428) (.str (.ofString "BufferedIOBase") 427), .mk (PyData.keyHash P (.ofString "__firstlineno__")) (.str (.ofString "__firstlineno__") 430) (.int 74 429), .mk (PyData.keyHash P (.ofString "__static_attributes__")) (.str (.ofString "__static_attributes__") 433) (.ref 138)] 4) #[],
  .mk (.type "tuple") none (.seq #[] 0) #[],
  .mk (.none) none (.fields #[]) #[],
  .mk (.type "code") none (.fields #[.str (.ofString "BufferedIOBase") 421, .str (.ofString "BufferedIOBase") 422, .str (.ofString "/claim/cut.py") 423, .int 74 0, .int 0 0, .int 0 0, .int 0 0, .int 0 0, .ref 134, .bool false, .int 273 0, .ref 135, .none, .none, .none, .none, .int 424 0, .int 74 0, .str (.ofString "/claim/cut.py") 425]) #[],
  .mk (.type "frame") none (.plain) #[some (.ref 136), some (.ref 3), some (.ref 133), none, some (.str (.ofString "io") 347), none, some (.ref 0)],
  .mk (.type "super") none (.fields #[.ref 140, .ref 140, .ref 140]) #[],
  .mk (.type "builtin_function_or_method") none (.fields #[.builtin "object.__init_subclass__", .ref 140]) #[],
  .mk (.type "builtin_function_or_method") none (.fields #[.builtin "type.__prepare__", .type "type"]) #[],
  .mk (.type "dict") none (.dict #[.mk (PyData.keyHash P (.ofString "__module__")) (.str (.ofString "__module__") 444) (.str (.ofString "io") 449), .mk (PyData.keyHash P (.ofString "__qualname__")) (.str (.ofString "__qualname__") 446) (.str (.ofString "TextIOBase") 445), .mk (PyData.keyHash P (.ofString "__firstlineno__")) (.str (.ofString "__firstlineno__") 448) (.int 76 447), .mk (PyData.keyHash P (.ofString "__static_attributes__")) (.str (.ofString "__static_attributes__") 451) (.ref 150)] 4) #[],
  .mk (.type "tuple") none (.seq #[] 0) #[],
  .mk (.none) none (.fields #[]) #[],
  .mk (.type "code") none (.fields #[.str (.ofString "TextIOBase") 439, .str (.ofString "TextIOBase") 440, .str (.ofString "/claim/cut.py") 441, .int 76 0, .int 0 0, .int 0 0, .int 0 0, .int 0 0, .ref 146, .bool false, .int 273 0, .ref 147, .none, .none, .none, .none, .int 442 0, .int 76 0, .str (.ofString "/claim/cut.py") 443]) #[],
  .mk (.type "frame") none (.plain) #[some (.ref 148), some (.ref 3), some (.ref 145), none, some (.str (.ofString "io") 347), none, some (.ref 0)],
  .mk (.type "super") none (.fields #[.ref 152, .ref 152, .ref 152]) #[],
  .mk (.type "builtin_function_or_method") none (.fields #[.builtin "object.__init_subclass__", .ref 152]) #[],
  .mk (.type "builtin_function_or_method") none (.fields #[.builtin "type.__prepare__", .type "type"]) #[],
  .mk (.type "dict") none (.dict #[.mk (PyData.keyHash P (.ofString "__module__")) (.str (.ofString "__module__") 462) (.str (.ofString "_io") 467), .mk (PyData.keyHash P (.ofString "__qualname__")) (.str (.ofString "__qualname__") 464) (.str (.ofString "BytesIO") 463), .mk (PyData.keyHash P (.ofString "__firstlineno__")) (.str (.ofString "__firstlineno__") 466) (.int 78 465), .mk (PyData.keyHash P (.ofString "__init__")) (.str (.ofString "__init__") 476) (.ref 169), .mk (PyData.keyHash P (.ofString "_BytesIO__check")) (.str (.ofString "_BytesIO__check") 483) (.ref 176), .mk (PyData.keyHash P (.ofString "_BytesIO__line")) (.str (.ofString "_BytesIO__line") 494) (.ref 183), .mk (PyData.keyHash P (.ofString "closed")) (.str (.ofString "closed") 502) (.ref 191), .mk (PyData.keyHash P (.ofString "close")) (.str (.ofString "close") 509) (.ref 198), .mk (PyData.keyHash P (.ofString "__enter__")) (.str (.ofString "__enter__") 516) (.ref 205), .mk (PyData.keyHash P (.ofString "__exit__")) (.str (.ofString "__exit__") 524) (.ref 212), .mk (PyData.keyHash P (.ofString "readable")) (.str (.ofString "readable") 531) (.ref 219), .mk (PyData.keyHash P (.ofString "writable")) (.str (.ofString "writable") 538) (.ref 226), .mk (PyData.keyHash P (.ofString "seekable")) (.str (.ofString "seekable") 545) (.ref 233), .mk (PyData.keyHash P (.ofString "isatty")) (.str (.ofString "isatty") 552) (.ref 240), .mk (PyData.keyHash P (.ofString "flush")) (.str (.ofString "flush") 559) (.ref 247), .mk (PyData.keyHash P (.ofString "fileno")) (.str (.ofString "fileno") 566) (.ref 254), .mk (PyData.keyHash P (.ofString "detach")) (.str (.ofString "detach") 573) (.ref 261), .mk (PyData.keyHash P (.ofString "getvalue")) (.str (.ofString "getvalue") 580) (.ref 268), .mk (PyData.keyHash P (.ofString "getbuffer")) (.str (.ofString "getbuffer") 587) (.ref 275), .mk (PyData.keyHash P (.ofString "tell")) (.str (.ofString "tell") 594) (.ref 282), .mk (PyData.keyHash P (.ofString "seek")) (.str (.ofString "seek") 604) (.ref 290), .mk (PyData.keyHash P (.ofString "truncate")) (.str (.ofString "truncate") 612) (.ref 298), .mk (PyData.keyHash P (.ofString "read")) (.str (.ofString "read") 624) (.ref 306), .mk (PyData.keyHash P (.ofString "read1")) (.str (.ofString "read1") 634) (.ref 314), .mk (PyData.keyHash P (.ofString "readinto")) (.str (.ofString "readinto") 644) (.ref 321), .mk (PyData.keyHash P (.ofString "readinto1")) (.str (.ofString "readinto1") 652) (.ref 328), .mk (PyData.keyHash P (.ofString "readline")) (.str (.ofString "readline") 662) (.ref 336), .mk (PyData.keyHash P (.ofString "readlines")) (.str (.ofString "readlines") 670) (.ref 344), .mk (PyData.keyHash P (.ofString "__iter__")) (.str (.ofString "__iter__") 677) (.ref 351), .mk (PyData.keyHash P (.ofString "__next__")) (.str (.ofString "__next__") 685) (.ref 358), .mk (PyData.keyHash P (.ofString "write")) (.str (.ofString "write") 695) (.ref 365), .mk (PyData.keyHash P (.ofString "writelines")) (.str (.ofString "writelines") 703) (.ref 372), .mk (PyData.keyHash P (.ofString "__repr__")) (.str (.ofString "__repr__") 710) (.ref 379), .mk (PyData.keyHash P (.ofString "__static_attributes__")) (.str (.ofString "__static_attributes__") 713) (.ref 380)] 34) #[],
  .mk (.type "tuple") none (.seq #[] 0) #[],
  .mk (.none) none (.fields #[.int 81 0, .int 4 0, .ref 168, .int 87 0, .int 4 0, .ref 175, .int 91 0, .int 4 0, .ref 182, .int 105 0, .int 4 0, .ref 189, .int 108 0, .int 4 0, .ref 197, .int 111 0, .int 4 0, .ref 204, .int 115 0, .int 4 0, .ref 211, .int 118 0, .int 4 0, .ref 218, .int 122 0, .int 4 0, .ref 225, .int 126 0, .int 4 0, .ref 232, .int 130 0, .int 4 0, .ref 239, .int 134 0, .int 4 0, .ref 246, .int 137 0, .int 4 0, .ref 253, .int 140 0, .int 4 0, .ref 260, .int 143 0, .int 4 0, .ref 267, .int 146 0, .int 4 0, .ref 274, .int 149 0, .int 4 0, .ref 281, .int 153 0, .int 4 0, .ref 289, .int 170 0, .int 4 0, .ref 297, .int 173 0, .int 4 0, .ref 305, .int 187 0, .int 4 0, .ref 313, .int 190 0, .int 4 0, .ref 320, .int 204 0, .int 4 0, .ref 327, .int 207 0, .int 4 0, .ref 335, .int 214 0, .int 4 0, .ref 343, .int 217 0, .int 4 0, .ref 350, .int 220 0, .int 4 0, .ref 357, .int 227 0, .int 4 0, .ref 364, .int 243 0, .int 4 0, .ref 371, .int 246 0, .int 4 0, .ref 378]) #[],
  .mk (.type "code") none (.fields #[.str (.ofString "BytesIO") 457, .str (.ofString "BytesIO") 458, .str (.ofString "/claim/cut.py") 459, .int 78 0, .int 0 0, .int 0 0, .int 0 0, .int 0 0, .ref 158, .bool false, .int 273 0, .ref 159, .none, .none, .none, .none, .int 460 0, .int 78 0, .str (.ofString "/claim/cut.py") 461]) #[],
  .mk (.type "frame") none (.plain) #[some (.ref 160), some (.ref 3), some (.ref 157), none, some (.str (.ofString "io") 347), none, some (.ref 0)],
  .mk (.type "super") none (.fields #[.ref 382, .ref 382, .ref 382]) #[],
  .mk (.type "builtin_function_or_method") none (.fields #[.builtin "object.__init_subclass__", .ref 382]) #[],
  .mk (.type "builtin_function_or_method") none (.fields #[.builtin "type.__prepare__", .type "type"]) #[],
  .mk (.type "dict") none (.dict #[.mk (PyData.keyHash P (.ofString "__module__")) (.str (.ofString "__module__") 724) (.str (.ofString "_io") 729), .mk (PyData.keyHash P (.ofString "__qualname__")) (.str (.ofString "__qualname__") 726) (.str (.ofString "StringIO") 725), .mk (PyData.keyHash P (.ofString "__firstlineno__")) (.str (.ofString "__firstlineno__") 728) (.int 248 727), .mk (PyData.keyHash P (.ofString "__init__")) (.str (.ofString "__init__") 741) (.ref 399), .mk (PyData.keyHash P (.ofString "_StringIO__translated")) (.str (.ofString "_StringIO__translated") 750) (.ref 406), .mk (PyData.keyHash P (.ofString "_StringIO__check")) (.str (.ofString "_StringIO__check") 757) (.ref 413), .mk (PyData.keyHash P (.ofString "_StringIO__check_dot")) (.str (.ofString "_StringIO__check_dot") 764) (.ref 420), .mk (PyData.keyHash P (.ofString "_StringIO__line")) (.str (.ofString "_StringIO__line") 779) (.ref 427), .mk (PyData.keyHash P (.ofString "closed")) (.str (.ofString "closed") 787) (.ref 435), .mk (PyData.keyHash P (.ofString "line_buffering")) (.str (.ofString "line_buffering") 795) (.ref 443), .mk (PyData.keyHash P (.ofString "newlines")) (.str (.ofString "newlines") 803) (.ref 451), .mk (PyData.keyHash P (.ofString "encoding")) (.str (.ofString "encoding") 811) (.ref 459), .mk (PyData.keyHash P (.ofString "errors")) (.str (.ofString "errors") 819) (.ref 467), .mk (PyData.keyHash P (.ofString "close")) (.str (.ofString "close") 826) (.ref 474), .mk (PyData.keyHash P (.ofString "__enter__")) (.str (.ofString "__enter__") 833) (.ref 481), .mk (PyData.keyHash P (.ofString "__exit__")) (.str (.ofString "__exit__") 841) (.ref 488), .mk (PyData.keyHash P (.ofString "readable")) (.str (.ofString "readable") 848) (.ref 495), .mk (PyData.keyHash P (.ofString "writable")) (.str (.ofString "writable") 855) (.ref 502), .mk (PyData.keyHash P (.ofString "seekable")) (.str (.ofString "seekable") 862) (.ref 509), .mk (PyData.keyHash P (.ofString "isatty")) (.str (.ofString "isatty") 869) (.ref 516), .mk (PyData.keyHash P (.ofString "flush")) (.str (.ofString "flush") 876) (.ref 523), .mk (PyData.keyHash P (.ofString "fileno")) (.str (.ofString "fileno") 883) (.ref 530), .mk (PyData.keyHash P (.ofString "detach")) (.str (.ofString "detach") 890) (.ref 537), .mk (PyData.keyHash P (.ofString "getvalue")) (.str (.ofString "getvalue") 897) (.ref 544), .mk (PyData.keyHash P (.ofString "tell")) (.str (.ofString "tell") 904) (.ref 551), .mk (PyData.keyHash P (.ofString "seek")) (.str (.ofString "seek") 914) (.ref 559), .mk (PyData.keyHash P (.ofString "truncate")) (.str (.ofString "truncate") 922) (.ref 567), .mk (PyData.keyHash P (.ofString "read")) (.str (.ofString "read") 934) (.ref 575), .mk (PyData.keyHash P (.ofString "readline")) (.str (.ofString "readline") 944) (.ref 583), .mk (PyData.keyHash P (.ofString "readlines")) (.str (.ofString "readlines") 954) (.ref 591), .mk (PyData.keyHash P (.ofString "__iter__")) (.str (.ofString "__iter__") 961) (.ref 598), .mk (PyData.keyHash P (.ofString "__next__")) (.str (.ofString "__next__") 969) (.ref 605), .mk (PyData.keyHash P (.ofString "write")) (.str (.ofString "write") 981) (.ref 612), .mk (PyData.keyHash P (.ofString "writelines")) (.str (.ofString "writelines") 989) (.ref 619), .mk (PyData.keyHash P (.ofString "__repr__")) (.str (.ofString "__repr__") 996) (.ref 626), .mk (PyData.keyHash P (.ofString "__static_attributes__")) (.str (.ofString "__static_attributes__") 1000) (.ref 627)] 36) #[],
  .mk (.type "tuple") none (.seq #[] 0) #[],
  .mk (.none) none (.fields #[.int 251 0, .int 4 0, .ref 398, .int 264 0, .int 4 0, .ref 405, .int 272 0, .int 4 0, .ref 412, .int 276 0, .int 4 0, .ref 419, .int 280 0, .int 4 0, .ref 426, .int 313 0, .int 4 0, .ref 433, .int 317 0, .int 4 0, .ref 441, .int 321 0, .int 4 0, .ref 449, .int 325 0, .int 4 0, .ref 457, .int 329 0, .int 4 0, .ref 465, .int 332 0, .int 4 0, .ref 473, .int 335 0, .int 4 0, .ref 480, .int 339 0, .int 4 0, .ref 487, .int 342 0, .int 4 0, .ref 494, .int 346 0, .int 4 0, .ref 501, .int 350 0, .int 4 0, .ref 508, .int 354 0, .int 4 0, .ref 515, .int 358 0, .int 4 0, .ref 522, .int 361 0, .int 4 0, .ref 529, .int 364 0, .int 4 0, .ref 536, .int 367 0, .int 4 0, .ref 543, .int 370 0, .int 4 0, .ref 550, .int 374 0, .int 4 0, .ref 558, .int 391 0, .int 4 0, .ref 566, .int 394 0, .int 4 0, .ref 574, .int 408 0, .int 4 0, .ref 582, .int 415 0, .int 4 0, .ref 590, .int 418 0, .int 4 0, .ref 597, .int 422 0, .int 4 0, .ref 604, .int 429 0, .int 4 0, .ref 611, .int 448 0, .int 4 0, .ref 618, .int 451 0, .int 4 0, .ref 625]) #[],
  .mk (.type "code") none (.fields #[.str (.ofString "StringIO") 719, .str (.ofString "StringIO") 720, .str (.ofString "/claim/cut.py") 721, .int 248 0, .int 0 0, .int 0 0, .int 0 0, .int 0 0, .ref 388, .bool false, .int 273 0, .ref 389, .none, .none, .none, .none, .int 722 0, .int 248 0, .str (.ofString "/claim/cut.py") 723]) #[],
  .mk (.type "frame") none (.plain) #[some (.ref 390), some (.ref 3), some (.ref 387), none, some (.str (.ofString "io") 347), none, some (.ref 0)],
  .mk (.type "super") none (.fields #[.ref 629, .ref 629, .ref 629]) #[],
  .mk (.type "builtin_function_or_method") none (.fields #[.builtin "object.__init_subclass__", .ref 629]) #[],
  .mk (.type "tuple") none (.seq #[] 0) #[],
  .mk (.type "builtin_function_or_method") none (.fields #[.builtin "type.__prepare__", .type "type"]) #[],
  .mk (.type "dict") none (.dict #[.mk (PyData.keyHash P (.ofString "__module__")) (.str (.ofString "__module__") 1071) (.str (.ofString "cpy313.shlex") 1062), .mk (PyData.keyHash P (.ofString "__qualname__")) (.str (.ofString "__qualname__") 1073) (.str (.ofString "shlex") 1072), .mk (PyData.keyHash P (.ofString "__firstlineno__")) (.str (.ofString "__firstlineno__") 1075) (.int 517 1074), .mk (PyData.keyHash P (.ofString "__init__")) (.str (.ofString "__init__") 1087) (.ref 688), .mk (PyData.keyHash P (.ofString "punctuation_chars")) (.str (.ofString "punctuation_chars") 1095) (.ref 696), .mk (PyData.keyHash P (.ofString "push_token")) (.str (.ofString "push_token") 1103) (.ref 703), .mk (PyData.keyHash P (.ofString "push_source")) (.str (.ofString "push_source") 1112) (.ref 711), .mk (PyData.keyHash P (.ofString "pop_source")) (.str (.ofString "pop_source") 1119) (.ref 718), .mk (PyData.keyHash P (.ofString "get_token")) (.str (.ofString "get_token") 1131) (.ref 725), .mk (PyData.keyHash P (.ofString "read_token")) (.str (.ofString "read_token") 1142) (.ref 732), .mk (PyData.keyHash P (.ofString "sourcehook")) (.str (.ofString "sourcehook") 1150) (.ref 739), .mk (PyData.keyHash P (.ofString "error_leader")) (.str (.ofString "error_leader") 1159) (.ref 747), .mk (PyData.keyHash P (.ofString "__iter__")) (.str (.ofString "__iter__") 1166) (.ref 754), .mk (PyData.keyHash P (.ofString "__next__")) (.str (.ofString "__next__") 1174) (.ref 761), .mk (PyData.keyHash P (.ofString "__static_attributes__")) (.str (.ofString "__static_attributes__") 1195) (.ref 762)] 15) #[],
  .mk (.type "tuple") none (.seq #[] 0) #[],
  .mk (.none) none (.fields #[.int 519 0, .int 4 0, .ref 687, .int 561 0, .int 4 0, .ref 694, .int 564 0, .int 4 0, .ref 702, .int 567 0, .int 4 0, .ref 710, .int 580 0, .int 4 0, .ref 717, .int 587 0, .int 4 0, .ref 724, .int 614 0, .int 4 0, .ref 731, .int 751 0, .int 4 0, .ref 738, .int 758 0, .int 4 0, .ref 746, .int 761 0, .int 4 0, .ref 753, .int 764 0, .int 4 0, .ref 760]) #[],
  .mk (.type "code") none (.fields #[.str (.ofString "shlex") 1066, .str (.ofString "shlex") 1067, .str (.ofString "/claim/cut.py") 1068, .int 517 0, .int 0 0, .int 0 0, .int 0 0, .int 0 0, .ref 677, .bool false, .int 273 0, .ref 678, .none, .none, .none, .none, .int 1069 0, .int 517 0, .str (.ofString "/claim/cut.py") 1070]) #[],
  .mk (.type "frame") none (.plain) #[some (.ref 679), some (.ref 3), some (.ref 676), none, some (.str (.ofString "cpy313.shlex") 1062), none, some (.ref 0)],
  .mk (.type "super") none (.fields #[.ref 764, .ref 764, .ref 764]) #[],
  .mk (.type "builtin_function_or_method") none (.fields #[.builtin "object.__init_subclass__", .ref 764]) #[]]
noncomputable def pool (P : Params) : List Obj := mg [(16, 17), (64, 6), (4, 9), (13, 2), (1, 6), (3, 2), (1, 6), (3, 2), (1, 6), (221, 2), (1, 6), (238, 2), (42, 7), (86, 2), (81, 0)] ((hp.heap_1 P).map Prod.snd) (xL P)
noncomputable def lf : Life := ({ os := { stdin := #[] } } : Shared).heap.life
noncomputable def tr (n : Nat) (l : List (Nat × (Obj → Obj))) (P : Params) : BT := lay 12 (pat l ((pool P).take n))
@[reducible] noncomputable def sT (n k : Nat) (l : List (Nat × (Obj → Obj))) (w : World) (os : OsState) : SharedT := ⟨tr n l w.params, n, lf, #[], {}, k, os⟩
noncomputable def nV (s : String) (k : Nat) : Value := .str (.ofString s) k
@[reducible] noncomputable def S0 := sT 29 273 [(2, dpre 10), (0, npre 9 (nV "__main__" 164))]
@[reducible] noncomputable def S1 := sT 33 279 [(2, dpre 10), (0, npre 9 (nV "__main__" 164)), (26, fpre 0)]
@[reducible] noncomputable def S2 := sT 155 455 [(3, npre 22 (nV "io" 347)), (26, fpre 39), (109, cpre 0), (11, cpre 0)]
@[reducible] noncomputable def S3 := sT 385 717 [(3, npre 23 (nV "io" 347)), (26, fpre 42), (121, cpre 0)]
@[reducible] noncomputable def S4 := sT 632 1004 [(3, npre 24 (nV "io" 347)), (26, fpre 45)]
@[reducible] noncomputable def S5 := sT 850 1335 []
noncomputable def eV : Env := { scope := PG.main.scope, locals := mainNs, globals := mainNs, cells := [], code := .ref 31, frame := some 32 }
noncomputable def bd : List Stmt := behindTheImports PG
noncomputable def cD : Code := .body bd eV
@[reducible] noncomputable def ann : Option Value := some (.ref 6)
@[reducible] noncomputable def p0 : Pos := ⟨0, 0, 0, 0⟩
@[reducible] noncomputable def p2 : Pos := ⟨76, 0, 77, 21⟩
@[reducible] noncomputable def p3 : Pos := ⟨78, 0, 247, 17⟩
@[reducible] noncomputable def p4 : Pos := ⟨248, 0, 452, 17⟩
@[reducible] noncomputable def p5 : Pos := ⟨855, 0, 869, 94⟩
theorem wSs_and (A : TablesWhole.Alg Bool) (hb : A.both = fun a b => a && b) (hu : A.unit = true) (top : Scope) (cx : TablesWhole.Ctx) (sc : Scope) : ∀ (l r : List Stmt), TablesWhole.wSs A top cx sc l = true → TablesWhole.wSs A top cx sc r = true → TablesWhole.wSs A top cx sc (l ++ r) = true
  | [], r, _, h => h
  | s :: l, r, h1, h2 => by
    have e : ∀ x, TablesWhole.wSs A top cx sc (s :: x) = A.both (TablesWhole.wS A top cx sc s) (TablesWhole.wSs A top cx sc x) := fun _ => rfl
    rw [List.cons_append, e, hb]
    rw [e, hb] at h1
    dsimp only at h1 ⊢
    rw [Bool.and_eq_true] at h1 ⊢
    exact ⟨h1.1, wSs_and A hb hu top cx sc l r h1.2 h2⟩
theorem tg : TablesWhole.wSs TablesWhole.gather PySem.Challenge.pw_nq0274_01.main.scope ⟨PySem.Challenge.pw_nq0274_01.main.scope, [], [], [], none⟩ PySem.Challenge.pw_nq0274_01.main.scope PySem.Challenge.pw_nq0274_01.main.body = [] := by
  rw [PySem.W.Fast.te16421684217811934046, PySem.W.Fast.te12652042256554560961]
  kernel_rfl
theorem th1 : TablesWhole.wSs TablesWhole.holds PySem.Challenge.pw_nq0274_01.main.scope ⟨PySem.Challenge.pw_nq0274_01.main.scope, [], [], [], none⟩ PySem.Challenge.pw_nq0274_01.main.scope (PySem.Challenge.pw_nq0274_01.main.body.take 16) = true := by
  unfold TablesWhole.holds
  rw [PySem.W.Fast.te16421684217811934046, PySem.W.Fast.te15985051520779696433]
  kernel_rfl
theorem th2 : TablesWhole.wSs TablesWhole.holds PySem.Challenge.pw_nq0274_01.main.scope ⟨PySem.Challenge.pw_nq0274_01.main.scope, [], [], [], none⟩ PySem.Challenge.pw_nq0274_01.main.scope ((PySem.Challenge.pw_nq0274_01.main.body.drop 16).take 1) = true := by
  unfold TablesWhole.holds
  rw [PySem.W.Fast.te16421684217811934046, PySem.W.Fast.te15985051520779696433]
  kernel_rfl
theorem th3 : TablesWhole.wSs TablesWhole.holds PySem.Challenge.pw_nq0274_01.main.scope ⟨PySem.Challenge.pw_nq0274_01.main.scope, [], [], [], none⟩ PySem.Challenge.pw_nq0274_01.main.scope ((PySem.Challenge.pw_nq0274_01.main.body.drop 17).take 1) = true := by
  unfold TablesWhole.holds
  rw [PySem.W.Fast.te16421684217811934046, PySem.W.Fast.te15985051520779696433]
  kernel_rfl
theorem th4 : TablesWhole.wSs TablesWhole.holds PySem.Challenge.pw_nq0274_01.main.scope ⟨PySem.Challenge.pw_nq0274_01.main.scope, [], [], [], none⟩ PySem.Challenge.pw_nq0274_01.main.scope (PySem.Challenge.pw_nq0274_01.main.body.drop 18) = true := by
  unfold TablesWhole.holds
  rw [PySem.W.Fast.te16421684217811934046, PySem.W.Fast.te15985051520779696433]
  kernel_rfl
theorem tw : PySem.Challenge.pw_nq0274_01.tablesWhole = true := by
  unfold Program.tablesWhole TablesWhole.wProgram TablesWhole.wModule
  rw [tg]
  have e : TablesWhole.wSs TablesWhole.holds PySem.Challenge.pw_nq0274_01.main.scope ⟨PySem.Challenge.pw_nq0274_01.main.scope, [], [], [], none⟩ PySem.Challenge.pw_nq0274_01.main.scope PySem.Challenge.pw_nq0274_01.main.body = true := by
    rw [← List.take_append_drop 16 PySem.Challenge.pw_nq0274_01.main.body]
    refine wSs_and _ rfl rfl _ _ _ _ _ th1 ?_
    rw [← List.take_append_drop 1 (PySem.Challenge.pw_nq0274_01.main.body.drop 16)]
    refine wSs_and _ rfl rfl _ _ _ _ _ th2 ?_
    rw [List.drop_drop, ← List.take_append_drop 1 (PySem.Challenge.pw_nq0274_01.main.body.drop (16 + 1))]
    refine wSs_and _ rfl rfl _ _ _ _ _ th3 ?_
    rw [List.drop_drop]
    exact th4
  dsimp only
  rw [e]
  kernel_rfl
theorem ok1 : (chainsOk vw && opensWell PySem.Challenge.rw_nq0274_01.row.prog && (frees PySem.Challenge.rw_nq0274_01.row.toRowW && PySem.Challenge.rw_nq0274_01.row.within.isEmpty)) = true := by
  kernel_rfl
theorem op (w : World) : (impT Thread.atExitBegin (stepT (denote treeTable) (opening PG) w) 11056 (startT { stdin := #[] }) (start (opening PG)).2).bind (fenceT (Str.ofString "_collections")) = some (S0 w { stdin := #[] }) := by
  rw [PySem.W.Fast.te11892475500146522536, PySem.W.Fast.te14364793385576792824, PySem.W.Fast.te10156331382660048174, PySem.W.Fast.te3805553451399329143, PySem.W.Fast.te1435165496053646825]
  kernel_rfl
theorem gp (w : World) (os : OsState) : goT (stepT (denote treeTable) PG w) (stepOk 29 ann) 12 (S0 w os) (topStub PG) = some (S1 w os, ⟨denote treeTable cD, cD, p0, [topFrame p0]⟩) := by
  rw [PySem.W.Fast.te11892475500146522536, PySem.W.Fast.te14364793385576792824, PySem.W.Fast.te10156331382660048174, PySem.W.Fast.te6613529449190102663]
  kernel_rfl
theorem gb (w : World) (os : OsState) : segT (stepT (denote treeTable) PG w) (stepOk 29 ann) 1 (S1 w os) (blockOf bd eV cD p0 [topFrame p0]) = some (.next, S1 w os, cD, p0) := by
  unfold blockOf
  rw [PySem.W.Fast.te11892475500146522536, PySem.W.Fast.te14364793385576792824, PySem.W.Fast.te10156331382660048174, PySem.W.Fast.te6613529449190102663, PySem.W.Fast.te1066825118222455980]
  kernel_rfl
theorem g1 (w : World) (os : OsState) : segT (stepT (denote treeTable) PG w) (stepOk 29 ann) 1192 (S1 w os) (piecesOf (bd.take 15) eV cD p0 [topFrame p0]) = some (.next, S2 w os, cD, p2) := by
  unfold piecesOf
  rw [PySem.W.Fast.te11892475500146522536, PySem.W.Fast.te14364793385576792824, PySem.W.Fast.te10156331382660048174, PySem.W.Fast.te6613529449190102663, PySem.W.Fast.te12563942051412417395]
  kernel_rfl
theorem g2 (w : World) (os : OsState) : segT (stepT (denote treeTable) PG w) (stepOk 29 ann) 1278 (S2 w os) (piecesOf ((bd.drop 15).take 1) eV cD p2 [topFrame p0]) = some (.next, S3 w os, cD, p3) := by
  unfold piecesOf
  rw [PySem.W.Fast.te11892475500146522536, PySem.W.Fast.te14364793385576792824, PySem.W.Fast.te10156331382660048174, PySem.W.Fast.te6613529449190102663, PySem.W.Fast.te12563942051412417395]
  kernel_rfl
theorem g3 (w : World) (os : OsState) : segT (stepT (denote treeTable) PG w) (stepOk 29 ann) 1578 (S3 w os) (piecesOf ((bd.drop 16).take 1) eV cD p3 [topFrame p0]) = some (.next, S4 w os, cD, p4) := by
  unfold piecesOf
  rw [PySem.W.Fast.te11892475500146522536, PySem.W.Fast.te14364793385576792824, PySem.W.Fast.te10156331382660048174, PySem.W.Fast.te6613529449190102663, PySem.W.Fast.te12563942051412417395]
  kernel_rfl
theorem g4 (w : World) (os : OsState) : segT (stepT (denote treeTable) PG w) (stepOk 29 ann) 1421 (S4 w os) (piecesOf (bd.drop 17) eV cD p4 [topFrame p0]) = some (.next, S5 w os, cD, p5) := by
  unfold piecesOf
  rw [PySem.W.Fast.te11892475500146522536, PySem.W.Fast.te14364793385576792824, PySem.W.Fast.te10156331382660048174, PySem.W.Fast.te6613529449190102663, PySem.W.Fast.te12563942051412417395]
  kernel_rfl
theorem gf (w : World) (os : OsState) : runT (stepT (denote treeTable) PG w) (stepOk 29 ann) 2 (S5 w os) ⟨doneF .next, cD, p5, [topFrame p0]⟩ = some (S5 w os) := by
  rw [PySem.W.Fast.te11892475500146522536, PySem.W.Fast.te14364793385576792824, PySem.W.Fast.te10156331382660048174, PySem.W.Fast.te6613529449190102663]
  kernel_rfl
theorem run (w : World) (os : OsState) : topRun treeTable PG w 29 ann (12 + (1 + (1192 + (1278 + (1578 + (1421 + 2)))))) (S0 w os).abs (topStub PG) = some (S5 w os).abs := by
  refine go_top (goT_of (gp w os)) (piece_block (b := bd) (env := eV) (segT_of (gb w os)) ?_)
  rw [cut4 bd]
  exact piece_app (segT_of (g1 w os)) (piece_app (segT_of (g2 w os)) (piece_app (segT_of (g3 w os)) (piece_app (segT_of (g4 w os)) (piece_nil (runT_of (gf w os))))))
theorem lz (w : World) : ((S0 w {}).abs.heap.isNs mainGlobals && (S0 w {}).abs.gens.size == 0, (S0 w {}).abs.heap.objs.size, (S0 w {}).abs.heap.nsMap mainGlobals "__annotations__") = (true, 29, ann) := by
  kernel_rfl
theorem la (w : World) (os : OsState) : (staticsOk (importedModules PG.main.body) (S0 w os).abs.heap (S5 w os).abs.heap && namesBound PG (S5 w os).abs.heap && gensDone (S5 w os).abs && laidKept (S0 w os).abs.heap (S5 w os).abs.heap) = true := by
  rw [PySem.W.Fast.te5923862056798008813]
  kernel_rfl
theorem c0 (w : World) (os : OsState) : seen ((recsOf vw).map (·.name)) (ownsOf vw) [] { (S5 w os).abs with gens := #[] } = expectedOf vw := by
  rw [PySem.W.Fast.te5160383126252970620]
  rw [PySem.W.Fast.te3399658132070893891]
  rw [PySem.W.Fast.te5991557255702980513]
  kernel_rfl
theorem c1 (w : World) (os : OsState) : (S5 w os).abs.heap.bltView = bltViewBooted := by
  kernel_rfl
theorem c2 (w : World) (os : OsState) : (S5 w os).abs.heap.keysOk (looseW vw ls0) ((recsOf vw).map (·.name)) ((litsOf vw).map (·.1)) ((clssOf vw (looseW vw ls0)).map (·.name)) = true := by
  rw [PySem.W.Fast.te10880121769531294198]
  rw [PySem.W.Fast.te821141287760084731]
  rw [PySem.W.Fast.te3399658132070893891]
  rw [PySem.W.Fast.te7409074990110511671]
  rw [PySem.W.Fast.te13664370479719496447]
  kernel_rfl
theorem c3 (w : World) (os : OsState) : (S5 w os).abs.heap.accountedOkI (importedModules PG.main.body) = true := by
  rw [PySem.W.Fast.te14722251495701143533]
  rw [PySem.W.Fast.te5923862056798008813]
  kernel_rfl
theorem cm (w : World) (os : OsState) : (S5 w os).abs.heap.isNs mainGlobals = true := by
  kernel_rfl
theorem cn (w : World) (os : OsState) : (S5 w os).abs.heap.isNs builtinsNs = true := by
  kernel_rfl
theorem c4 (w : World) (os : OsState) : tablesOk vw (S5 w os).abs.heap = true := by
  rw [PySem.W.Fast.te10994771534591457954]
  kernel_rfl
theorem c5 (w : World) (os : OsState) : (xlAt vw lv0 (S5 w os).abs && recOk [] (S5 w os).abs) = true := by
  kernel_rfl
theorem c6 (w : World) (os : OsState) : tabsOk vw (S5 w os).abs = true := by
  rw [PySem.W.Fast.te479339242167458305]
  kernel_rfl
theorem c7 (w : World) (os : OsState) : pinSeenD vw (drecsOf vw) (S5 w os).abs = pinGoodD (drecsOf vw) := by
  rw [PySem.W.Fast.te16090120013241838585]
  kernel_rfl
theorem c8 (w : World) (os : OsState) : plainSeenE vw (looseW vw ls0) (S5 w os).abs = plainGoodE vw (looseW vw ls0) := by
  rw [PySem.W.Fast.te2386780881361962483]
  rw [PySem.W.Fast.te821141287760084731]
  kernel_rfl
theorem c9 (w : World) (os : OsState) : plainSeenD vw ls0 (S5 w os).abs = plainGoodD vw ls0 := by
  rw [PySem.W.Fast.te11698064438423848299]
  kernel_rfl
theorem ca (w : World) (os : OsState) : wideSeen vw (S5 w os).abs = wideGood vw := by
  rw [PySem.W.Fast.te7317090234206586261]
  kernel_rfl
theorem cb (w : World) (os : OsState) : clsSeenW vw ls0 (S5 w os).abs = clsGoodW vw ls0 := by
  rw [PySem.W.Fast.te7369524293546568484]
  kernel_rfl
theorem lb (w : World) (os : OsState) : openSeen vw ls0 (importedModules PG.main.body) (fun s => xlAt vw lv0 s && recOk [] s) true (S5 w os).abs = openGood vw ls0 :=
  looks_pair (c0 w os) (looks_pair (c1 w os) (looks_pair (look_both (look_both (look_both (look_both (look_both (look_both (c2 w os) (c3 w os)) (cm w os)) (cn w os)) (c4 w os)) (c5 w os)) rfl)
    (looks_pair (c6 w os) (looks_pair (c7 w os) (looks_pair (c8 w os) (looks_pair (c9 w os) (looks_pair (ca w os) (cb w os))))))))
theorem left {as : List Addr} {Ya : World → List (Option Obj)} (h : ∀ (w : World) (os : OsState), as.map (getT (S5 w os)) = Ya w) : LeftO PG vw ls0 (fun s => xlAt vw lv0 s && recOk [] s) (fun s => as.map s.heap.get?) Ya 11056 :=
  LeftO.of_pieces (H₀ := fun P => absHeap (tr 29 [(2, dpre 10), (0, npre 9 (nV "__main__" 164))] P) 29 lf) (H₁ := fun P => absHeap (tr 850 [] P) 850 lf)
    (fun w => by
      rw [open_ofT im1 im2 { stdin := #[] } st1 (op w)]
      rfl)
    lz run (by decide)
    (fun w => funext fun os => looks_pair (la w os) (looks_pair (lb w os) (by
      have e : as.map (getT (S5 w os)) = as.map (S5 w os).abs.heap.get? := List.map_congr_left fun a _ => getT_eq (S5 w os) a
      exact e.symm.trans (h w os))))
theorem head {d : DefRec} {kwd : List (Str × Expr)} (H : Hook) (left : LeftO PG vw ls0 (fun s => xlAt vw lv0 s && recOk [] s) (Hook.obs H) (Hook.val H) 11056)
    (hdef : defOf vw PySem.Challenge.rw_nq0274_01.row.name = some (d, kwd)) (hp : PG.theDef PySem.Challenge.rw_nq0274_01.row.name = some (d.params, d.body, d.scope)) (hk : kwWritten? d.params.kwonlyargs d.params.kw_defaults = some kwd)
    (k1 : PySem.Challenge.rw_nq0274_01.row.wellSaid = true) (hw : PySem.Challenge.rw_nq0274_01.row.toRowW.promised)
    (hc : WalkO vw ls0 (XL vw lv0) (Hook.says H) PySem.Challenge.rw_nq0274_01.row.toRowW d kwd fun f vs => PySem.call f vs) : PySem.Challenge.rw_nq0274_01.row.Holds :=
  holds_open (q := vw) (loose := ls0) (Xt := fun s => xlAt vw lv0 s && recOk [] s) (XP := XL vw lv0) (N := 11056) left (Hook.of H) (Hook.keeps H) (fun _ e => xl_of _ (Bool.and_eq_true_iff.mp e).1) XL.keeps hdef hp hk
    (fun _ e => recFacts_of (Bool.and_eq_true_iff.mp e).2) rfl k1 ok1 ⟨rfl, rfl, rfl, rfl, rfl, tw⟩ hw hc
end N
local macro_rules | `(tactic| k_head) => `(tactic| x_head)
local macro_rules | `(tactic| o_head $H) => `(tactic| refine N.head $H (N.left fun w os => by kernel_rfl) (by rfl) (by rfl) (by rfl) (by assumption) ?hw ?hc)
open_top hd for PySem.Challenge.rw_nq0274_01
end Mine
/-! text Y0 -/
namespace Mine
open PySem PySem.W PySem.Calls PySem.Spec PyProof.Rows

/-- the frame's own facts: its names, what it has at hand -/
structure Z (h₀ : Heap) (L : Addr) (h : Heap) (m : Str → Option Value) (news : List (Addr × Obj)) : Prop where
  F : Fr h₀ L h m
  N : News h₀ L h news
  nd : (news.map (·.1)).Nodup

@[reducible] noncomputable def mset (m : Str → Option Value) (x : Str) (v : Value) : Str → Option Value := fun y => if y = x then some v else m y
theorem mset_eq {m : Str → Option Value} {x : Str} {v : Value} : mset m x v x = some v := if_pos rfl
theorem mset_ne {m : Str → Option Value} {x y : Str} {v : Value} {r : Option Value} (h : y ≠ x) (e : m y = r) : mset m x v y = r := (if_neg h).trans e

theorem upd_of {q : Addr} {o o' : Obj} : ∀ {news : List (Addr × Obj)} {i : Nat}, (news.map (·.1)).Nodup → news[i]? = some (q, o) → Upd q o o' news (news.set i (q, o'))
  | [], _, _, h => by cases h
  | p :: r, 0, nd, h => by
    cases h
    rw [List.map_cons, List.nodup_cons] at nd
    exact .head fun p hp e => nd.1 (by have q := List.mem_map_of_mem (f := fun x : Addr × Obj => x.1) hp; rw [e] at q; exact q)
  | p :: r, i + 1, nd, h => by
    rw [List.map_cons, List.nodup_cons] at nd
    have h' : r[i]? = some (q, o) := by simpa using h
    refine .tail (fun e => nd.1 ?_) (upd_of nd.2 h')
    rw [e]
    exact List.mem_map_of_mem (List.mem_of_getElem? h')
theorem keys_set {q : Addr} {o o' : Obj} {news : List (Addr × Obj)} {i : Nat} (h : news[i]? = some (q, o)) : (news.set i (q, o')).map (·.1) = news.map (·.1) := by
  rw [List.map_set]
  apply List.ext_getElem?
  intro j
  rw [List.getElem?_set]
  split
  · rename_i e
    subst e
    rw [List.getElem?_map, h]
    simp
    exact (List.getElem?_eq_some_iff.mp h).1
  · rfl
theorem set_at {q : Addr} {o o' : Obj} {news : List (Addr × Obj)} {i : Nat} (h : news[i]? = some (q, o)) : (news.set i (q, o'))[i]? = some (q, o') := by
  rw [List.getElem?_set_self]
  exact (List.getElem?_eq_some_iff.mp h).1
theorem set_same {q : Addr} {o : Obj} {news : List (Addr × Obj)} {i : Nat} (h : news[i]? = some (q, o)) : news.set i (q, o) = news := by
  apply List.ext_getElem?
  intro j
  rw [List.getElem?_set]
  split
  · rename_i e
    subst e
    obtain ⟨h1, h2⟩ := List.getElem?_eq_some_iff.mp h
    simp [h1, h2]
  · rfl
theorem set_off {q : Addr} {o' : Obj} {r : Option (Addr × Obj)} {news : List (Addr × Obj)} {i j : Nat} (hij : i ≠ j) (h : news[j]? = r) : (news.set i (q, o'))[j]? = r := by
  rw [List.getElem?_set_ne hij]; exact h

/-- a state: all but the heap and the counter stands -/
noncomputable def St (s : Shared) (h : Heap) (tk : Nat) : Shared := { s with heap := h, toks := tk }
/-- a list of ints -/
noncomputable def LI (xs : List Int) (o : Obj) : Prop := ∃ vs n, o = listOf vs.toArray n ∧ IntsAre vs xs

noncomputable def then_ (M : Model) (A : Around) (E : Value → Shared → Prop) (env : Env) (rest : List Stmt) (Q : Flow → Shared → Prop) : Flow → Shared → Prop := fun f s =>
  match f with
  | .next => wpAny M A (execs rest env) Q E s
  | f => Q f s

section
variable {M : Model} {A : Around} {E : Value → Shared → Prop} {s : Shared} {env : Env} {Q : Flow → Shared → Prop} {rest : List Stmt}
theorem y_nil (h : Q .next s) : wpAny M A (execs [] env) Q E s := wpAny_execs_nil h
theorem y_nil_then {env' : Env} (h : wpAny M A (execs rest env) Q E s) : wpAny M A (execs [] env') (then_ M A E env rest Q) E s := wpAny_execs_nil h
theorem y_assign {x p value pos} (h : wpAny M A (eval value env) (fun v s₁ => wpAny M A (storeName env x v) (fun _ s₂ => wpAny M A (execs rest env) Q E s₂) E s₁) E s)
    (hs : swapsWith value (some (.Name x p)) pos.line env = pure false := by kernel_rfl) : wpAny M A (execs (.Assign [.Name x p] value pos :: rest) env) Q E s :=
  wpAny_execs_cons (wpAny_Assign_Name h hs)
theorem y_aug {x p op value pos} (h : wpAny M A (loadName env x) (fun old s₁ => wpAny M A (eval value env) (fun v s₂ => wpAny M A (inplaceOp op old v)
      (fun r s₃ => wpAny M A (storeName env x r) (fun _ s₄ => wpAny M A (execs rest env) Q E s₄) E s₃) E s₂) E s₁) E s) : wpAny M A (execs (.AugAssign (.Name x p) op value pos :: rest) env) Q E s :=
  wpAny_execs_cons (wpAny_AugAssign_Name h)
theorem y_if {test body orelse pos} (h : wpAny M A (isTrue test env (eval test env)) (fun b s₂ => if b then wpAny M A (execs body env) (then_ M A E env rest Q) E s₂ else wpAny M A (execs orelse env) (then_ M A E env rest Q) E s₂) E s) :
    wpAny M A (execs (.If test body orelse pos :: rest) env) Q E s := by
  refine wpAny_execs_cons (wpAny_If (wpAny_mono h (fun b s₂ h₂ => ?_) fun _ _ x => x))
  cases b <;> exact wpAny_mono h₂ (fun f s₃ h₃ => by cases f <;> exact h₃) fun _ _ x => x
theorem y_ret {e pos} (h : wpAny M A (eval e env) (fun v s' => Q (.ret v) s') E s) : wpAny M A (execs (.Return (some e) pos :: rest) env) Q E s :=
  wpAny_execs_cons (wpAny_Return_some h)
theorem y_break {pos} (h : Q .brk s) : wpAny M A (execs (.Break pos :: rest) env) Q E s := wpAny_execs_cons (wpAny_Break h)
theorem y_continue {pos} (h : Q .cont s) : wpAny M A (execs (.Continue pos :: rest) env) Q E s := wpAny_execs_cons (wpAny_Continue h)
theorem y_expr {e pos} (h : wpAny M A (eval e env) (fun v s' => match v with | .ref _ => False | _ => wpAny M A (execs rest env) Q E s') E s)
    (hi : interactive env = false := by kernel_rfl) (hs : swapsWith e none pos.line env = pure false := by kernel_rfl) : wpAny M A (execs (.Expr e pos :: rest) env) Q E s :=
  wpAny_execs_cons (wpAny_Expr (wpAny_mono h (fun v s' h' => by cases v <;> exact h') fun _ _ x => x) hi hs)
theorem y_stmt {st} (h : wpAny M A (exec st env) (then_ M A E env rest Q) E s) : wpAny M A (execs (st :: rest) env) Q E s :=
  wpAny_execs_cons (wpAny_mono h (fun f s₃ h₃ => by cases f <;> exact h₃) fun _ _ x => x)
end
end Mine
/-! text Y1 -/
namespace Mine
open PySem PySem.W PySem.Calls PySem.Spec PyProof.Rows

structure Fix (K : Frag) (p : Program) (loose : List Str) (mean : ExcName → Option Value) (mg mb : Str → Option Value) (A₀ : Around) (base : Heap) (outer : List Env) (h₀ : Heap) : Prop where
  B : Below A₀ base outer h₀
  X : K.In h₀
  T : Top p loose mean mg mb h₀

noncomputable def Ctr (prog : Program) (w : World) (K : Frag) (p : Program) (loose : List Str) (mean : ExcName → Option Value) (mg mb : Str → Option Value) (f : Addr) (D U : Nat) (args : List Value) (news : List (Addr × Obj)) (post : Value → List (Addr × Obj) → Prop) : Prop :=
  ∀ (dp un : Nat) (gd : Option (List Code)) (cn : Str) (cs : Scope) (a : Addr) (ccd : Value) (cl : List (Str × Addr)) (outer : List Env) (A₀ : Around) (base h₀ : Heap) (L : Addr) (m : Str → Option Value) (s : Shared) (h : Heap) (tk : Nat) (R : Result → Shared → Prop),
    Fix K p loose mean mg mb A₀ base outer h₀ → Z h₀ L h m news → cs.kind = .function → dp + D < 450 → un + U < 450 →
    (∀ r news' h' tk', post r news' → Z h₀ L h' m news' → R (.ok (.ret r)) (St s h' tk')) →
    codeAny (model prog w) (ktrTop dp un gd cn cs L a ccd cl outer) (.call (.ref f) ⟨args, []⟩) R (St s h tk)

noncomputable def DoneQ (g : Heap) (L : Addr) (s : Shared) (post : Value → List (Addr × Obj) → Prop) : Flow → Shared → Prop := fun fl s' =>
  ∃ m' news' h' tk', s' = St s h' tk' ∧ Z g L h' m' news' ∧ post (match fl with | .ret v => v | _ => .none) news'

theorem done_ret {g : Heap} {L : Addr} {s : Shared} {post : Value → List (Addr × Obj) → Prop} {v : Value} {h' : Heap} {tk' : Nat} {m' : Str → Option Value} {news' : List (Addr × Obj)} (z : Z g L h' m' news') (h : post v news') :
    DoneQ g L s post (.ret v) (St s h' tk') := ⟨m', news', h', tk', rfl, z, h⟩
theorem done_next {g : Heap} {L : Addr} {s : Shared} {post : Value → List (Addr × Obj) → Prop} {h' : Heap} {tk' : Nat} {m' : Str → Option Value} {news' : List (Addr × Obj)} (z : Z g L h' m' news') (h : post .none news') :
    DoneQ g L s post .next (St s h' tk') := ⟨m', news', h', tk', rfl, z, h⟩

section
variable {prog : Program} {w : World} {K : Frag} {p : Program} {loose : List Str} {mean : ExcName → Option Value} {mg mb : Str → Option Value} {f : Addr}

theorem ctr_of {D U : Nat} {args : List Value} {news : List (Addr × Obj)} {post : Value → List (Addr × Obj) → Prop}
    {name qual : Str} {params : Arguments} {body : List Stmt} {scope : Scope} {dV kV doc pm cdv ct oc : Value} {an od : Option Addr} {osl : Array (Option Value)} {binds : List (Str × Value)}
    (ho : K.lookup f = some ⟨oc, od, .func (fnOf name qual params body scope dV kV doc pm an cdv ct), osl⟩) (hcd : codeIn K cdv qual = true)
    (hbind : ∀ s : Shared, K.In s.heap → BindsTo s (fnOf name qual params body scope dV kV doc pm an cdv ct) ⟨args, []⟩ binds) (hloc : ∀ y ∈ binds, scope.names.lookup y.1 = some .local)
    (h : ∀ (dp un : Nat) (gd : Option (List Code)) (outer : List Env) (A₀ : Around) (base g : Heap) (L : Addr) (h₁ : Heap) (s : Shared) (tk : Nat),
      Fix K p loose mean mg mb A₀ base outer g → Z g L h₁ (fun y => binds.reverse.lookup y) news → dp + D ≤ 450 → un + U < 453 →
      wpAny (model prog w) (ktrTop dp un gd qual scope L f cdv [] outer) (execs body (envX qual scope L f cdv [])) (DoneQ g L s post) (fun _ _ => False) (St s h₁ tk))
    (hco : scope.isCoroutine = false) (hgen : scope.isGenerator = false) (hk : scope.kind = .function)
    (hcell : ∀ x ∈ scope.names, x.2 ≠ .cell) : Ctr prog w K p loose mean mg mb f D U args news post := by
  intro dp un gd cn cs a ccd cl outer A₀ base h₀ L m s h₂ tk₂ R fx z hks hd hu hret
  refine code_def (s := St s h₂ tk₂) fx.B z.F fx.X z.N fx.T rfl rfl hks ho hcd (by show dp < 1000; omega) (hbind _ (fx.X.keeps z.F.keep)) hloc ?_ hco hgen hk hcell
  intro g L' h₁ FG F' N' B' X' T'
  refine wpAny_mono (h (dp + 1) (un + 3) gd _ _ base g L' h₁ s _ ⟨B', X', T'⟩ ⟨F', N', z.nd⟩ (by omega) (by omega)) ?_ (fun _ _ x => x.elim)
  rintro fl s' ⟨m', news', h', tk', rfl, z', hp⟩
  refine leaveK_ z'.F z'.N fun F₂ N₂ => ?_
  exact hret _ _ _ _ hp ⟨F₂, N₂, z'.nd⟩
theorem lookup_of_mem {x : Str} {v : Value} : ∀ {l : List (Str × Value)}, (l.map (·.1)).Nodup → (x, v) ∈ l → l.lookup x = some v
  | (y, u) :: r, nd, hm => by
    rw [List.map_cons, List.nodup_cons] at nd
    rw [List.lookup_cons]
    rcases List.mem_cons.mp hm with e | hm'
    · cases e
      simp
    · have : (x == y) = false := by
        cases hb : x == y with
        | false => rfl
        | true =>
          have e := eq_of_beq hb
          subst e
          exact absurd (List.mem_map_of_mem (f := fun q : Str × Value => q.1) hm') nd.1
      rw [this]
      exact lookup_of_mem nd.2 hm'

/-- as ctr_of, the frame's names told one by one -/
theorem ctr_by {D U : Nat} {args : List Value} {news : List (Addr × Obj)} {post : Value → List (Addr × Obj) → Prop} (binds : List (Str × Value))
    {name qual : Str} {params : Arguments} {body : List Stmt} {scope : Scope} {dV kV doc pm cdv ct oc : Value} {an od : Option Addr} {osl : Array (Option Value)}
    (ho : K.lookup f = some ⟨oc, od, .func (fnOf name qual params body scope dV kV doc pm an cdv ct), osl⟩) (hcd : codeIn K cdv qual = true)
    (hbind : ∀ s : Shared, K.In s.heap → BindsTo s (fnOf name qual params body scope dV kV doc pm an cdv ct) ⟨args, []⟩ binds) (hloc : ∀ y ∈ binds, scope.names.lookup y.1 = some .local)
    (hnd : decide ((binds.map (·.1)).Nodup) = true)
    (hco : scope.isCoroutine = false) (hgen : scope.isGenerator = false) (hk : scope.kind = .function)
    (hcell : ∀ x ∈ scope.names, x.2 ≠ .cell)
    (h : ∀ (dp un : Nat) (gd : Option (List Code)) (outer : List Env) (A₀ : Around) (base g : Heap) (L : Addr) (h₁ : Heap) (s : Shared) (tk : Nat) (m : Str → Option Value),
      (∀ x v, (x, v) ∈ binds → m x = some v) → Fix K p loose mean mg mb A₀ base outer g → Z g L h₁ m news → dp + D ≤ 450 → un + U < 453 →
      wpAny (model prog w) (ktrTop dp un gd qual scope L f cdv [] outer) (execs body (envX qual scope L f cdv [])) (DoneQ g L s post) (fun _ _ => False) (St s h₁ tk))
    : Ctr prog w K p loose mean mg mb f D U args news post :=
  ctr_of ho hcd hbind hloc (fun dp un gd outer A₀ base g L h₁ s tk fx z hd hu => h dp un gd outer A₀ base g L h₁ s tk _ (fun x v hm => lookup_of_mem (by rw [List.map_reverse]; unfold List.Nodup; rw [List.pairwise_reverse]; exact (of_decide_eq_true hnd).imp Ne.symm) (List.mem_reverse.mpr hm)) fx z hd hu) hco hgen hk hcell
end
end Mine
/-! text Y2 -/
namespace Mine
open PySem PySem.W PySem.Calls PySem.Spec PyProof.Rows

section
variable {M : Model} {A A₀ : Around} {E : Value → Shared → Prop} {s : Shared} {K : Frag} {h₀ base : Heap} {outer : List Env} {L a : Addr} {mg mb : Str → Option Value} {cn : Str} {cs : Scope} {ccd : Value} {cl : List (Str × Addr)} {p : Program} {loose : List Str} {mean : ExcName → Option Value} {h : Heap} {tk : Nat} {m : Str → Option Value}
  {x : Str} {pos : Pos} {v : Value} {Q : Value → Shared → Prop} {news : List (Addr × Obj)}
theorem y_ld (z : Z h₀ L h m news) (hv : m x = some v) (k : Q v (St s h tk))
    (hk : cs.kind = .function := by kernel_rfl) (hx : (envX cn cs L a ccd cl).kindOf x = some .local := by kernel_rfl) (hd : (x == ("__debug__" : Str)) = false := by kernel_rfl) :
    wpAny M A (eval (.Name x pos) (envX cn cs L a ccd cl)) Q E (St s h tk) := nameX_L (s := St s h tk) z.F hv k hk hx hd
theorem y_ldn (z : Z h₀ L h m news) (hv : m x = some v) (k : Q v (St s h tk))
    (hk : cs.kind = .function := by kernel_rfl) (hx : (envX cn cs L a ccd cl).kindOf x = some .local := by kernel_rfl) :
    wpAny M A (loadName (envX cn cs L a ccd cl) x) Q E (St s h tk) := wpAny_loadName_local (s := St s h tk) hk hx z.F.ns hv k
theorem y_fn (fx : Fix K p loose mean mg mb A₀ base outer h₀) (z : Z h₀ L h m news) (e : nsIn K mainGlobals x = some (some v)) (k : Q v (St s h tk))
    (hk : cs.kind = .function := by kernel_rfl) (hx : (envX cn cs L a ccd cl).kindOf x = some .globalImplicit := by kernel_rfl) (hd : (x == ("__debug__" : Str)) = false := by kernel_rfl) :
    wpAny M A (eval (.Name x pos) (envX cn cs L a ccd cl)) Q E (St s h tk) := nameX_K (s := St s h tk) z.F fx.X (topRead_of fx.T) e k hk hx hd
theorem y_bi (fx : Fix K p loose mean mg mb A₀ base outer h₀) (z : Z h₀ L h m news) (e : nsIn K mainGlobals x = some none) (hv : bootBuiltins x = some v) (hn : x ≠ "__name__") (k : Q v (St s h tk))
    (hk : cs.kind = .function := by kernel_rfl) (hx : (envX cn cs L a ccd cl).kindOf x = some .globalImplicit := by kernel_rfl) (hd : (x == ("__debug__" : Str)) = false := by kernel_rfl) :
    wpAny M A (eval (.Name x pos) (envX cn cs L a ccd cl)) Q E (St s h tk) := nameX_B (s := St s h tk) z.F fx.X (topRead_of fx.T) e hv hn k hk hx hd
theorem y_st {Q : Unit → Shared → Prop} (z : Z h₀ L h m news)
    (k : ∀ h', Z h₀ L h' (mset m x v) news → Q () (St s h' (tk + 1)))
    (hk : cs.kind = .function := by kernel_rfl) (hx : (envX cn cs L a ccd cl).kindOf x = some .local := by kernel_rfl) : wpAny M A (storeName (envX cn cs L a ccd cl) x v) Q E (St s h tk) :=
  storeX_L (s := St s h tk) z.F z.N (fun h' F' N' => k h' ⟨F', N', z.nd⟩) hk hx
end

theorem ints_snoc {x : Int} {u : Tok} {vs : List Value} {xs : List Int} (hi : IntsAre vs xs) : IntsAre (vs ++ [.int x u]) (xs ++ [x]) := by
  induction hi with
  | nil => exact .cons _ _ .nil
  | cons i t r ih => exact .cons _ _ ih
section
variable {prog : Program} {w : World} {A : Around} {E : Value → Shared → Prop} {s : Shared} {h₀ : Heap} {L : Addr} {h : Heap} {tk : Nat} {q : Addr} {m : Str → Option Value} {news : List (Addr × Obj)} {i : Nat} {o : Obj} {xs : List Int} {k x : Int} {t u : Tok}
/-- a list's item -/
theorem y_item {value slice : Expr} {Q : Value → Shared → Prop} (z : Z h₀ L h m news) (hq : news[i]? = some (q, o)) (ho : LI xs o) (h0 : 0 ≤ k) (h1 : k < xs.length) (hfit : xs.length < 2 ^ 40)
    (kk : ∀ t, Q (.int (xs.getD k.toNat 0) t) (St s h tk))
    (hs : subscripted slice false (.ref q) (.int k u) = operate [.ref q, .int k u] (getItem (.ref q) (.int k u)) := by kernel_rfl) :
    wpAny (model prog w) A (subscriptTail value slice (.ref q) (.int k u)) Q E (St s h tk) := by
  obtain ⟨vs, n, rfl, hi⟩ := ho
  exact ksa_sub (s := St s h tk) z.N (List.mem_of_getElem? hq) hi h0 h1 (by omega) kk hs
theorem y_set {Q : Unit → Shared → Prop} (z : Z h₀ L h m news) (hq : news[i]? = some (q, o)) (ho : LI xs o) (h0 : 0 ≤ k) (h1 : k < xs.length) (hfit : xs.length < 2 ^ 40)
    (kk : ∀ h' o', LI (xs.set k.toNat x) o' → Z h₀ L h' m (news.set i (q, o')) → Q () (St s h' tk)) :
    wpAny (model prog w) A (setItem (.ref q) (.int k t) (.int x u)) Q E (St s h tk) := by
  obtain ⟨vs, n, rfl, hi⟩ := ho
  refine ksa_set (s := St s h tk) z.F z.N (upd_of z.nd hq) hi h0 h1 (by omega) fun h' F' N' hi' _ _ => ?_
  exact kk h' _ ⟨_, _, rfl, hi'⟩ ⟨F', N', by rw [keys_set hq]; exact z.nd⟩
theorem y_append {Q : Value → Shared → Prop} (z : Z h₀ L h m news) (hq : news[i]? = some (q, o)) (ho : LI xs o) (hfit : xs.length < 2 ^ 20)
    (kk : ∀ h' o', LI (xs ++ [x]) o' → Z h₀ L h' m (news.set i (q, o')) → Q .none (St s h' tk)) :
    wpAny (model prog w) A (call (.builtin "list.append") [.ref q, .int x u]) Q E (St s h tk) := by
  obtain ⟨vs, n, rfl, hi⟩ := ho
  have hl := hi.length
  exact append_K (s := St s h tk) z.F z.N (upd_of z.nd hq) (fun h' F' N' => kk h' _ ⟨vs ++ [.int x u], n + 1, by simp, ints_snoc hi⟩ ⟨F', N', by rw [keys_set hq]; exact z.nd⟩) (by rw [sizeLine_eq, List.size_toArray]; omega)
theorem y_pop {Q : Value → Shared → Prop} (z : Z h₀ L h m news) (hq : news[i]? = some (q, o)) (ho : LI xs o) (hne : 0 < xs.length) (hfit : xs.length < 2 ^ 20)
    (kk : ∀ h' o' t, LI xs.dropLast o' → Z h₀ L h' m (news.set i (q, o')) → Q (.int (xs.getLastD 0) t) (St s h' tk)) :
    wpAny (model prog w) A (call (.builtin "list.pop") [.ref q]) Q E (St s h tk) := by
  obtain ⟨vs, n, rfl, hi⟩ := ho
  have hl := hi.length
  exact kpa_pop (s := St s h tk) z.F z.N (upd_of z.nd hq) hi (by omega) (by rw [sizeLine_eq]; omega) fun h' t F' N' hi' => kk h' _ t ⟨_, _, rfl, hi'⟩ ⟨F', N', by rw [keys_set hq]; exact z.nd⟩
theorem y_isList (z : Z h₀ L h m news) (hq : news[i]? = some (q, o)) (ho : LI xs o) : ∃ vs : List Value, h.IsList q vs.toArray ∧ vs.length = xs.length := by
  obtain ⟨vs, n, rfl, hi⟩ := ho
  exact ⟨vs, PySem.IsL.isList (n := n) (z.N _ (List.mem_of_getElem? hq)).1, hi.length⟩
theorem y_len {Q : Value → Shared → Prop} (z : Z h₀ L h m news) (hq : news[i]? = some (q, o)) (ho : LI xs o) (hfit : xs.length < 2 ^ 40)
    (kk : ∀ t, Q (.int (xs.length : Int) t) (St s h (tk + 2))) : wpAny (model prog w) A (call (.builtin "len") [.ref q]) Q E (St s h tk) := by
  obtain ⟨vs, hl, e⟩ := y_isList z hq ho
  refine len_list (s := St s h tk) hl (by rw [List.size_toArray]; omega) ?_
  rw [List.size_toArray, e]
  exact kk _
theorem y_truth {Q : Bool → Shared → Prop} (z : Z h₀ L h m news) (hq : news[i]? = some (q, o)) (ho : LI xs o) (hfit : xs.length < 2 ^ 40)
    (kk : Q (!xs.isEmpty) (St s h (tk + 2))) : wpAny (model prog w) A (truthy (.ref q)) Q E (St s h tk) := by
  obtain ⟨vs, hl, e⟩ := y_isList z hq ho
  refine wpAny_truthy_list (s := St s h tk) hl (by rw [List.size_toArray]; omega) ?_
  have : (!vs.toArray.isEmpty) = (!xs.isEmpty) := by
    cases xs <;> cases vs <;> simp at e ⊢
  rw [this]
  exact kk
theorem y_meth {name : Str} {id : String} {pl : Sem Bool} {Q : Value × List Value → Shared → Prop} (z : Z h₀ L h m news) (hq : news[i]? = some (q, o)) (ho : LI xs o) (slot : Slot "list" name id) (hty : typeOf (.builtin id) = pure (.type "method_descriptor"))
    (kk : Q (.builtin id, [.ref q]) (St s h tk)) : wpAny (model prog w) A (getMethod (.ref q) name pl) Q E (St s h tk) := by
  obtain ⟨vs, n, rfl, hi⟩ := ho
  exact listMethod_K (s := St s h tk) z.N (List.mem_of_getElem? hq) slot hty kk
end
end Mine
/-! text Y3 -/
namespace Mine
open PySem PySem.W PySem.Calls PySem.Spec PyProof.Rows

noncomputable def LoopQ (h₀ : Heap) (L : Addr) (s : Shared) (J : Nat → (Str → Option Value) → List (Addr × Obj) → Prop) (Q : Flow → Shared → Prop) (n : Nat) (f : Flow) (s₃ : Shared) : Prop :=
  match f with
  | .next | .cont => ∃ h' tk m₂ news₂ n', s₃ = St s h' tk ∧ Z h₀ L h' m₂ news₂ ∧ n' < n ∧ J n' m₂ news₂
  | .brk => Q .next s₃
  | .ret v => Q (.ret v) s₃

section
variable {prog : Program} {w : World} {A : Around} {s : Shared} {env : Env} {h₀ : Heap} {L : Addr} {Q : Flow → Shared → Prop} {m : Str → Option Value} {news : List (Addr × Obj)} {rest : List Stmt}
theorem loop_next {J : Nat → (Str → Option Value) → List (Addr × Obj) → Prop} {n n' : Nat} {h' : Heap} {tk : Nat} (z : Z h₀ L h' m news) (hn : n' < n) (hJ : J n' m news) : LoopQ h₀ L s J Q n .next (St s h' tk) :=
  ⟨h', tk, m, news, n', rfl, z, hn, hJ⟩
theorem loop_cont {J : Nat → (Str → Option Value) → List (Addr × Obj) → Prop} {n n' : Nat} {h' : Heap} {tk : Nat} (z : Z h₀ L h' m news) (hn : n' < n) (hJ : J n' m news) : LoopQ h₀ L s J Q n .cont (St s h' tk) :=
  ⟨h', tk, m, news, n', rfl, z, hn, hJ⟩
theorem loop_brk {J : Nat → (Str → Option Value) → List (Addr × Obj) → Prop} {n : Nat} {s' : Shared} (h : Q .next s') : LoopQ h₀ L s J Q n .brk s' := h
theorem loop_ret {J : Nat → (Str → Option Value) → List (Addr × Obj) → Prop} {n : Nat} {s' : Shared} {v : Value} (h : Q (.ret v) s') : LoopQ h₀ L s J Q n (.ret v) s' := h
theorem y_while {test : Expr} {body : List Stmt} {pos : Pos} (J : Nat → (Str → Option Value) → List (Addr × Obj) → Prop) {n₀ : Nat}
    {h : Heap} {tk : Nat} (z : Z h₀ L h m news) (hJ : J n₀ m news)
    (turn : ∀ n m₁ news₁ h₁ tk₁, Z h₀ L h₁ m₁ news₁ → J n m₁ news₁ →
      wpAny (model prog w) A (isTrue test env (eval test env)) (fun b s₂ =>
        if b = true then wpAny (model prog w) A (execs body env) (LoopQ h₀ L s J (then_ (model prog w) A (fun _ _ => False) env rest Q) n) (fun _ _ => False) s₂ else wpAny (model prog w) A (execs rest env) Q (fun _ _ => False) s₂) (fun _ _ => False) (St s h₁ tk₁)) :
    wpAny (model prog w) A (execs (.While test body [] pos :: rest) env) Q (fun _ _ => False) (St s h tk) := by
  refine y_stmt ?_
  refine While_inv2 (s := St s h tk) (fun n m₁ news₁ => J n m₁ news₁ ∧ (news₁.map (·.1)).Nodup) z.F z.N ⟨hJ, z.nd⟩ ?_ PassesOwn.never
  intro n m₁ news₁ h₁ tk₁ F₁ N₁ hJ₁
  refine wpAny_mono (turn n m₁ news₁ h₁ tk₁ ⟨F₁, N₁, hJ₁.2⟩ hJ₁.1) (fun b s₂ h₂ => ?_) fun _ _ x => x
  cases b with
  | false => exact h₂
  | true =>
    simp only [if_true] at h₂ ⊢
    refine wpAny_mono h₂ (fun f s₃ h₃ => ?_) fun _ _ x => x
    cases f with
    | next =>
      obtain ⟨h', tk, m₂, news₂, n', rfl, z', hn, hJ'⟩ := h₃
      exact ⟨h', tk, m₂, news₂, n', rfl, z'.F, z'.N, hn, hJ', z'.nd⟩
    | cont =>
      obtain ⟨h', tk, m₂, news₂, n', rfl, z', hn, hJ'⟩ := h₃
      exact ⟨h', tk, m₂, news₂, n', rfl, z'.F, z'.N, hn, hJ', z'.nd⟩
    | brk => exact h₃
    | ret v => exact h₃
end
section
variable {prog : Program} {w : World} {A : Around} {E : Value → Shared → Prop} {s : Shared} {h : Heap} {tk : Nat} {Q : Value → Shared → Prop} {a b : Int} {t u : Tok}
theorem y_int {M : Model} {env : Env} {i : Int} {c : Nat} {pos : Pos} (k : Q (.int i tk) (St s h (tk + 1))) : wpAny M A (eval (.Constant (.int i) c pos) env) Q E (St s h tk) := wpAny_Constant_int k
theorem y_sub (k : Q (.int (a - b) tk) (St s h (tk + 1))) : wpAny (model prog w) A (binaryOp .Sub (.int a t) (.int b u)) Q E (St s h tk) := sub_int k
theorem y_add (k : Q (.int (a + b) tk) (St s h (tk + 1))) : wpAny (model prog w) A (binaryOp .Add (.int a t) (.int b u)) Q E (St s h tk) := add_int k
theorem y_mul (hm : IntMulOk a b) (k : Q (.int (a * b) tk) (St s h (tk + 1))) : wpAny (model prog w) A (binaryOp .Mult (.int a t) (.int b u)) Q E (St s h tk) := PyProof.Rows.mul_int k hm
theorem y_shr1 {u : Tok} (k : Q (.int (a / 2) tk) (St s h (tk + 1))) : wpAny (model prog w) A (binaryOp .RShift (.int a t) (.int 1 u)) Q E (St s h tk) := by
  refine rshift_int (s := St s h tk) (by decide) ?_
  have : a.fdiv (2 ^ (1 : Int).toNat) = a / 2 := by
    show a.fdiv 2 = a / 2
    rw [Int.fdiv_eq_ediv_of_nonneg _ (by decide)]
  rw [this]
  exact k
theorem y_lt {s : Shared} (k : Q (.bool (decide (a < b))) s) : wpAny (model prog w) A (compareOp .Lt (.int a t) (.int b u)) Q E s := PyProof.Rows.lt_int k
theorem y_gt {s : Shared} (k : Q (.bool (decide (b < a))) s) : wpAny (model prog w) A (compareOp .Gt (.int a t) (.int b u)) Q E s := PyProof.Rows.gt_int k
end
/-- a test's two ways -/
theorem y_split {P : Prop} [Decidable P] {X Y : Prop} (h1 : P → X) (h2 : ¬ P → Y) : if decide P = true then X else Y := by
  by_cases h : P
  · rw [if_pos (by simp [h])]; exact h1 h
  · rw [if_neg (by simp [h])]; exact h2 h
end Mine
namespace Mine
open PySem PySem.W PySem.Calls PySem.Spec PyProof.Rows
section
variable {M : Model} {A : Around} {E : Value → Shared → Prop} {s : Shared} {env : Env} {Q : Flow → Shared → Prop} {rest : List Stmt}
theorem then_cont (h : Q .cont s) : then_ M A E env rest Q .cont s := h
theorem then_brk (h : Q .brk s) : then_ M A E env rest Q .brk s := h
theorem then_ret {v : Value} (h : Q (.ret v) s) : then_ M A E env rest Q (.ret v) s := h
theorem then_next (h : wpAny M A (execs rest env) Q E s) : then_ M A E env rest Q .next s := h
theorem y_assignSub {o i pos' value pos} (h : wpAny M A (eval value env) (fun v s₁ => wpAny M A (eval o env) (fun ov s₂ => wpAny M A (eval i env) (fun iv s₃ =>
      wpAny M A (setItem ov iv v) (fun _ s₄ => wpAny M A (execs rest env) Q E s₄) E s₃) E s₂) E s₁) E s)
    (hs : swapsWith value (some (.Subscript o i pos')) pos.line env = pure false := by kernel_rfl) : wpAny M A (execs (.Assign [.Subscript o i pos'] value pos :: rest) env) Q E s :=
  wpAny_execs_cons (wpAny_Assign_Subscript h hs)
end
end Mine
/-! text Y4 -/
namespace Mine
open PySem PySem.W PySem.Calls PySem.Spec PyProof.Rows
theorem y_ifT {X Y : Prop} (h : X) : if true = true then X else Y := by rw [if_pos rfl]; exact h
theorem y_ifF {X Y : Prop} (h : Y) : if false = true then X else Y := by rw [if_neg Bool.false_ne_true]; exact h
theorem y_splitB {b : Bool} {X Y : Prop} (h1 : b = true → X) (h2 : b = false → Y) : if b = true then X else Y := by
  cases b
  · exact y_ifF (h2 rfl)
  · exact y_ifT (h1 rfl)

section
variable {M : Model} {prog : Program} {w : World} {A A₀ : Around} {E : Value → Shared → Prop} {s : Shared} {K : Frag} {h₀ base : Heap} {outer : List Env} {L a : Addr} {mg mb : Str → Option Value} {p : Program} {loose : List Str} {mean : ExcName → Option Value} {h : Heap} {tk : Nat} {m : Str → Option Value}
  {env : Env} {Q : Value → Shared → Prop} {news : List (Addr × Obj)} {pos : Pos}
theorem y_call {fn : Str} {fp : Pos} {args : List Expr} (k : wpAny M A (eval (.Name fn fp) env) (fun f s₁ => wpAny M A (callWith pos f [] (backTo pos (starEach args env)) []) Q E s₁) E s)
    (he : eval (.Call (.Name fn fp) args [] pos) env = (do callWith pos (← eval (.Name fn fp) env) [] (backTo pos (starEach args env)) (backToKw pos (keywordEach [] env))) := by kernel_rfl) :
    wpAny M A (eval (.Call (.Name fn fp) args [] pos) env) Q E s := Call_ k he
theorem y_cwFn {f : Addr} {e : Expr} {rest : List Expr} (fx : Fix K p loose mean mg mb A₀ base outer h₀) (hk : keepIn K (.ref f) = true) (k : wpAny M A (spliced (backTo pos (starEach (e :: rest) env))) (fun vs s₁ => K.In s₁.heap ∧ wpAny M A (call (.ref f) vs) Q E s₁) E s)
    (he : starEach (e :: rest) env = (false, eval e env) :: starEach rest env := by kernel_rfl) (hplain : (backTo pos (starEach rest env)).any (·.1) = false := by kernel_rfl) :
    wpAny M A (callWith pos (.ref f) [] (backTo pos (starEach (e :: rest) env)) []) Q E s :=
  callWith_K fx.X hk (wpAny_mono k (fun vs s₁ h₁ => ⟨h₁.1, h₁.2⟩) fun _ _ x => x) he hplain
theorem y_cwBi {id : String} {e : Expr} {rest : List Expr}
    (k : wpAny M A (spliced (backTo pos (starEach (e :: rest) env))) (fun vs s₁ => wpAny M A (call (.builtin id) vs) Q E s₁) E s)
    (he : starEach (e :: rest) env = (false, eval e env) :: starEach rest env := by kernel_rfl)
    (hplain : (backTo pos (starEach rest env)).any (·.1) = false := by kernel_rfl) :
    wpAny M A (callWith pos (.builtin id) [] (backTo pos (starEach (e :: rest) env)) []) Q E s := callWith_builtin1 k he hplain
theorem y_args {e : Expr} {rest : List Expr} {Q : List Value → Shared → Prop}
    (k : wpAny M A (eval e env) (fun v s₁ => wpAny M A (spliced (backTo pos (starEach rest env))) (fun vs s₂ => Q (v :: vs) s₂) E s₁) E s)
    (he : starEach (e :: rest) env = (false, eval e env) :: starEach rest env := by kernel_rfl) : wpAny M A (spliced (backTo pos (starEach (e :: rest) env))) Q E s := args_cons k he
theorem y_args0 {Q : List Value → Shared → Prop} (k : Q [] s) : wpAny M A (spliced (backTo pos (starEach [] env))) Q E s := args_nil k
theorem y_andK {P : Prop} (fx : Fix K p loose mean mg mb A₀ base outer h₀) (z : Z h₀ L h m news) (k : P) : K.In (St s h tk).heap ∧ P := ⟨fx.X.keeps z.F.keep, k⟩
theorem Ctr.use {f : Addr} {D U : Nat} {args : List Value} {post : Value → List (Addr × Obj) → Prop} (c : Ctr prog w K p loose mean mg mb f D U args news post)
    {dp un : Nat} {gd : Option (List Code)} {cn : Str} {cs : Scope} {ccd : Value} {cl : List (Str × Addr)}
    (fx : Fix K p loose mean mg mb A₀ base outer h₀) (z : Z h₀ L h m news) (hk : cs.kind = .function) (hd : dp + D < 450) (hu : un + U < 450)
    (ret : ∀ r news' h' tk', post r news' → Z h₀ L h' m news' → Q r (St s h' tk')) :
    wpAny (model prog w) (ktrTop dp un gd cn cs L a ccd cl outer) (call (.ref f) args) Q E (St s h tk) := wpAny_call (c _ _ _ _ _ _ _ _ _ _ _ _ _ _ _ _ _ _ fx z hk hd hu ret)
theorem y_callM {o : Expr} {name : Str} {apos : Pos} {args : List Expr}
    (k : wpAny M A (eval o env) (fun ov s₁ => wpAny M A (getMethod ov name (do return (← importBound o env).getD true)) (fun fx s₂ => wpAny M A (callWith pos fx.1 fx.2 (backTo pos (starEach args env)) []) Q E s₂) E s₁) E s)
    (he : eval (.Call (.Attribute o name apos) args [] pos) env = (do
      let ov ← eval o env
      standAt apos.atName
      let (f, first) ← holding [ov] (getMethod ov name (do return (← importBound o env).getD true))
      callWith pos f first (backTo pos (starEach args env)) []) := by kernel_rfl) : wpAny M A (eval (.Call (.Attribute o name apos) args [] pos) env) Q E s := MethodCall_ k he
theorem y_cwM0 {id : String} {first : List Value} (k : wpAny M A (call (.builtin id) first) Q E s) :
    wpAny M A (callWith pos (.builtin id) first (backTo pos (starEach [] env)) []) Q E s := callWith_method0 k
theorem y_cwM {id : String} {ov : Value} {e : Expr} {rest : List Expr}
    (k : wpAny M A (spliced (backTo pos (starEach (e :: rest) env))) (fun vs s₁ => wpAny M A (call (.builtin id) (ov :: vs)) Q E s₁) E s)
    (he : starEach (e :: rest) env = (false, eval e env) :: starEach rest env := by kernel_rfl)
    (hplain : (backTo pos (starEach rest env)).any (·.1) = false := by kernel_rfl) :
    wpAny M A (callWith pos (.builtin id) [ov] (backTo pos (starEach (e :: rest) env)) []) Q E s := callWith_method1 k he hplain
end
end Mine
/-! text Y5 -/
namespace Mine
open PySem PySem.W PySem.Calls PySem.Spec PyProof.Rows
@[reducible] noncomputable def tupOf (vs : List Value) : Obj := { cls := .type "tuple", data := .seq vs.toArray }
theorem Z.push {h₀ h : Heap} {L : Addr} {m : Str → Option Value} {news : List (Addr × Obj)} (z : Z h₀ L h m news) (o : Obj) (hf : o.isFreed = false := by rfl) : Z h₀ L (h.push o) m (news ++ [(h.objs.size, o)]) := by
  have N' := z.N.push z.F o hf
  refine ⟨z.F.push o, fun p hp => ?_, ?_⟩
  · rcases List.mem_append.mp hp with hp | hp
    · exact N' p (.tail _ hp)
    · rw [List.mem_singleton.mp hp]
      exact N' _ (.head _)
  · rw [List.map_append]
    refine List.nodup_append.mpr ⟨z.nd, by simp, ?_⟩
    intro a ha b hb
    obtain ⟨p, hp, rfl⟩ := List.mem_map.mp ha
    simp only [List.map_cons, List.map_nil, List.mem_singleton] at hb
    subst hb
    exact Nat.ne_of_lt (Heap.lt_size (z.N p hp).1)
theorem Z.drop {h₀ h : Heap} {L : Addr} {m : Str → Option Value} {news news' : List (Addr × Obj)} (z : Z h₀ L h m (news ++ news')) : Z h₀ L h m news := by
  refine ⟨z.F, fun p hp => z.N p (List.mem_append.mpr (.inl hp)), ?_⟩
  have := z.nd
  rw [List.map_append] at this
  exact (List.nodup_append.mp this).1
section
variable {M : Model} {prog : Program} {w : World} {A : Around} {E : Value → Shared → Prop} {s : Shared} {h₀ : Heap} {L : Addr} {env : Env} {h : Heap} {tk : Nat} {m : Str → Option Value} {news : List (Addr × Obj)} {pos : Pos}
theorem y_tuple {elts : List Expr} {c : Nat} {Q : Value → Shared → Prop}
    (k : wpAny M A (spliced (backTo pos (starEach elts env))) (fun vs s₁ => wpAny M A (newTuple vs) Q E s₁) E s) : wpAny M A (eval (.Tuple elts c pos) env) Q E s := Tuple_ k
theorem y_list {elts : List Expr} {Q : Value → Shared → Prop}
    (k : wpAny M A (spliced (backTo pos (starEach elts env))) (fun vs s₁ => wpAny M A (newList vs) Q E s₁) E s) : wpAny M A (eval (.List elts pos) env) Q E s := List_ k
/-- the tuple goes onto the ledger -/
theorem y_newTuple {vs : List Value} {Q : Value → Shared → Prop} (z : Z h₀ L h m news) (hl : vs.length < 1000)
    (k : ∀ a h', Z h₀ L h' m (news ++ [(a, tupOf vs)]) → Q (.ref a) (St s h' tk)) : wpAny M A (newTuple vs) Q E (St s h tk) :=
  wpAny_newObj_type (s := St s h tk) (k _ _ (z.push _)) (by show vs.toArray.size ≤ sizeLine; rw [List.size_toArray, sizeLine_eq]; omega)
theorem y_newList {vs : List Value} {Q : Value → Shared → Prop} (z : Z h₀ L h m news) (hl : vs.length < 1000)
    (k : ∀ a h', Z h₀ L h' m (news ++ [(a, listOf vs.toArray 0)]) → Q (.ref a) (St s h' tk)) : wpAny M A (newList vs) Q E (St s h tk) :=
  wpAny_newObj_type (s := St s h tk) (k _ _ (z.push _)) (by show vs.toArray.size ≤ sizeLine; rw [List.size_toArray, sizeLine_eq]; omega)
/-- a tuple is unpacked and let go -/
theorem y_unpack {elts : List Expr} {c : Nat} {vs : List Value} {t : Addr} {i : Nat} {Q : Unit → Shared → Prop} (z : Z h₀ L h m news) (ht : news[i]? = some (t, tupOf vs)) (hh : A.handled = none)
    (hn : (assignEach elts env).length = vs.length) (hstar : (assignEach elts env).findIdx? (·.1) = none)
    (k : ∀ h', Z h₀ L h' m news → wpAny (model prog w) A (assignInOrder ((assignEach elts env).map (·.2)) vs) Q E (St s h' tk)) :
    wpAny (model prog w) A (assign (.Tuple elts c pos) env (.ref t)) Q E (St s h tk) :=
  unpackN_ (s := St s h tk) (items := vs.toArray) z.F z.N ⟨_, (z.N _ (List.mem_of_getElem? ht)).1, rfl, 0, rfl⟩ hh (by rw [hn, List.size_toArray]) hstar fun h' F' N' => k h' ⟨F', N', z.nd⟩
theorem y_tup2 {t1 t2 : Expr} {c : Nat} {v1 v2 : Value} {Q : Unit → Shared → Prop} (z : Z h₀ L h m news) (hh : A.handled = none)
    (he : assignEach [t1, t2] env = [(false, assign t1 env), (false, assign t2 env)])
    (k : ∀ h', Z h₀ L h' m news → wpAny (model prog w) A (assign t1 env v1) (fun _ s₁ => wpAny (model prog w) A (assign t2 env v2) Q E s₁) E (St s h' tk)) :
    wpAny (model prog w) A (newTuple [v1, v2]) (fun v s₁ => wpAny (model prog w) A (assign (.Tuple [t1, t2] c pos) env v) Q E s₁) E (St s h tk) := by
  refine y_newTuple z (by simp) fun a h' z' => ?_
  refine y_unpack (i := news.length) (vs := [v1, v2]) z' (by simp) hh (by rw [he]; rfl) (by rw [he]; rfl) fun h'' z'' => ?_
  rw [he]
  refine assignInOrder_cons (wpAny_mono (k h'' z''.drop) (fun _ s₁ h₁ => ?_) fun _ _ x => x)
  exact assignInOrder_cons (wpAny_mono h₁ (fun _ s₂ h₂ => assignInOrder_nil h₂) fun _ _ x => x)
theorem y_assignTup {elts c tpos value} {rest : List Stmt} {Q : Flow → Shared → Prop}
    (k : wpAny M A (eval value env) (fun v s₁ => wpAny M A (assign (.Tuple elts c tpos) env v) (fun _ s₂ => wpAny M A (execs rest env) Q E s₂) E s₁) E s)
    (hs : swapsWithSole [.Tuple elts c tpos] value pos.line env = pure false := by kernel_rfl)
    (hw : swappedStores [.Tuple elts c tpos] value env = pure none := by kernel_rfl) : wpAny M A (execs (.Assign [.Tuple elts c tpos] value pos :: rest) env) Q E s :=
  wpAny_execs_cons (Assign_Tuple k hs hw)
theorem y_asName {x : Str} {v : Value} {Q : Unit → Shared → Prop} (k : wpAny M A (storeName env x v) Q E s) : wpAny M A (assign (.Name x pos) env v) Q E s := PyProof.Rows.assign_Name k
theorem y_asSub {o i : Expr} {v : Value} {Q : Unit → Shared → Prop} (k : wpAny M A (eval o env) (fun ov s₁ => wpAny M A (eval i env) (fun iv s₂ => wpAny M A (setItem ov iv v) Q E s₂) E s₁) E s) :
    wpAny M A (assign (.Subscript o i pos) env v) Q E s := by
  rw [assign_Subscript]
  refine wpAny_bind (wpAny_holding (wpAny_mono k (fun ov s₁ h₁ => ?_) fun _ _ x => x))
  refine wpAny_bind (wpAny_holding (wpAny_mono h₁ (fun iv s₂ h₂ => ?_) fun _ _ x => x))
  refine wpAny_bind (wpAny_standAt (wpAny_bind (wpAny_holding (wpAny_mono h₂ (fun _ s₃ h₃ => ?_) fun _ _ x => x))))
  intro Γ p hΓ
  rw [Sem.wp_release]
  exact h₃
end
end Mine
/-! text Y6 -/
namespace Mine
open PySem PySem.W PySem.Calls PySem.Spec PyProof.Rows

theorem isSome_of {o : Option Value} {v : Value} (h : o = some v) : o.isSome = true := by rw [h]; rfl
/-- an object's dict: its names, each a str -/
noncomputable def DI (N : Nat) (am : Str → Option Value) (od : Obj) : Prop :=
  ∃ (es : List DictEntry) (n : Nat), od = dictOf es n ∧ es.length ≤ N ∧ (∀ e ∈ es, ∃ x t, e.key = .str x t) ∧ ∀ x, (es.find? (·.key.isStr x)).map (·.val) = am x
theorem refs_none {es : List DictEntry} (hk : ∀ e ∈ es, ∃ x t, e.key = .str x t) : es.any (·.refKey) = false := by
  rw [List.any_eq_false]
  intro e he
  obtain ⟨x, t, q⟩ := hk e he
  simp [DictEntry.refKey, q]
theorem getL_of {es : List DictEntry} {am : Str → Option Value} (hk : ∀ e ∈ es, ∃ x t, e.key = .str x t) (hf : ∀ x, (es.find? (·.key.isStr x)).map (·.val) = am x) (x : Str) : getL x es = some (am x) := by
  rw [← hf x]
  unfold getL
  cases es.find? (·.key.isStr x) with
  | some e => rfl
  | none => simp [refs_none hk]
theorem putL_len (name : Str) (hsh : Int) (key v : Value) : ∀ es : List DictEntry, (putL name hsh key v es).length ≤ es.length + 1
  | [] => Nat.le_refl _
  | e :: r => by
    unfold putL
    split
    · simp
    · have := putL_len name hsh key v r
      simp only [List.length_cons]; omega
theorem putL_len_old {name : Str} {hsh : Int} {key v : Value} : ∀ {es : List DictEntry}, (es.find? (·.key.isStr name)).isSome = true → (putL name hsh key v es).length = es.length
  | [], h => by cases h
  | e :: r, h => by
    unfold putL
    split
    · simp
    · rename_i q
      simp only [List.length_cons]
      rw [putL_len_old (es := r)]
      rw [List.find?_cons] at h
      simpa [q] using h
theorem putL_keys {name : Str} {hsh : Int} {t : Tok} {v : Value} : ∀ {es : List DictEntry}, (∀ e ∈ es, ∃ x t, e.key = .str x t) → ∀ e ∈ putL name hsh (.str name t) v es, ∃ x t, e.key = .str x t
  | [], _ => fun e he => by
    rw [List.mem_singleton.mp he]
    exact ⟨_, _, rfl⟩
  | e :: r, h => by
    unfold putL
    split
    · intro e' he
      rcases List.mem_cons.mp he with rfl | he
      · exact h e (.head _)
      · exact h e' (.tail _ he)
    · intro e' he
      rcases List.mem_cons.mp he with rfl | he
      · exact h _ (.head _)
      · exact putL_keys (fun e he => h e (.tail _ he)) e' he
theorem isStr_str (x y : Str) (t : Tok) : Value.isStr (.str x t) y = (x == y) := rfl
theorem putL_find? {name : Str} {hsh : Int} {t : Tok} {v : Value} : ∀ {es : List DictEntry}, (∀ e ∈ es, ∃ x t, e.key = .str x t) → ∀ x, ((putL name hsh (.str name t) v es).find? (·.key.isStr x)).map (·.val) = if x = name then some v else (es.find? (·.key.isStr x)).map (·.val)
  | [], _, x => by
    show (List.find? _ [_]).map _ = _
    rw [List.find?_cons]
    by_cases e : x = name
    · subst e
      simp [isStr_str]
    · have : (name == x) = false := beq_eq_false_iff_ne.mpr fun q => e q.symm
      simp [isStr_str, this, e]
  | e :: r, h, x => by
    obtain ⟨y, u, hy⟩ := h e (.head _)
    unfold putL
    by_cases q : y = name
    · subst q
      have : e.key.isStr y = true := by rw [hy, isStr_str]; simp
      rw [if_pos this, List.find?_cons, List.find?_cons]
      by_cases ex : x = y
      · subst ex
        simp [hy, isStr_str]
      · have : (y == x) = false := beq_eq_false_iff_ne.mpr fun q => ex q.symm
        simp [hy, isStr_str, this, ex]
    · have : e.key.isStr name = false := by rw [hy, isStr_str]; exact beq_eq_false_iff_ne.mpr q
      rw [if_neg (by rw [this]; exact Bool.false_ne_true), List.find?_cons, List.find?_cons]
      by_cases ex : y = x
      · subst ex
        simp [hy, isStr_str, q]
      · have e2 : (y == x) = false := beq_eq_false_iff_ne.mpr ex
        simp only [hy, isStr_str, e2]
        exact putL_find? (fun e he => h e (.tail _ he)) x

section
variable {prog : Program} {w : World} {A A₀ : Around} {E : Value → Shared → Prop} {s : Shared} {K : Frag} {h₀ base : Heap} {outer : List Env} {L : Addr} {mg mb : Str → Option Value} {p : Program} {loose : List Str} {mean : ExcName → Option Value} {h : Heap} {tk : Nat} {x dx Cc : Addr} {m : Str → Option Value}
  {news : List (Addr × Obj)} {name : Str} {v : Value} {i j N : Nat} {am : Str → Option Value} {od : Obj}
theorem inst_at (z : Z h₀ L h m news) (hx : news[i]? = some (x, instObj Cc dx)) (hdx : news[j]? = some (dx, od)) : InstAt h x (instObj Cc dx) Cc (some od) :=
  InstAt.of_news z.N (List.mem_of_getElem? hx) (List.mem_of_getElem? hdx)
theorem y_attr {expr : Bool} {attr : Option Value} {Q : Value → Shared → Prop} (fx : Fix K p loose mean mg mb A₀ base outer h₀) (z : Z h₀ L h m news) (hx : news[i]? = some (x, instObj Cc dx)) (hdx : news[j]? = some (dx, od)) (hd : DI N am od)
    (hg : plainGet K Cc name = true) (hh : hasDictIn K Cc = true) (ha : findIn K (.ref Cc) name = some attr) (hn : noGet K attr = true) (hv : am name = some v) (hhd : handedIn v = true) (k : Q v (St s h (tk + 1))) :
    wpAny (model prog w) A (getAttr (.ref x) name expr) Q E (St s h tk) := by
  have I := inst_at z hx hdx
  obtain ⟨es, n, rfl, _, hk, hf⟩ := hd
  exact get_own (s := St s h tk) z.F fx.X I hg hh ha hn (by rw [getL_of hk hf, hv]) hhd k
theorem y_setattr {Q : Unit → Shared → Prop} (fx : Fix K p loose mean mg mb A₀ base outer h₀) (z : Z h₀ L h m news) (hx : news[i]? = some (x, instObj Cc dx)) (hdx : news[j]? = some (dx, od)) (hd : DI N am od)
    (hs : findIn K (.ref Cc) "__setattr__" = some (some (.builtin "object.__setattr__"))) (hp : plainOver K Cc = true) (ht : takerIn K Cc name = some none) (hh : hasDictIn K Cc = true)
    (hold : (am name).isSome = true) (hN : N ≤ 1000)
    (k : ∀ h' od', DI N (mset am name v) od' → Z h₀ L h' m (news.set j (dx, od')) → Q () (St s h' (tk + 2))) :
    wpAny (model prog w) A (setAttr (.ref x) name v) Q E (St s h tk) := by
  have I := inst_at z hx hdx
  obtain ⟨es, n, rfl, hl, hk, hf⟩ := hd
  have hlen : (putL name (PyData.keyHash w.params name) (.str name (tk + 1)) v es).length = es.length := putL_len_old (by
    have := hf name
    cases q : es.find? (·.key.isStr name) with
    | none => rw [q] at this; rw [← this] at hold; cases hold
    | some _ => rfl)
  refine set_dict (s := St s h tk) z.F fx.X z.N I rfl hs hp ht hh (by rw [getL_of hk hf]; rfl) rfl (upd_of z.nd hdx) (by rw [show (St s h tk).toks = tk from rfl, hlen]; omega) fun h' F' N' => ?_
  refine k h' _ ⟨_, _, rfl, Nat.le_trans (Nat.le_of_eq hlen) hl, putL_keys hk, fun y => ?_⟩ ⟨F', N', by rw [keys_set hdx]; exact z.nd⟩
  rw [putL_find? hk, hf]
/-- a name that the object has not yet -/
theorem y_newattr {Q : Unit → Shared → Prop} (fx : Fix K p loose mean mg mb A₀ base outer h₀) (z : Z h₀ L h m news) (hx : news[i]? = some (x, instObj Cc dx)) (hdx : news[j]? = some (dx, od)) (hd : DI N am od)
    (hs : findIn K (.ref Cc) "__setattr__" = some (some (.builtin "object.__setattr__"))) (hp : plainOver K Cc = true) (ht : takerIn K Cc name = some none) (hh : hasDictIn K Cc = true) (hN : N < 1000)
    (k : ∀ h' od', DI (N + 1) (mset am name v) od' → Z h₀ L h' m (news.set j (dx, od')) → Q () (St s h' (tk + 2))) :
    wpAny (model prog w) A (setAttr (.ref x) name v) Q E (St s h tk) := by
  have I := inst_at z hx hdx
  obtain ⟨es, n, rfl, hl, hk, hf⟩ := hd
  have hlen := putL_len name (PyData.keyHash w.params name) (.str name (tk + 1)) v es
  refine set_dict (s := St s h tk) z.F fx.X z.N I rfl hs hp ht hh (by rw [getL_of hk hf]; rfl) rfl (upd_of z.nd hdx) (by rw [show (St s h tk).toks = tk from rfl]; omega) fun h' F' N' => ?_
  refine k h' _ ⟨_, _, rfl, by rw [show (St s h tk).toks = tk from rfl]; omega, putL_keys hk, fun y => ?_⟩ ⟨F', N', by rw [keys_set hdx]; exact z.nd⟩
  rw [show (St s h tk).toks = tk from rfl, putL_find? hk, hf]
theorem y_methI {f : Addr} {pl : Sem Bool} {Q : Value × List Value → Shared → Prop} (fx : Fix K p loose mean mg mb A₀ base outer h₀) (z : Z h₀ L h m news) (hx : news[i]? = some (x, instObj Cc dx)) (hdx : news[j]? = some (dx, od)) (hd : DI N am od)
    (hg : plainGet K Cc name = true) (hf : findIn K (.ref Cc) name = some (some (.ref f))) (ht : isFn K (.ref f) = true) (hv : am name = none) (k : Q (.ref f, [.ref x]) (St s h tk)) : wpAny (model prog w) A (getMethod (.ref x) name pl) Q E (St s h tk) := by
  have I := inst_at z hx hdx
  obtain ⟨es, n, rfl, _, hk, hff⟩ := hd
  exact method_inst (s := St s h tk) z.F fx.X I hg hf ht (by rw [getL_of hk hff, hv]) k
/-- a property by its getter's contract -/
theorem y_prop {expr : Bool} {Q : Value → Shared → Prop} {pp fget : Addr} {rest : List Value} {D U : Nat} {post : Value → List (Addr × Obj) → Prop} {dp un : Nat} {gd : Option (List Code)} {cn : Str} {cs : Scope} {a : Addr} {ccd : Value} {cl : List (Str × Addr)}
    (fx : Fix K p loose mean mg mb A₀ base outer h₀) (z : Z h₀ L h m news) (hx : news[i]? = some (x, instObj Cc dx)) (hdx : news[j]? = some (dx, od)) (hg : plainGet K Cc name = true) (hh : hasDictIn K Cc = true)
    (ha : findIn K (.ref Cc) name = some (some (.ref pp))) (hn : specialIn K (.ref pp) "__get__" = some (some (.builtin "property.__get__"))) (ht : takesIn K (.ref pp) = some true) (hp : recIn K pp "property" = some (.ref fget :: rest))
    (c : Ctr prog w K p loose mean mg mb fget D U [.ref x] news post) (hk : cs.kind = .function) (hd : dp + D < 450) (hu : un + 1 + U < 450)
    (k : ∀ r news' h' tk', post r news' → Z h₀ L h' m news' → handedIn r = true ∧ Q r (St s h' tk')) :
    wpAny (model prog w) (ktrTop dp un gd cn cs L a ccd cl outer) (getAttr (.ref x) name expr) Q E (St s h tk) := by
  refine get_prop (s := St s h tk) z.F fx.X (inst_at z hx hdx) hg hh ha hn ht hp ?_
  refine c _ (un + 1) _ _ _ _ _ _ _ _ _ _ _ _ s _ (tk + 1) _ fx z hk hd hu fun r news' h' tk' hr z' => ?_
  obtain ⟨e, q⟩ := k r news' h' tk' hr z'
  show wpAny _ _ (handedOut r) _ _ _
  rw [handedOut_of e]
  exact wpAny_pure q
end

section
variable {M : Model} {A A₀ : Around} {E : Value → Shared → Prop} {s : Shared} {K : Frag} {h₀ base : Heap} {outer : List Env} {mg mb : Str → Option Value} {p : Program} {loose : List Str} {mean : ExcName → Option Value}
  {env : Env} {Q : Value → Shared → Prop} {pos : Pos} {QF : Flow → Shared → Prop} {rest : List Stmt}
theorem y_attrN {x attr : Str} {xp : Pos} (k : wpAny M A (eval (.Name x xp) env) (fun o s₁ => wpAny M A (getAttr o attr true) Q E s₁) E s)
    (he : eval (.Attribute (.Name x xp) attr pos) env = (do
      let o ← eval (.Name x xp) env
      standAt pos.atName
      let r ← holding [o] (getAttr o attr true)
      letTemporaryGo (.Name x xp) o r
      pure r) := by kernel_rfl) : wpAny M A (eval (.Attribute (.Name x xp) attr pos) env) Q E s := Attribute_Name_ k he
theorem y_assignAttr {o attr pos' value spos} (k : wpAny M A (eval value env) (fun v s₁ => wpAny M A (eval o env) (fun ov s₂ => wpAny M A (setAttr ov attr v) (fun _ s₃ => wpAny M A (execs rest env) QF E s₃) E s₂) E s₁) E s)
    (hs : swapsWith value (some (.Attribute o attr pos')) spos.line env = pure false := by kernel_rfl) : wpAny M A (execs (.Assign [.Attribute o attr pos'] value spos :: rest) env) QF E s :=
  wpAny_execs_cons (plainObj_wpAny_Assign_Attribute k hs)
theorem y_augAttr {o value : Expr} {attr : Str} {tpos spos : Pos} {op : Operator} (k : wpAny M A (eval o env) (fun ov s₁ => wpAny M A (getAttr ov attr true) (fun old s₂ =>
          wpAny M A (eval value env) (fun v s₃ => wpAny M A (inplaceOp op old v) (fun new s₄ =>
            wpAny M A (setAttr ov attr new) (fun _ s₅ => wpAny M A (execs rest env) QF E s₅) E s₄) E s₃) E s₂) E s₁) E s) :
    wpAny M A (execs (.AugAssign (.Attribute o attr tpos) op value spos :: rest) env) QF E s := wpAny_execs_cons (wpAny_AugAssign_AttributeAny k)
theorem y_cwFnM {f : Addr} {ov : Value} {e : Expr} {rest : List Expr} (fx : Fix K p loose mean mg mb A₀ base outer h₀) (hk : keepIn K (.ref f) = true) (k : wpAny M A (spliced (backTo pos (starEach (e :: rest) env))) (fun vs s₁ => K.In s₁.heap ∧ wpAny M A (call (.ref f) (ov :: vs)) Q E s₁) E s)
    (he : starEach (e :: rest) env = (false, eval e env) :: starEach rest env := by kernel_rfl) (hplain : (backTo pos (starEach rest env)).any (·.1) = false := by kernel_rfl) :
    wpAny M A (callWith pos (.ref f) [ov] (backTo pos (starEach (e :: rest) env)) []) Q E s :=
  callWith_K fx.X hk (wpAny_mono k (fun vs s₁ h₁ => ⟨h₁.1, h₁.2⟩) fun _ _ x => x) he hplain
theorem y_cwFnM0 {f : Addr} {ov : Value} {h : Heap} {tk : Nat} {L : Addr} {m : Str → Option Value} {news : List (Addr × Obj)} (fx : Fix K p loose mean mg mb A₀ base outer h₀) (z : Z h₀ L h m news) (hk : keepIn K (.ref f) = true) (k : wpAny M A (call (.ref f) [ov]) Q E (St s h tk)) :
    wpAny M A (callWith pos (.ref f) [ov] (backTo pos (starEach [] env)) []) Q E (St s h tk) := callWith_K0 (s := St s h tk) (fx.X.keeps z.F.keep) hk k
end
end Mine
/-! text Y7 -/
namespace Mine
open PySem PySem.W PySem.Calls PySem.Spec PyProof.Rows
@[reducible] noncomputable def dqOf (n : Int) (vs : List Value) : Obj := { cls := .type "collections.deque", data := .fields (Value.none :: Value.int n 0 :: vs).toArray }
theorem dq_slot_append : Slot "collections.deque" "append" "collections.deque.append" :=
  .of (owner := "collections.deque") (n := "append") (by rw [typeLookup_type, builtinLookup_eq_fast]; kernel_rfl) (by decide +kernel) (by decide +kernel) (by decide +kernel)
    (by first | exact .inl (by decide +kernel) | exact .inr (by decide +kernel)) (by rw [isSubtype_type]; kernel_rfl)
theorem dq_slot_pop : Slot "collections.deque" "pop" "collections.deque.pop" :=
  .of (owner := "collections.deque") (n := "pop") (by rw [typeLookup_type, builtinLookup_eq_fast]; kernel_rfl) (by decide +kernel) (by decide +kernel) (by decide +kernel)
    (by first | exact .inl (by decide +kernel) | exact .inr (by decide +kernel)) (by rw [isSubtype_type]; kernel_rfl)
theorem dq_slot_len : Slot "collections.deque" "__len__" "collections.deque.__len__" :=
  .of (owner := "collections.deque") (n := "__len__") (by rw [typeLookup_type, builtinLookup_eq_fast]; kernel_rfl) (by decide +kernel) (by decide +kernel) (by decide +kernel)
    (by first | exact .inl (by decide +kernel) | exact .inr (by decide +kernel)) (by rw [isSubtype_type]; kernel_rfl)
theorem dq_noBool : typeLookup (.type "collections.deque") "__bool__" = pure none := by rw [typeLookup_type, builtinLookup_eq_fast]; kernel_rfl
theorem dq_type_append : typeOf (.builtin "collections.deque.append") = pure (.type "method_descriptor") := by show builtinType _ = _; rw [builtinType_eq_fast]; kernel_rfl
theorem dq_type_pop : typeOf (.builtin "collections.deque.pop") = pure (.type "method_descriptor") := by show builtinType _ = _; rw [builtinType_eq_fast]; kernel_rfl
theorem dq_entry_append : entryFor table "collections.deque.append" = some Builtin.«collections.deque.append» := entryFor_of_tree (by kernel_rfl)
theorem dq_entry_pop : entryFor table "collections.deque.pop" = some Builtin.«collections.deque.pop» := entryFor_of_tree (by kernel_rfl)
theorem dq_entry_len : entryFor table "collections.deque.__len__" = some Builtin.«collections.deque.__len__» := entryFor_of_tree (by kernel_rfl)
theorem dq_plain : PlainAttrs "collections.deque" :=
  ⟨⟨"collections.deque.__getattribute__", by rw [typeLookup_type, builtinLookup_eq_fast]; kernel_rfl, by decide +kernel⟩, by rw [typeLookup_type, builtinLookup_eq_fast]; kernel_rfl⟩
theorem dq_args_append (a b : Value) : argsOk "collections.deque.append" ⟨[a, b], []⟩ := by unfold argsOk; kernel_rfl
theorem dq_args_pop (a : Value) : argsOk "collections.deque.pop" ⟨[a], []⟩ := by unfold argsOk; kernel_rfl
theorem dq_args_len (a : Value) : argsOk "collections.deque.__len__" ⟨[a], []⟩ := by unfold argsOk; kernel_rfl
end Mine
/-! text Y8 -/
namespace Mine
open PySem PySem.W PySem.Calls PySem.Spec PyProof.Rows
section
variable {prog : Program} {w : World} {A : Around} {E : Value → Shared → Prop} {s : Shared} {h₀ : Heap} {L : Addr} {h : Heap} {tk : Nat} {q : Addr} {m : Str → Option Value} {news : List (Addr × Obj)} {i : Nat} {n : Int} {vs : List Value}
theorem dq_typeIs (z : Z h₀ L h m news) (hq : news[i]? = some (q, dqOf n vs)) : (St s h tk).TypeIs (.ref q) "collections.deque" := ⟨_, (z.N _ (List.mem_of_getElem? hq)).1, rfl⟩
theorem dq_meth {name : Str} {id : String} {pl : Sem Bool} {Q : Value × List Value → Shared → Prop} (z : Z h₀ L h m news) (hq : news[i]? = some (q, dqOf n vs)) (slot : Slot "collections.deque" name id) (hty : typeOf (.builtin id) = pure (.type "method_descriptor"))
    (k : Q (.builtin id, [.ref q]) (St s h tk)) : wpAny (model prog w) A (getMethod (.ref q) name pl) Q E (St s h tk) :=
  getMethod_builtin (s := St s h tk) (dq_typeIs z hq) dq_plain slot hty (fun a e => by cases e; exact ⟨_, (z.N _ (List.mem_of_getElem? hq)).1, rfl⟩) k
theorem Z.at {o : Obj} (z : Z h₀ L h m news) (hq : news[i]? = some (q, o)) : h.get? q = some o := (z.N _ (List.mem_of_getElem? hq)).1
theorem Z.upd {o o' : Obj} {f : Obj → Obj} (z : Z h₀ L h m news) (hq : news[i]? = some (q, o)) (hf : f o = o') (hfr : o'.isFreed = false) : Z h₀ L (h.update q f) m (news.set i (q, o')) := by
  have hmem := z.N _ (List.mem_of_getElem? hq)
  have hs : Heap.SameBut q h (h.update q f) := Heap.SameBut.update ..
  have ho' : (h.update q f).get? q = some o' := by rw [Heap.get?_update_self f hmem.1 (by rw [hf]; exact hfr), hf]
  obtain ⟨pre, post, rfl, e2, a, b⟩ := (upd_of (o' := o') z.nd hq).split
  refine ⟨z.F.change hs hmem.2.1 hmem.2.2, ?_, by rw [keys_set hq]; exact z.nd⟩
  rw [e2]
  exact news_set z.N a b hs ho'
theorem dq_change {f : Array Value → Array Value} {vs' : List Value} {Q : Unit → Shared → Prop} (z : Z h₀ L h m news) (hq : news[i]? = some (q, dqOf n vs)) (hf : f vs.toArray = vs'.toArray) (hsz : vs'.length < 1000)
    (k : ∀ h', Z h₀ L h' m (news.set i (q, dqOf (n + 1) vs')) → Q () (St s h' tk)) : wpAny (model prog w) A (Builtin.Deque.change (.ref q) f) Q E (St s h tk) := by
  have ho := z.at hq
  unfold Builtin.Deque.change Builtin.Deque.state
  refine wpAny_bind (wpAny_bind (wpAny_field (s := St s h tk) (i := 1) ho rfl rfl ?_))
  refine wpAny_pure ?_
  unfold updateFields
  refine wpAny_bind (wpAny_load (s := St s h tk) ho ?_)
  have e : Obj.mapFields (fun xs : Array Value => #[xs.getD 0 .none, rawInt (if true = true then n + 1 else n)] ++ f (xs.extract 2 xs.size)) (dqOf n vs) = dqOf (n + 1) vs' := by
    show ({ cls := .type "collections.deque", data := .fields _ } : Obj) = _
    have : (Value.none :: Value.int n 0 :: vs).toArray.extract 2 (Value.none :: Value.int n 0 :: vs).toArray.size = vs.toArray := by simp
    dsimp only
    rw [this, hf]
    simp [rawInt, dqOf]
  refine wpAny_bind (wpAny_update (s := St s h tk) ho ?_)
  have z' := z.upd hq e rfl
  refine wpAny_lookBehind (s := St s _ tk) (z'.at (set_at hq)) ?_ (k _ z')
  show Data.pastItsLine (.fields (Value.none :: Value.int (n + 1) 0 :: vs').toArray) = none
  exact pastItsLine_fields (by rw [sizeLine_eq]; simp; omega)
theorem dq_append {v : Value} {Q : Value → Shared → Prop} (z : Z h₀ L h m news) (hq : news[i]? = some (q, dqOf n vs)) (hsz : vs.length < 900)
    (k : ∀ h', Z h₀ L h' m (news.set i (q, dqOf (n + 1) (vs ++ [v]))) → Q .none (St s h' tk)) : wpAny (model prog w) A (call (.builtin "collections.deque.append") [.ref q, v]) Q E (St s h tk) := by
  refine wpAny_call_entry (s := St s h tk) dq_slot_append (dq_typeIs z hq) dq_entry_append ?_ (dq_args_append _ _)
  show wpAny _ _ (Builtin.Deque.pushRight (.ref q) v >>= fun _ => ret .none) _ _ _
  refine wpAny_bind ?_
  unfold Builtin.Deque.pushRight
  refine wpAny_bind (dq_change (vs' := vs ++ [v]) z hq (by simp) (by simp; omega) fun h' z' => ?_)
  unfold Builtin.Deque.maxlen
  refine wpAny_bind (wpAny_bind (wpAny_field (s := St s h' tk) (i := 0) (z'.at (set_at hq)) rfl rfl ?_))
  refine wpAny_pure ?_
  exact wpAny_pure (wpAny_pure ⟨_, rfl, k h' z'⟩)
theorem dq_pop {v : Value} {Q : Value → Shared → Prop} (z : Z h₀ L h m news) (hq : news[i]? = some (q, dqOf n (vs ++ [v]))) (hsz : vs.length < 900)
    (k : ∀ h', Z h₀ L h' m (news.set i (q, dqOf (n + 1) vs)) → Q v (St s h' tk)) : wpAny (model prog w) A (call (.builtin "collections.deque.pop") [.ref q]) Q E (St s h tk) := by
  refine wpAny_call_entry (s := St s h tk) dq_slot_pop (dq_typeIs z hq) dq_entry_pop ?_ (dq_args_pop _)
  unfold Builtin.«collections.deque.pop»
  refine wpAny_bind (m := selfOnly "deque.pop" _) (wpAny_pure ?_)
  unfold Builtin.Deque.items
  refine wpAny_bind (wpAny_bind (wpAny_fieldsOf (s := St s h tk) (z.at hq) rfl ?_))
  refine wpAny_pure ?_
  have e : ((Value.none :: Value.int n 0 :: (vs ++ [v])).toArray.extract 2 (Value.none :: Value.int n 0 :: (vs ++ [v])).toArray.size) = (vs ++ [v]).toArray := by
    simp
    exact List.take_of_length_le (by simp)
  rw [e]
  have e2 : (vs ++ [v]).toArray.back? = some v := by simp
  rw [e2]
  refine wpAny_bind (dq_change (vs' := vs) z hq (by simp) (by omega) fun h' z' => ?_)
  exact wpAny_pure ⟨_, rfl, k h' z'⟩
theorem dq_truth {Q : Bool → Shared → Prop} (z : Z h₀ L h m news) (hq : news[i]? = some (q, dqOf n vs)) (hsz : vs.length < 900)
    (k : Q (!vs.isEmpty) (St s h (tk + 2))) : wpAny (model prog w) A (truthy (.ref q)) Q E (St s h tk) := by
  have hT := dq_typeIs (s := s) (tk := tk) z hq
  have key : wpAny (model prog w) A (runValue (.builtin "len" ⟨[.ref q], []⟩)) (fun r s' => r = .int vs.length (tk + 1) ∧ s' = St s h (tk + 2)) E (St s h tk) := by
    refine wpAny_runValue (codeAny_builtin entry_len ?_)
    rw [Around.under_plainId plain_len _]
    unfold Builtin.«len»
    refine wpAny_bind (m := oneArg "len" _) (wpAny_pure ?_)
    refine wpAny_bind (m := callSpecial? (.ref q) (Str.ofString "__len__")) (wpAny_callSpecial?_slot (name := Str.ofString "__len__") hT dq_slot_len
      (wpAny_call_entry dq_slot_len hT dq_entry_len ?_ (dq_args_len _)))
    unfold Builtin.«collections.deque.__len__»
    refine wpAny_bind (m := slotArgs "__len__" 0 _) (wpAny_pure ?_)
    unfold Builtin.Deque.size
    refine wpAny_bind (wpAny_bind (wpAny_fieldsOf (s := St s h tk) (z.at hq) rfl ?_))
    have e : (Value.none :: Value.int n 0 :: vs).toArray.size - 2 = vs.length := by simp
    rw [e]
    refine wpAny_pure (wpAny_bind (wpAny_mkInt (wpAny_pure ⟨_, rfl, ?_⟩)))
    refine wpAny_bind (wpAny_holding (wpAny_pure ?_))
    refine wpAny_bind (wpAny_letGo ?_)
    show wpAny _ _ (if ((vs.length : Nat) : Int) < 0 then _ else _) _ _ _
    rw [if_neg (by omega)]
    show wpAny _ _ (if ((vs.length : Nat) : Int) ≥ 2 ^ 63 then _ else _) _ _ _
    rw [if_neg (by omega)]
    exact wpAny_bind (wpAny_mkInt (wpAny_pure ⟨rfl, rfl⟩))
  unfold truthy
  first
    | refine wpAny_bind (wpAny_callSpecial?_none (name := Str.ofString "__bool__") hT dq_noBool ?_)
    | refine wpAny_bind (wpAny_pure (wpAny_bind (wpAny_callSpecial?_none (name := Str.ofString "__bool__") hT dq_noBool ?_)))
  first
    | refine wpAny_bind (wpAny_specialOf (name := Str.ofString "__len__") hT dq_slot_len.lookup ?_)
    | refine wpAny_bind (wpAny_pure (wpAny_bind (wpAny_specialOf (name := Str.ofString "__len__") hT dq_slot_len.lookup ?_)))
  have hne : (((vs.length : Nat) : Int) != 0) = !vs.isEmpty := by
    cases vs with
    | nil => rfl
    | cons a r => rw [List.isEmpty_cons]; exact bne_iff_ne.mpr (by simp; omega)
  exact wpAny_bind (wpAny_mono key (fun r s' h' => by obtain ⟨rfl, rfl⟩ := h'; exact wpAny_pure (hne ▸ k)) fun _ _ e => e)
end
end Mine
/-! text Y9 -/
namespace Mine
open PySem PySem.W PySem.Calls PySem.Spec PyProof.Rows
theorem Z.keeps {h₀ h h' : Heap} {L : Addr} {m : Str → Option Value} {news : List (Addr × Obj)} (z : Z h₀ L h m news) (hk : ∀ b o, h.get? b = some o → h'.get? b = some o) : Z h₀ L h' m news :=
  ⟨⟨z.F.ns.keeps hk, fun b o e => hk b o (z.F.keep b o e), z.F.above⟩, fun p hp => ⟨hk _ _ (z.N p hp).1, (z.N p hp).2⟩, z.nd⟩
theorem wpAny_room {α : Type} {M : Model} {E : Value → Shared → Prop} {t : Sem α} {Q : α → Shared → Prop} {s : Shared} {d u d' u' : Nat} {hd : Option Value} {fr : Option (List Env)} {gd : Option (List Code)}
    (h : wpAny M ⟨hd, d, fr, gd, u⟩ t Q E s) (h1 : d' ≤ d) (h2 : u' ≤ u) : wpAny M ⟨hd, d', fr, gd, u'⟩ t Q E s :=
  fun Γ p hΓ => h Γ p ⟨hΓ.1, Nat.le_trans hΓ.2.1 h1, hΓ.2.2.1, hΓ.2.2.2.1, Nat.le_trans hΓ.2.2.2.2 h2⟩
section
variable {prog : Program} {w : World} {A₀ : Around} {E : Value → Shared → Prop} {s : Shared} {K : Frag} {h₀ base : Heap} {outer : List Env} {L a : Addr} {mg mb : Str → Option Value} {p : Program} {loose : List Str} {mean : ExcName → Option Value} {h : Heap} {tk : Nat} {m : Str → Option Value}
  {Q : Value → Shared → Prop} {news : List (Addr × Obj)}
end
end Mine
/-! text Y10 -/
namespace Mine
open PySem PySem.W PySem.Calls PySem.Spec PyProof.Rows
theorem y_ifHF {b : Bool} {X Y : Prop} (h : b = false) (k : Y) : if b = true then X else Y := by subst h; exact y_ifF k
theorem y_ifHT {b : Bool} {X Y : Prop} (h : b = true) (k : X) : if b = true then X else Y := by subst h; exact y_ifT k
theorem y_ifNot {b : Bool} {X Y : Prop} (k : if b = true then Y else X) : if (!b) = true then X else Y := by cases b <;> exact k
section
variable {M : Model} {prog : Program} {w : World} {A : Around} {E : Value → Shared → Prop} {s : Shared} {h₀ : Heap} {L : Addr} {env : Env} {h : Heap} {tk : Nat} {m : Str → Option Value} {news : List (Addr × Obj)} {pos : Pos} {x y : Str} {t u : Tok} {Q : Value → Shared → Prop}
theorem y_str {c : Nat} (k : Q (.str x tk) (St s h (tk + 1))) : wpAny M A (eval (.Constant (.str x) c pos) env) Q E (St s h tk) := Calls.Constant_str k
theorem y_cbool {b : Bool} {c : Nat} {s : Shared} (k : Q (.bool b) s) : wpAny M A (eval (.Constant (.bool b) c pos) env) Q E s := Constant_bool k
theorem y_none {c : Nat} {s : Shared} (k : Q .none s) : wpAny M A (eval (.Constant .none c pos) env) Q E s := Constant_none k
theorem y_eqS {s : Shared} (k : Q (.bool (x == y)) s) : wpAny (model prog w) A (compareOp .Eq (.str x t) (.str y u)) Q E s := PyProof.Rows.eq_str k
theorem y_inS {s : Shared} (k : Q (.bool (Txt.contains x y)) s) : wpAny (model prog w) A (compareOp .In (.str y u) (.str x t)) Q E s := SB.contains k
theorem y_notInS {s : Shared} (k : Q (.bool (!Txt.contains x y)) s) : wpAny (model prog w) A (compareOp .NotIn (.str y u) (.str x t)) Q E s := SB.notContains k
theorem y_truthS {Q : Bool → Shared → Prop} (hl : x.length < 100000) (k : Q (x.length != 0) (St s h (tk + 2))) : wpAny (model prog w) A (truthy (.str x t)) Q E (St s h tk) := by
  refine SBL.truthy (s := St s h tk) (by omega) ?_
  have : ((x.length : Int) != 0) = (x.length != 0) := by
    rw [Bool.eq_iff_iff, bne_iff_ne, bne_iff_ne]; omega
  rw [this]
  exact k
theorem y_truthI {a : Int} {Q : Bool → Shared → Prop} {s : Shared} (k : Q (a != 0) s) : wpAny (model prog w) A (truthy (.int a t)) Q E s := P.truthy_int k
theorem y_isO {a b : Value} {s : Shared} (hp : plainIs a b = true) (hne : (a == b) = false) (k : Q (.bool false) s) : wpAny M A (compareOp .Is a b) Q E s := wpAny_is_other hp (by simpa using hne) k
theorem y_isS {a : Value} {s : Shared} (hp : plainIs a a = true) (k : Q (.bool true) s) : wpAny M A (compareOp .Is a a) Q E s := wpAny_is_self hp k
theorem y_isNO {a b : Value} {s : Shared} (hp : plainIs a b = true) (hne : (a == b) = false) (k : Q (.bool true) s) : wpAny M A (compareOp .IsNot a b) Q E s := wpAny_isNot_other hp (by simpa using hne) k
theorem y_isNS {a : Value} {s : Shared} (hp : plainIs a a = true) (k : Q (.bool false) s) : wpAny M A (compareOp .IsNot a a) Q E s := wpAny_isNot_self hp k
theorem y_iaddS (hsz : x.length + y.length < 100000) (k : ∀ t' tk', Q (.str (x ++ y) t') (St s h tk')) : wpAny (model prog w) A (inplaceOp .Add (.str x t) (.str y u)) Q E (St s h tk) :=
  SB.iadd (s := St s h tk) (fun t' k' => k t' k') (by rw [sizeLine_eq]; omega)
theorem y_lenS (hl : x.length < 100000) (k : ∀ t', Q (.int (x.length : Int) t') (St s h (tk + 2))) : wpAny (model prog w) A (call (.builtin "len") [.str x t]) Q E (St s h tk) :=
  P.len_str (s := St s h tk) (by omega) (k _)
theorem y_ge {a b : Int} {s : Shared} (k : Q (.bool (decide (b ≤ a))) s) : wpAny (model prog w) A (compareOp .GtE (.int a t) (.int b u)) Q E s := PyProof.Rows.ge_int k
theorem y_sliceE {lower upper : Expr} (k : wpAny M A (eval lower env) (fun l s₁ => wpAny M A (eval upper env) (fun u s₂ => wpAny M A (newFields "slice" [l, u, .none]) Q E s₂) E s₁) E s) :
    wpAny M A (eval (.Slice (some lower) (some upper) none pos) env) Q E s := by
  rw [arm_eval_Slice]
  show wpAny M A (do let l ← valueOrNone (some (eval lower env)); let u ← holding [l] (valueOrNone (some (eval upper env))); let s ← holding [l, u] (valueOrNone none); newFields "slice" [l, u, s]) Q E s
  refine wpAny_bind (wpAny_mono k (fun l s₁ h₁ => wpAny_bind (wpAny_holding (wpAny_mono h₁ (fun u s₂ h₂ => wpAny_bind (wpAny_holding (wpAny_pure h₂))) fun _ _ x => x))) fun _ _ x => x)
theorem y_sliceS {value slice : Expr} {i j : Int} {ui uj : Tok} (z : Z h₀ L h m news) (hl : x.length < 100000) (k : ∀ h' t' tk', Z h₀ L h' m news → Q (.str (Txt.slice x (some i) (some j)) t') (St s h' tk'))
    (hs : subscripted slice false (.str x t) (.ref h.objs.size) = operate [.ref h.objs.size, .str x t] (getItem (.str x t) (.ref h.objs.size)) := by kernel_rfl)
    (ht : ∀ r, letTemporaryGo value (.str x t) r = pure () := by intro _; kernel_rfl) :
    wpAny (model prog w) A (newFields "slice" [.int i ui, .int j uj, .none]) (fun iv s₂ => wpAny (model prog w) A (subscriptTail value slice (.str x t) iv) Q E s₂) E (St s h tk) := by
  unfold newFields
  refine wpAny_newObj_type (s := St s h tk) ?_ (by first | exact trivial | (simp [sizeOk]; done) | (show 3 ≤ _; rw [sizeLine_eq]; decide))
  exact slice_strN_ss (s := St s h tk) z.F z.N (fun h' t' tk' F' N' => k h' t' tk' ⟨F', N', z.nd⟩) hs ht (by rw [sizeLine_eq]; omega)
end
theorem slice_one {x : Str} {p : Nat} (hp : p < x.length) : Txt.slice x (some (p : Int)) (some ((p : Int) + 1)) = ⟨#[x.cps.getD p 0]⟩ := by
  have hi : Builtin.Str.strSliceIndices (some (p : Int)) (some ((p : Int) + 1)) 1 x.length = [p] := by
    unfold Builtin.Str.strSliceIndices sliceRange
    have e1 : ¬ ((p : Int) < 0) := by omega
    have e2 : ¬ ((p : Int) + 1 < 0) := by omega
    simp only [show (1 : Int) > 0 by decide, if_true, if_neg e1, if_neg e2]
    have a1 : max 0 (min (p : Int) x.length) = p := by omega
    have a2 : max 0 (min ((p : Int) + 1) x.length) = p + 1 := by omega
    rw [a1, a2]
    have : ((p : Int) < p + 1) := by omega
    rw [if_pos this]
    have e3 : (((p : Int) + 1 - p + 1 - 1) / 1).toNat = 1 := by omega
    rw [e3]
    simp
  have hg : x.cps[p]? = some (x.cps.getD p 0) := by
    have : p < x.cps.size := hp
    simp [Array.getD, this]
  unfold Txt.slice
  rw [hi]
  split
  · rename_i q
    have hx : x.length = 1 := by
      have q' : (1 == x.length) = true := by simpa using q
      exact (beq_iff_eq.mp q').symm
    have hp0 : p = 0 := by omega
    subst hp0
    obtain ⟨⟨l⟩⟩ := x
    have : l.length = 1 := hx
    match l, this with
    | [a], _ => rfl
  · show (⟨(List.filterMap (fun i => x.cps[i]?) [p]).toArray⟩ : Str) = _
    rw [List.filterMap_cons, hg]
    rfl
end Mine
/-! text Y11 -/
namespace Mine
open PySem PySem.W PySem.Calls PySem.Spec PyProof.Rows
theorem lt_ble {a b : Nat} (h : Nat.ble (a + 1) b = true) : a < b := Nat.le_of_ble_eq_true h
section
variable {M : Model} {A : Around} {E : Value → Shared → Prop} {s : Shared} {env : Env} {Q : Flow → Shared → Prop} {rest : List Stmt} {st : Stmt}
/-- a statement that goes on; what holds behind it -/
theorem y_mid (P : Shared → Prop) (h1 : wpAny M A (execs [st] env) (fun f s' => f = .next ∧ P s') E s) (h2 : ∀ s', P s' → wpAny M A (execs rest env) Q E s') : wpAny M A (execs (st :: rest) env) Q E s := by
  intro Γ p hΓ
  have q := h1 Γ p hΓ
  rw [execs_cons, Sem.wp_bind'] at q ⊢
  refine Sem.wp_mono M Γ _ (fun f p' s' hf => ?_) (fun _ _ _ x => x) p s q
  cases f with
  | next => exact h2 s' hf.2 Γ p' hΓ
  | brk => exact absurd hf.1 (by intro x; cases x)
  | cont => exact absurd hf.1 (by intro x; cases x)
  | ret v => exact absurd hf.1 (by intro x; cases x)
theorem mid_nil {P : Shared → Prop} (h : P s) : wpAny M A (execs [] env) (fun f s' => f = .next ∧ P s') E s := wpAny_execs_nil ⟨rfl, h⟩
end
section
variable {prog : Program} {w : World} {A : Around} {E : Value → Shared → Prop} {s : Shared} {h₀ : Heap} {L : Addr} {h : Heap} {tk : Nat} {m : Str → Option Value} {news : List (Addr × Obj)}
/-- a text in a pair of texts written on the spot -/
theorem y_inTup2 {x a b : Str} {u ta tb : Tok} {Q : Value → Shared → Prop} (z : Z h₀ L h m news)
    (k : ∀ h', Z h₀ L h' m news → Q (.bool ([a, b].any (· == x))) (St s h' tk)) : wpAny (model prog w) A (newTuple [.str a ta, .str b tb]) (fun v s₂ => wpAny (model prog w) A (compareOp .In (.str x u) v) Q E s₂) E (St s h tk) := by
  refine y_newTuple z (by simp) fun p h' z' => ?_
  refine in_tuple_strs (s := St s h' tk) (items := #[.str a ta, .str b tb]) (ys := [a, b]) ⟨_, (z'.N _ (List.mem_append.mpr (.inr (.head _)))).1, rfl, 0, rfl⟩ (.cons _ _ (.cons _ _ .nil)) ?_
  exact k h' z'.drop
end
section
variable {M : Model} {A : Around} {E : Value → Shared → Prop} {s : Shared} {env : Env}
theorem g_eval {e : Expr} {Q : Value → Shared → Prop} (k : wpAny M A (eval e env) Q E s) : wpAny M A (eval e env) Q E s := k
theorem g_execs {l : List Stmt} {Q : Flow → Shared → Prop} (k : wpAny M A (execs l env) Q E s) : wpAny M A (execs l env) Q E s := k
theorem g_true {e : Expr} {x : Sem Value} {Q : Bool → Shared → Prop} (k : wpAny M A (isTrue e env x) Q E s) : wpAny M A (isTrue e env x) Q E s := k
theorem g_call {f : Value} {l : List Value} {kw : List (Str × Value)} {Q : Value → Shared → Prop} (k : wpAny M A (call f l kw) Q E s) : wpAny M A (call f l kw) Q E s := k
theorem g_cw {p : Pos} {f : Value} {l : List Value} {a : List (Bool × Sem Value)} {kw : List (Option Str × Sem Value)} {Q : Value → Shared → Prop} (k : wpAny M A (callWith p f l a kw) Q E s) : wpAny M A (callWith p f l a kw) Q E s := k
theorem g_meth {o : Value} {n : Str} {x : Sem Bool} {Q : Value × List Value → Shared → Prop} (k : wpAny M A (getMethod o n x) Q E s) : wpAny M A (getMethod o n x) Q E s := k
theorem g_getA {o : Value} {n : Str} {x : Bool} {Q : Value → Shared → Prop} (k : wpAny M A (getAttr o n x) Q E s) : wpAny M A (getAttr o n x) Q E s := k
theorem g_cmp {o : CmpOp} {a b : Value} {Q : Value → Shared → Prop} (k : wpAny M A (compareOp o a b) Q E s) : wpAny M A (compareOp o a b) Q E s := k
theorem g_tru {a : Value} {Q : Bool → Shared → Prop} (k : wpAny M A (truthy a) Q E s) : wpAny M A (truthy a) Q E s := k
theorem g_stn {n : Str} {a : Value} {Q : Unit → Shared → Prop} (k : wpAny M A (storeName env n a) Q E s) : wpAny M A (storeName env n a) Q E s := k
theorem g_setA {o : Value} {n : Str} {a : Value} {Q : Unit → Shared → Prop} (k : wpAny M A (setAttr o n a) Q E s) : wpAny M A (setAttr o n a) Q E s := k
theorem g_bin {o : Operator} {a b : Value} {Q : Value → Shared → Prop} (k : wpAny M A (binaryOp o a b) Q E s) : wpAny M A (binaryOp o a b) Q E s := k
theorem g_ite {c : Prop} [Decidable c] {X Y : Prop} (k : if c then X else Y) : if c then X else Y := k
end
end Mine
/-! text H0 -/
namespace Mine
open PySem PySem.W PySem.Calls PySem.Spec PyProof.Rows
@[reducible] noncomputable def PR : Program := PySem.Challenge.rw_nq0274_01.row.prog
@[reducible] noncomputable def LO : List Str := looseW Mine.vw [Str.ofString "UnsupportedOperation", Str.ofString "IOBase", Str.ofString "BufferedIOBase", Str.ofString "TextIOBase", Str.ofString "BytesIO", Str.ofString "StringIO", Str.ofString "shlex", Str.ofString "_filemode_table"]
@[reducible] noncomputable def C (w : World) (mean : ExcName → Option Value) (mg mb : Str → Option Value) (f : Addr) (D U : Nat) (args : List Value) (news : List (Addr × Obj)) (post : Value → List (Addr × Obj) → Prop) : Prop :=
  Ctr PR w (Mine.hd.heap_1 w.params) Mine.vw LO mean mg mb f D U args news post
end Mine
/-! text Y12 -/
namespace Mine
open PySem PySem.W PySem.Calls PySem.Spec PyProof.Rows
noncomputable def CtrK (prog : Program) (w : World) (K : Frag) (p : Program) (loose : List Str) (mean : ExcName → Option Value) (mg mb : Str → Option Value) (f : Addr) (D U : Nat) (args : List Value) (kw : List (Str × Value)) (news : List (Addr × Obj)) (post : Value → List (Addr × Obj) → Prop) : Prop :=
  ∀ (dp un : Nat) (gd : Option (List Code)) (cn : Str) (cs : Scope) (a : Addr) (ccd : Value) (cl : List (Str × Addr)) (outer : List Env) (A₀ : Around) (base h₀ : Heap) (L : Addr) (m : Str → Option Value) (s : Shared) (h : Heap) (tk : Nat) (R : Result → Shared → Prop),
    Fix K p loose mean mg mb A₀ base outer h₀ → Z h₀ L h m news → cs.kind = .function → dp + D < 450 → un + U < 450 →
    (∀ r news' h' tk', post r news' → Z h₀ L h' m news' → R (.ok (.ret r)) (St s h' tk')) →
    codeAny (model prog w) (ktrTop dp un gd cn cs L a ccd cl outer) (.call (.ref f) ⟨args, kw⟩) R (St s h tk)
section
variable {prog : Program} {w : World} {K : Frag} {p : Program} {loose : List Str} {mean : ExcName → Option Value} {mg mb : Str → Option Value} {f : Addr}
theorem ctrK_by {D U : Nat} {args : List Value} {kw : List (Str × Value)} {news : List (Addr × Obj)} {post : Value → List (Addr × Obj) → Prop} (binds : List (Str × Value))
    {name qual : Str} {params : Arguments} {body : List Stmt} {scope : Scope} {dV kV doc pm cdv ct oc : Value} {an od : Option Addr} {osl : Array (Option Value)}
    (ho : K.lookup f = some ⟨oc, od, .func (fnOf name qual params body scope dV kV doc pm an cdv ct), osl⟩) (hcd : codeIn K cdv qual = true)
    (hbind : ∀ s : Shared, K.In s.heap → BindsTo s (fnOf name qual params body scope dV kV doc pm an cdv ct) ⟨args, kw⟩ binds) (hloc : ∀ y ∈ binds, scope.names.lookup y.1 = some .local)
    (hnd : decide ((binds.map (·.1)).Nodup) = true)
    (hco : scope.isCoroutine = false) (hgen : scope.isGenerator = false) (hk : scope.kind = .function)
    (hcell : ∀ x ∈ scope.names, x.2 ≠ .cell)
    (h : ∀ (dp un : Nat) (gd : Option (List Code)) (outer : List Env) (A₀ : Around) (base g : Heap) (L : Addr) (h₁ : Heap) (s : Shared) (tk : Nat) (m : Str → Option Value),
      (∀ x v, (x, v) ∈ binds → m x = some v) → Fix K p loose mean mg mb A₀ base outer g → Z g L h₁ m news → dp + D ≤ 450 → un + U < 453 →
      wpAny (model prog w) (ktrTop dp un gd qual scope L f cdv [] outer) (execs body (envX qual scope L f cdv [])) (DoneQ g L s post) (fun _ _ => False) (St s h₁ tk))
    : CtrK prog w K p loose mean mg mb f D U args kw news post := by
  intro dp un gd cn cs a ccd cl outer A₀ base h₀ L m s h₂ tk₂ R fx z hks hd hu hret
  refine code_def (s := St s h₂ tk₂) fx.B z.F fx.X z.N fx.T rfl rfl hks ho hcd (by show dp < 1000; omega) (hbind _ (fx.X.keeps z.F.keep)) hloc ?_ hco hgen hk hcell
  intro g L' h₁ FG F' N' B' X' T'
  refine wpAny_mono (h (dp + 1) (un + 3) gd _ _ base g L' h₁ s _ _ (fun x v hm => lookup_of_mem (by rw [List.map_reverse]; unfold List.Nodup; rw [List.pairwise_reverse]; exact (of_decide_eq_true hnd).imp Ne.symm) (List.mem_reverse.mpr hm)) ⟨B', X', T'⟩ ⟨F', N', z.nd⟩ (by omega) (by omega)) ?_ (fun _ _ x => x.elim)
  rintro fl s' ⟨m', news', h', tk', rfl, z', hp⟩
  refine leaveK_ z'.F z'.N fun F₂ N₂ => ?_
  exact hret _ _ _ _ hp ⟨F₂, N₂, z'.nd⟩
end
section
variable {prog : Program} {w : World} {A₀ : Around} {E : Value → Shared → Prop} {s : Shared} {K : Frag} {h₀ base : Heap} {outer : List Env} {L a : Addr} {mg mb : Str → Option Value} {p : Program} {loose : List Str} {mean : ExcName → Option Value} {h : Heap} {tk : Nat} {m : Str → Option Value}
  {Q : Value → Shared → Prop} {news : List (Addr × Obj)}
theorem Z.perm {news' : List (Addr × Obj)} (z : Z h₀ L h m news) (hp : news.Perm news') : Z h₀ L h m news' :=
  ⟨z.F, fun p hm => z.N p (hp.mem_iff.mpr hm), (hp.map _).nodup_iff.mp z.nd⟩
/-- a class is called; its `__init__` by its contract -/
theorem y_make {C fI : Addr} {pos : List Value} {kw : List (Str × Value)} {D U : Nat} {post : Addr → Addr → List (Addr × Obj) → Prop}
    {dp un : Nat} {gd : Option (List Code)} {cn : Str} {cs : Scope} {ccd : Value} {cl : List (Str × Addr)}
    (fx : Fix K p loose mean mg mb A₀ base outer h₀) (z : Z h₀ L h m news) (hm : makesIn K C = true) (hi : findIn K (.ref C) "__init__" = some (some (.ref fI))) (hf : isFn K (.ref fI) = true)
    (c : ∀ x dx, CtrK prog w K p loose mean mg mb fI D U (.ref x :: pos) kw (news ++ [(x, instObj C dx), (dx, dictOf [] 0)]) (fun r news' => r = .none ∧ post x dx news'))
    (hk : cs.kind = .function) (hd : dp + 1 + D < 450) (hu : un + 1 + U < 450)
    (k : ∀ x dx news' h' tk', post x dx news' → Z h₀ L h' m news' → Q (.ref x) (St s h' tk')) :
    wpAny (model prog w) (ktrTop dp un gd cn cs L a ccd cl outer) (call (.ref C) pos kw) Q E (St s h tk) := by
  refine call_cls (s := St s h tk) z.F fx.X z.N hm hi hf ?_
  intro x dx h' F' N' hlt hx
  have z' : Z h₀ L h' m (news ++ [(x, instObj C dx), (dx, dictOf [] 0)]) := by
    refine Z.perm (news := [(x, instObj C dx), (dx, dictOf [] 0)] ++ news) ⟨F', N', ?_⟩ List.perm_append_comm
    show (x :: dx :: news.map (·.1)).Nodup
    refine List.nodup_cons.mpr ⟨?_, List.nodup_cons.mpr ⟨?_, z.nd⟩⟩
    · intro hmem
      rcases List.mem_cons.mp hmem with e | hmem
      · exact absurd e (Nat.ne_of_gt hx)
      · obtain ⟨q, hq, e⟩ := List.mem_map.mp hmem
        exact absurd e (Nat.ne_of_lt (Nat.lt_trans (hlt q hq) hx))
    · intro hmem
      obtain ⟨q, hq, e⟩ := List.mem_map.mp hmem
      exact absurd e (Nat.ne_of_lt (hlt q hq))
  refine c x dx (dp + 1) (un + 1) _ cn cs a ccd cl outer A₀ base h₀ L m s h' tk _ fx z' hk hd hu ?_
  rintro r news' h'' tk'' ⟨rfl, hp⟩ z''
  exact ⟨rfl, k x dx news' h'' tk'' hp z''⟩
end
end Mine
/-! text Z1 -/
namespace Mine
open PySem PySem.W PySem.Calls PySem.Spec PyProof.Rows

theorem Z.pushF {h₀ h : Heap} {L : Addr} {m : Str → Option Value} {news : List (Addr × Obj)} (z : Z h₀ L h m news) (o : Obj) (hf : o.isFreed = false := by rfl) : Z h₀ L (h.push o) m ((h.objs.size, o) :: news) :=
  (z.push o hf).perm List.perm_append_comm
theorem Z.tail {h₀ h : Heap} {L : Addr} {m : Str → Option Value} {p : Addr × Obj} {news : List (Addr × Obj)} (z : Z h₀ L h m (p :: news)) : Z h₀ L h m news :=
  ⟨z.F, fun q hq => z.N q (.tail _ hq), (List.nodup_cons.mp z.nd).2⟩

/-- an iterator at its start: n turns, P what a turn gives, src what it reads in the ledger -/
inductive Src (prog : Program) (w : World) (A : Around) (target : Expr) (h₀ : Heap) (L : Addr) (news src : List (Addr × Obj)) (n : Nat) (P : Nat → Value → Heap → Prop) (it : Value) (h : Heap) : Prop
  | mk (I : Addr) (fp wr : List Addr) (Md : Nat → Value → Heap → Prop) (St : Nat → Heap → Prop) (e : it = .ref I) (kt : KTurns prog w A target I fp wr n P Md St)
    (hobj : ∀ i h, St i h → ∀ b ∈ wr, ∃ o, h.get? b = some o) (hnd : wr.Nodup) (hwr : ∀ b ∈ wr, h₀.get? b = none ∧ b ≠ L ∧ b ∉ news.map (·.1))
    (hfp : ∀ b ∈ fp, b ∈ wr ∨ (∃ o, h₀.get? b = some o) ∨ ∃ o, (b, o) ∈ src) (hst : St 0 h) (hit : ∀ (s : Shared) (Q E : Value → Shared → Prop), St 0 s.heap → Q (.ref I) s → wpAny (model prog w) A (pyIter (.ref I)) Q E s) : Src prog w A target h₀ L news src n P it h

theorem Z.new {h₀ h : Heap} {L b : Addr} {m : Str → Option Value} {news : List (Addr × Obj)} (z : Z h₀ L h m news) (hb : h.objs.size ≤ b) : h₀.get? b = none ∧ b ≠ L ∧ b ∉ news.map (·.1) := by
  have hn : h.get? b = none := by
    cases e : h.get? b with
    | none => rfl
    | some o => exact absurd (Heap.lt_size e) (Nat.not_lt.mpr hb)
  refine ⟨?_, ?_, ?_⟩
  · cases e : h₀.get? b with
    | none => rfl
    | some o => rw [z.F.keep _ _ e] at hn; cases hn
  · intro e
    exact absurd z.F.ns.lt (Nat.not_lt.mpr (e ▸ hb))
  · intro hm
    obtain ⟨p, hp, e⟩ := List.mem_map.mp hm
    exact absurd (Heap.lt_size (z.N p hp).1) (Nat.not_lt.mpr (by have e' : p.1 = b := e; rw [e']; exact hb))
/-- the objects that stand at the addresses wr -/
theorem objs_at {h : Heap} : ∀ {wr : List Addr}, (∀ b ∈ wr, ∃ o, h.get? b = some o) → ∃ its : List (Addr × Obj), its.map (·.1) = wr ∧ ∀ p ∈ its, h.get? p.1 = some p.2
  | [], _ => ⟨[], rfl, fun _ h => nomatch h⟩
  | b :: r, hw => by
    obtain ⟨o, ho⟩ := hw b (.head _)
    obtain ⟨its, e, hi⟩ := objs_at (wr := r) fun c hc => hw c (.tail _ hc)
    refine ⟨(b, o) :: its, by rw [List.map_cons, e], fun p hp => ?_⟩
    rcases List.mem_cons.mp hp with rfl | hp
    · exact ho
    · exact hi p hp

noncomputable def ForQ (h₀ : Heap) (L : Addr) (s : Shared) (its : List (Addr × Obj)) (J : (Str → Option Value) → List (Addr × Obj) → Prop) (Q : Flow → Shared → Prop) (f : Flow) (s₃ : Shared) : Prop :=
  match f with
  | .next | .cont => ∃ h' tk m₂ news₂, s₃ = St s h' tk ∧ Z h₀ L h' m₂ (news₂ ++ its) ∧ J m₂ news₂
  | .brk => Q .next s₃
  | .ret v => Q (.ret v) s₃

section
variable {prog : Program} {w : World} {A : Around} {s : Shared} {env : Env} {h₀ : Heap} {L : Addr} {m : Str → Option Value} {news : List (Addr × Obj)} {target : Expr} {n : Nat} {P : Nat → Value → Heap → Prop}
theorem Z.keepsBut {h h' : Heap} {wr : List Addr} (z : Z h₀ L h m news) (hw : ∀ b ∈ wr, h₀.get? b = none ∧ b ≠ L ∧ b ∉ news.map (·.1)) (hk : ∀ b o, b ∉ wr → h.get? b = some o → h'.get? b = some o) : Z h₀ L h' m news := by
  refine ⟨⟨z.F.ns.at' fun o e => hk _ o (fun hm => (hw _ hm).2.1 rfl) e, fun b o e => hk b o (fun hm => ?_) (z.F.keep b o e), z.F.above⟩, fun p hp => ⟨hk _ _ (fun hm => (hw _ hm).2.2 (List.mem_map_of_mem hp)) (z.N p hp).1, (z.N p hp).2⟩, z.nd⟩
  rw [(hw b hm).1] at e
  cases e
theorem Z.join {h : Heap} {its : List (Addr × Obj)} (z : Z h₀ L h m news) (hw : ∀ b ∈ its.map (·.1), h₀.get? b = none ∧ b ≠ L ∧ b ∉ news.map (·.1)) (hi : ∀ p ∈ its, h.get? p.1 = some p.2) (nd : (its.map (·.1)).Nodup) : Z h₀ L h m (news ++ its) := by
  refine ⟨z.F, fun p hp => ?_, ?_⟩
  · rcases List.mem_append.mp hp with hp | hp
    · exact z.N p hp
    · exact ⟨hi p hp, (hw _ (List.mem_map_of_mem hp)).2.1, (hw _ (List.mem_map_of_mem hp)).1⟩
  · rw [List.map_append]
    exact List.nodup_append.mpr ⟨z.nd, nd, fun a ha b hb e => (hw b hb).2.2 (e ▸ ha)⟩
theorem Z.off {h : Heap} {its : List (Addr × Obj)} (z : Z h₀ L h m (news ++ its)) : ∀ b ∈ its.map (·.1), h₀.get? b = none ∧ b ≠ L ∧ b ∉ news.map (·.1) := by
  intro b hb
  obtain ⟨p, hp, rfl⟩ := List.mem_map.mp hb
  have hN := z.N p (List.mem_append.mpr (.inr hp))
  refine ⟨hN.2.2, hN.2.1, fun hm => ?_⟩
  have nd := z.nd
  rw [List.map_append] at nd
  exact (List.nodup_append.mp nd).2.2 _ hm _ hb rfl
theorem for_code {body orelse : List Stmt} {R : Result → Shared → Prop} {src : List (Addr × Obj)} (J : Nat → (Str → Option Value) → List (Addr × Obj) → Prop) {it : Value} {h : Heap} {tk : Nat} (z : Z h₀ L h m news) (S : Src prog w A target h₀ L news src n P it h) (h0 : J 0 m news)
    (keep : ∀ i m₁ news₁, J i m₁ news₁ → ∀ p ∈ src, p ∈ news₁)
    (turn : ∀ i v m₁ news₁ its h₁ tk₁, i < n → P i v h₁ → J i m₁ news₁ → Z h₀ L h₁ m₁ (news₁ ++ its) →
      wpAny (model prog w) A (assign target env v) (fun _ s₃ => wpAny (model prog w) A (execs body env) (ForQ h₀ L s its (J (i + 1)) fun f s' => R (.ok f) s') (notedBy (model prog w) A env fun e s' => R (.error e) s') s₃) (notedBy (model prog w) A env fun e s' => R (.error e) s') (St s h₁ tk₁))
    (done : ∀ m' news' h' tk', Z h₀ L h' m' news' → J n m' news' → wpAny (model prog w) A (execs orelse env) (fun f s' => R (.ok f) s') (notedBy (model prog w) A env fun e s' => R (.error e) s') (St s h' tk')) :
    codeAny (model prog w) A (.forLoop target it body orelse env) R (St s h tk) := by
  obtain ⟨I, fp, wr, Md, Sx, rfl, W, hobj, hnd, hwr, hfp, hst, _⟩ := S
  refine codeAny_forLoop_any
    (fun k s' => ∃ h' tk' m' news' i, s' = St s h' tk' ∧ Sx i h' ∧ Z h₀ L h' m' news' ∧ (∀ b ∈ wr, h₀.get? b = none ∧ b ≠ L ∧ b ∉ news'.map (·.1)) ∧ J i m' news' ∧ i ≤ n ∧ k = n + 1 - i) ?_ (n + 1)
    ⟨h, tk, m, news, 0, rfl, hst, z, hwr, h0, Nat.zero_le _, rfl⟩
  rintro k s' ⟨h', tk', m', news', i, rfl, hst', z', hwr', hJ, hi, rfl⟩
  by_cases hlt : i < n
  · refine W.item i (St s h' tk') _ _ hlt hst' fun v h₁ tk₁ hMd hk₁ => ?_
    refine W.go i v (St s h₁ tk₁) _ _ hMd fun h₂ hP hst₂ hk₂ => ?_
    have z₂ : Z h₀ L h₂ m' news' := z'.keepsBut hwr' fun b o hb x => hk₂ b o hb (hk₁ b o hb x)
    obtain ⟨its, hits, hits2⟩ := objs_at (hobj _ _ hst₂)
    have z₂' : Z h₀ L h₂ m' (news' ++ its) := z₂.join (by rw [hits]; exact hwr') hits2 (by rw [hits]; exact hnd)
    have next : ∀ h₃ m₂ news₂, Z h₀ L h₃ m₂ (news₂ ++ its) → J (i + 1) m₂ news₂ → Sx (i + 1) h₃ ∧ Z h₀ L h₃ m₂ news₂ ∧ (∀ b ∈ wr, h₀.get? b = none ∧ b ≠ L ∧ b ∉ news₂.map (·.1)) := by
      intro h₃ m₂ news₂ z₃ hJ₃
      refine ⟨W.frame _ _ _ hst₂ fun b hb o e => ?_, z₃.drop, by have := z₃.off; rw [hits] at this; exact this⟩
      rcases hfp b hb with hb | ⟨o₀, ho₀⟩ | ⟨o₀, ho₀⟩
      · rw [← hits] at hb
        obtain ⟨p, hp, rfl⟩ := List.mem_map.mp hb
        have := hits2 p hp
        rw [this] at e
        cases e
        exact (z₃.N p (List.mem_append.mpr (.inr hp))).1
      · have := z₂.F.keep b o₀ ho₀
        rw [this] at e
        cases e
        exact z₃.F.keep _ _ ho₀
      · have := (z₂.N _ (keep _ _ _ hJ _ ho₀)).1
        rw [this] at e
        cases e
        exact (z₃.N _ (List.mem_append.mpr (.inl (keep _ _ _ hJ₃ _ ho₀)))).1
    refine wpAny_mono (turn i v m' news' its h₂ tk₁ hlt hP hJ z₂') (fun _ s₂ h₂' => wpAny_mono h₂' (fun f s₃ h₃ => ?_) fun _ _ e => e) fun _ _ e => e
    cases f with
    | ret v => exact h₃
    | brk => exact h₃
    | cont =>
      obtain ⟨h₃', tk₃, m₂, news₂, rfl, z₃, hJ₃⟩ := h₃
      obtain ⟨a, b, c⟩ := next _ _ _ z₃ hJ₃
      exact ⟨n + 1 - (i + 1), by omega, h₃', tk₃, m₂, news₂, i + 1, rfl, a, b, c, hJ₃, hlt, rfl⟩
    | next =>
      obtain ⟨h₃', tk₃, m₂, news₂, rfl, z₃, hJ₃⟩ := h₃
      obtain ⟨a, b, c⟩ := next _ _ _ z₃ hJ₃
      exact ⟨n + 1 - (i + 1), by omega, h₃', tk₃, m₂, news₂, i + 1, rfl, a, b, c, hJ₃, hlt, rfl⟩
  · have hin : i = n := by omega
    subst hin
    exact W.done (St s h' tk') _ _ hst' fun h₁ tk₁ hk₁ => done m' news' h₁ tk₁ (z'.keepsBut hwr' hk₁) hJ

/-- what a for wants of its iterator -/
inductive ForAt (prog : Program) (w : World) (A : Around) (s : Shared) (env : Env) (h₀ : Heap) (L : Addr) (target : Expr) (body orelse rest : List Stmt) (Q : Flow → Shared → Prop) (it : Value) (s₂ : Shared) : Prop
  | mk (h₂ : Heap) (tk₂ : Nat) (m₂ : Str → Option Value) (news₂ src : List (Addr × Obj)) (n : Nat) (P : Nat → Value → Heap → Prop) (J : Nat → (Str → Option Value) → List (Addr × Obj) → Prop) (e : s₂ = St s h₂ tk₂) (z : Z h₀ L h₂ m₂ news₂) (S : Src prog w A target h₀ L news₂ src n P it h₂) (j0 : J 0 m₂ news₂)
    (keep : ∀ i m₁ news₁, J i m₁ news₁ → ∀ p ∈ src, p ∈ news₁)
    (turn : ∀ i v m₁ news₁ its h₁ tk₁, i < n → P i v h₁ → J i m₁ news₁ → Z h₀ L h₁ m₁ (news₁ ++ its) →
      wpAny (model prog w) A (assign target env v) (fun _ s₃ => wpAny (model prog w) A (execs body env) (ForQ h₀ L s its (J (i + 1)) (then_ (model prog w) A (fun _ _ => False) env rest Q)) (fun _ _ => False) s₃) (fun _ _ => False) (St s h₁ tk₁))
    (done : ∀ m' news' h' tk', Z h₀ L h' m' news' → J n m' news' → wpAny (model prog w) A (execs orelse env) (then_ (model prog w) A (fun _ _ => False) env rest Q) (fun _ _ => False) (St s h' tk')) : ForAt prog w A s env h₀ L target body orelse rest Q it s₂
theorem y_forAt {iter : Expr} {body orelse rest : List Stmt} {pos : Pos} {Q : Flow → Shared → Prop} {h : Heap} {tk : Nat} (z : Z h₀ L h m news)
    (k : wpAny (model prog w) A (eval iter env) (fun xv s₁ => wpAny (model prog w) A (pyIter xv) (fun it s₂ => ForAt prog w A s env h₀ L target body orelse rest Q it s₂) (fun _ _ => False) s₁) (fun _ _ => False) (St s h tk))
    (hs : ∀ x, foldedSetIterable iter env x = pure x := by intro _; rfl) :
    wpAny (model prog w) A (execs (.For target iter body orelse pos :: rest) env) Q (fun _ _ => False) (St s h tk) := by
  refine y_stmt (wpAny_For (wpAny_mono k (fun xv s₁ h₁ => wpAny_mono h₁ (fun it s₂ h₂ => ?_) fun _ _ e => e) fun _ _ e => e) hs)
  obtain ⟨h₂, tk₂, m₂, news₂, src, n, P, J, rfl, z₂, S, h0, keep, turn, done⟩ := h₂
  refine for_code (R := fun r s' => match r with | .ok f => then_ (model prog w) A (fun _ _ => False) env rest Q f s' | .error e => cameBackBy (model prog w) A env (fun _ _ => False) e s') J z₂ S h0 keep ?_ ?_
  · intro i v m₁ news₁ its h₁ tk₁ hi hP hJ z₁
    exact wpAny_mono (turn i v m₁ news₁ its h₁ tk₁ hi hP hJ z₁) (fun _ _ x => wpAny_mono x (fun _ _ y => y) fun _ _ y => y.elim) fun _ _ y => y.elim
  · intro m' news' h' tk' z' hJ
    exact wpAny_mono (done m' news' h' tk' z' hJ) (fun _ _ y => y) fun _ _ y => y.elim
theorem for_next {J : (Str → Option Value) → List (Addr × Obj) → Prop} {Q : Flow → Shared → Prop} {its : List (Addr × Obj)} {h' : Heap} {tk : Nat} (z : Z h₀ L h' m (news ++ its)) (hJ : J m news) : ForQ h₀ L s its J Q .next (St s h' tk) := ⟨h', tk, m, news, rfl, z, hJ⟩
theorem for_brk {J : (Str → Option Value) → List (Addr × Obj) → Prop} {Q : Flow → Shared → Prop} {its : List (Addr × Obj)} {s' : Shared} (h : Q .next s') : ForQ h₀ L s its J Q .brk s' := h
end
end Mine
/-! text Z2 -/
namespace Mine
open PySem PySem.W PySem.Calls PySem.Spec PyProof.Rows PyProof.Rows.LCg

@[reducible] noncomputable def testsOf (ifs : List Expr) (env : Env) : Sem Bool := forIn ifs true fun c r => if r = true then do let ok ← isTrue c env (eval c env); pure (ForInStep.yield ok) else pure (ForInStep.yield r)
section
variable {prog : Program} {w : World} {A : Around} {s : Shared}
theorem comp_loop {elt target iter : Expr} {ifs : List Expr} {scope : Scope} {pos : Pos} {it acc : Value} {env : Env} {R : Result → Shared → Prop} (I : Nat → Shared → Prop)
    (turn : ∀ n s, I n s → wpAny (model prog w) A (pyNext it) (fun r s₁ => match r with
      | none => R (.ok .next) s₁
      | some v => wpAny (model prog w) A (letOwnedTupleGo target it v) (fun _ s₁' => wpAny (model prog w) A (assign target env v) (fun _ s₂ => wpAny (model prog w) A (testsOf ifs env) (fun ok s₃ =>
          if ok = true then wpAny (model prog w) A (eval elt env) (fun x s₄ => wpAny (model prog w) A (call (.builtin "list.append") [acc, x]) (fun _ s₅ => ∃ m, m < n ∧ I m s₅) (fun _ _ => False) s₄) (fun _ _ => False) s₃
          else ∃ m, m < n ∧ I m s₃) (fun _ _ => False) s₂) (fun _ _ => False) s₁') (fun _ _ => False) s₁) (fun _ _ => False) s)
    (n : Nat) (h : I n s) : codeAny (model prog w) A (.compLoop (.ListComp elt [⟨target, iter, ifs, 0⟩] scope pos) 0 it acc env) R s := by
  refine codeAny_loop rfl I (fun n s hI => ?_) n h
  show wpAny _ A ((compTurn (.ListComp elt [⟨target, iter, ifs, 0⟩] scope pos) 0 it acc env).onRaise (fun x => do noteFrame x env; theTreesLotGoes x)) _ _ s
  refine wpAny_noted ?_
  rw [compTurn_list]
  refine wpAny_bind (wpAny_standAt (wpAny_bind (wpAny_mono (turn n s hI) (fun r s₁ h₁ => ?_) fun _ _ h' => h'.elim)))
  cases r with
  | none => exact wpAny_pure h₁
  | some v =>
    refine wpAny_bind (wpAny_mono h₁ (fun _ s₁' h₁' => ?_) fun _ _ h' => h'.elim)
    refine wpAny_bind (wpAny_mono h₁' (fun _ s₂ h₂ => wpAny_bind (wpAny_mono h₂ (fun ok s₃ h₃ => ?_) fun _ _ h' => h'.elim)) fun _ _ h' => h'.elim)
    cases ok with
    | true =>
      have h₃' := (if_pos rfl : (if true = true then _ else _) = _) ▸ h₃
      exact wpAny_bind (wpAny_bind (wpAny_mono h₃' (fun x s₄ h₄ => wpAny_bind (wpAny_mono h₄ (fun _ s₅ h₅ => wpAny_pure (wpAny_pure ⟨rfl, h₅⟩)) fun _ _ h' => h'.elim)) fun _ _ h' => h'.elim))
    | false =>
      have h₃' := (if_neg Bool.false_ne_true : (if false = true then _ else _) = _) ▸ h₃
      exact wpAny_pure ⟨rfl, h₃'⟩
end
/-- the end of a turn of a comprehension -/
noncomputable def CEnd (h₀ : Heap) (L : Addr) (s : Shared) (m : Str → Option Value) (C : Addr) (rest : List (Addr × Obj)) (P : Prop) (s' : Shared) : Prop :=
  ∃ h' tk' oC' mc', s' = St s h' tk' ∧ NsObj oC' mc' ∧ Z h₀ L h' m ((C, oC') :: rest) ∧ P
@[reducible] noncomputable def lstO (ys : List Value) : Obj := listOf ys.toArray ys.length
section
variable {prog : Program} {w : World} {A : Around} {s : Shared} {env : Env} {h₀ : Heap} {L : Addr} {m : Str → Option Value} {news src : List (Addr × Obj)} {target : Expr} {n : Nat} {P : Nat → Value → Heap → Prop}
@[reducible] noncomputable def CTurn (prog : Program) (w : World) (A : Around) (s : Shared) (env : Env) (h₀ : Heap) (L : Addr) (m : Str → Option Value) (news : List (Addr × Obj)) (target : Expr) (n : Nat) (P : Nat → Value → Heap → Prop) (elt : Expr) (ifs : List Expr) (scope : Scope) (cl : List (Str × Addr)) (J : Nat → List Value → Prop) : Prop :=
  ∀ i v ys C oC mc its h₁ tk₁, i < n → P i v h₁ → J i ys → NsObj oC mc → Z h₀ L h₁ m ((C, oC) :: (news ++ its)) →
    wpAny (model prog w) A (assign target (compEnvC scope cl C env) v) (fun _ s₂ => wpAny (model prog w) A (testsOf ifs (compEnvC scope cl C env)) (fun ok s₃ =>
      if ok = true then wpAny (model prog w) A (eval elt (compEnvC scope cl C env)) (fun y s₄ => CEnd h₀ L s m C (news ++ its) (J (i + 1) (ys ++ [y])) s₄) (fun _ _ => False) s₃
      else CEnd h₀ L s m C (news ++ its) (J (i + 1) ys) s₃) (fun _ _ => False) s₂) (fun _ _ => False) (St s h₁ tk₁)
theorem Z.swapIn {h : Heap} {C : Addr} {oC : Obj} {p : Addr × Obj} {its : List (Addr × Obj)} : Z h₀ L h m ((C, oC) :: p :: (news ++ its)) ↔ Z h₀ L h m ((C, oC) :: (news ++ p :: its)) :=
  ⟨fun z => z.perm (.cons _ List.perm_middle.symm), fun z => z.perm (.cons _ List.perm_middle)⟩
theorem comp_code {elt iter : Expr} {ifs : List Expr} {scope : Scope} {cl : List (Str × Addr)} {pos : Pos} {J : Nat → List Value → Prop} {it : Value} {h : Heap} {tk : Nat} {C D : Addr} {oC : Obj} {mc : Str → Option Value} {R : Result → Shared → Prop}
    (z : Z h₀ L h m ((C, oC) :: (D, lstO []) :: news)) (hC : NsObj oC mc) (S : Src prog w A target h₀ L ((C, oC) :: (D, lstO []) :: news) src n P it h) (hsrc : ∀ p ∈ src, p ∈ news) (hsz : n < 1000) (h0 : J 0 [])
    (turn : CTurn prog w A s env h₀ L m news target n P elt ifs scope cl J)
    (done : ∀ ys oC' mc' h' tk', J n ys → NsObj oC' mc' → Z h₀ L h' m ((C, oC') :: (D, lstO ys) :: news) → R (.ok .next) (St s h' tk')) :
    codeAny (model prog w) A (.compLoop (.ListComp elt [⟨target, iter, ifs, 0⟩] scope pos) 0 it (.ref D) (compEnvC scope cl C env)) R (St s h tk) := by
  obtain ⟨I, fp, wr, Md, Sx, rfl, W, hobj, hnd, hwr, hfp, hst, _⟩ := S
  refine comp_loop
    (fun k s' => ∃ h' tk' i ys oC' mc', s' = St s h' tk' ∧ Sx i h' ∧ NsObj oC' mc' ∧ Z h₀ L h' m ((C, oC') :: (D, lstO ys) :: news) ∧ J i ys ∧ i ≤ n ∧ ys.length ≤ i ∧ k = n + 1 - i) ?_ (n + 1)
    ⟨h, tk, 0, [], oC, mc, rfl, hst, hC, z, h0, Nat.zero_le _, Nat.le_refl _, rfl⟩
  rintro k s' ⟨h', tk', i, ys, oC', mc', rfl, hst', hC', z', hJ, hi, hyl, rfl⟩
  have hwr' : ∀ b ∈ wr, h₀.get? b = none ∧ b ≠ L ∧ b ∉ (((C, oC') :: (D, lstO ys) :: news) : List (Addr × Obj)).map (·.1) := hwr
  by_cases hlt : i < n
  · refine W.item i (St s h' tk') _ _ hlt hst' fun v h₁ tk₁ hMd hk₁ => ?_
    refine W.go i v (St s h₁ tk₁) _ _ hMd fun h₂ hP hst₂ hk₂ => ?_
    have z₂ := z'.keepsBut hwr' fun b o hb x => hk₂ b o hb (hk₁ b o hb x)
    obtain ⟨its, hits, hits2⟩ := objs_at (hobj _ _ hst₂)
    have z₂' : Z h₀ L h₂ m ((C, oC') :: (D, lstO ys) :: (news ++ its)) := z₂.join (by rw [hits]; exact hwr') hits2 (by rw [hits]; exact hnd)
    have next : ∀ h₃ oC₃ oD₃, Z h₀ L h₃ m ((C, oC₃) :: (D, oD₃) :: (news ++ its)) → Sx (i + 1) h₃ ∧ Z h₀ L h₃ m ((C, oC₃) :: (D, oD₃) :: news) := by
      intro h₃ oC₃ oD₃ z₃
      refine ⟨W.frame _ _ _ hst₂ fun b hb o e => ?_, z₃.drop (news := (C, oC₃) :: (D, oD₃) :: news) (news' := its)⟩
      rcases hfp b hb with hb | ⟨o₀, ho₀⟩ | ⟨o₀, ho₀⟩
      · rw [← hits] at hb
        obtain ⟨p, hp, rfl⟩ := List.mem_map.mp hb
        have := hits2 p hp
        rw [this] at e
        cases e
        exact (z₃.N p (.tail _ (.tail _ (List.mem_append.mpr (.inr hp))))).1
      · have := z₂.F.keep b o₀ ho₀
        rw [this] at e
        cases e
        exact z₃.F.keep _ _ ho₀
      · have := (z₂.N _ (.tail _ (.tail _ (hsrc _ ho₀)))).1
        rw [this] at e
        cases e
        exact (z₃.N _ (.tail _ (.tail _ (List.mem_append.mpr (.inl (hsrc _ ho₀)))))).1
    refine wpAny_mono (turn i v ys C oC' mc' ((D, lstO ys) :: its) h₂ tk₁ hlt hP hJ hC' (Z.swapIn.mp z₂')) (fun _ s₂ h₂' => wpAny_mono h₂' (fun ok s₃ h₃ => ?_) fun _ _ e => e) fun _ _ e => e
    cases ok with
    | false =>
      have h₃' := (if_neg Bool.false_ne_true : (if false = true then _ else _) = _) ▸ h₃
      rw [if_neg Bool.false_ne_true]
      obtain ⟨h₄, tk₄, oC₄, mc₄, rfl, hC₄, z₄, hJ₄⟩ := h₃'
      obtain ⟨a, b⟩ := next _ _ _ (Z.swapIn.mpr z₄)
      exact ⟨n + 1 - (i + 1), by omega, h₄, tk₄, i + 1, ys, oC₄, mc₄, rfl, a, hC₄, b, hJ₄, hlt, by omega, rfl⟩
    | true =>
      have h₃' := (if_pos rfl : (if true = true then _ else _) = _) ▸ h₃
      rw [if_pos rfl]
      refine wpAny_mono h₃' (fun y s₄ h₄ => ?_) fun _ _ e => e
      obtain ⟨h₄, tk₄, oC₄, mc₄, rfl, hC₄, z₄, hJ₄⟩ := h₄
      have z₅ := Z.swapIn.mpr z₄
      have hq : ((C, oC₄) :: (D, lstO ys) :: (news ++ its))[1]? = some (D, lstO ys) := rfl
      refine append_K (s := St s h₄ tk₄) z₅.F z₅.N (upd_of z₅.nd hq) (fun h₅ F₅ N₅ => ?_) (by rw [sizeLine_eq, List.size_toArray]; omega)
      have z₆ : Z h₀ L h₅ m ((C, oC₄) :: (D, lstO (ys ++ [y])) :: (news ++ its)) := by
        refine ⟨F₅, ?_, z₅.nd⟩
        have : lstO (ys ++ [y]) = listOf (ys.toArray.push y) (ys.length + 1) := by simp [lstO]
        rw [this]
        exact N₅
      obtain ⟨a, b⟩ := next _ _ _ z₆
      exact ⟨n + 1 - (i + 1), by omega, h₅, tk₄, i + 1, ys ++ [y], oC₄, mc₄, rfl, a, hC₄, b, hJ₄, hlt, by simp; omega, rfl⟩
  · have hin : i = n := by omega
    subst hin
    exact W.done (St s h' tk') _ _ hst' fun h₁ tk₁ hk₁ => done ys oC' mc' h₁ tk₁ hJ hC' (z'.keepsBut hwr' hk₁)
/-- what a comprehension wants of its iterator -/
inductive CompAt (prog : Program) (w : World) (A : Around) (s : Shared) (env : Env) (h₀ : Heap) (L : Addr) (target : Expr) (elt : Expr) (ifs : List Expr) (scope : Scope) (cl : List (Str × Addr)) (Fin : (Str → Option Value) → List (Addr × Obj) → Addr → Addr → Obj → Shared → Prop) (it : Value) (s₂ : Shared) : Prop
  | mk (h₂ : Heap) (tk₂ : Nat) (m : Str → Option Value) (news src : List (Addr × Obj)) (n : Nat) (P : Nat → Value → Heap → Prop) (J : Nat → List Value → Prop) (e : s₂ = St s h₂ tk₂) (z : Z h₀ L h₂ m news) (S : Src prog w A target h₀ L news src n P it h₂) (hsrc : ∀ p ∈ src, p ∈ news) (hn : n < 1000) (j0 : J 0 [])
    (turn : CTurn prog w A s env h₀ L m news target n P elt ifs scope cl J)
    (done : ∀ ys D C oC mc h' tk', J n ys → NsObj oC mc → Z h₀ L h' m ((C, oC) :: (D, lstO ys) :: news) → Fin m ((D, lstO ys) :: news) D C oC (St s h' tk')) : CompAt prog w A s env h₀ L target elt ifs scope cl Fin it s₂
theorem comp_block {elt iter : Expr} {ifs : List Expr} {scope : Scope} {cl : List (Str × Addr)} {pos : Pos} {it : Value} {s₂ : Shared} {E : Value → Shared → Prop} {RR : Value → Addr → Result → Shared → Prop} {Fin : (Str → Option Value) → List (Addr × Obj) → Addr → Addr → Obj → Shared → Prop}
    (X : CompAt prog w A s env h₀ L target elt ifs scope cl Fin it s₂) (hcell : ∀ y ∈ scope.names, y.2 ≠ .cell) (hkind : scope.kind = .function)
    (hRR : ∀ m news D C oC s', Fin m news D C oC s' → RR (.ref D) C (.ok .next) s') :
    wpAny (model prog w) A (newList []) (fun acc s₃ => wpAny (model prog w) A (newFunctionEnv scope env.globals cl [] env.qual none .none (some env)) (fun cenv s₄ =>
      codeAny (model prog w) A (.compStart (.ListComp elt [⟨target, iter, ifs, 0⟩] scope pos) 0 it acc { cenv with scope := relabel scope env }) (RR acc cenv.locals) s₄) E s₃) E s₂ := by
  obtain ⟨h₂, tk₂, m, news, src, n, P, J, rfl, z, S, hsrc, hsz, h0, turn, done⟩ := X
  refine wpAny_newObj_type (s := St s h₂ tk₂) (wpAny_newFunctionEnv hcell (by intro y hy; simp at hy) (fun h₁ hns₁ hsb₁ => ?_) hkind)
  dsimp only [St] at hns₁ hsb₁ ⊢
  have z1 : Z h₀ L (h₂.push (lstO [])) m ((h₂.objs.size, lstO []) :: news) := z.pushF (lstO [])
  obtain ⟨oC, hgC, hoC⟩ := ns_obj hns₁
  have hf := z1.new (b := (h₂.push (lstO [])).objs.size) (Nat.le_refl _)
  have z2 : Z h₀ L h₁ m (((h₂.push (lstO [])).objs.size, oC) :: (h₂.objs.size, lstO []) :: news) := by
    have z1' : Z h₀ L h₁ m ((h₂.objs.size, lstO []) :: news) := z1.keepsBut (wr := [(h₂.push (lstO [])).objs.size]) (fun b hb => by rw [List.mem_singleton.mp hb]; exact hf) fun b o hb e => hsb₁.extBut b o (fun q => hb (by rw [q]; exact List.mem_singleton.mpr rfl)) (Heap.get?_push_of_some _ e)
    refine (z1'.join (its := [((h₂.push (lstO [])).objs.size, oC)]) (fun b hb => ?_) (fun p hp => ?_) (by simp)).perm List.perm_append_comm
    · simp only [List.map_cons, List.map_nil, List.mem_singleton] at hb
      rw [hb]; exact hf
    · rw [List.mem_singleton.mp hp]; exact hgC
  have old : ∀ b o, h₂.get? b = some o → h₁.get? b = some o := fun b o e => hsb₁.extBut b o (fun q => by
    have q' : b = (h₂.push (lstO [])).objs.size := q
    rw [Heap.size_push] at q'
    exact absurd (Heap.lt_size e) (by rw [q']; exact Nat.not_lt.mpr (Nat.le_succ _))) (Heap.get?_push_of_some _ (Heap.get?_push_of_some _ e))
  have S2 : Src prog w A target h₀ L (((h₂.push (lstO [])).objs.size, oC) :: (h₂.objs.size, lstO []) :: news) src n P it h₁ := by
    obtain ⟨I, fp, wr, Md, Sx, rfl, W, hobj, hnd, hwr, hfp, hst, hself⟩ := S
    refine ⟨I, fp, wr, Md, Sx, rfl, W, hobj, hnd, fun b hb => ⟨(hwr b hb).1, (hwr b hb).2.1, ?_⟩, hfp, W.frame _ _ _ hst fun b _ o e => old b o e, hself⟩
    obtain ⟨o, ho⟩ := hobj _ _ hst b hb
    have hlt := Heap.lt_size ho
    rw [List.map_cons, List.map_cons, List.mem_cons, List.mem_cons]
    rintro (q | q | q)
    · have q' : b = (h₂.push (lstO [])).objs.size := q
      rw [Heap.size_push] at q'
      exact absurd hlt (by rw [q']; exact Nat.not_lt.mpr (Nat.le_succ _))
    · have q' : b = h₂.objs.size := q
      exact absurd hlt (by rw [q']; exact Nat.lt_irrefl _)
    · exact (hwr b hb).2.2 q
  have loop := comp_code (R := RR (.ref h₂.objs.size) (h₂.push (lstO [])).objs.size) (iter := iter) (pos := pos) (tk := tk₂ + ([] : List (Str × Value)).length) z2 hoC S2 hsrc hsz h0 turn (fun ys oC' mc' h' tk' hJ hC' z' => hRR _ _ _ _ _ _ (done ys _ _ oC' mc' h' tk' hJ hC' z'))
  obtain ⟨I, fp, wr, Md, Sx, rfl, W, hobj, hnd, hwr, hfp, hst, hself⟩ := S2
  exact codeAny_compStart_list loop (hself (St s h₁ _) _ _ hst loop)
end
end Mine
/-! text Z3 -/
namespace Mine
open PySem PySem.W PySem.Calls PySem.Spec PyProof.Rows PyProof.Rows.LCg

section
variable {prog : Program} {w : World} {A : Around} {s : Shared} {env : Env} {h₀ : Heap} {L : Addr} {E : Value → Shared → Prop} {m : Str → Option Value} {news src : List (Addr × Obj)} {target : Expr} {n : Nat} {P : Nat → Value → Heap → Prop}
noncomputable def FinV (Q : Value → Shared → Prop) (m : Str → Option Value) (news : List (Addr × Obj)) (D C : Addr) (oC : Obj) (s' : Shared) : Prop :=
  ∃ mc, s'.heap.Ns C mc ∧ ∀ h'', Heap.SameBut C s'.heap h'' → Q (.ref D) { s' with heap := h'' }
theorem Z.but {h h' : Heap} {p : Addr × Obj} (z : Z h₀ L h m (p :: news)) (hs : Heap.SameBut p.1 h h') : Z h₀ L h' m news := by
  have hp := z.N p (.head _)
  refine z.tail.keepsBut (wr := [p.1]) (fun b hb => ?_) fun b o hb e => hs.extBut b o (fun q => hb (List.mem_singleton.mpr q)) e
  rw [List.mem_singleton.mp hb]
  exact ⟨hp.2.2, hp.2.1, (List.nodup_cons.mp z.nd).1⟩
theorem fin_v {Q : Value → Shared → Prop} {D C : Addr} {oC : Obj} {mc : Str → Option Value} {h' : Heap} {tk' : Nat} (hC : NsObj oC mc) (z : Z h₀ L h' m ((C, oC) :: news)) (k : ∀ h'', Z h₀ L h'' m news → Q (.ref D) (St s h'' tk')) : FinV Q m news D C oC (St s h' tk') :=
  ⟨mc, hC.ns (z.N _ (.head _)).1, fun h'' hs => k h'' (z.but hs)⟩
theorem y_comp {elt iter : Expr} {ifs : List Expr} {scope : Scope} {cl : List (Str × Addr)} {pos : Pos} {Q : Value → Shared → Prop} {h : Heap} {tk : Nat} (z : Z h₀ L h m news)
    (k : wpAny (model prog w) A (eval iter env) (fun xv s₁ => wpAny (model prog w) A (pyIter xv) (fun it s₂ => CompAt prog w A s env h₀ L target elt ifs scope cl (FinV Q) it s₂) E s₁) E (St s h tk))
    (hclos : closureFor scope env = pure cl := by kernel_rfl) (hcell : decide (∀ y ∈ scope.names, y.2 ≠ .cell) = true := by kernel_rfl) (hkind : scope.kind = .function := by kernel_rfl)
    (hnames : decide (∀ y ∈ scope.names, y.2 = .local → scope.names.lookup y.1 = some .local) = true := by kernel_rfl) (hs : ∀ x, foldedSetIterable iter env x = pure x := by intro _; kernel_rfl) :
    wpAny (model prog w) A (eval (.ListComp elt [⟨target, iter, ifs, 0⟩] scope pos) env) Q E (St s h tk) := by
  rw [eval_ListComp]
  refine wpAny_comprehension_free (use := none) rfl hs hclos hkind (of_decide_eq_true hnames) (wpAny_mono k (fun xv s₁ h₁ => wpAny_mono h₁ (fun it s₂ h₂ => ?_) fun _ _ e => e) fun _ _ e => e)
  exact comp_block (RR := compPost (model prog w) A E none Q) h₂ (of_decide_eq_true hcell) hkind fun m news D C oC s' hf => hf
noncomputable def FinA (prog : Program) (w : World) (A : Around) (E : Value → Shared → Prop) (u : Value → Sem Unit) (Q : Shared → Prop) (m : Str → Option Value) (news : List (Addr × Obj)) (D C : Addr) (oC : Obj) (s' : Shared) : Prop :=
  wpAny (model prog w) A (u (.ref D)) (fun _ s'' => ∃ mc, s''.heap.Ns C mc ∧ ∀ h'', Heap.SameBut C s''.heap h'' → Q { s'' with heap := h'' }) E s'
/-- a name is given a comprehension -/
theorem y_assignComp {elt iter : Expr} {ifs : List Expr} {scope : Scope} {cl : List (Str × Addr)} {y : Str} {py pos spos : Pos} {rest : List Stmt} {Q : Flow → Shared → Prop} {h : Heap} {tk : Nat} (z : Z h₀ L h m news)
    (k : wpAny (model prog w) A (eval iter env) (fun xv s₁ => wpAny (model prog w) A (pyIter xv) (fun it s₂ => CompAt prog w A s env h₀ L target elt ifs scope cl (FinA prog w A E (assign (.Name y py) env) (fun s' => wpAny (model prog w) A (execs rest env) Q E s')) it s₂) E s₁) E (St s h tk))
    (hsw : swapsWith (.ListComp elt [⟨target, iter, ifs, 0⟩] scope pos) (some (.Name y py)) spos.line env = pure true := by kernel_rfl)
    (hclos : closureFor scope env = pure cl := by kernel_rfl) (hcell : decide (∀ y ∈ scope.names, y.2 ≠ .cell) = true := by kernel_rfl) (hkind : scope.kind = .function := by kernel_rfl)
    (hnames : decide (∀ y ∈ scope.names, y.2 = .local → scope.names.lookup y.1 = some .local) = true := by kernel_rfl) (hs : ∀ x, foldedSetIterable iter env x = pure x := by intro _; kernel_rfl) :
    wpAny (model prog w) A (execs (.Assign [.Name y py] (.ListComp elt [⟨target, iter, ifs, 0⟩] scope pos) spos :: rest) env) Q E (St s h tk) := by
  refine wpAny_execs_cons ?_
  rw [exec_Assign_Name_used _ _ _ _ hsw]
  refine wpAny_bind (wpAny_standAt (wpAny_bind ?_))
  show wpAny _ A (do let _ ← comprehension (.ListComp elt [⟨target, iter, ifs, 0⟩] scope pos) scope env _ (newList []) false (eval iter env) (some (assign (.Name y py) env))) _ _ (St s h tk)
  refine wpAny_bind (wpAny_mono (wpAny_comprehension_free (use := some (assign (.Name y py) env)) (Q := fun _ s' => wpAny (model prog w) A (execs rest env) Q E s') rfl hs hclos hkind (of_decide_eq_true hnames)
    (wpAny_mono k (fun xv s₁ h₁ => wpAny_mono h₁ (fun it s₂ h₂ => ?_) fun _ _ e => e) fun _ _ e => e)) (fun _ s' hq => wpAny_pure (wpAny_pure hq)) fun _ _ e => e)
  exact comp_block (RR := compPost (model prog w) A E (some (assign (.Name y py) env)) (fun _ s' => wpAny (model prog w) A (execs rest env) Q E s')) h₂ (of_decide_eq_true hcell) hkind fun m news D C oC s' hf => hf
end
section
variable {prog : Program} {w : World} {A : Around} {s : Shared} {h₀ : Heap} {L a : Addr} {E : Value → Shared → Prop} {cn : Str} {cs : Scope} {ccd : Value} {cl : List (Str × Addr)} {m : Str → Option Value} {news : List (Addr × Obj)}
theorem fin_a {Q : Shared → Prop} {D C : Addr} {oC : Obj} {mc : Str → Option Value} {h' : Heap} {tk' : Nat} {y : Str} {py : Pos} (hC : NsObj oC mc) (z : Z h₀ L h' m ((C, oC) :: news)) (k : ∀ h'', Z h₀ L h'' (mset m y (.ref D)) news → Q (St s h'' (tk' + 1)))
    (hk : cs.kind = .function := by kernel_rfl) (hx : (envX cn cs L a ccd cl).kindOf y = some .local := by kernel_rfl) : FinA prog w A E (assign (.Name y py) (envX cn cs L a ccd cl)) Q m news D C oC (St s h' tk') := by
  refine y_asName (y_st z (fun h₂ z₂ => ?_) hk hx)
  exact ⟨mc, hC.ns (z₂.N _ (.head _)).1, fun h'' hs => k h'' (z₂.but hs)⟩
end
end Mine
/-! text Z4 -/
namespace Mine
open PySem PySem.W PySem.Calls PySem.Spec PyProof.Rows PyProof.Rows.LCg

section
variable {M : Model} {prog : Program} {w : World} {A A₀ : Around} {s : Shared} {h₀ base : Heap} {L a : Addr} {mg mb : Str → Option Value} {E : Value → Shared → Prop} {cn : Str} {cs : Scope} {ccd : Value} {cl : List (Str × Addr)} {env : Env} {h : Heap} {C c : Addr} {m : Str → Option Value} {news : List (Addr × Obj)} {scope : Scope} {v : Value} {tk i : Nat} {o : Obj} {x : Str} {pos : Pos}
  {K : Frag} {p : Program} {loose : List Str} {mean : ExcName → Option Value} {outer : List Env}
theorem Z.put {h' : Heap} {o' : Obj} (z : Z h₀ L h m news) (hq : news[i]? = some (c, o)) (hs : Heap.SameBut c h h') (ho' : h'.get? c = some o') : Z h₀ L h' m (news.set i (c, o')) := by
  have hmem := z.N _ (List.mem_of_getElem? hq)
  obtain ⟨pre, post, rfl, e2, a, b⟩ := (upd_of (o' := o') z.nd hq).split
  refine ⟨z.F.change hs hmem.2.1 hmem.2.2, ?_, by rw [keys_set hq]; exact z.nd⟩
  rw [e2]
  exact news_set z.N a b hs ho'
/-- a cell is stored -/
theorem y_stC {Q : Unit → Shared → Prop} {v₀ : Option Value} (z : Z h₀ L h m news) (hc : cl.lookup x = some c) (hq : news[i]? = some (c, o)) (hd : o.data = .cell v₀)
    (k : ∀ h' o', o'.data = .cell (some v) → Z h₀ L h' m (news.set i (c, o')) → Q () (St s h' tk))
    (hk : cs.kind = .function := by kernel_rfl) (hx : (envX cn cs L a ccd cl).kindOf x = some .cell := by kernel_rfl) : wpAny M A (storeName (envX cn cs L a ccd cl) x v) Q E (St s h tk) := by
  refine wpAny_storeName_cell (s := St s h tk) hk hx hc ⟨o, z.at hq, hd⟩ fun h' hv hs => ?_
  obtain ⟨o', ho', hd'⟩ := hv
  exact k h' o' hd' (z.put hq hs ho')
/-- within a comprehension: its own names, those that it closes over, the top's -/
theorem c_ld {Q : Value → Shared → Prop} {oC : Obj} {mc : Str → Option Value} (z : Z h₀ L h m ((C, oC) :: news)) (hC : NsObj oC mc) (hv : mc x = some v) (k : Q v (St s h tk))
    (hk : (compEnvC scope cl C env).scope.kind = .function := by kernel_rfl) (hx : (compEnvC scope cl C env).kindOf x = some .local := by kernel_rfl) (hb : (x == ("__debug__" : Str)) = false := by kernel_rfl) :
    wpAny M A (eval (.Name x pos) (compEnvC scope cl C env)) Q E (St s h tk) := wpAny_Name (wpAny_loadName_local (s := St s h tk) hk hx (hC.ns (z.N _ (.head _)).1) hv k) hb
theorem c_fn {Q : Value → Shared → Prop} (fx : Fix K p loose mean mg mb A₀ base outer h₀) (z : Z h₀ L h m news) (e : nsIn K mainGlobals x = some (some v)) (k : Q v (St s h tk))
    (hg : (compEnvC scope cl C env).globals = mainGlobals := by kernel_rfl) (hk : (compEnvC scope cl C env).scope.kind = .function := by kernel_rfl) (hx : (compEnvC scope cl C env).kindOf x = some .globalImplicit := by kernel_rfl) (hb : (x == ("__debug__" : Str)) = false := by kernel_rfl) :
    wpAny M A (eval (.Name x pos) (compEnvC scope cl C env)) Q E (St s h tk) := nameG_K (s := St s h tk) z.F fx.X (topRead_of fx.T) e k hg hk hx hb
/-- a comprehension's own name is stored -/
theorem c_st {Q : Unit → Shared → Prop} {oC : Obj} {mc : Str → Option Value} (z : Z h₀ L h m ((C, oC) :: news)) (hC : NsObj oC mc)
    (k : ∀ h' oC', NsObj oC' (mset mc x v) → Z h₀ L h' m ((C, oC') :: news) → Q () (St s h' (tk + 1)))
    (hx : (compEnvC scope cl C env).kindOf x = some .local := by kernel_rfl) (hp : ((compEnvC scope cl C env).scope.kind == .class || ((compEnvC scope cl C env).scope.kind == .module && (compEnvC scope cl C env).locals != (compEnvC scope cl C env).globals)) = false := by kernel_rfl) :
    wpAny M A (storeName (compEnvC scope cl C env) x v) Q E (St s h tk) := by
  refine wpAny_storeName_local (s := St s h tk) hx (hC.ns (z.N _ (.head _)).1) (fun h' hn hs => ?_) hp
  obtain ⟨oC', ho', hC'⟩ := ns_obj hn
  exact k h' oC' hC' (z.put (i := 0) rfl hs ho')
theorem c_tests0 {Q : Bool → Shared → Prop} {s : Shared} (k : Q true s) : wpAny M A (testsOf [] env) Q E s := by
  unfold testsOf
  rw [List.forIn_nil]
  exact wpAny_pure k
theorem c_tests1 {e : Expr} {Q : Bool → Shared → Prop} {s : Shared} (k : wpAny M A (isTrue e env (eval e env)) Q E s) : wpAny M A (testsOf [e] env) Q E s := by
  unfold testsOf
  rw [List.forIn_cons]
  refine wpAny_bind (wpAny_bind (wpAny_mono k (fun b s' hb => wpAny_pure ?_) fun _ _ x => x))
  dsimp only
  rw [List.forIn_nil]
  exact wpAny_pure hb
theorem c_end {J : Prop} {oC : Obj} {mc : Str → Option Value} {rest : List (Addr × Obj)} (z : Z h₀ L h m ((C, oC) :: rest)) (hC : NsObj oC mc) (hJ : J) : CEnd h₀ L s m C rest J (St s h tk) := ⟨h, tk, oC, mc, rfl, hC, z, hJ⟩
end

section
variable {prog : Program} {w : World} {K : Frag} {p : Program} {loose : List Str} {mean : ExcName → Option Value} {mg mb : Str → Option Value} {f : Addr}
/-- as ctr_by, for a def whose names are closed over -/
theorem ctrC_by {D U : Nat} {args : List Value} {news : List (Addr × Obj)} {post : Value → List (Addr × Obj) → Prop} (binds : List (Str × Value))
    {name qual : Str} {params : Arguments} {body : List Stmt} {scope : Scope} {dV kV doc pm cdv ct oc : Value} {an od : Option Addr} {osl : Array (Option Value)}
    (ho : K.lookup f = some ⟨oc, od, .func (fnOf name qual params body scope dV kV doc pm an cdv ct), osl⟩) (hcd : codeIn K cdv qual = true)
    (hbind : ∀ s : Shared, K.In s.heap → BindsTo s (fnOf name qual params body scope dV kV doc pm an cdv ct) ⟨args, []⟩ binds)
    (hkind : (binds.all fun y => scope.names.lookup y.1 == some .local || scope.names.lookup y.1 == some .cell) = true)
    (hnd : ((cellsFrom 0 scope.names []).map (·.1)).Nodup)
    (hco : scope.isCoroutine = false) (hgen : scope.isGenerator = false) (hk : scope.kind = .function)
    (h : ∀ (dp un : Nat) (gd : Option (List Code)) (outer : List Env) (A₀ : Around) (base g : Heap) (L : Addr) (h₁ : Heap) (s : Shared) (tk : Nat) (cells : List (Addr × Obj)) (cl : List (Str × Addr)), cl = cellsFrom (L + 1) scope.names [] →
      Fix K p loose mean mg mb A₀ base outer g → CellsAre (bindC (envOfC qual scope L f cdv).kindOf binds fun _ => none) cl cells →
      ((cells.map (·.1)).Nodup → (∀ c ∈ cells.map (·.1), L < c) → Z g L h₁ (bindL (envOfC qual scope L f cdv).kindOf binds fun _ => none) (cells ++ news)) → dp + D ≤ 450 → un + U < 453 →
      wpAny (model prog w) (ktrTop dp un gd qual scope L f cdv cl outer) (execs body (envX qual scope L f cdv cl)) (DoneQ g L s post) (fun _ _ => False) (St s h₁ tk))
    : Ctr prog w K p loose mean mg mb f D U args news post := by
  intro dp un gd cn cs a ccd cl outer A₀ base h₀ L m s h₂ tk₂ R fx z hks hd hu hret
  refine code_defC (s := St s h₂ tk₂) fx.B z.F fx.X z.N fx.T rfl rfl hks ho hcd (by show dp < 1000; omega) (hbind _ (fx.X.keeps z.F.keep)) hkind hnd ?_ hco hgen hk
  intro g L' h₁ tk cells FG F' N' Y B' X' T' hlt
  refine wpAny_mono (h (dp + 1) (un + 3) gd _ _ base g L' h₁ s tk cells _ rfl ⟨B', X', T'⟩ Y (fun nd hgt => ⟨F', N', ?_⟩) (by omega) (by omega)) ?_ (fun _ _ x => x.elim)
  · rw [List.map_append]
    refine List.nodup_append.mpr ⟨nd, z.nd, fun a ha b hb e => ?_⟩
    obtain ⟨q, hq, rfl⟩ := List.mem_map.mp hb
    have h1 := hgt a ha
    have h2 := hlt q hq
    rw [e] at h1
    exact absurd (Nat.lt_trans h1 h2) (Nat.lt_irrefl _)
  · rintro fl s' ⟨m', news', h', tk', rfl, z', hp⟩
    refine leaveK_ z'.F z'.N fun F₂ N₂ => ?_
    exact hret _ _ _ _ hp ⟨F₂, N₂, z'.nd⟩
end
end Mine
/-! text Z5 -/
namespace Mine
open PySem PySem.W PySem.Calls PySem.Spec PyProof.Rows PyProof.Rows.LCg

section
variable {prog : Program} {w : World} {A : Around} {s : Shared} {h₀ : Heap} {L : Addr} {E : Value → Shared → Prop} {h : Heap} {m : Str → Option Value} {news : List (Addr × Obj)} {tk : Nat} {target : Expr} {Q : Value → Shared → Prop}
theorem Z.push' (z : Z h₀ L h m news) (o : Obj) (hf : o.isFreed = false := by rfl) : Z h₀ L (h.push o) m news := (z.pushF o hf).tail
theorem src_of {I : Addr} {fp wr : List Addr} {n : Nat} {P Md : Nat → Value → Heap → Prop} {Sx : Nat → Heap → Prop} {src : List (Addr × Obj)} {h' : Heap} (T : KTurns prog w A target I fp wr n P Md Sx)
    (self : ∀ (s : Shared) (Q E : Value → Shared → Prop), Sx 0 s.heap → Q (.ref I) s → wpAny (model prog w) A (pyIter (.ref I)) Q E s) (hst : Sx 0 h') (hobj : ∀ i h, Sx i h → ∀ b ∈ wr, ∃ o, h.get? b = some o) (hnd : wr.Nodup)
    (hwr : ∀ b ∈ wr, h₀.get? b = none ∧ b ≠ L ∧ b ∉ news.map (·.1)) (hfp : ∀ b ∈ fp, b ∈ wr ∨ (∃ o, h₀.get? b = some o) ∨ ∃ o, (b, o) ∈ src) : Src prog w A target h₀ L news src n P (.ref I) h' :=
  ⟨I, fp, wr, Md, Sx, rfl, T, hobj, hnd, hwr, hfp, hst, self⟩
/-- over a list of the ledger's -/
theorem it_list {l : Addr} {vs : List Value} {k : Nat} (z : Z h₀ L h m news) (hl : (l, listOf vs.toArray k) ∈ news) (hh : A.handled = none)
    (K : ∀ it h', Z h₀ L h' m news → (∀ target, Src prog w A target h₀ L news [(l, listOf vs.toArray k)] vs.length (fun i v _ => vs[i]? = some v) it h') → Q it (St s h' tk)) : wpAny (model prog w) A (pyIter (.ref l)) Q E (St s h tk) := by
  have hN := z.N _ hl
  have hli : h.IsList l vs.toArray := ⟨_, hN.1, rfl, k, rfl⟩
  have hlt : l < h.objs.size := Heap.lt_size hN.1
  refine wpAny_pyIter_list (s := St s h tk) hli (K _ _ (z.push' _) fun target => ?_)
  have W := Walks.list (prog := prog) (w := w) hh h.objs.size l (Nat.ne_of_lt hlt) vs.toArray
  rw [List.size_toArray] at W
  have T := KTurns.ofWalks (target := target) W fun i v s Q E st q => letGo_listiter st.1 q
  have e : (fun (i : Nat) (v : Value) (_ : Heap) => vs.toArray[i]? = some v) = fun i v _ => vs[i]? = some v := by funext i v _; simp
  rw [e] at T
  refine src_of T (fun s Q E st q => W.self 0 s Q E st q) ⟨⟨_, Heap.get?_push_size _ rfl, rfl, rfl⟩, hli.push _⟩ ?_ (by simp) (fun b hb => ?_) (fun b hb => ?_)
  · intro i h st b hb
    rw [List.mem_singleton.mp hb]
    obtain ⟨o, ho, _⟩ := st.1
    exact ⟨o, ho⟩
  · rw [List.mem_singleton.mp hb]
    exact z.new (Nat.le_refl _)
  · rcases List.mem_cons.mp hb with rfl | hb
    · exact .inl (by simp)
    · rw [List.mem_singleton.mp hb]
      exact .inr (.inr ⟨_, List.mem_singleton.mpr rfl⟩)
/-- over a tuple that stood before -/
theorem it_tup₀ {l : Addr} {vs : List Value} {lo : Obj} {k : Nat} (z : Z h₀ L h m news) (hl : h₀.get? l = some lo) (hc : lo.cls = .type "tuple") (hd : lo.data = .seq vs.toArray k) (hh : A.handled = none)
    (K : ∀ it h', Z h₀ L h' m news → (∀ target, Src prog w A target h₀ L news [] vs.length (fun i v _ => vs[i]? = some v) it h') → Q it (St s h' tk)) : wpAny (model prog w) A (pyIter (.ref l)) Q E (St s h tk) := by
  have hN := z.F.keep _ _ hl
  have hli : h.IsTuple l vs.toArray := ⟨_, hN, hc, k, hd⟩
  have hlt : l < h.objs.size := Heap.lt_size hN
  refine wpAny_pyIter_tuple (s := St s h tk) hli (K _ _ (z.push' _) fun target => ?_)
  have W := Walks.tuple (prog := prog) (w := w) hh h.objs.size l (Nat.ne_of_lt hlt) vs.toArray
  rw [List.size_toArray] at W
  have T := KTurns.ofWalks (target := target) W fun i v s Q E st q => letGo_tupleiter st.1 q
  have e : (fun (i : Nat) (v : Value) (_ : Heap) => vs.toArray[i]? = some v) = fun i v _ => vs[i]? = some v := by funext i v _; simp
  rw [e] at T
  refine src_of T (fun s Q E st q => W.self 0 s Q E st q) ⟨⟨_, Heap.get?_push_size _ rfl, rfl, rfl⟩, hli.push _⟩ ?_ (by simp) (fun b hb => ?_) (fun b hb => ?_)
  · intro i h st b hb
    rw [List.mem_singleton.mp hb]
    obtain ⟨o, ho, _⟩ := st.1
    exact ⟨o, ho⟩
  · rw [List.mem_singleton.mp hb]
    exact z.new (Nat.le_refl _)
  · rcases List.mem_cons.mp hb with rfl | hb
    · exact .inl (by simp)
    · rw [List.mem_singleton.mp hb]
      exact .inr (.inl ⟨_, hl⟩)
/-- over a tuple of the ledger's -/
theorem it_tup {l : Addr} {vs : List Value} (z : Z h₀ L h m news) (hl : (l, tupOf vs) ∈ news) (hh : A.handled = none)
    (K : ∀ it h', Z h₀ L h' m news → (∀ target, Src prog w A target h₀ L news [(l, tupOf vs)] vs.length (fun i v _ => vs[i]? = some v) it h') → Q it (St s h' tk)) : wpAny (model prog w) A (pyIter (.ref l)) Q E (St s h tk) := by
  have hN := z.N _ hl
  have hli : h.IsTuple l vs.toArray := ⟨_, hN.1, rfl, 0, rfl⟩
  have hlt : l < h.objs.size := Heap.lt_size hN.1
  refine wpAny_pyIter_tuple (s := St s h tk) hli (K _ _ (z.push' _) fun target => ?_)
  have W := Walks.tuple (prog := prog) (w := w) hh h.objs.size l (Nat.ne_of_lt hlt) vs.toArray
  rw [List.size_toArray] at W
  have T := KTurns.ofWalks (target := target) W fun i v s Q E st q => letGo_tupleiter st.1 q
  have e : (fun (i : Nat) (v : Value) (_ : Heap) => vs.toArray[i]? = some v) = fun i v _ => vs[i]? = some v := by funext i v _; simp
  rw [e] at T
  refine src_of T (fun s Q E st q => W.self 0 s Q E st q) ⟨⟨_, Heap.get?_push_size _ rfl, rfl, rfl⟩, hli.push _⟩ ?_ (by simp) (fun b hb => ?_) (fun b hb => ?_)
  · intro i h st b hb
    rw [List.mem_singleton.mp hb]
    obtain ⟨o, ho, _⟩ := st.1
    exact ⟨o, ho⟩
  · rw [List.mem_singleton.mp hb]
    exact z.new (Nat.le_refl _)
  · rcases List.mem_cons.mp hb with rfl | hb
    · exact .inl (by simp)
    · rw [List.mem_singleton.mp hb]
      exact .inr (.inr ⟨_, List.mem_singleton.mpr rfl⟩)
theorem go_fields {target : Expr} {I : Addr} {v : Value} {o : Obj} {c : String} {fs : Array Value} {Q : Unit → Shared → Prop} {s : Shared} (ho : s.heap.get? I = some o) (hc : o.cls = .type c) (hd : o.data = .fields fs) (hn : (["enumerate", "zip", "dict_itemiterator", "dict_reverseitemiterator", "odict_iterator", "itertools.zip_longest", "itertools.pairwise"].contains c) = false) (k : Q () s) :
    wpAny (model prog w) A (letOwnedTupleGo target (.ref I) v) Q E s := by
  unfold letOwnedTupleGo
  cases target <;> first
    | exact wpAny_pure k
    | (cases v <;> first
        | exact wpAny_pure k
        | (refine wpAny_bind (wpAny_load ho ?_)
           rw [hc, hd]
           dsimp only
           rw [hn]
           exact wpAny_pure k))
/-- over a range -/
theorem it_range {r : Addr} {a b c : Int} {t u v : Tok} {n : Nat} (z : Z h₀ L h m news) (hr : IsRange h r a b c t u v) (hsm : Builtin.Range.small a b c = true) (hn : Builtin.Range.rangeSize a b c = ((n : Nat) : Int)) (hh : A.handled = none)
    (K : ∀ it h', Z h₀ L h' m news → (∀ target, Src prog w A target h₀ L news [] n (fun i v _ => ∃ t, v = .int (a + (i : Int) * c) t) it h') → Q it (St s h' tk)) : wpAny (model prog w) A (pyIter (.ref r)) Q E (St s h tk) := by
  refine wpAny_pyIter_range (s := St s h tk) hr hsm (K _ _ (z.push' _) fun target => ?_)
  have W := Walks.range (prog := prog) (w := w) hh h.objs.size a c n
  refine src_of (KTurns.ofWalks (target := target) W fun i v s Q E st q => go_fields st rfl rfl (by decide) q) (fun s Q E st q => W.self 0 s Q E st q) (show IsRangeIter _ _ _ _ _ from ?_) ?_ (by simp) (fun b hb => ?_) (fun b hb => ?_)
  · rw [hn]
    have e0 : a + ((0 : Nat) : Int) * c = a := by simp
    have e1 : ((n : Int) - ((0 : Nat) : Int)) = n := by simp
    rw [e0, e1]
    exact Heap.get?_push_size _ rfl
  · intro i h st b hb
    rw [List.mem_singleton.mp hb]
    exact ⟨_, st⟩
  · rw [List.mem_singleton.mp hb]
    exact z.new (Nat.le_refl _)
  · exact .inl hb
/-- over a text -/
theorem it_str {x : Str} {t : Tok} (z : Z h₀ L h m news) (ha : x.cps.all (· < 128) = true) (hh : A.handled = none)
    (K : ∀ it h', Z h₀ L h' m news → (∀ target, Src prog w A target h₀ L news [] x.cps.size (fun i v _ => SignAt x i v) it h') → Q it (St s h' tk)) : wpAny (model prog w) A (pyIter (.str x t)) Q E (St s h tk) := by
  refine wpAny_pyIter_ascii (s := St s h tk) ha (K _ _ (z.push' _) fun target => ?_)
  have W := Walks.strAscii (prog := prog) (w := w) hh h.objs.size x t
  refine src_of (KTurns.ofWalks (target := target) W fun i v s Q E st q => by obtain ⟨o, ho, hc, hd⟩ := st; exact go_fields ho hc hd (by decide) q) (fun s Q E st q => W.self 0 s Q E st q) ⟨_, Heap.get?_push_size _ rfl, rfl, rfl⟩ ?_ (by simp) (fun b hb => ?_) (fun b hb => ?_)
  · intro i h st b hb
    rw [List.mem_singleton.mp hb]
    obtain ⟨o, ho, _⟩ := st
    exact ⟨o, ho⟩
  · rw [List.mem_singleton.mp hb]
    exact z.new (Nat.le_refl _)
  · exact .inl hb
/-- over two lists of the ledger's side by side -/
theorem it_zip {l1 l2 : Addr} {xs ys : List Value} {k1 k2 : Nat} (z : Z h₀ L h m news) (hl1 : (l1, listOf xs.toArray k1) ∈ news) (hl2 : (l2, listOf ys.toArray k2) ∈ news) (hh : A.handled = none)
    (K : ∀ it h', Z h₀ L h' m news → (∀ elts kk pos, Src prog w A (.Tuple elts kk pos) h₀ L news [(l1, listOf xs.toArray k1), (l2, listOf ys.toArray k2)] (min xs.length ys.length) (fun i v h => ∃ T x y, v = .ref T ∧ xs[i]? = some x ∧ ys[i]? = some y ∧ h.IsTuple T #[x, y]) it h') → Q it (St s h' tk)) :
    wpAny (model prog w) A (call (.type "zip") [.ref l1, .ref l2]) (fun xv s₁ => wpAny (model prog w) A (pyIter xv) Q E s₁) E (St s h tk) := by
  have hN1 := z.N _ hl1
  have hN2 := z.N _ hl2
  have hi1 : h.IsList l1 xs.toArray := ⟨_, hN1.1, rfl, k1, rfl⟩
  have hi2 : h.IsList l2 ys.toArray := ⟨_, hN2.1, rfl, k2, rfl⟩
  have hlt1 : l1 < h.objs.size := Heap.lt_size hN1.1
  have hlt2 : l2 < h.objs.size := Heap.lt_size hN2.1
  have D : ZipApart (h.objs.size + 4) (h.objs.size + 2) (h.objs.size + 3) h.objs.size (h.objs.size + 1) l1 l2 := ktu_apart _ _ _ hlt1 hlt2
  refine call_zip_2 (s := St s h tk) hi1 hi2 fun h' hz hTI hTO hit1 hit2 hsz hk => ?_
  refine wpAny_pyIter_zip hz (K _ _ (z.keeps hk) fun elts kk pos => ?_)
  have W := (WalksT.zip2 (prog := prog) (w := w) hh _ _ _ _ _ _ _ D xs.toArray ys.toArray).toU
  rw [List.size_toArray, List.size_toArray] at W
  have T := KTurns.ofWalksU (elts := elts) (k := kk) (pos := pos) W
  have e : (fun (i : Nat) (v : Value) (h : Heap) => ∃ T vals, v = .ref T ∧ (∃ x y, xs.toArray[i]? = some x ∧ ys.toArray[i]? = some y ∧ vals = #[x, y]) ∧ h.IsTuple T vals) = (fun i v h => ∃ T x y, v = .ref T ∧ xs[i]? = some x ∧ ys[i]? = some y ∧ h.IsTuple T #[x, y]) := by
    funext i v h
    refine propext ⟨?_, ?_⟩
    · rintro ⟨T, vals, rfl, ⟨x, y, hx, hy, rfl⟩, hT⟩
      exact ⟨T, x, y, rfl, by simpa using hx, by simpa using hy, hT⟩
    · rintro ⟨T, x, y, rfl, hx, hy, hT⟩
      exact ⟨T, _, rfl, ⟨x, y, by simpa using hx, by simpa using hy, rfl⟩, hT⟩
  rw [e] at T
  have T' : KTurns prog w A (.Tuple elts kk pos) (h.objs.size + 4) [h.objs.size + 4, h.objs.size + 2, h.objs.size + 3, h.objs.size, h.objs.size + 1, l1, l2] [h.objs.size + 4, h.objs.size + 2, h.objs.size + 3, h.objs.size, h.objs.size + 1] _ _ _ _ :=
    { sub := fun b hb => by simp at hb ⊢; rcases hb with rfl | rfl | rfl | rfl | rfl <;> simp
      frame := T.frame
      item := fun i s Q E hi st hQ => T.item i s Q E hi st fun v h' tk hm hk => hQ v h' tk hm fun b o hb e => hk b o (fun q => hb (by simp at q ⊢; rcases q with rfl | rfl | rfl | rfl <;> simp)) e
      go := fun i v s Q E hm hQ => T.go i v s Q E hm fun h' hP st hk => hQ h' hP st fun b o hb e => hk b o (fun q => hb (by simp at q ⊢; rcases q with rfl | rfl | rfl | rfl <;> simp)) e
      done := fun s Q E st hQ => T.done s Q E st fun h' tk hk => hQ h' tk fun b o hb e => hk b o (fun q => hb (by simp at q ⊢; rcases q with rfl | rfl | rfl | rfl <;> simp)) e }
  refine src_of T' (fun s Q E st q => W.self 0 s Q E st q) ⟨hz, hTI, ⟨_, _, hTO⟩, hit1, hit2, hi1.at fun o e => hk l1 o e, hi2.at fun o e => hk l2 o e⟩ ?_ ?_ (fun b hb => ?_) (fun b hb => ?_)
  · rintro i h ⟨g1, g2, ⟨_, _, g3⟩, ⟨o4, g4, _⟩, ⟨o5, g5, _⟩, _⟩ b hb
    simp only [List.mem_cons, List.not_mem_nil, or_false] at hb
    rcases hb with rfl | rfl | rfl | rfl | rfl
    · exact ⟨_, g1⟩
    · exact ⟨_, g2⟩
    · exact ⟨_, g3⟩
    · exact ⟨_, g4⟩
    · exact ⟨_, g5⟩
  · simp
  · simp only [List.mem_cons, List.not_mem_nil, or_false] at hb
    rcases hb with rfl | rfl | rfl | rfl | rfl
    · exact z.new (Nat.le_add_right _ _)
    · exact z.new (Nat.le_add_right _ _)
    · exact z.new (Nat.le_add_right _ _)
    · exact z.new (Nat.le_refl _)
    · exact z.new (Nat.le_add_right _ _)
  · simp only [List.mem_cons, List.not_mem_nil, or_false] at hb
    rcases hb with rfl | rfl | rfl | rfl | rfl | rfl | rfl
    · exact .inl (by simp)
    · exact .inl (by simp)
    · exact .inl (by simp)
    · exact .inl (by simp)
    · exact .inl (by simp)
    · exact .inr (.inr ⟨_, .head _⟩)
    · exact .inr (.inr ⟨_, .tail _ (.head _)⟩)
end
end Mine
/-! text Z6 -/
namespace Mine
open PySem PySem.W PySem.Calls PySem.Spec PyProof.Rows PyProof.Rows.LCg
open AutoSeq1 (wpAny_loadPart')
section
variable {prog : Program} {w : World} {A : Around} {E : Value → Shared → Prop} {s : Shared}
theorem next_tup_item {it t : Addr} {i : Nat} {items : Array Value} {x : Value} {Q : Value → Shared → Prop} (hit : s.heap.IsTupleIter it t i) (ht : s.heap.IsTuple t items) (hx : items[i]? = some x)
    (hQ : ∀ h', h'.IsTupleIter it t (i + 1) → Heap.SameBut it s.heap h' → Q x { s with heap := h' }) :
    wpAny (model prog w) A (Builtin.SmallTypes.nextOf (.ref it)) Q E s := by
  obtain ⟨o, ho, hc, hd⟩ := id hit
  obtain ⟨ol, hol, _, nl, hdl⟩ := ht
  unfold Builtin.SmallTypes.nextOf
  refine wpAny_bind (wpAny_callSpecial?_slot (name := Str.ofString "__next__") hit.typeIs F.slot_tuple_iterator_next
    (wpAny_call_entry F.slot_tuple_iterator_next hit.typeIs F.entry_tuple_iterator_next ?_ (F.args_tuple_iterator_next_1 _)))
  show wpAny _ _ (field (.ref it) 0 >>= _) _ _ s
  refine wpAny_bind (wpAny_field ho hd (x := .ref t) rfl ?_)
  show wpAny _ _ (if (Value.ref t == Value.none) = true then _ else _) _ _ s
  rw [if_neg (show ¬ ((Value.ref t == Value.none) = true) from Bool.false_ne_true)]
  show wpAny _ _ (field (.ref it) 1 >>= _) _ _ s
  refine wpAny_bind (wpAny_field ho hd (x := .int i 0) rfl ?_)
  show wpAny _ _ (seqItems? (.ref t) >>= _) _ _ s
  refine wpAny_bind (wpAny_seqItems hol hdl ?_)
  simp only [Int.toNat_natCast, hx]
  refine wpAny_bind (wpAny_setField ho hd (by simp) (wpAny_pure ⟨x, rfl, wpAny_pure (hQ _ ?_ (Heap.SameBut.update ..))⟩))
  exact ⟨_, Heap.get?_update_self _ ho (Obj.isFreed_of_fields (Obj.data_mapFields hd _)), (Obj.cls_mapFields ..).trans hc, by
    rw [Obj.data_mapFields hd]; simp [rawInt]⟩
theorem next_tup_end {it t : Addr} {i : Nat} {items : Array Value} {Q : Value → Shared → Prop} (hh : A.handled = none) (hit : s.heap.IsTupleIter it t i) (ht : s.heap.IsTuple t items) (hx : items[i]? = none)
    (hE : ∀ h' e, Heap.ExtBut it s.heap h' → (∃ o, h'.get? e = some o ∧ o.cls = .type "StopIteration") → E (.ref e) { s with heap := h' }) :
    wpAny (model prog w) A (Builtin.SmallTypes.nextOf (.ref it)) Q E s := by
  obtain ⟨o, ho, hc, hd⟩ := id hit
  obtain ⟨ol, hol, _, nl, hdl⟩ := ht
  unfold Builtin.SmallTypes.nextOf
  refine wpAny_bind (wpAny_callSpecial?_slot (name := Str.ofString "__next__") hit.typeIs F.slot_tuple_iterator_next
    (wpAny_call_entry F.slot_tuple_iterator_next hit.typeIs F.entry_tuple_iterator_next ?_ (F.args_tuple_iterator_next_1 _)))
  show wpAny _ _ (field (.ref it) 0 >>= _) _ _ s
  refine wpAny_bind (wpAny_field ho hd (x := .ref t) rfl ?_)
  show wpAny _ _ (if (Value.ref t == Value.none) = true then _ else _) _ _ s
  rw [if_neg (show ¬ ((Value.ref t == Value.none) = true) from Bool.false_ne_true)]
  show wpAny _ _ (field (.ref it) 1 >>= _) _ _ s
  refine wpAny_bind (wpAny_field ho hd (x := .int i 0) rfl ?_)
  show wpAny _ _ (seqItems? (.ref t) >>= _) _ _ s
  refine wpAny_bind (wpAny_seqItems hol hdl ?_)
  simp only [Int.toNat_natCast, hx]
  refine wpAny_bind (wpAny_rule (wpAny_bind (wpAny_setField ho hd (by simp) ?_)))
  show wpAny _ _ (newExc (.type "StopIteration") [] >>= _) _ _ _
  refine wpAny_bind ?_
  simp only [newExc, newTuple]
  refine wpAny_bind (wpAny_newObj_type ?_ (by size_fits))
  refine wpAny_bind (m := firstArgMember _ _) (wpAny_of_eq (a := Value.none) (by first | rfl | (simp only [firstArgMember]; rfl)) ?_)
  refine wpAny_newObj_type ?_ (by size_fits)
  delta raiseNew
  refine wpAny_bind (wpAny_handled ?_)
  first | rw [show A.in1.handled = none from hh] | rw [hh]
  refine wpAny_bind (wpAny_pure (wpAny_throw ?_))
  exact hE _ _ (((Heap.SameBut.update ..).extBut.push _).push _) ⟨_, Heap.get?_push_size _ rfl, rfl⟩
end
theorem draws_tup {prog : Program} {w : World} {A : Around} (hh : A.handled = none) (it l : Addr) (hne : l ≠ it) (items : Array Value) :
    Draws prog w A it [it, l] items.size (fun i v => items[i]? = some v) (fun i h => h.IsTupleIter it l i ∧ h.IsTuple l items) where
  live := fun _ _ st => let ⟨o, ho, _⟩ := st.1; ⟨o, ho⟩
  frame := fun _ _ _ st hk => ⟨let ⟨o, ho, r⟩ := st.1; ⟨o, hk it (by simp) o ho, r⟩, let ⟨o, ho, r⟩ := st.2; ⟨o, hk l (by simp) o ho, r⟩⟩
  item := fun i s Q E hi st hQ => by
    refine next_tup_item st.1 st.2 (x := items[i]) (by simp [hi]) fun h' hit' hs' => ?_
    exact hQ _ h' s.toks (by simp [hi]) ⟨hit', st.2.extBut hs'.extBut hne⟩ hs'
  done := fun s Q E st hE => next_tup_end hh st.1 st.2 (by simp) hE
theorem stack_bool {M : Model} {A : Around} {s : Shared} {E : Value → Shared → Prop} {Q : Bool → Shared → Prop} {f : List (Code × Pos) → Bool} (h : ∀ b, Q b s) : wpAny M A stack (fun st s => wpAny M A (pure (f st)) Q E s) E s := wpAny_stack_any fun st => wpAny_pure (h _)
theorem enum_newT (l : Addr) (items : Array Value) (n : Nat) (dct : Option Addr) (sl : Array (Option Value)) :
    Meets (Builtin.«enumerate.__new__» ⟨[.type "enumerate", .ref l], []⟩) (fun _ R s => s.heap.get? l = some { cls := .type "tuple", dict := dct, data := .seq items n, slots := sl } ∧
      R (.ok (.ret (.ref (s.heap.push { cls := .type "tuple_iterator", data := .fields #[.ref l, .int 0 0] }).objs.size)))
        { s with heap := (s.heap.push { cls := .type "tuple_iterator", data := .fields #[.ref l, .int 0 0] }).push { cls := .type "enumerate", data := .fields #[.none, .bool false, .ref s.heap.objs.size, rawInt 0, .none, .none] } }) :=
  .of_wp fun prog w A R s h => by
    obtain ⟨hp, g, d, tk, os⟩ := s; obtain ⟨hl, h⟩ := h
    have hsub := sub_enumerate
    have hL : Heap.IsTuple (Shared.heap ⟨hp, g, d, tk, os⟩) l items := ⟨_, hl, rfl, n, rfl⟩
    wp_walk using wpAny_loadPart' hl
    refine stack_bool fun b => ?_
    cases b
    · wp_walk using wpAny_loadPart' hl, wpAny_pyIter_tuple hL
      exact ⟨_, rfl, h⟩
    · wp_walk using wpAny_loadPart' hl, wpAny_pyIter_tuple hL
      exact ⟨_, rfl, h⟩
section
variable {prog : Program} {w : World} {A : Around} {s : Shared} {h₀ : Heap} {L : Addr} {E : Value → Shared → Prop} {h : Heap} {m : Str → Option Value} {news : List (Addr × Obj)} {tk : Nat} {Q : Value → Shared → Prop}
/-- enumerate over a tuple that stood before -/
theorem it_enumT {l : Addr} {vs : List Value} {k : Nat} {dct : Option Addr} {sl : Array (Option Value)} (z : Z h₀ L h m news) (hl : h₀.get? l = some { cls := .type "tuple", dict := dct, data := .seq vs.toArray k, slots := sl }) (hh : A.handled = none)
    (K : ∀ it h', Z h₀ L h' m news → (∀ elts kk pos, Src prog w A (.Tuple elts kk pos) h₀ L news [] vs.length (fun i v h => ∃ T t x, v = .ref T ∧ vs[i]? = some x ∧ h.IsTuple T #[.int (i : Int) t, x]) it h') → Q it (St s h' tk)) :
    wpAny (model prog w) A (call (.type "enumerate") [.ref l]) (fun xv s₁ => wpAny (model prog w) A (pyIter xv) Q E s₁) E (St s h tk) := by
  have hN := z.F.keep _ _ hl
  have hli : h.IsTuple l vs.toArray := ⟨_, hN, rfl, k, rfl⟩
  have hlt : l < h.objs.size := Heap.lt_size hN
  refine callType_new (s := St s h tk) F.called_enumerate (by decide) (F.typeCall_enumerate_1 _) (F.newCall_enumerate_1 _) (fun obj => F.args_object_init_2 obj _) F.entry_enumerate_new
    (enum_newT l vs.toArray k dct sl) ⟨hN, ?_⟩
  have hz : (h.push { cls := .type "tuple_iterator", data := .fields #[.ref l, .int 0 0] }).objs.size = h.objs.size + 1 := Heap.size_push ..
  show _ ∧ _
  have he : IsEnum ((h.push { cls := .type "tuple_iterator", data := .fields #[.ref l, .int 0 0] }).push
      { cls := .type "enumerate", data := .fields #[.none, .bool false, .ref h.objs.size, rawInt 0, .none, .none] }) (h.objs.size + 1) h.objs.size 0 .none := by
    have := Heap.get?_push_size (h.push { cls := .type "tuple_iterator", data := .fields #[.ref l, .int 0 0] })
      (o := { cls := .type "enumerate", data := .fields #[.none, .bool false, .ref h.objs.size, rawInt 0, .none, .none] }) rfl
    rw [hz] at this; exact this
  have hz' : ((St s h tk).heap.push { cls := .type "tuple_iterator", data := .fields #[.ref l, .int 0 0] }).objs.size = h.objs.size + 1 := hz
  rw [hz']
  refine ⟨⟨_, he, rfl⟩, ?_⟩
  refine wpAny_pyIter_enum he (K _ _ ((z.push' _).push' _) fun elts kk pos => ?_)
  have hef : ((h.objs.size + 1 : Nat) : Addr) ∉ ([h.objs.size, l] : List Addr) := by
    intro q
    rcases List.mem_cons.mp q with q | q
    · exact Nat.succ_ne_self _ q
    · exact ktu_ne 1 hlt (List.mem_singleton.mp q).symm
  have W := (WalksT.enumerateD (prog := prog) (w := w) (A := A) (draws_tup (A := A.in1) hh h.objs.size l (Nat.ne_of_lt hlt) vs.toArray) (h.objs.size + 1) (Nat.succ_ne_self _) hef (by simp)).toU
  rw [List.size_toArray] at W
  have T := KTurns.ofWalksU (elts := elts) (k := kk) (pos := pos) W
  have e : (fun (i : Nat) (v : Value) (h : Heap) => ∃ T vals, v = .ref T ∧ (∃ t x, vs.toArray[i]? = some x ∧ vals = #[.int (i : Int) t, x]) ∧ h.IsTuple T vals) = (fun i v h => ∃ T t x, v = .ref T ∧ vs[i]? = some x ∧ h.IsTuple T #[.int (i : Int) t, x]) := by
    funext i v h
    refine propext ⟨?_, ?_⟩
    · rintro ⟨T, vals, rfl, ⟨t, x, hx, rfl⟩, hT⟩
      exact ⟨T, t, x, rfl, by simpa using hx, hT⟩
    · rintro ⟨T, t, x, rfl, hx, hT⟩
      exact ⟨T, _, rfl, ⟨t, x, by simpa using hx, rfl⟩, hT⟩
  rw [e] at T
  refine src_of T (fun s Q E st q => W.self 0 s Q E st q) ⟨⟨_, he⟩, ⟨_, Heap.get?_push_of_some _ (Heap.get?_push_size _ rfl), rfl, rfl⟩, (hli.push _).push _⟩ ?_ ?_ (fun b hb => ?_) (fun b hb => ?_)
  · rintro i h ⟨⟨old, g1⟩, ⟨o2, g2, _⟩, _⟩ b hb
    simp only [List.mem_cons, List.not_mem_nil, or_false] at hb
    rcases hb with rfl | rfl
    · exact ⟨_, g1⟩
    · exact ⟨_, g2⟩
  · simp
  · simp only [List.mem_cons, List.not_mem_nil, or_false] at hb
    rcases hb with rfl | rfl
    · exact z.new (Nat.le_succ _)
    · exact z.new (Nat.le_refl _)
  · simp only [List.mem_cons, List.not_mem_nil, or_false] at hb
    rcases hb with rfl | rfl | rfl
    · exact .inl (.head _)
    · exact .inl (.tail _ (.head _))
    · exact .inr (.inl ⟨_, hl⟩)
end
end Mine
/-! text Z7 -/
namespace Mine
open PySem PySem.W PySem.Calls PySem.Spec PyProof.Rows PyProof.Rows.LCg

/-- an entry of the ledger replaced -/
inductive Rep (q : Addr) (o o' : Obj) : List (Addr × Obj) → List (Addr × Obj) → Prop
  | z {l} : Rep q o o' ((q, o) :: l) ((q, o') :: l)
  | s {p l l'} : Rep q o o' l l' → Rep q o o' (p :: l) (p :: l')
theorem Rep.ix {q : Addr} {o o' : Obj} {l l' : List (Addr × Obj)} (r : Rep q o o' l l') : ∃ i : Nat, l[i]? = some (q, o) ∧ l' = l.set i (q, o') := by
  induction r with
  | z => exact ⟨0, rfl, rfl⟩
  | s r ih =>
    obtain ⟨i, h1, h2⟩ := ih
    exact ⟨i + 1, by simpa using h1, by rw [h2]; rfl⟩
section
variable {M : Model} {prog : Program} {w : World} {A A₀ : Around} {s : Shared} {h₀ base : Heap} {L a : Addr} {mg mb : Str → Option Value} {E : Value → Shared → Prop} {env : Env} {h : Heap} {q : Addr} {m : Str → Option Value} {news news' : List (Addr × Obj)} {tk k : Nat} {vs : List Value} {v : Value} {Q : Value → Shared → Prop} {pos : Pos}
  {K : Frag} {p : Program} {loose : List Str} {mean : ExcName → Option Value} {outer : List Env} {cn : Str} {cs : Scope} {ccd : Value} {cl : List (Str × Addr)} {x : Str} {c : Addr} {o : Obj}
theorem v_append (z : Z h₀ L h m news) (r : Rep q (listOf vs.toArray k) (listOf (vs ++ [v]).toArray (k + 1)) news news') (hsz : vs.length < 2 ^ 20) (K : ∀ h', Z h₀ L h' m news' → Q .none (St s h' tk)) :
    wpAny (model prog w) A (call (.builtin "list.append") [.ref q, v]) Q E (St s h tk) := by
  obtain ⟨i, h1, rfl⟩ := r.ix
  refine append_K (s := St s h tk) z.F z.N (upd_of z.nd h1) (fun h' F' N' => K h' ⟨F', ?_, by rw [keys_set h1]; exact z.nd⟩) (by rw [sizeLine_eq, List.size_toArray]; omega)
  have e : (vs ++ [v]).toArray = vs.toArray.push v := by simp
  rw [e]
  exact N'
theorem v_meth {name : Str} {id : String} {pl : Sem Bool} {Q : Value × List Value → Shared → Prop} (z : Z h₀ L h m news) (hm : (q, listOf vs.toArray k) ∈ news) (slot : Slot "list" name id) (hty : typeOf (.builtin id) = pure (.type "method_descriptor"))
    (kk : Q (.builtin id, [.ref q]) (St s h tk)) : wpAny (model prog w) A (getMethod (.ref q) name pl) Q E (St s h tk) := listMethod_K (s := St s h tk) z.N hm slot hty kk
theorem v_item {value slice : Expr} {i : Int} {u : Tok} (z : Z h₀ L h m news) (hm : (q, listOf vs.toArray k) ∈ news) (h0 : 0 ≤ i) (h1 : i < 2 ^ 62) (hx : vs[i.toNat]? = some v) (kk : Q v (St s h tk))
    (hs : subscripted slice false (.ref q) (.int i u) = operate [.ref q, .int i u] (getItem (.ref q) (.int i u)) := by kernel_rfl) :
    wpAny (model prog w) A (subscriptTail value slice (.ref q) (.int i u)) Q E (St s h tk) := by
  have hl : (St s h tk).heap.IsList q vs.toArray := ⟨_, (z.N _ hm).1, rfl, k, rfl⟩
  exact tail_any (s := St s h tk) hl.typeIs slot_list_getitem.lookup (wpAny_getItem_list hl h0 (by omega) (by simpa using hx) kk) hs
theorem v_len (z : Z h₀ L h m news) (hm : (q, listOf vs.toArray k) ∈ news) (hfit : vs.length < 2 ^ 40) (kk : ∀ t, Q (.int (vs.length : Int) t) (St s h (tk + 2))) : wpAny (model prog w) A (call (.builtin "len") [.ref q]) Q E (St s h tk) := by
  have hl : (St s h tk).heap.IsList q vs.toArray := ⟨_, (z.N _ hm).1, rfl, k, rfl⟩
  refine len_list (s := St s h tk) hl (by rw [List.size_toArray]; omega) ?_
  rw [List.size_toArray]
  exact kk _
theorem v_join {sep : Str} {t : Tok} {ys : List Str} (z : Z h₀ L h m news) (hm : (q, listOf vs.toArray k) ∈ news) (hi : StrsAre vs ys) (hok : (ys.map (·.length)).sum + ys.length * sep.length ≤ 16777216) (kk : ∀ t' tk', Q (.str (Txt.join sep ys) t') (St s h tk')) :
    wpAny (model prog w) A (call (.builtin "str.join") [.str sep t, .ref q]) Q E (St s h tk) := by
  have hl : (St s h tk).heap.IsList q vs.toArray := ⟨_, (z.N _ hm).1, rfl, k, rfl⟩
  exact join_list (s := St s h tk) hl hi hok (fun t' k' => kk t' k')
/-- a pair that stands in the heap is unpacked -/
theorem y_un2 {t1 t2 : Expr} {c : Nat} {v1 v2 : Value} {T : Addr} {Q : Unit → Shared → Prop} (z : Z h₀ L h m news) (hT : h.IsTuple T #[v1, v2]) (hh : A.handled = none)
    (kk : ∀ h', Z h₀ L h' m news → wpAny (model prog w) A (assign t1 env v1) (fun _ s₁ => wpAny (model prog w) A (assign t2 env v2) Q E s₁) E (St s h' tk))
    (he : assignEach [t1, t2] env = [(false, assign t1 env), (false, assign t2 env)] := by kernel_rfl) :
    wpAny (model prog w) A (assign (.Tuple [t1, t2] c pos) env (.ref T)) Q E (St s h tk) := by
  refine unpackN_ (s := St s h tk) z.F z.N hT hh (by rw [he]; rfl) (by rw [he]; rfl) fun h' F' N' => ?_
  rw [he]
  refine assignInOrder_cons (wpAny_mono (kk h' ⟨F', N', z.nd⟩) (fun _ s₁ h₁ => ?_) fun _ _ x => x)
  exact assignInOrder_cons (wpAny_mono h₁ (fun _ s₂ h₂ => assignInOrder_nil h₂) fun _ _ x => x)
theorem y_eqI {a b : Int} {t u : Tok} {s : Shared} (kk : Q (.bool (a == b)) s) : wpAny (model prog w) A (compareOp .Eq (.int a t) (.int b u)) Q E s := PyProof.Rows.eq_int kk
theorem y_le {a b : Int} {t u : Tok} {s : Shared} (kk : Q (.bool (decide (a ≤ b))) s) : wpAny (model prog w) A (compareOp .LtE (.int a t) (.int b u)) Q E s := PyProof.Rows.le_int kk
theorem y_and {a b : Int} {t u : Tok} (kk : Q (.int (Builtin.bitAnd a b) tk) (St s h (tk + 1))) : wpAny (model prog w) A (binaryOp .BitAnd (.int a t) (.int b u)) Q E (St s h tk) := PyProof.Rows.and_int kk
theorem y_newListF {vs : List Value} (z : Z h₀ L h m news) (hl : vs.length < 1000)
    (kk : ∀ a h', Z h₀ L h' m ((a, listOf vs.toArray 0) :: news) → Q (.ref a) (St s h' tk)) : wpAny M A (newList vs) Q E (St s h tk) :=
  wpAny_newObj_type (s := St s h tk) (kk _ _ (z.pushF _)) (by show vs.toArray.size ≤ sizeLine; rw [List.size_toArray, sizeLine_eq]; omega)
theorem y_newTupF {vs : List Value} (z : Z h₀ L h m news) (hl : vs.length < 1000)
    (kk : ∀ a h', Z h₀ L h' m ((a, tupOf vs) :: news) → Q (.ref a) (St s h' tk)) : wpAny M A (newTuple vs) Q E (St s h tk) :=
  wpAny_newObj_type (s := St s h tk) (kk _ _ (z.pushF _)) (by show vs.toArray.size ≤ sizeLine; rw [List.size_toArray, sizeLine_eq]; omega)
theorem y_ldCM {Q : Value → Shared → Prop} (z : Z h₀ L h m news) (hc : cl.lookup x = some c) (hq : (c, o) ∈ news) (hd : o.data = .cell (some v)) (kk : Q v (St s h tk))
    (hk : cs.kind = .function := by kernel_rfl) (hx : (envX cn cs L a ccd cl).kindOf x = some .cell := by kernel_rfl) (hb : (x == ("__debug__" : Str)) = false := by kernel_rfl) :
    wpAny M A (eval (.Name x pos) (envX cn cs L a ccd cl)) Q E (St s h tk) := nameX_C (s := St s h tk) z.N hc hq hd kk hk hx hb
theorem c_ldCM {scope : Scope} {C : Addr} {Q : Value → Shared → Prop} (z : Z h₀ L h m news) (hc : cl.lookup x = some c) (hq : (c, o) ∈ news) (hd : o.data = .cell (some v)) (kk : Q v (St s h tk))
    (hk : (compEnvC scope cl C env).scope.kind = .function := by kernel_rfl) (hx : (compEnvC scope cl C env).kindOf x = some .cell := by kernel_rfl) (hb : (x == ("__debug__" : Str)) = false := by kernel_rfl) :
    wpAny M A (eval (.Name x pos) (compEnvC scope cl C env)) Q E (St s h tk) := lcf_cell (s := St s h tk) z.N hc hq hd kk hk hx hb
end
end Mine
/-! text Z8 -/
namespace Mine
open PySem PySem.W PySem.Calls PySem.Spec PyProof.Rows PyProof.Rows.LCg
section
variable {M : Model} {prog : Program} {w : World} {A : Around} {s : Shared} {h₀ : Heap} {L : Addr} {E : Value → Shared → Prop} {env : Env} {h : Heap} {q : Addr} {m : Str → Option Value} {news : List (Addr × Obj)} {tk k : Nat} {vs : List Value} {v : Value} {Q : Value → Shared → Prop} {pos : Pos} {x : Str} {t : Tok}
theorem y_itemS {value slice : Expr} {i : Int} {u : Tok} (h0 : 0 ≤ i) (h1 : i < x.length) (h2 : x.length < 100000) (kk : ∀ t' tk', Q (.str ⟨#[x.cps.getD i.toNat 0]⟩ t') (St s h tk'))
    (hs : subscripted slice false (.str x t) (.int i u) = operate [.str x t, .int i u] (getItem (.str x t) (.int i u)) := by kernel_rfl) :
    wpAny (model prog w) A (subscriptTail value slice (.str x t) (.int i u)) Q E (St s h tk) := by
  have hT : (St s h tk).TypeIs (.str x t) "str" := rfl
  have hlt : i.toNat < x.cps.size := by
    have : x.length = x.cps.size := rfl
    omega
  have hc : (seqIndex? i x.length).bind (x.cps[·]?) = some (x.cps.getD i.toNat 0) := by
    have e1 : seqIndex? i x.length = some i.toNat := by
      unfold seqIndex?
      rw [if_neg (show ¬ i < 0 by omega)]
      dsimp only
      rw [if_pos (by rw [Bool.and_eq_true, decide_eq_true_eq, decide_eq_true_eq]; exact ⟨h0, h1⟩)]
    rw [e1]
    show x.cps[i.toNat]? = _
    rw [Array.getD_eq_getD_getElem?, Array.getElem?_eq_getElem hlt]
    rfl
  have hr : (decide (i < -(2 ^ 63 : Int)) || decide (i ≥ 2 ^ 63)) = false := by
    rw [Bool.or_eq_false_iff, decide_eq_false_iff_not, decide_eq_false_iff_not]
    omega
  refine tail_any (s := St s h tk) hT PySem.F.slot_str_getitem.lookup (getItem_str (s := St s h tk) hr hc (kk _ _)) hs
theorem y_ifS {b : Bool} {x y : Str} {c c' : Nat} {pos pos' : Pos} (kk : Q (.str (if b = true then x else y) tk) (St s h (tk + 1))) :
    if b = true then wpAny M A (eval (.Constant (.str x) c pos) env) Q E (St s h tk) else wpAny M A (eval (.Constant (.str y) c' pos') env) Q E (St s h tk) := by
  cases b
  · rw [if_neg Bool.false_ne_true]; exact y_str kk
  · rw [if_pos rfl]; exact y_str kk
theorem y_ifI {b : Bool} {x y : Int} {c c' : Nat} {pos pos' : Pos} (kk : Q (.int (if b = true then x else y) tk) (St s h (tk + 1))) :
    if b = true then wpAny M A (eval (.Constant (.int x) c pos) env) Q E (St s h tk) else wpAny M A (eval (.Constant (.int y) c' pos') env) Q E (St s h tk) := by
  cases b
  · rw [if_neg Bool.false_ne_true]; exact y_int kk
  · rw [if_pos rfl]; exact y_int kk
theorem y_ifexp {test body orelse : Expr} {s : Shared} (kk : wpAny M A (isTrue test env (eval test env)) (fun b s₁ => if b = true then wpAny M A (eval body env) Q E s₁ else wpAny M A (eval orelse env) Q E s₁) E s) :
    wpAny M A (eval (.IfExp test body orelse pos) env) Q E s := wpAny_IfExp kk
end
end Mine
/-! text Z9 -/
namespace Mine
open PySem PySem.W PySem.Calls PySem.Spec PyProof.Rows PyProof.Rows.LCg
theorem fits_small {a : Int} (h0 : -1000000 ≤ a) (h1 : a ≤ 1000000) : Builtin.Range.rangeFitsLong a = true := by
  unfold Builtin.Range.rangeFitsLong
  simp
  omega
theorem size_one {n : Nat} : Builtin.Range.rangeSize 0 (n : Int) 1 = ((n : Nat) : Int) := by
  rw [rangeSize_one]
  split <;> omega
theorem small_one {n : Nat} (h : n < 1000) : Builtin.Range.small 0 (n : Int) 1 = true := by
  unfold Builtin.Range.small
  rw [size_one, fits_small (by omega) (by omega), fits_small (a := (n : Int)) (by omega) (by omega), fits_small (by omega) (by omega)]
  simp only [Bool.and_self, Bool.true_and, Bool.or_eq_true, beq_iff_eq]
  right
  rw [if_pos (by decide)]
  exact fits_small (by omega) (by omega)
theorem size_two {n : Nat} : Builtin.Range.rangeSize 0 (2 * (n : Int)) 2 = ((n : Nat) : Int) := by
  unfold Builtin.Range.rangeSize
  rw [if_pos (by decide)]
  split <;> omega
theorem small_two {n : Nat} (h : n < 1000) : Builtin.Range.small 0 (2 * (n : Int)) 2 = true := by
  unfold Builtin.Range.small
  rw [size_two, fits_small (by omega) (by omega), fits_small (a := 2 * (n : Int)) (by omega) (by omega), fits_small (a := 2) (by omega) (by omega), fits_small (a := (n : Int)) (by omega) (by omega)]
  simp only [Bool.and_self, Bool.true_and, Bool.or_eq_true, beq_iff_eq]
  right
  rw [if_pos (by decide)]
  exact fits_small (by omega) (by omega)
section
variable {M : Model} {prog : Program} {w : World} {A : Around} {s : Shared} {h₀ : Heap} {L a : Addr} {E : Value → Shared → Prop} {env : Env} {h : Heap} {q : Addr} {m : Str → Option Value} {news : List (Addr × Obj)} {tk k : Nat} {vs : List Value} {v : Value} {Q : Value → Shared → Prop} {pos : Pos} {x : Str} {t : Tok}
  {cn : Str} {cs : Scope} {ccd : Value} {cl : List (Str × Addr)}
theorem g_ac {y : Str} {py p spos : Pos} {e : Expr} {gs : List Comprehension} {sc : Scope} {rest : List Stmt} {Q : Flow → Shared → Prop} {s : Shared} (k : wpAny M A (execs (.Assign [.Name y py] (.ListComp e gs sc p) spos :: rest) env) Q E s) : wpAny M A (execs (.Assign [.Name y py] (.ListComp e gs sc p) spos :: rest) env) Q E s := k
theorem y_mod {a b : Int} {t u : Tok} (hb : 0 < b) (kk : Q (.int (a % b) tk) (St s h (tk + 1))) : wpAny (model prog w) A (binaryOp .Mod (.int a t) (.int b u)) Q E (St s h tk) := by
  refine PyProof.Rows.mod_int (s := St s h tk) (by omega) ?_
  rw [Int.fmod_eq_emod_of_nonneg _ (by omega)]
  exact kk
theorem y_fdiv {a b : Int} {t u : Tok} (hb : 0 < b) (hp : Builtin.divisionGoesByPylong a b = false) (kk : Q (.int (a / b) tk) (St s h (tk + 1))) : wpAny (model prog w) A (binaryOp .FloorDiv (.int a t) (.int b u)) Q E (St s h tk) := by
  refine PyProof.Rows.floordiv_int (s := St s h tk) (by omega) ?_ (.inl hp)
  rw [Int.fdiv_eq_ediv_of_nonneg _ (by omega)]
  exact kk
theorem y_pow {a n : Int} {t u : Tok} (hn : 0 ≤ n) (hn2 : n ≤ 1000) (ha : a.natAbs < 1000) (kk : Q (.int (a ^ n.toNat) tk) (St s h (tk + 1))) : wpAny (model prog w) A (binaryOp .Pow (.int a t) (.int n u)) Q E (St s h tk) :=
  PyProof.Rows.pow_int_small (s := St s h tk) hn (by omega) (by omega) kk
theorem v_sum {xs : List Int} (z : Z h₀ L h m news) (hm : (q, listOf vs.toArray k) ∈ news) (hi : IntsAre vs xs) (hh : A.handled = none) (kk : ∀ t' h' tk', Z h₀ L h' m news → Q (.int xs.sum t') (St s h' tk')) :
    wpAny (model prog w) A (call (.builtin "sum") [.ref q]) Q E (St s h tk) := by
  have hl : (St s h tk).heap.IsList q vs.toArray := ⟨_, (z.N _ hm).1, rfl, k, rfl⟩
  obtain ⟨ps, e⟩ := hi.allInts.items
  have e2 : (numsOf (intItems ps).toList).sum = xs.sum := by rw [← e, show vs.toArray.toList = vs from rfl, hi.numsOf]
  rw [e] at hl
  rw [nums_intItems] at e2
  refine sum_intListG (s := St s h tk) hh hl fun h' tk' t' hk => ?_
  rw [preSum_eq, List.take_of_length_le (by simp), e2]
  exact kk t' h' tk' (z.keeps hk)
/-- range(n) -/
theorem it_range1 {n : Nat} {b : Int} {u : Tok} (z : Z h₀ L h m news) (hb : b = (n : Int)) (hn : n < 1000) (hh : A.handled = none)
    (K : ∀ it h' tk', Z h₀ L h' m news → (∀ target, Src prog w A target h₀ L news [] n (fun i v _ => ∃ t, v = .int (i : Int) t) it h') → Q it (St s h' tk')) :
    wpAny (model prog w) A (call (.type "range") [.int b u]) (fun xv s₁ => wpAny (model prog w) A (pyIter xv) Q E s₁) E (St s h tk) := by
  subst hb
  refine call_range_1 (s := St s h tk) ?_
  refine it_range (n := n) (s := s) (tk := tk + 1 + 1) (z.push' _) (IsRange.new ..) (small_one hn) size_one hh fun it h' z' S => K it h' _ z' fun target => ?_
  have e : (fun (i : Nat) (v : Value) (_ : Heap) => ∃ t, v = .int (0 + (i : Int) * 1) t) = fun i v _ => ∃ t, v = .int (i : Int) t := by funext i v _; simp
  rw [← e]
  exact S target
/-- range(0, 2 * n, 2) -/
theorem it_range2 {n : Nat} {u1 u2 u3 : Tok} {b : Int} (z : Z h₀ L h m news) (hb : b = 2 * (n : Int)) (hn : n < 1000) (hh : A.handled = none)
    (K : ∀ it h' tk', Z h₀ L h' m news → (∀ target, Src prog w A target h₀ L news [] n (fun i v _ => ∃ t, v = .int (2 * (i : Int)) t) it h') → Q it (St s h' tk')) :
    wpAny (model prog w) A (call (.type "range") [.int 0 u1, .int b u2, .int 2 u3]) (fun xv s₁ => wpAny (model prog w) A (pyIter xv) Q E s₁) E (St s h tk) := by
  subst hb
  refine call_range_3 (s := St s h tk) (by decide) ?_ (.inl (PyProof.noPylong_small (by decide)))
  refine it_range (n := n) (s := s) (tk := tk) (z.push' _) (IsRange.new ..) (small_two hn) size_two hh fun it h' z' S => K it h' _ z' fun target => ?_
  have e : (fun (i : Nat) (v : Value) (_ : Heap) => ∃ t, v = .int (0 + (i : Int) * 2) t) = fun i v _ => ∃ t, v = .int (2 * (i : Int)) t := by
    funext i v _
    have : 0 + (i : Int) * 2 = 2 * (i : Int) := by omega
    rw [this]
  rw [← e]
  exact S target
theorem y_stC2 {p0 p1 : Addr × Obj} {c : Addr} {o : Obj} {l : List (Addr × Obj)} {Q : Unit → Shared → Prop} {v₀ : Option Value} (z : Z h₀ L h m (p0 :: p1 :: (c, o) :: l)) (hc : cl.lookup x = some c) (hd : o.data = .cell v₀)
    (kk : ∀ h' o', o'.data = .cell (some v) → Z h₀ L h' m (p0 :: p1 :: (c, o') :: l) → Q () (St s h' tk))
    (hk : cs.kind = .function := by kernel_rfl) (hx : (envX cn cs L a ccd cl).kindOf x = some .cell := by kernel_rfl) : wpAny M A (storeName (envX cn cs L a ccd cl) x v) Q E (St s h tk) :=
  y_stC (i := 2) z hc rfl hd kk hk hx
theorem y_stC3 {p0 p1 p2 : Addr × Obj} {c : Addr} {o : Obj} {l : List (Addr × Obj)} {Q : Unit → Shared → Prop} {v₀ : Option Value} (z : Z h₀ L h m (p0 :: p1 :: p2 :: (c, o) :: l)) (hc : cl.lookup x = some c) (hd : o.data = .cell v₀)
    (kk : ∀ h' o', o'.data = .cell (some v) → Z h₀ L h' m (p0 :: p1 :: p2 :: (c, o') :: l) → Q () (St s h' tk))
    (hk : cs.kind = .function := by kernel_rfl) (hx : (envX cn cs L a ccd cl).kindOf x = some .cell := by kernel_rfl) : wpAny M A (storeName (envX cn cs L a ccd cl) x v) Q E (St s h tk) :=
  y_stC (i := 3) z hc rfl hd kk hk hx
end
end Mine
/-! text ZA -/
namespace Mine
open PySem PySem.W PySem.Calls PySem.Spec PyProof.Rows PyProof.Rows.LCg
section
variable {M : Model} {prog : Program} {w : World} {A : Around} {s : Shared} {h₀ : Heap} {L a : Addr} {E : Value → Shared → Prop} {env : Env} {h : Heap} {q : Addr} {m : Str → Option Value} {news : List (Addr × Obj)} {tk k : Nat} {vs : List Value} {v : Value} {pos : Pos} {x : Str} {t : Tok}
/-- two names from a written pair: the stores go from behind -/
theorem y_swap2 {a b : Str} {pa pb tp vp : Pos} {c cv : Nat} {e1 e2 : Expr} {rest : List Stmt} {Q : Flow → Shared → Prop} {s : Shared}
    (kk : wpAny M A (eval (.Tuple [e1, e2] cv vp) env) (fun v s₁ => wpAny M A (unpackItems v 2 none) (fun items s₂ => wpAny M A (assignInOrder [bindName env b, bindName env a] items.reverse) (fun _ s₃ => wpAny M A (execs rest env) Q E s₃) E s₂) E s₁) E s)
    (hs : swapsWithSole [.Tuple [.Name a pa, .Name b pb] c tp] (.Tuple [e1, e2] cv vp) pos.line env = pure false := by kernel_rfl)
    (hw : swappedStores [.Tuple [.Name a pa, .Name b pb] c tp] (.Tuple [e1, e2] cv vp) env = pure (some [a, b]) := by kernel_rfl) :
    wpAny M A (execs (.Assign [.Tuple [.Name a pa, .Name b pb] c tp] (.Tuple [e1, e2] cv vp) pos :: rest) env) Q E s :=
  wpAny_execs_cons (Assign_Tuple_swapped (names := [a, b]) kk hs hw)
theorem y_un2s {v1 v2 : Value} {b1 b2 : Value → Sem Unit} {Q : Unit → Shared → Prop} (z : Z h₀ L h m news) (hh : A.handled = none)
    (kk : ∀ h', Z h₀ L h' m news → wpAny (model prog w) A (b2 v2) (fun _ s₁ => wpAny (model prog w) A (b1 v1) Q E s₁) E (St s h' tk)) :
    wpAny (model prog w) A (newTuple [v1, v2]) (fun v s₁ => wpAny (model prog w) A (unpackItems v 2 none) (fun items s₂ => wpAny (model prog w) A (assignInOrder [b2, b1] items.reverse) Q E s₂) E s₁) E (St s h tk) := by
  refine y_newTupF z (by simp) fun ta h' z' => ?_
  refine unpackItemsN_ (s := St s h' tk) (items := #[v1, v2]) z'.F z'.N ⟨_, (z'.N _ (.head _)).1, rfl, 0, rfl⟩ hh rfl fun h'' F'' N'' => ?_
  have z'' : Z h₀ L h'' m news := Z.tail (p := (ta, tupOf [v1, v2])) ⟨F'', N'', z'.nd⟩
  refine assignInOrder_cons (wpAny_mono (kk h'' z'') (fun _ s₁ h₁ => ?_) fun _ _ x => x)
  exact assignInOrder_cons (wpAny_mono h₁ (fun _ s₂ h₂ => assignInOrder_nil h₂) fun _ _ x => x)
theorem y_bind {Q : Unit → Shared → Prop} {s : Shared} (kk : wpAny M A (storeName env x v) Q E s) : wpAny M A (bindName env x v) Q E s := wpAny_bindName kk
end
end Mine
/-! text ZB -/
namespace Mine
open PySem PySem.W PySem.Calls PySem.Spec PyProof.Rows PyProof.Rows.LCg
section
variable {prog : Program} {w : World} {A : Around} {s : Shared} {h₀ : Heap} {L a : Addr} {E : Value → Shared → Prop} {h : Heap} {q : Addr} {m : Str → Option Value} {news : List (Addr × Obj)} {tk k : Nat} {vs : List Value} {v : Value} {Q : Value → Shared → Prop}
/-- [v] * 12 -/
theorem v_mul12 {u : Tok} (z : Z h₀ L h m news) (hm : (q, listOf [v].toArray k) ∈ news) (kk : ∀ a h', Z h₀ L h' m ((a, listOf (List.replicate 12 v).toArray 0) :: news) → Q (.ref a) (St s h' tk)) :
    wpAny (model prog w) A (binaryOp .Mult (.ref q) (.int 12 u)) Q E (St s h tk) := by
  have ho : (St s h tk).heap.get? q = some { cls := .type "list", dict := none, data := .seq [v].toArray k, slots := #[] } := (z.N _ hm).1
  refine wpAny_binaryOp_repeat_ref (T := "list") (U := "int") (by decide) ⟨_, ho, rfl⟩ (fun s' => typeIs_int s' 12 u) noFill_list_mul F.fills_int_mul F.slot_int_rmul repeat_list F.slot_int_index.lookup
    (call_meets F.slot_int_rmul (typeIs_int (St s h tk) 12 u) F.entry_int_rmul (F.args_int_rmul_2 _ _) (lm_int_rmul_list_any 12 u q [v].toArray k none #[])
      ⟨ho, rfl, ⟨_, ho, rfl⟩, call_meets F.slot_list_mul ⟨_, ho, rfl⟩ F.entry_list_mul (F.args_list_mul_2 _ _)
        (lm_list_mul_any q [v].toArray k none #[] 12 u (by simp [Builtin.List.listFitsIndex]) (by simp) (by simp [Builtin.List.listTooLong, sizeLine]))
        ⟨ho, ?_⟩⟩)
  exact kk _ _ (z.pushF (listOf (List.replicate 12 v).toArray 0))
end
end Mine
/-! text X4 -/
open PySem PySem.W PySem.W.X PySem.W.XRun PySem.Calls PySem.Spec PyProof.Rows
namespace Mine
theorem fill_X4 : (fun (_ : Params → Frag) (_ : OpenLaw) => True) Mine.hd.heap_1 PySem.Challenge.rw_nq0274_01 := by
  k_fill
  trivial
/-- `__new__` of StringIO: an object and its dict, both new -/
noncomputable def MakesN (prog : Program) (w : World) (K : Frag) (tape : Str) (t : Tok) : Prop :=
  ∀ (gd : Option (List Code)) (cn : Str) (cs : Scope) (L a : Addr) (ccd : Value) (cl : List (Str × Addr)) (outer : List Env) (s : Shared) (Q E : Value → Shared → Prop), K.In s.heap →
    (∀ x h' tk' (news : List (Addr × Obj)), Mem s.heap h' [] news → (∃ i dx, news[i]? = some (x, instObj 629 dx) ∧ news[i + 1]? = some (dx, dictOf [] 0)) → Q (.ref x) (St s h' tk')) →
    wpAny (model prog w) (ktrTop 500 500 gd cn cs L a ccd cl outer) (call (.ref 122) [.ref 629, .str tape t]) Q E s
theorem new_ex {news : List (Addr × Obj)} {x dx : Addr} (i : Nat) (h1 : news[i]? = some (x, instObj 629 dx)) (h2 : news[i + 1]? = some (dx, dictOf [] 0)) : ∃ i dx, news[i]? = some (x, instObj 629 dx) ∧ news[i + 1]? = some (dx, dictOf [] 0) := ⟨i, dx, h1, h2⟩
local macro_rules | `(tactic| x_close) => `(tactic| ktd_said "x4")
theorem new_c (prog : Program) (w : World) (tape : Str) (t : Tok) : MakesN prog w (Mine.hd.heap_1 w.params) tape t := by
  intro gd cn cs L a ccd cl outer s Q E X hret
  have e0 := X (nat_lit 0) _ (by k_is)
  have e3 := X (nat_lit 3) _ (by k_is)
  x_run
end Mine
/-! text X5 -/
open PySem PySem.W PySem.W.X PySem.W.XRun PySem.Calls PySem.Spec PyProof.Rows
namespace Mine
noncomputable def MakesD (prog : Program) (w : World) (K : Frag) : Prop :=
  ∀ (gd : Option (List Code)) (cn : Str) (cs : Scope) (L a : Addr) (ccd : Value) (cl : List (Str × Addr)) (outer : List Env) (s : Shared) (Q E : Value → Shared → Prop), K.In s.heap →
    (∀ x h' tk' (news : List (Addr × Obj)), Mem s.heap h' [] news → (∃ i : Nat, news[i]? = some (x, dqOf 0 [])) → Q (.ref x) (St s h' tk')) →
    wpAny (model prog w) (ktrTop 500 500 gd cn cs L a ccd cl outer) (call (.type "collections.deque") []) Q E s
local macro_rules | `(tactic| x_close) => `(tactic| ktd_said "x6")
theorem dq_c (prog : Program) (w : World) : MakesD prog w (Mine.hd.heap_1 w.params) := by
  intro gd cn cs L a ccd cl outer s Q E X hret
  x_run
end Mine
/-! text Q5 -/
namespace Mine
open PySem
open PySem.Sem (wp)
theorem lk_mt : typeLookup (.type "str") "maketrans" = pure (some (.builtin "str.maketrans")) := by rw [typeLookup_type, builtinLookup_eq_fast]; kernel_rfl
theorem ty_mt : typeOf (.builtin "str.maketrans") = pure (.type "builtin_function_or_method") := by kernel_rfl
theorem lk_get : typeLookup (.type "builtin_function_or_method") "__get__" = pure none := by rw [typeLookup_type, builtinLookup_eq_fast]; kernel_rfl
section
variable {prog : Program} {w : World} {A : Around} {E : Value → Shared → Prop} {h : Heap} {g : Array GenState} {d : Drawn} {t : Nat} {os : OsState} {x : Str} {u : Tok}
theorem mt_entry {tk : Tok} {Q : Fin → Shared → Prop} (hq : Q (.done (.ret (.builtin "str.maketrans"))) ⟨h, g, d, t, os⟩) :
    wpAny (model prog w) A (Builtin.«object.__getattribute__» ⟨[.str x u, .str "maketrans" tk], []⟩) Q E ⟨h, g, d, t, os⟩ := by
  have hT : (⟨h, g, d, t, os⟩ : Shared).TypeIs (.str x u) "str" := rfl
  have f4 := lk_mt
  have hT5 : (⟨h, g, d, t, os⟩ : Shared).TypeIs (.builtin "str.maketrans") "builtin_function_or_method" := ty_mt
  have f5 := ty_mt
  have f6 := lk_get
  repeat (any_goals (first | assumption | wp_step))
theorem mt_attr {tk : Tok} {Q : Value → Shared → Prop} (hq : Q (.builtin "str.maketrans") ⟨h, g, d, t, os⟩) : wpAny (model prog w) A (getAttrBy (.str x u) (.str "maketrans" tk) true false) Q E ⟨h, g, d, t, os⟩ := by
  have hT : (⟨h, g, d, t, os⟩ : Shared).TypeIs (.str x u) "str" := rfl
  have f2 := F.slot_str_getattribute.lookup
  have f3 := F.slot_str_getattribute.bind (.str x u)
  repeat (any_goals (first | assumption | wp_step))
  refine codeAny_call_builtin F.slot_str_getattribute.plain F.entry_object_getattribute (F.slot_str_getattribute.check _ _ _ _ _ _ _ _ (show (⟨h, g, d, t, os⟩ : Shared).TypeIs (.str x u) "str" from rfl) (F.args_object_getattribute_2 _ _) (mt_entry ?_))
  repeat (any_goals (first | assumption | wp_step))
theorem getMethod_usual {M : Model} {s : Shared} {v f tf : Value} {T : String} {name : Str} {pl : Sem Bool} {Q : Value × List Value → Shared → Prop} (hT : s.TypeIs v T) (pa : PlainAttrs T) (hl : typeLookup (.type T) name = pure (some f)) (hty : typeOf f = pure tf)
    (hne : (tf != .type "function" && tf != .type "method_descriptor" && tf != .type "wrapper_descriptor") = true) (h : wpAny M A (getAttr v name) (fun r s' => Q (r, []) s') E s) : wpAny M A (getMethod v name pl) Q E s := by
  obtain ⟨g, hg, hcan⟩ := pa.ga
  unfold getMethod
  refine wpAny_bind (wpAny_specialOf hT hg ?_)
  show wpAny M A (if (Manifest.canonical g != "object.__getattribute__") = true then _ else _) Q E s
  rw [hcan, if_neg Bool.false_ne_true]
  refine wpAny_bind (wpAny_specialOf hT pa.noGetattr ?_)
  refine wpAny_bind (wpAny_specialOf hT hl ?_)
  refine wpAny_bind (wpAny_of_eq hty ?_)
  rw [if_pos hne]
  exact wpAny_bind (wpAny_mono h (fun r s' hq => wpAny_pure hq) fun _ _ x => x)
theorem ne_bf : (Value.type "builtin_function_or_method" != .type "function" && Value.type "builtin_function_or_method" != .type "method_descriptor" && Value.type "builtin_function_or_method" != .type "wrapper_descriptor") = true := by decide +kernel
theorem mt_meth {pl : Sem Bool} {Q : Value × List Value → Shared → Prop} (hq : Q (.builtin "str.maketrans", []) ⟨h, g, d, t + 1, os⟩) :
    wpAny (model prog w) A (getMethod (.str x u) "maketrans" pl) Q E ⟨h, g, d, t, os⟩ := by
  have hT : (⟨h, g, d, t, os⟩ : Shared).TypeIs (.str x u) "str" := rfl
  with_reducible refine getMethod_usual hT F.plainAttrs_str lk_mt ty_mt ne_bf ?_
  unfold getAttr
  exact wpAny_bind (wpAny_mkText (mt_attr hq))
end
end Mine
/-! text Y13 -/
namespace Mine
open PySem PySem.W PySem.Calls PySem.Spec PyProof.Rows
theorem sub_KeyLookup : isSubtype (.type "KeyError") (.type "LookupError") = pure true := by rw [isSubtype_type]; kernel_rfl
section
variable {prog : Program} {w : World} {A : Around} {E : Value → Shared → Prop} {s : Shared} {d : Addr}
theorem keep_look {f : Int → Option Value} {c : Nat} {Q : Builtin.Str.Mapped → Shared → Prop} (hd : (d == sysModules) = false) (hh : A.handled = none) (hm : s.heap.MapOf (intKind prog w) d f) (hv : f (c : Int) = none)
    (k : ∀ h' tk', (∀ b o, s.heap.get? b = some o → h'.get? b = some o) → Q .keep { s with heap := h', toks := tk' }) : wpAny (model prog w) A (Builtin.Str.tableLookup (.ref d) c) Q E s := by
  unfold Builtin.Str.tableLookup
  refine wpAny_bind (wpAny_attempt (wpAny_bind (wpAny_mkInt ?_)))
  refine wpAny_getItem_missing_of (s := { s with toks := s.toks + 1 }) (knd := intKind prog w) (k := (c : Int)) (by show ((c : Int) == (c : Int)) = true; exact beq_self_eq_true _) hd hh hm hv ?_
  intro h' e N
  obtain ⟨ob, t, h1, h2, h3⟩ := N.there
  refine wpAny_bind (wpAny_isInstance (T := "KeyError") (b := true) ?_ sub_KeyLookup ?_)
  · exact ⟨ob, h1, h2⟩
  · exact wpAny_bind (wpAny_rule (wpAny_pure (k h' _ fun b o e => N.keeps b o e)))
end
end Mine
/-! text Q6 -/
namespace Mine
open PySem PySem.W PySem.Calls PySem.Spec PyProof.Rows
section
variable {prog : Program} {w : World} {A : Around} {E : Value → Shared → Prop} {s : Shared} {d : Addr}
theorem tr_keep {x : Str} {t : Tok} {f : Int → Option Value} {Q : Fin → Shared → Prop} (h0 : x.length ≠ 0) (hd : (d == sysModules) = false) (hh : A.handled = none) (hm : s.heap.MapOf (intKind prog w) d f) (hv : ∀ c ∈ x.cps.toList, f (c : Int) = none)
    (ha : (x.cps.all (· < 128)) = true) (hl : x.length < 1000)
    (k : ∀ h' tk' t', (∀ b o, s.heap.get? b = some o → h'.get? b = some o) → Q (.done (.ret (.str x t'))) { s with heap := h', toks := tk' }) : wpAny (model prog w) A (Builtin.«str.translate» ⟨[.str x t, .ref d], []⟩) Q E s := by
  unfold Builtin.«str.translate»
  refine wpAny_bind (wpAny_of_eq (a := (.str x t, x, .ref d)) rfl ?_)
  dsimp only
  rw [if_neg (by simpa using h0), ha]
  refine wpAny_bind (forIn_array_ _ (fun rest b s' => ∃ (pre : List Nat) (known : List (Nat × Option Nat)) (h' : Heap) (tk' : Nat), x.cps.toList = pre ++ rest ∧ b = ((pre.map fun c => (⟨#[c]⟩ : Str)).reverse, pre.length, true, known, false) ∧ (∀ p ∈ known, p.2 = some p.1) ∧
    s' = { s with heap := h', toks := tk' } ∧ (∀ b o, s.heap.get? b = some o → h'.get? b = some o)) _ ?_ ?_ _ _ ⟨[], [], s.heap, s.toks, rfl, rfl, fun _ h => (nomatch h), rfl, fun _ _ e => e⟩)
  · rintro c rest b s' ⟨pre, known, h', tk', hx, rfl, hkn, rfl, hk⟩
    dsimp only
    have hlen : pre.length < 1000 := by
      have := congrArg List.length hx
      rw [List.length_append, Array.length_toList] at this
      have h2 : x.cps.size < 1000 := hl
      omega
    rw [if_neg (by rw [Builtin.Str.tooLong, sizeLine_eq]; simp; omega), if_pos rfl]
    have hc : f (c : Int) = none := hv c (by rw [hx]; simp)
    have next : ∀ known' h'' tk'', (∀ p ∈ known', p.2 = some p.1) → (∀ b o, s.heap.get? b = some o → h''.get? b = some o) →
        ∃ (pre' : List Nat) (known : List (Nat × Option Nat)) (h' : Heap) (tk' : Nat), x.cps.toList = pre' ++ rest ∧ ((⟨#[c]⟩ : Str) :: (pre.map fun c => (⟨#[c]⟩ : Str)).reverse, pre.length + 1, true, known', false) = ((pre'.map fun c => (⟨#[c]⟩ : Str)).reverse, pre'.length, true, known, false) ∧ (∀ p ∈ known, p.2 = some p.1) ∧
          ({ s with heap := h'', toks := tk'' } : Shared) = { s with heap := h', toks := tk' } ∧ (∀ b o, s.heap.get? b = some o → h'.get? b = some o) := by
      intro known' h'' tk'' h1 h2
      exact ⟨pre ++ [c], known', h'', tk'', by rw [hx]; simp, by simp, h1, rfl, h2⟩
    cases hlk : List.lookup c known with
    | some a =>
      have : a = some c := by
        have hm2 := List.lookup_eq_some_iff.mp hlk
        obtain ⟨l1, l2, e, -⟩ := hm2
        have := hkn (c, a) (by rw [e]; simp)
        exact this
      subst this
      exact wpAny_bind (wpAny_pure (wpAny_pure (next _ _ _ hkn hk)))
    | none =>
      refine wpAny_bind (keep_look (s := { s with heap := h', toks := tk' }) hd hh ?_ hc ?_)
      · obtain ⟨o, es, ep, ho, r⟩ := hm
        exact ⟨o, es, ep, hk _ _ ho, r⟩
      · intro h'' tk'' hk2
        refine wpAny_bind (wpAny_pure (wpAny_pure (next ((c, some c) :: known) h'' tk'' ?_ fun b o e => hk2 b o (hk b o e))))
        intro p hp
        rcases List.mem_cons.mp hp with rfl | hp
        · rfl
        · exact hkn p hp
  · rintro b s' ⟨pre, known, h', tk', hx, rfl, hkn, rfl, hk⟩
    dsimp only
    rw [List.append_nil] at hx
    have hlen : pre.length < 1000 := by
      rw [← hx, Array.length_toList]
      exact hl
    rw [if_neg (by rw [Builtin.Str.tooLong, sizeLine_eq]; simp; omega)]
    have e : (⟨List.foldl (fun acc p => acc ++ p.cps) #[] (List.map (fun c => (⟨#[c]⟩ : Str)) pre).reverse.reverse⟩ : Str) = x := by
      rw [List.reverse_reverse]
      have gen : ∀ (l : List Nat) (acc : Array Nat), List.foldl (fun (acc : Array Nat) (p : Str) => acc ++ p.cps) acc (List.map (fun c => (⟨#[c]⟩ : Str)) l) = acc ++ l.toArray := by
        intro l
        induction l with
        | nil => intro acc; simp
        | cons a r ih => intro acc; rw [List.map_cons, List.foldl_cons, ih]; simp
      rw [gen, ← hx]
      cases x
      simp
    rw [e]
    unfold retStr
    exact wpAny_bind (wpAny_mkStr (wpAny_pure (k h' _ _ hk)) (by rw [sizeLine_eq]; omega))
end
end Mine
/-! text X7 -/
open PySem PySem.W PySem.W.X PySem.W.XRun PySem.Calls PySem.Spec PyProof.Rows
namespace Mine
noncomputable def bfObj : Obj := { cls := .type "builtin_function_or_method", data := .fields #[.builtin "dict.fromkeys", .type "dict"] }
noncomputable def fkObj (h1 h2 : Int) (t1 t2 : Tok) (n : Nat) : Obj := dictOf [⟨h1, .str ⟨#[60]⟩ t1, .none⟩, ⟨h2, .str ⟨#[62]⟩ t2, .none⟩] n
theorem fk_ex {news : List (Addr × Obj)} {x : Addr} {h1 h2 : Int} {t1 t2 : Tok} {n : Nat} (i : Nat) (e : news[i]? = some (x, fkObj h1 h2 t1 t2 n)) : ∃ (i : Nat) (h1 h2 : Int) (t1 t2 : Tok) (n : Nat), news[i]? = some (x, fkObj h1 h2 t1 t2 n) := ⟨i, h1, h2, t1, t2, n, e⟩
local macro_rules | `(tactic| x_close) => `(tactic| ktd_said "x8")
theorem fk_c (prog : Program) (w : World) (gd : Option (List Code)) (cn : Str) (cs : Scope) (L a q : Addr) (ccd : Value) (cl : List (Str × Addr)) (outer : List Env) (s : Shared) (Q : Value → Shared → Prop) (E : Value → Shared → Prop) (X : (Mine.hd.heap_1 w.params).In s.heap) (tk : Tok)
    (hq : s.heap.get? q = some { cls := .type "builtin_function_or_method", data := .fields #[.builtin "dict.fromkeys", .type "dict"] })
    (hret : ∀ (x : Addr) (h' : Heap) (tk' : Nat) (news : List (Addr × Obj)), Mem s.heap h' [] news → (∃ (i : Nat) (h1 h2 : Int) (t1 t2 : Tok) (n : Nat), news[i]? = some (x, fkObj h1 h2 t1 t2 n)) → Q (.ref x) (St s h' tk')) :
    wpAny (model prog w) (ktrTop 500 500 gd cn cs L a ccd cl outer) (call (.ref q) [.str (Str.ofString "<>") tk]) Q E s := by
  x_run
end Mine
/-! text Q7 -/
namespace Mine
open PySem PySem.W PySem.Calls PySem.Spec PyProof.Rows
section
variable {prog : Program} {w : World} {A : Around} {E : Value → Shared → Prop} {s : Shared}
noncomputable def IK (es : Array DictEntry) : Prop := ∀ e ∈ es, ∃ k t, e.key = .int k t ∧ e.hash = hashInt k
theorem isInt_int {k i : Int} {t : Tok} : Value.isInt k (.int i t) = (i == k) := rfl
theorem dset {d : Addr} {k : Int} {t : Tok} {v : Value} {Q : Unit → Shared → Prop} {es : Array DictEntry} {ep : Nat} (ho : s.heap.get? d = some { cls := .type "dict", data := .dict es ep }) (hk : IK es) (hi : (es.findIdx? fun e => Value.isInt k e.key) = none) (hl : es.size < 100)
    (hQ : ∀ h', h'.get? d = some { cls := .type "dict", data := .dict (es.push ⟨hashInt k, .int k t, v⟩) (ep + 1) } → Heap.SameBut d s.heap h' → Q () { s with heap := h', toks := s.toks + 1 }) :
    wpAny (model prog w) A (dictSet d (.int k t) v) Q E s := by
  unfold dictSet
  try with_reducible refine wpAny_holding ?_
  refine wpAny_bind (wpAny_pyHash_int ?_)
  unfold dictSetHashed
  try with_reducible refine wpAny_holding ?_
  refine wpAny_bind (wpAny_dictFind_int (s := { s with toks := s.toks + 1 }) ho rfl hk ?_)
  rw [hi]
  refine wpAny_bind (wpAny_rule (wpAny_updateDictKeys (hz := by rw [sizeLine_eq]; omega) (s := { s with toks := s.toks + 1 }) ho rfl (hQ _ ?_ (Heap.SameBut.update ..))))
  rw [Heap.get?_update_self _ ho (Obj.isFreed_of_dict (Obj.data_mapDictKeys rfl _))]
  rfl
theorem mk_trans {q : Addr} {h1 h2 : Int} {t1 t2 : Tok} {n : Nat} {Q : Fin → Shared → Prop} (hq : s.heap.get? q = some (fkObj h1 h2 t1 t2 n)) (hne : (q == sysModules) = false)
    (k : ∀ d h' tk', (∀ b o, s.heap.get? b = some o → h'.get? b = some o) → s.heap.get? d = none → h'.MapOf (intKind prog w) d (fun x => if x = 62 then some .none else if x = 60 then some .none else none) → Q (.done (.ret (.ref d))) { s with heap := h', toks := tk' }) :
    wpAny (model prog w) A (Builtin.«str.maketrans» ⟨[.ref q], []⟩) Q E s := by
  unfold Builtin.«str.maketrans»
  refine wpAny_bind (wpAny_of_eq (a := ()) rfl ?_)
  refine wpAny_bind (wpAny_of_eq (a := ()) rfl ?_)
  refine wpAny_bind (wpAny_of_eq (a := none) rfl ?_)
  refine wpAny_bind (wpAny_of_eq (a := none) rfl ?_)
  refine wpAny_bind (wpAny_newObj_type (s := s) ?_ (by first | exact trivial | (simp [sizeOk]; done)))
  dsimp only
  refine wpAny_bind (wpAny_holding ?_)
  refine wpAny_bind (wpAny_typeOf (T := "dict") (s := { s with heap := _ }) ⟨_, Heap.get?_push_of_some _ hq, rfl⟩ ?_)
  refine wpAny_bind (wpAny_of_eq (a := ()) rfl ?_)
  refine wpAny_bind (wpAny_typeOf (T := "dict") (s := { s with heap := _ }) ⟨_, Heap.get?_push_of_some _ hq, rfl⟩ ?_)
  rw [if_neg (by decide)]
  refine wpAny_bind ?_
  unfold notTheModulesDict
  rw [if_neg (by rw [hne]; decide)]
  refine wpAny_pure ?_
  refine wpAny_bind (wpAny_dictEntries (s := { s with heap := _ }) (Heap.get?_push_of_some _ hq) rfl ?_)
  rw [← Array.forIn_toList]
  refine wpAny_bind ?_
  rw [List.forIn_cons]
  refine wpAny_bind (wpAny_bind (wpAny_of_eq (a := some ⟨#[60]⟩) rfl ?_))
  dsimp only
  refine wpAny_bind (wpAny_mkInt ?_)
  refine wpAny_bind (dset (s := { s with heap := _, toks := s.toks + 1 }) (k := 60) (es := #[]) (ep := 0) (Heap.get?_push_size _ rfl) (fun _ h => by simp at h) (by simp) (by decide) ?_)
  intro h₁ hm1 hs1
  refine wpAny_pure ?_
  dsimp only
  rw [List.forIn_cons]
  refine wpAny_bind (wpAny_bind (wpAny_of_eq (a := some ⟨#[62]⟩) rfl ?_))
  dsimp only
  refine wpAny_bind (wpAny_mkInt ?_)
  refine wpAny_bind (dset (s := { s with heap := h₁, toks := s.toks + 3 }) (k := 62) hm1 (fun e h => by simp at h; subst h; exact ⟨60, _, rfl, rfl⟩) (by simp [isInt_int]) (by simp) ?_)
  intro h₂ hm2 hs2
  refine wpAny_pure ?_
  dsimp only
  rw [List.forIn_nil]
  refine wpAny_pure (wpAny_pure (wpAny_pure ?_))
  refine k _ h₂ _ ?_ (by cases e : s.heap.get? s.heap.objs.size with | none => rfl | some o => exact absurd (Heap.lt_size e) (Nat.lt_irrefl _)) ⟨_, _, _, hm2, ⟨rfl, rfl, rfl⟩, rfl, ?_, ?_⟩
  rotate_left
  · intro e he
    simp at he
    rcases he with rfl | rfl
    · exact ⟨60, rfl, rfl⟩
    · exact ⟨62, rfl, rfl⟩
  · intro x
    simp only [findBy, intKind]
    by_cases h2 : x = 62
    · subst h2; simp [isInt_int]
    · by_cases h1 : x = 60
      · subst h1; simp [isInt_int]
      · have e1 : ¬ (60 = x) := fun e => h1 e.symm
        have e2 : ¬ (62 = x) := fun e => h2 e.symm
        simp [isInt_int, h1, h2, e1, e2]
  intro b o e
  have hb : b ≠ s.heap.objs.size := Nat.ne_of_lt (Heap.lt_size e)
  rw [hs2.2 b hb, hs1.2 b hb]
  exact Heap.get?_push_of_some _ e
end
end Mine
/-! text Q8 -/
namespace Mine
open PySem PySem.W PySem.Calls PySem.Spec PyProof.Rows
theorem ty_slot_ga : Slot "type" "__getattribute__" "type.__getattribute__" :=
  .of (owner := "type") (n := "__getattribute__") (by rw [typeLookup_type, builtinLookup_eq_fast]; kernel_rfl) (by decide +kernel) (by decide +kernel) (by decide +kernel)
    (by first | exact .inl (by decide +kernel) | exact .inr (by decide +kernel)) (by rw [isSubtype_type]; kernel_rfl)
section
variable {prog : Program} {w : World} {A : Around} {E : Value → Shared → Prop} {h : Heap} {g : Array GenState} {d : Drawn} {t : Nat} {os : OsState}
theorem fk_meth {pl : Sem Bool} {Q : Value × List Value → Shared → Prop}
    (k : wpAny (model prog w) A (call (.builtin "type.__getattribute__") [.type "dict", .str "fromkeys" t]) (fun r s' => ∃ a, r = .ref a ∧ Q (.ref a, []) s') (fun _ _ => False) ⟨h, g, d, t + 1, os⟩) :
    wpAny (model prog w) A (getMethod (.type "dict") "fromkeys" pl) Q E ⟨h, g, d, t, os⟩ := by
  have hT : (⟨h, g, d, t, os⟩ : Shared).TypeIs (.type "dict") "type" := rfl
  unfold getMethod
  refine wpAny_bind (wpAny_specialOf hT ty_slot_ga.lookup ?_)
  show wpAny _ _ (if (Manifest.canonical "type.__getattribute__" != "object.__getattribute__") = true then _ else _) Q E _
  rw [if_pos (by decide +kernel)]
  refine wpAny_bind ?_
  unfold getAttr
  refine wpAny_bind (wpAny_mkText ?_)
  unfold getAttrBy
  refine wpAny_holding (wpAny_bind (wpAny_of_eq (a := .type "type") rfl ?_))
  refine wpAny_bind (wpAny_of_eq ty_slot_ga.lookup ?_)
  show wpAny _ _ (getAttrByItsOwn _ _ _ _ _ _) _ _ _
  unfold getAttrByItsOwn
  refine wpAny_bind (wpAny_of_eq (a := none) rfl ?_)
  refine wpAny_bind (wpAny_attempt (wpAny_holding ?_))
  show wpAny _ _ (boundAndCalled _ _ _) _ _ _
  unfold boundAndCalled
  refine wpAny_bind (wpAny_of_eq (ty_slot_ga.bind (.type "dict")) ?_)
  refine wpAny_mono k (fun r s' hr => ?_) (fun _ _ x => x.elim)
  obtain ⟨a, rfl, hr⟩ := hr
  exact wpAny_pure (wpAny_pure hr)
end
end Mine
/-! text X6 -/
open PySem PySem.W PySem.W.X PySem.W.XRun PySem.Calls PySem.Spec PyProof.Rows
namespace Mine
local macro_rules | `(tactic| x_close) => `(tactic| ktd_said "x6")
theorem ga_c (prog : Program) (w : World) (gd : Option (List Code)) (cn : Str) (cs : Scope) (L a : Addr) (ccd : Value) (cl : List (Str × Addr)) (outer : List Env) (s : Shared) (Q : Value → Shared → Prop) (E : Value → Shared → Prop) (X : (Mine.hd.heap_1 w.params).In s.heap) (tk : Tok)
    (hret : ∀ (x : Addr) (h' : Heap) (tk' : Nat) (news : List (Addr × Obj)), Mem s.heap h' [] news → (∃ (i : Nat), news[i]? = some (x, bfObj)) → Q (.ref x) (St s h' tk')) :
    wpAny (model prog w) (ktrTop 500 500 gd cn cs L a ccd cl outer) (call (.builtin "type.__getattribute__") [.type "dict", .str (Str.ofString "fromkeys") tk]) Q E s := by
  x_run
end Mine
/-! text Q9 -/
namespace Mine
open PySem PySem.W PySem.Calls PySem.Spec PyProof.Rows
theorem mt_plain : plainId "str.maketrans" = true := by decide +kernel
theorem mt_entry' : entryFor table "str.maketrans" = some Builtin.«str.maketrans» := entryFor_of_tree (by kernel_rfl)
theorem mt_check (a : Value) : checkBuiltinCall "str.maketrans" ⟨[a], []⟩ = pure () := by kernel_rfl
section
variable {prog : Program} {w : World} {A : Around} {E : Value → Shared → Prop} {s : Shared}
theorem mt_call {q : Addr} {h1 h2 : Int} {t1 t2 : Tok} {n : Nat} {Q : Value → Shared → Prop} (hq : s.heap.get? q = some (fkObj h1 h2 t1 t2 n)) (hne : (q == sysModules) = false)
    (k : ∀ d h' tk', (∀ b o, s.heap.get? b = some o → h'.get? b = some o) → s.heap.get? d = none → h'.MapOf (intKind prog w) d (fun x => if x = 62 then some .none else if x = 60 then some .none else none) → Q (.ref d) { s with heap := h', toks := tk' }) :
    wpAny (model prog w) A (call (.builtin "str.maketrans") [.ref q]) Q E s := by
  refine wpAny_call (codeAny_call_builtin mt_plain mt_entry' ?_)
  rw [mt_check]
  refine wpAny_pure ?_
  exact mk_trans hq hne fun d h' tk' a b c => k d h' tk' a b c
theorem tr_call {x : Str} {t : Tok} {d : Addr} {f : Int → Option Value} {Q : Value → Shared → Prop} (h0 : x.length ≠ 0) (hd : (d == sysModules) = false) (hh : A.handled = none) (hm : s.heap.MapOf (intKind prog w) d f) (hv : ∀ c ∈ x.cps.toList, f (c : Int) = none)
    (ha : (x.cps.all (· < 128)) = true) (hl : x.length < 1000)
    (k : ∀ h' tk' t', (∀ b o, s.heap.get? b = some o → h'.get? b = some o) → Q (.str x t') { s with heap := h', toks := tk' }) : wpAny (model prog w) A (call (.builtin "str.translate") [.str x t, .ref d]) Q E s := by
  refine wpAny_call_entry (s := s) PySem.F.slot_str_translate rfl PySem.F.entry_str_translate ?_ (PySem.F.args_str_translate_2 _ _)
  exact tr_keep h0 hd hh hm hv ha hl fun h' tk' t' hk => ⟨_, rfl, k h' tk' t' hk⟩
theorem tr_meth {x : Str} {t : Tok} {pl : Sem Bool} {Q : Value × List Value → Shared → Prop} (k : Q (.builtin "str.translate", [.str x t]) s) : wpAny (model prog w) A (getMethod (.str x t) "translate" pl) Q E s := by
  have hT : s.TypeIs (.str x t) "str" := rfl
  have hd : ∀ a, Value.str x t = .ref a → ∃ o, s.heap.get? a = some o ∧ o.dict = none := fun a e => by cases e
  with_reducible refine getMethod_builtin (s := s) hT PySem.F.plainAttrs_str PySem.F.slot_str_translate PySem.F.type_str_translate hd ?_
  exact k
theorem bf_keeper {M : Model} {h : Heap} {b : Addr} (hb : h.get? b = some bfObj) : ∃ k, (k = Keeper.frame ∨ k = Keeper.machine ∨ k = Keeper.boundFrame) ∧ Looks M h (keeperOf (.ref b)) k := by
  refine ⟨.machine, .inr (.inl rfl), ?_⟩
  intro A Q E s hk hq
  unfold keeperOf
  refine wpAny_bind (wpAny_load (hk _ _ hb) ?_)
  exact wpAny_pure hq
theorem bf_callWith {M : Model} {pos : Pos} {b : Addr} {env : Env} {e : Expr} {rest : List Expr} {Q : Value → Shared → Prop}
    (k : wpAny M A (spliced (backTo pos (starEach (e :: rest) env))) (fun vs s₁ => s₁.heap.get? b = some bfObj ∧ wpAny M A (call (.ref b) vs) Q E s₁) E s)
    (he : starEach (e :: rest) env = (false, eval e env) :: starEach rest env := by kernel_rfl) (hplain : (backTo pos (starEach rest env)).any (·.1) = false := by kernel_rfl) :
    wpAny M A (callWith pos (.ref b) [] (backTo pos (starEach (e :: rest) env)) []) Q E s := by
  rw [he] at k ⊢
  refine callWith_of (P := fun h => h.get? b = some bfObj) (by show ((false || (backTo pos (starEach rest env)).any (·.1)) || false) = false; rw [hplain]; rfl) (fun h hb => bf_keeper hb) (evalArgs_plain k)
end
end Mine
/-! text ZC -/
namespace Mine
open PySem PySem.W PySem.Calls PySem.Spec PyProof.Rows PyProof.Rows.LCg
theorem str_canLay : ∀ ns : List Str, (∀ x ∈ ns, PyData.canLay0 (.str x) = true) → PyData.canLayAll0 (ns.map PyData.str) = true
  | [], _ => by simp [PyData.canLayAll0]
  | x :: r, h => by
    have h1 := str_canLay r fun y hy => h y (.tail _ hy)
    have h2 := h x (.head _)
    simp only [List.map_cons, PyData.canLayAll0, h1, h2, Bool.and_self]
theorem str_depth : ∀ ns : List Str, PyData.depthAll (ns.map PyData.str) = 0
  | [] => by simp [PyData.depthAll]
  | _ :: r => by simp [PyData.depthAll, PyData.depth, str_depth r]
theorem str_shaped (ns : List Str) (h : ∀ x ∈ ns, PyData.canLay0 (.str x) = true) : SeqAt.shaped (.list (ns.map PyData.str)) = true := by
  simp [SeqAt.shaped, PyData.canLay0, PyData.depth, str_canLay ns h, str_depth]
theorem str_sameAll : ∀ ns ms : List Str, PySem.Spec.sameAll (ns.map PyData.str) (ms.map PyData.str) = decide (ns = ms)
  | [], [] => by simp [PySem.Spec.sameAll]
  | [], _ :: _ => by simp [PySem.Spec.sameAll]
  | _ :: _, [] => by simp [PySem.Spec.sameAll]
  | a :: r, b :: t => by
    simp only [List.map_cons, PySem.Spec.sameAll, PySem.Spec.same, str_sameAll r t]
    by_cases h : a = b <;> by_cases h' : r = t <;> simp [h, h']
theorem str_same (ns ms : List Str) : PySem.Spec.same (.list (ns.map PyData.str)) (.list (ms.map PyData.str)) = decide (ns = ms) := by
  simp only [PySem.Spec.same]; exact str_sameAll ns ms
theorem str_carried : ∀ {vs : List Value} {ns : List Str}, StrsAre vs ns → CarriedAll vs (ns.map PyData.str)
  | _, _, .nil => .nil
  | _, _, .cons _ t r => .cons (.str _ t) (str_carried r)
section
variable {prog : Program} {w : World} {A : Around} {s : Shared} {h₀ : Heap} {L a : Addr} {E : Value → Shared → Prop} {h : Heap} {q b : Addr} {m : Str → Option Value} {news : List (Addr × Obj)} {tk k k2 : Nat} {vs ws : List Value} {v : Value} {Q : Value → Shared → Prop}
theorem v_isL (z : Z h₀ L h m news) (hm : (q, listOf vs.toArray k) ∈ news) : (St s h tk).heap.IsList q vs.toArray := ⟨_, (z.N _ hm).1, rfl, k, rfl⟩
theorem v_eqInts {ns ms : List Int} (z : Z h₀ L h m news) (ha : (a, listOf vs.toArray k) ∈ news) (hb : (b, listOf ws.toArray k2) ∈ news) (hi : IntsAre vs ns) (hj : IntsAre ws ms) (hu : A.units + 64 < cLine) (kk : Q (.bool (decide (ns = ms))) (St s h tk)) :
    wpAny (model prog w) A (compareOp .Eq (.ref a) (.ref b)) Q E (St s h tk) := ke_eq_ints (s := St s h tk) (v_isL z ha) (v_isL z hb) hi hj hu kk
theorem v_eqStrs {ns ms : List Str} (z : Z h₀ L h m news) (ha : (a, listOf vs.toArray k) ∈ news) (hb : (b, listOf ws.toArray k2) ∈ news) (hi : StrsAre vs ns) (hj : StrsAre ws ms) (h1 : ∀ x ∈ ns, PyData.canLay0 (.str x) = true) (h2 : ∀ x ∈ ms, PyData.canLay0 (.str x) = true) (hu : A.units + 64 < cLine) (kk : Q (.bool (decide (ns = ms))) (St s h tk)) :
    wpAny (model prog w) A (compareOp .Eq (.ref a) (.ref b)) Q E (St s h tk) :=
  eq_dataH_same (s := St s h tk) (reads_newData (v_isL z ha) (str_carried hi)) (reads_newData (v_isL z hb) (str_carried hj)) (str_shaped _ h1) (str_shaped _ h2) hu (SeqAt.noMix_of_shape (.list .str) rfl _ _ (list_map_has fun _ => rfl) (list_map_has fun _ => rfl)) (by rw [str_same]; exact kk)
theorem v_add (z : Z h₀ L h m news) (ha : h.IsList a vs.toArray) (hb : h.IsList b ws.toArray) (hsz : vs.length + ws.length < 100000) (kk : ∀ D h', Z h₀ L h' m ((D, listOf (vs ++ ws).toArray 0) :: news) → Q (.ref D) (St s h' tk)) :
    wpAny (model prog w) A (binaryOp .Add (.ref a) (.ref b)) Q E (St s h tk) := by
  refine add_lists (s := St s h tk) z.F z.N ha hb (fun h' F' N' => kk _ h' ⟨F', N', ?_⟩) (by rw [sizeLine_eq]; omega)
  exact List.nodup_cons.mpr ⟨(z.new (Nat.le_refl _)).2.2, z.nd⟩
theorem v_index {ys : List Str} {x : Str} {u : Tok} {j : Nat} (z : Z h₀ L h m news) (ha : (a, listOf vs.toArray k) ∈ news) (hi : StrsAre vs ys) (hj : j < ys.length) (hx : ys[j]? = some x) (hno : ∀ i y, i < j → ys[i]? = some y → (y == x) = false) (hl : ys.length < 1000)
    (kk : ∀ t', Q (.int (j : Int) t') (St s h (tk + 1))) : wpAny (model prog w) A (call (.builtin "list.index") [.ref a, .str x u]) Q E (St s h tk) := by
  have hl2 := hi.length
  have at_ : ∀ i (h : i < vs.toArray.size), ∃ y t, vs.toArray[i] = .str y t ∧ ys[i]? = some y := by
    intro i h
    have h' : i < vs.length := by simpa using h
    obtain ⟨y, hy⟩ : ∃ y, ys[i]? = some y := ⟨ys[i]'(by omega), by simp⟩
    obtain ⟨t, ht⟩ := hi.get i y hy
    refine ⟨y, t, ?_, hy⟩
    have := (List.getElem?_eq_some_iff.mp ht).2
    simpa using this
  refine call_meets PySem.F.slot_list_index ⟨_, (z.N _ ha).1, rfl⟩ PySem.F.entry_list_index (PySem.F.args_list_index_2 _ _)
    (SeqAt.list_indexAt a vs.toArray k none #[] (.str x u) (fun v => match v with | .str y _ => y == x | _ => false) j (by simp; omega) (by omega) ?_ ?_) ⟨(z.N _ ha).1, ?_, kk _⟩
  · obtain ⟨y, t, e, hy⟩ := at_ j (by simp; omega)
    rw [e]
    rw [hx] at hy
    cases hy
    simp
  · intro i hi' hlt
    obtain ⟨y, t, e, hy⟩ := at_ i hi'
    rw [e]
    exact hno i y hlt hy
  · intro y hy
    obtain ⟨i, hi', e⟩ := Array.mem_iff_getElem.mp hy
    obtain ⟨y', t, e', hy'⟩ := at_ i hi'
    rw [← e, e']
    exact SeqAt.EqAt.str_str _ _ _ _
end
end Mine
/-! text ZD -/
namespace Mine
open PySem PySem.W PySem.Calls PySem.Spec PyProof.Rows PyProof.Rows.LCg
theorem pick17 (vs : List Value) : slicePick vs.toArray (some 1) (some 7) none = ((vs.drop 1).take 6).toArray := by
  rcases Nat.lt_or_ge vs.length 7 with h | h
  · have key : slicePick vs.toArray (some 1) (some 7) none = slicePick vs.toArray (some ((min 1 vs.length : Nat) : Int)) (some ((vs.length : Nat) : Int)) none := by
      unfold slicePick
      have e : sliceBounds (some 1) (some 7) none vs.toArray.size = sliceBounds (some ((min 1 vs.length : Nat) : Int)) (some ((vs.length : Nat) : Int)) none vs.toArray.size := by
        unfold sliceBounds
        simp only [Option.getD_none, List.size_toArray]
        have h1 : ¬ ((1 : Int) < 0) := by omega
        have h2 : ¬ ((7 : Int) < 0) := by omega
        have h3 : ¬ (((min 1 vs.length : Nat) : Int) < 0) := by omega
        have h4 : ¬ (((vs.length : Nat) : Int) < 0) := by omega
        simp only [h1, h2, h3, h4, if_false, if_true, show (1 : Int) > 0 by decide]
        refine Prod.ext ?_ (Prod.ext ?_ rfl)
        · show max 0 (min (1 : Int) (vs.length : Int)) = max 0 (min ((min 1 vs.length : Nat) : Int) (vs.length : Int)); omega
        · show max 0 (min (7 : Int) (vs.length : Int)) = max 0 (min ((vs.length : Nat) : Int) (vs.length : Int)); omega
      rw [e]
    rw [key, slicePick_run vs.toArray _ _ (by simp) (by omega)]
    congr 1
    show (vs.drop (min 1 vs.length)).take (vs.length - min 1 vs.length) = _
    cases vs with
    | nil => rfl
    | cons a r =>
      have e1 : min 1 (a :: r).length = 1 := by simp
      rw [e1, List.take_of_length_le (by simp), List.take_of_length_le (by simp at h ⊢; omega)]
  · rw [show (1 : Int) = ((1 : Nat) : Int) from rfl, show (7 : Int) = ((7 : Nat) : Int) from rfl, slicePick_run vs.toArray 1 7 (by simpa using h) (by omega)]
section
variable {M : Model} {prog : Program} {w : World} {A : Around} {s : Shared} {h₀ : Heap} {L a : Addr} {E : Value → Shared → Prop} {env : Env} {h : Heap} {q b : Addr} {m : Str → Option Value} {news : List (Addr × Obj)} {tk k k2 : Nat} {vs ws : List Value} {v : Value} {Q : Value → Shared → Prop} {pos : Pos}
theorem v_slice17 {value slice : Expr} {u1 u2 : Tok} (z : Z h₀ L h m news) (hl : h.IsList a vs.toArray) (hsz : vs.length < 100000) (kk : ∀ D h', Z h₀ L h' m ((D, listOf ((vs.drop 1).take 6).toArray 0) :: news) → Q (.ref D) (St s h' tk))
    (hs : subscripted slice false (.ref a) (.ref h.objs.size) = operate [.ref h.objs.size, .ref a] (getItem (.ref a) (.ref h.objs.size)) := by kernel_rfl)
    (ht : ∀ r, letTemporaryGo value (.ref a) r = pure () := by intro _; kernel_rfl) :
    wpAny (model prog w) A (newFields "slice" [.int 1 u1, .int 7 u2, .none]) (fun iv s₂ => wpAny (model prog w) A (subscriptTail value slice (.ref a) iv) Q E s₂) E (St s h tk) := by
  unfold newFields
  refine wpAny_newObj_type (s := St s h tk) ?_ (by first | exact trivial | (simp [sizeOk]; done) | (show 3 ≤ _; rw [sizeLine_eq]; decide))
  refine slice_list (s := St s h tk) (lo := some 1) (hi := some 7) z.F z.N hl (.int _ _) (.int _ _) (fun h' F' N' => ?_) hs ht (by rw [List.size_toArray, sizeLine_eq]; omega)
  rw [pick17] at N'
  exact kk _ h' ⟨F', N', List.nodup_cons.mpr ⟨(z.new (Nat.le_succ _)).2.2, z.nd⟩⟩
theorem v_slice1 {value slice : Expr} {u2 : Tok} (z : Z h₀ L h m news) (hl : h.IsList a vs.toArray) (hsz : vs.length < 100000) (kk : ∀ D h', Z h₀ L h' m ((D, listOf (vs.take 1).toArray 0) :: news) → Q (.ref D) (St s h' tk))
    (hs : subscripted slice false (.ref a) (.ref h.objs.size) = operate [.ref h.objs.size, .ref a] (getItem (.ref a) (.ref h.objs.size)) := by kernel_rfl)
    (ht : ∀ r, letTemporaryGo value (.ref a) r = pure () := by intro _; kernel_rfl) :
    wpAny (model prog w) A (newFields "slice" [.none, .int 1 u2, .none]) (fun iv s₂ => wpAny (model prog w) A (subscriptTail value slice (.ref a) iv) Q E s₂) E (St s h tk) := by
  unfold newFields
  refine wpAny_newObj_type (s := St s h tk) ?_ (by first | exact trivial | (simp [sizeOk]; done) | (show 3 ≤ _; rw [sizeLine_eq]; decide))
  refine slice_list (s := St s h tk) (lo := none) (hi := some 1) z.F z.N hl .none (.int _ _) (fun h' F' N' => ?_) hs ht (by rw [List.size_toArray, sizeLine_eq]; omega)
  rw [show (some (1 : Int)) = some ((1 : Nat) : Int) from rfl, slicePick_upto'] at N'
  exact kk _ h' ⟨F', N', List.nodup_cons.mpr ⟨(z.new (Nat.le_succ _)).2.2, z.nd⟩⟩
theorem y_mulS {x : Str} {n : Nat} {t u : Tok} {i : Int} (hi : i = (n : Int)) (hx : x.length = 1) (hn : n < 1000) (kk : ∀ t' tk', Q (.str (Txt.mul x i) t') (St s h tk')) : wpAny (model prog w) A (binaryOp .Mult (.str x t) (.int i u)) Q E (St s h tk) := by
  subst hi
  refine SB.mul (s := St s h tk) ⟨?_, ?_, ?_⟩ fun t' k' => kk t' k'
  · rw [Bool.or_eq_false_iff, decide_eq_false_iff_not, decide_eq_false_iff_not]; omega
  · intro h1 _ h2
    rw [hx] at h2
    have : (1 : Int) ≤ (2 ^ 63 - 1) / (n : Int) := by
      apply Int.le_ediv_of_mul_le (by omega)
      omega
    omega
  · intro _ _
    rw [hx, Nat.one_mul, Int.toNat_natCast]
    unfold Builtin.Str.tooLong
    rw [sizeLine_eq]
    simp
    omega
end
end Mine
namespace Mine
open PySem PySem.W PySem.Calls PySem.Spec PyProof.Rows
/-! text H1 -/
/-- the loop of _siftdown with startpos 0 -/
noncomputable def sdLoop (ni : Int) : Nat → List Int → Nat → List Int × Nat
  | 0, xs, p => (xs, p)
  | n + 1, xs, p => if p = 0 then (xs, p) else
      if ni < xs.getD ((p - 1) / 2) 0 then sdLoop ni n (xs.set p (xs.getD ((p - 1) / 2) 0)) ((p - 1) / 2) else (xs, p)
theorem sdLoop_succ (ni : Int) (n : Nat) (xs : List Int) (p : Nat) : sdLoop ni (n + 1) xs p = if p = 0 then (xs, p) else
      if ni < xs.getD ((p - 1) / 2) 0 then sdLoop ni n (xs.set p (xs.getD ((p - 1) / 2) 0)) ((p - 1) / 2) else (xs, p) := rfl
noncomputable def siftdown (xs : List Int) (p : Nat) : List Int :=
  (sdLoop (xs.getD p 0) (p + 1) xs p).1.set (sdLoop (xs.getD p 0) (p + 1) xs p).2 (xs.getD p 0)
theorem sdLoop_fuel (ni : Int) : ∀ (n k : Nat) (xs : List Int) (p : Nat), p < n → p < k → sdLoop ni n xs p = sdLoop ni k xs p
  | 0, _, _, _, h, _ => absurd h (Nat.not_lt_zero _)
  | _, 0, _, _, _, h => absurd h (Nat.not_lt_zero _)
  | n + 1, k + 1, xs, p, h1, h2 => by
    rw [sdLoop_succ, sdLoop_succ]
    by_cases hp : p = 0
    · rw [if_pos hp, if_pos hp]
    · rw [if_neg hp, if_neg hp, sdLoop_fuel ni n k _ _ (by omega) (by omega)]
inductive HP (q : Addr) (i : Nat) (ys : List Int) (news : List (Addr × Obj)) (r : Value) (news' : List (Addr × Obj)) : Prop
  | mk (e : r = .none) (o' : Obj) (h : LI ys o') (e2 : news' = news.set i (q, o')) : HP q i ys news r news'
inductive HI (v : Int) (q : Addr) (i : Nat) (ys : List Int) (news : List (Addr × Obj)) (r : Value) (news' : List (Addr × Obj)) : Prop
  | mk (e : ∃ t, r = .int v t) (o' : Obj) (h : LI ys o') (e2 : news' = news.set i (q, o')) : HI v q i ys news r news'
inductive SdJ (q : Addr) (i : Nat) (xs : List Int) (p : Nat) (news : List (Addr × Obj)) (n : Nat) (m₁ : Str → Option Value) (news₁ : List (Addr × Obj)) : Prop
  | mk (ys : List Int) (o' : Obj) (p' : Nat) (t' t0 tn : Tok) (q1 : m₁ (Str.ofString "heap") = some (.ref q)) (q2 : m₁ (Str.ofString "startpos") = some (.int 0 t0)) (q3 : m₁ (Str.ofString "pos") = some (.int p' t')) (q4 : m₁ (Str.ofString "newitem") = some (.int (xs.getD p 0) tn)) (q5 : news₁ = news.set i (q, o')) (q6 : LI ys o') (q7 : ys.length = xs.length) (q8 : p' < xs.length) (q9 : n = p' + 1) (q10 : sdLoop (xs.getD p 0) (p + 1) xs p = sdLoop (xs.getD p 0) n ys p') : SdJ q i xs p news n m₁ news₁
theorem siftdown_c {w mean mg mb} {q : Addr} {news : List (Addr × Obj)} {i : Nat} {o : Obj} {xs : List Int} {p : Nat} {t1 t2 : Tok} (hq : news[i]? = some (q, o)) (ho : LI xs o) (hp : p < xs.length) (hl : xs.length < 1000) :
    C w mean mg mb 74 1 3 [.ref q, .int 0 t1, .int p t2] news (HP q i (siftdown xs p) news) := by
  refine ctr_by [(Str.ofString "heap", .ref q), (Str.ofString "startpos", .int 0 t1), (Str.ofString "pos", .int p t2)] (by k_is) (by k_is) (fun _ _ => BindsTo.of_eq rfl) (locs rfl) (by kernel_rfl) rfl rfl rfl (by decide) ?_
  intro dp un gd outer A₀ base g L h₁ s tk m hm fx z hd hu
  have n1 := hm _ _ (.head _)
  have n2 := hm _ _ (.tail _ (.head _))
  have n3 := hm _ _ (.tail _ (.tail _ (.head _)))
  clear hm
  repeat ktd_said "y1"
  refine y_while (SdJ q i xs p news) (n₀ := p + 1) (by assumption)
      ⟨xs, o, p, t2, t1, _, by ktd_said "nm", by ktd_said "nm", by ktd_said "nm", by ktd_said "nm", (set_same hq).symm, ho, rfl, hp, rfl, rfl⟩ ?_
  rintro n m₁ news₁ h₃ tk₃ z₃ ⟨ys, o', p', t', t0, tn, e1, e2, e3, e4, rfl, ho', hl', hp', rfl, he⟩
  have hq' := set_at (o' := o') hq
  replace he := he.trans (sdLoop_succ ..)
  repeat ktd_said "y1"
  refine y_split (fun c => ?_) (fun c => ?_)
  · have hpp : ((p' : Int) - 1) / 2 = (((p' - 1) / 2 : Nat) : Int) := by omega
    rw [if_neg (by omega)] at he
    repeat ktd_said "y1"
    refine y_split (fun c2 => ?_) (fun c2 => ?_)
    · rw [hpp, Int.toNat_natCast] at c2
      rw [if_pos c2] at he
      repeat ktd_said "y1"
      rename_i h5 o5 ho5 z5 h6 z6
      rw [hpp, Int.toNat_natCast, Int.toNat_natCast] at ho5
      rw [List.set_set] at z6
      refine loop_cont z6 (n' := (p' - 1) / 2 + 1) (by omega) ⟨_, _, (p' - 1) / 2, _, t0, tn, by ktd_said "nm", by ktd_said "nm", mset_eq.trans (by rw [hpp]), by ktd_said "nm", rfl, ho5, by rw [List.length_set]; exact hl', by omega, rfl, ?_⟩
      rw [he]
      exact (sdLoop_fuel _ _ _ _ _ (by omega) (by omega))
    · rw [hpp, Int.toNat_natCast] at c2
      rw [if_neg c2] at he
      repeat ktd_said "y1"
      refine y_nil ?_
      rename_i h5 o5 ho5 z5
      rw [List.set_set] at z5
      refine done_next z5 ⟨rfl, o5, ?_, rfl⟩
      unfold siftdown
      rw [he]
      simpa using ho5
  · rw [if_pos (by omega)] at he
    repeat ktd_said "y1"
    refine y_nil ?_
    rename_i h5 o5 ho5 z5
    rw [List.set_set] at z5
    refine done_next z5 ⟨rfl, o5, ?_, rfl⟩
    unfold siftdown
    rw [he]
    simpa using ho5
/-! text H2 -/
noncomputable def child (n : Nat) (xs : List Int) (p : Nat) : Nat := if 2 * p + 2 < n ∧ ¬ xs.getD (2 * p + 1) 0 < xs.getD (2 * p + 2) 0 then 2 * p + 2 else 2 * p + 1
noncomputable def suLoop (n : Nat) : Nat → List Int → Nat → List Int × Nat
  | 0, xs, p => (xs, p)
  | k + 1, xs, p => if 2 * p + 1 < n then suLoop n k (xs.set p (xs.getD (child n xs p) 0)) (child n xs p) else (xs, p)
theorem suLoop_succ (n k : Nat) (xs : List Int) (p : Nat) : suLoop n (k + 1) xs p = if 2 * p + 1 < n then suLoop n k (xs.set p (xs.getD (child n xs p) 0)) (child n xs p) else (xs, p) := rfl
noncomputable def siftup (xs : List Int) : List Int :=
  siftdown ((suLoop xs.length xs.length xs 0).1.set (suLoop xs.length xs.length xs 0).2 (xs.getD 0 0)) (suLoop xs.length xs.length xs 0).2
inductive SuJ (q : Addr) (i : Nat) (xs : List Int) (news : List (Addr × Obj)) (n : Nat) (m₁ : Str → Option Value) (news₁ : List (Addr × Obj)) : Prop
  | mk (ys : List Int) (o' : Obj) (p' : Nat) (t2 t3 t4 t5 t6 : Tok) (q1 : m₁ (Str.ofString "heap") = some (.ref q)) (q2 : m₁ (Str.ofString "startpos") = some (.int 0 t2)) (q3 : m₁ (Str.ofString "pos") = some (.int p' t3)) (q4 : m₁ (Str.ofString "newitem") = some (.int (xs.getD 0 0) t4)) (q5 : m₁ (Str.ofString "endpos") = some (.int (xs.length : Int) t5)) (q6 : m₁ (Str.ofString "childpos") = some (.int (2 * (p' : Int) + 1) t6)) (q7 : news₁ = news.set i (q, o')) (q8 : LI ys o') (q9 : ys.length = xs.length) (q10 : p' < xs.length) (q11 : xs.length ≤ n + p') (q12 : suLoop xs.length xs.length xs 0 = suLoop xs.length n ys p') : SuJ q i xs news n m₁ news₁
theorem siftup_c {w mean mg mb} {q : Addr} {news : List (Addr × Obj)} {i : Nat} {o : Obj} {xs : List Int} {t1 : Tok} (hq : news[i]? = some (q, o)) (ho : LI xs o) (hp : 0 < xs.length) (hl : xs.length < 1000) :
    C w mean mg mb 81 2 6 [.ref q, .int 0 t1] news (HP q i (siftup xs) news) := by
  refine ctr_by [(Str.ofString "heap", .ref q), (Str.ofString "pos", .int 0 t1)] (by k_is) (by k_is) (fun _ _ => BindsTo.of_eq rfl) (locs rfl) (by kernel_rfl) rfl rfl rfl (by decide) ?_
  intro dp un gd outer A₀ base g L h₁ s tk m hm fx z hd hu
  have n1 := hm _ _ (.head _)
  have n2 := hm _ _ (.tail _ (.head _))
  clear hm
  repeat ktd_said "y1"
  rename_i h5 z5
  refine y_while (SuJ q i xs news) (n₀ := xs.length) z5
      ⟨xs, o, 0, _, _, _, _, _, by ktd_said "nq", by ktd_said "nq", by ktd_said "nq", by ktd_said "nq", by ktd_said "nq", by ktd_said "nq", (set_same hq).symm, ho, rfl, hp, Nat.le_add_right _ _, rfl⟩ ?_
  rintro n m₁ news₁ h₃ tk₃ z₃ ⟨ys, o', p', t2, t3, t4, t5, t6, e1, e2, e3, e4, e5, e6, rfl, ho', hl', hp', hn, he⟩
  have hq' := set_at (o' := o') hq
  obtain ⟨n, rfl⟩ : ∃ k, n = k + 1 := ⟨n - 1, by omega⟩
  replace he := he.trans (suLoop_succ ..)
  repeat ktd_said "y1"
  refine y_split (fun c => ?_) (fun c => ?_)
  · rw [if_pos (by omega)] at he
    repeat ktd_said "y1"
    have k1 : (2 * (p' : Int) + 1).toNat = 2 * p' + 1 := by omega
    have k2 : (2 * (p' : Int) + 1 + 1).toNat = 2 * p' + 2 := by omega
    have k3 : (2 * (p' : Int) + 1) = ((2 * p' + 1 : Nat) : Int) := by omega
    have k4 : (2 * (p' : Int) + 1 + 1) = ((2 * p' + 2 : Nat) : Int) := by omega
    refine y_split (fun c2 => ?_) (fun c2 => ?_)
    · repeat ktd_said "y1"
      refine y_split (fun c3 => ?_) (fun c3 => ?_)
      rotate_left
      · repeat ktd_said "y1"
        rw [k1, k2] at c3
        have hc : child xs.length ys p' = 2 * p' + 2 := if_pos ⟨by omega, c3⟩
        rename_i h5 o5 ho5 z5 h6 z6 h7 z7
        rw [k2, Int.toNat_natCast] at ho5
        rw [List.set_set, k4] at z7
        rw [hc] at he
        refine y_nil (loop_next z7 (n' := n) (by omega) ⟨_, _, 2 * p' + 2, t2, _, t4, t5, _, by ktd_said "nq", by ktd_said "nq", by ktd_said "nq", by ktd_said "nq", by ktd_said "nq", mset_eq, rfl, ho5, by rw [List.length_set]; exact hl', by omega, by omega, he⟩)
      · repeat ktd_said "y1"
        rw [k1, k2] at c3
        have hc : child xs.length ys p' = 2 * p' + 1 := if_neg (fun q => q.2 c3)
        rename_i h5 o5 ho5 z5 h6 z6 h7 z7
        rw [k1, Int.toNat_natCast] at ho5
        rw [List.set_set, k3] at z7
        rw [hc] at he
        refine y_nil (loop_next z7 (n' := n) (by omega) ⟨_, _, 2 * p' + 1, t2, _, t4, t5, _, by ktd_said "nq", by ktd_said "nq", by ktd_said "nq", by ktd_said "nq", by ktd_said "nq", mset_eq, rfl, ho5, by rw [List.length_set]; exact hl', by omega, by omega, he⟩)
    · repeat ktd_said "y1"
      have hc : child xs.length ys p' = 2 * p' + 1 := if_neg (fun q => c2 (by omega))
      rename_i h5 o5 ho5 z5 h6 z6 h7 z7
      rw [k1, Int.toNat_natCast] at ho5
      rw [List.set_set, k3] at z7
      rw [hc] at he
      refine y_nil (loop_next z7 (n' := n) (by omega) ⟨_, _, 2 * p' + 1, t2, _, t4, t5, _, by ktd_said "nq", by ktd_said "nq", by ktd_said "nq", by ktd_said "nq", by ktd_said "nq", mset_eq, rfl, ho5, by rw [List.length_set]; exact hl', by omega, by omega, he⟩)
  · rw [if_neg (by omega)] at he
    repeat ktd_said "y1"
    rename_i h5 o5 ho5 z5
    rw [List.set_set] at z5
    have hq5 := set_at (o' := o5) hq
    rw [Int.toNat_natCast] at ho5
    refine (siftdown_c hq5 ho5 (by rw [List.length_set]; omega) (by rw [List.length_set]; omega)).use fx z5 rfl (by omega) (by omega) ?_
    rintro r news' h6 tk6 ⟨rfl, o6, ho6, rfl⟩ z6
    rw [List.set_set] at z6
    refine y_nil (done_next z6 ⟨rfl, o6, ?_, rfl⟩)
    unfold siftup
    rw [he]
    exact ho6
/-! text H3 -/

noncomputable def hpush (xs : List Int) (x : Int) : List Int := siftdown (xs ++ [x]) xs.length
noncomputable def hpop (xs : List Int) : Int × List Int := if xs.dropLast.isEmpty then (xs.getLastD 0, xs.dropLast) else (xs.getD 0 0, siftup (xs.dropLast.set 0 (xs.getLastD 0)))
noncomputable def hrep (xs : List Int) (x : Int) : Int × List Int := (xs.getD 0 0, siftup (xs.set 0 x))
noncomputable def hpp (xs : List Int) (x : Int) : Int × List Int := if !xs.isEmpty ∧ xs.getD 0 0 < x then (xs.getD 0 0, siftup (xs.set 0 x)) else (x, xs)
theorem push_c {w mean mg mb} {q : Addr} {news : List (Addr × Obj)} {i : Nat} {o : Obj} {xs : List Int} {x : Int} {t1 : Tok} (hq : news[i]? = some (q, o)) (ho : LI xs o) (hl : xs.length < 900) :
    C w mean mg mb 46 2 6 [.ref q, .int x t1] news (HP q i (hpush xs x) news) := by
  refine ctr_by [(Str.ofString "heap", .ref q), (Str.ofString "item", .int x t1)] (by k_is) (by k_is) (fun _ _ => BindsTo.of_eq rfl) (locs rfl) (by kernel_rfl) rfl rfl rfl (by decide) ?_
  intro dp un gd outer A₀ base g L h₁ s tk m hm fx z hd hu
  have n1 := hm _ _ (.head _)
  have n2 := hm _ _ (.tail _ (.head _))
  clear hm
  repeat ktd_said "y1"
  rename_i h5 o5 ho5 z5
  have hq5 := set_at (o' := o5) hq
  have hl5 : (xs ++ [x]).length = xs.length + 1 := by simp
  repeat ktd_said "y1"
  have e5 : (((xs ++ [x]).length : Int) - 1) = ((xs.length : Nat) : Int) := by omega
  rw [e5]
  refine (siftdown_c hq5 ho5 (by omega) (by omega)).use fx z5 rfl (by omega) (by omega) ?_
  rintro r news' h6 tk6 ⟨rfl, o6, ho6, rfl⟩ z6
  rw [List.set_set] at z6
  exact y_nil (done_next z6 ⟨rfl, o6, ho6, rfl⟩)
theorem pop_c {w mean mg mb} {q : Addr} {news : List (Addr × Obj)} {i : Nat} {o : Obj} {xs : List Int} (hq : news[i]? = some (q, o)) (ho : LI xs o) (hp : 0 < xs.length) (hl : xs.length < 900) :
    C w mean mg mb 53 3 9 [.ref q] news (HI (hpop xs).1 q i (hpop xs).2 news) := by
  refine ctr_by [(Str.ofString "heap", .ref q)] (by k_is) (by k_is) (fun _ _ => BindsTo.of_eq rfl) (locs rfl) (by kernel_rfl) rfl rfl rfl (by decide) ?_
  intro dp un gd outer A₀ base g L h₁ s tk m hm fx z hd hu
  have n1 := hm _ _ (.head _)
  clear hm
  repeat ktd_said "y1"
  rename_i h5 o5 t5 ho5 z5 h6 z6
  have hq5 := set_at (o' := o5) hq
  have hl5 : xs.dropLast.length < 900 := by rw [List.length_dropLast]; omega
  repeat ktd_said "y1"
  refine y_splitB (fun c => ?_) (fun c => ?_)
  rotate_left
  all_goals replace c := congrArg (! ·) c
  all_goals simp only [Bool.not_true, Bool.not_false] at c
  · have hp5 : 0 < xs.dropLast.length := by
      cases hx : xs.dropLast with
      | nil => rw [hx] at c; simp at c
      | cons => simp
    repeat ktd_said "y1"
    rename_i h7 o7 ho7 z7
    rw [List.set_set] at z7
    have hq7 := set_at (o' := o7) hq
    refine (siftup_c hq7 ho7 (by rw [List.length_set]; omega) (by rw [List.length_set]; omega)).use fx z7 rfl (by omega) (by omega) ?_
    rintro r news' h8 tk8 ⟨rfl, o8, ho8, rfl⟩ z8
    rw [List.set_set] at z8
    repeat ktd_said "y1"
    have e : hpop xs = (xs.getD 0 0, siftup (xs.dropLast.set 0 (xs.getLastD 0))) := if_neg (by simpa using c)
    have e1 : xs.dropLast.getD (0 : Int).toNat 0 = xs.getD 0 0 := by
      cases xs with
      | nil => rfl
      | cons a r =>
        cases r with
        | nil => simp at hp5
        | cons b r => rfl
    refine done_ret z8 ⟨⟨_, by rw [e, e1]⟩, o8, by rw [e]; exact ho8, rfl⟩
  · repeat ktd_said "y1"
    have e : hpop xs = (xs.getLastD 0, xs.dropLast) := if_pos (by simpa using c)
    exact done_ret (by assumption) ⟨⟨_, by rw [e]⟩, o5, by rw [e]; exact ho5, rfl⟩
theorem rep_c {w mean mg mb} {q : Addr} {news : List (Addr × Obj)} {i : Nat} {o : Obj} {xs : List Int} {x : Int} {t1 : Tok} (hq : news[i]? = some (q, o)) (ho : LI xs o) (hp : 0 < xs.length) (hl : xs.length < 900) :
    C w mean mg mb 60 3 9 [.ref q, .int x t1] news (HI (hrep xs x).1 q i (hrep xs x).2 news) := by
  refine ctr_by [(Str.ofString "heap", .ref q), (Str.ofString "item", .int x t1)] (by k_is) (by k_is) (fun _ _ => BindsTo.of_eq rfl) (locs rfl) (by kernel_rfl) rfl rfl rfl (by decide) ?_
  intro dp un gd outer A₀ base g L h₁ s tk m hm fx z hd hu
  have n1 := hm _ _ (.head _)
  have n2 := hm _ _ (.tail _ (.head _))
  clear hm
  repeat ktd_said "y1"
  rename_i h7 o7 ho7 z7
  have hq7 := set_at (o' := o7) hq
  refine (siftup_c hq7 ho7 (by rw [List.length_set]; omega) (by rw [List.length_set]; omega)).use fx z7 rfl (by omega) (by omega) ?_
  rintro r news' h8 tk8 ⟨rfl, o8, ho8, rfl⟩ z8
  rw [List.set_set] at z8
  repeat ktd_said "y1"
  exact done_ret z8 ⟨⟨_, rfl⟩, o8, ho8, rfl⟩
theorem pp_c {w mean mg mb} {q : Addr} {news : List (Addr × Obj)} {i : Nat} {o : Obj} {xs : List Int} {x : Int} {t1 : Tok} (hq : news[i]? = some (q, o)) (ho : LI xs o) (hl : xs.length < 900) :
    C w mean mg mb 67 3 9 [.ref q, .int x t1] news (HI (hpp xs x).1 q i (hpp xs x).2 news) := by
  refine ctr_by [(Str.ofString "heap", .ref q), (Str.ofString "item", .int x t1)] (by k_is) (by k_is) (fun _ _ => BindsTo.of_eq rfl) (locs rfl) (by kernel_rfl) rfl rfl rfl (by decide) ?_
  intro dp un gd outer A₀ base g L h₁ s tk m hm fx z hd hu
  have n1 := hm _ _ (.head _)
  have n2 := hm _ _ (.tail _ (.head _))
  clear hm
  repeat ktd_said "y1"
  refine y_splitB (fun c => ?_) (fun c => ?_)
  rotate_left
  all_goals replace c := congrArg (! ·) c
  all_goals simp only [Bool.not_true, Bool.not_false] at c
  · have hp : 0 < xs.length := by cases xs <;> simp at c ⊢
    repeat ktd_said "y1"
    refine y_split (fun c2 => ?_) (fun c2 => ?_)
    · repeat ktd_said "y1"
      rename_i h7 o7 ho7 z7
      have hq7 := set_at (o' := o7) hq
      have e : hpp xs x = (xs.getD 0 0, siftup (xs.set 0 x)) := if_pos ⟨c, c2⟩
      refine (siftup_c hq7 ho7 (by rw [List.length_set]; omega) (by rw [List.length_set]; omega)).use fx z7 rfl (by omega) (by omega) ?_
      rintro r news' h8 tk8 ⟨rfl, o8, ho8, rfl⟩ z8
      rw [List.set_set] at z8
      repeat ktd_said "y1"
      exact done_ret z8 ⟨⟨_, by rw [e]; rfl⟩, o8, by rw [e]; exact ho8, rfl⟩
    · repeat ktd_said "y1"
      have e : hpp xs x = (x, xs) := if_neg fun q => c2 q.2
      exact done_ret z ⟨⟨_, by rw [e]⟩, o, by rw [e]; exact ho, (set_same hq).symm⟩
  · repeat ktd_said "y1"
    have e : hpp xs x = (x, xs) := if_neg fun q => by rw [c] at q; exact absurd q.1 Bool.false_ne_true
    exact done_ret z ⟨⟨_, by rw [e]⟩, o, by rw [e]; exact ho, (set_same hq).symm⟩
/-! text F0 -/
theorem y_cwT1 {M : Model} {A : Around} {E : Value → Shared → Prop} {s : Shared} {env : Env} {pos : Pos} {T : String} {e : Expr} {rest : List Expr} {Q : Value → Shared → Prop}
    (k : wpAny M A (spliced (backTo pos (starEach (e :: rest) env))) (fun vs s₁ => wpAny M A (call (.type T) vs) Q E s₁) E s)
    (he : starEach (e :: rest) env = (false, eval e env) :: starEach rest env := by kernel_rfl) (hplain : (backTo pos (starEach rest env)).any (·.1) = false := by kernel_rfl) :
    wpAny M A (callWith pos (.type T) [] (backTo pos (starEach (e :: rest) env)) []) Q E s := PyProof.Rows.callWith_type1 k he hplain
theorem y_methS {prog : Program} {w : World} {A : Around} {E : Value → Shared → Prop} {s : Shared} {x name : Str} {t : Tok} {id : String} {pl : Sem Bool} {Q : Value × List Value → Shared → Prop} (slot : Slot "str" name id) (hty : typeOf (.builtin id) = pure (.type "method_descriptor")) (k : Q (.builtin id, [.str x t]) s) :
    wpAny (model prog w) A (getMethod (.str x t) name pl) Q E s := by
  have hT : s.TypeIs (.str x t) "str" := rfl
  have hd : ∀ a, Value.str x t = .ref a → ∃ o, s.heap.get? a = some o ∧ o.dict = none := fun a e => by cases e
  with_reducible refine getMethod_builtin (s := s) hT PySem.F.plainAttrs_str slot hty hd ?_
  exact k
/-! text F1 -/
theorem sifmt_c {w mean mg mb} {mode : Int} {t : Tok} {news : List (Addr × Obj)} : C w mean mg mb 775 1 3 [.int mode t] news (fun r news' => (∃ t, r = .int (Builtin.bitAnd mode 61440) t) ∧ news' = news) := by
  refine ctr_by [(Str.ofString "mode", .int mode t)] (by k_is) (by k_is) (fun _ _ => BindsTo.of_eq rfl) (locs rfl) (by kernel_rfl) rfl rfl rfl (by decide) ?_
  intro dp un gd outer A₀ base g L h₁ s tk m hm fx z hd hu
  have n1 := hm _ _ (.head _)
  clear hm
  repeat ktd_said "f1"
  exact done_ret z ⟨⟨_, rfl⟩, rfl⟩
noncomputable def fmTab : List (List (Int × Str)) := [[(40960, Str.ofString "l"), (49152, Str.ofString "s"), (32768, Str.ofString "-"), (24576, Str.ofString "b"), (16384, Str.ofString "d"), (8192, Str.ofString "c"), (4096, Str.ofString "p")],
  [(256, Str.ofString "r")], [(128, Str.ofString "w")], [(2112, Str.ofString "s"), (2048, Str.ofString "S"), (64, Str.ofString "x")],
  [(32, Str.ofString "r")], [(16, Str.ofString "w")], [(1032, Str.ofString "s"), (1024, Str.ofString "S"), (8, Str.ofString "x")],
  [(4, Str.ofString "r")], [(2, Str.ofString "w")], [(513, Str.ofString "t"), (512, Str.ofString "T"), (1, Str.ofString "x")]]
noncomputable def fmHit (mode : Int) (i : Nat) (b : Int) : Bool := if i = 0 then Builtin.bitAnd mode 61440 == b else Builtin.bitAnd mode b == b
noncomputable def fmPick (mode : Int) (i : Nat) : List (Int × Str) → Str
  | [] => if i = 0 then Str.ofString "?" else Str.ofString "-"
  | (b, c) :: r => if fmHit mode i b = true then c else fmPick mode i r
noncomputable def fmAll (mode : Int) : List Str := (List.range 10).map fun i => fmPick mode i (fmTab.getD i [])
/-- the table's pairs, as they stand -/
inductive PairsIn (h₀ : Heap) : List Value → List (Int × Str) → Prop
  | nil : PairsIn h₀ [] []
  | cons {a : Addr} {b : Int} {c : Str} {t u : Tok} {r : List Value} {tb : List (Int × Str)} : h₀.get? a = some { cls := .type "tuple", data := .seq #[.int b t, .str c u] } → PairsIn h₀ r tb → PairsIn h₀ (Value.ref a :: r) ((b, c) :: tb)
inductive TabsIn (h₀ : Heap) : List Value → List (List (Int × Str)) → Prop
  | nil : TabsIn h₀ [] []
  | cons {a : Addr} {vs : List Value} {tb : List (Int × Str)} {r : List Value} {tbs : List (List (Int × Str))} : h₀.get? a = some { cls := .type "tuple", data := .seq (List.toArray vs) } → PairsIn h₀ vs tb → TabsIn h₀ r tbs → TabsIn h₀ (Value.ref a :: r) (tb :: tbs)
theorem PairsIn.get {h₀ : Heap} {vs : List Value} {tb : List (Int × Str)} (x : PairsIn h₀ vs tb) : ∀ {j : Nat} {v : Value}, vs[j]? = some v → ∃ (a : Addr) (b : Int) (c : Str) (t u : Tok), v = .ref a ∧ tb[j]? = some (b, c) ∧ h₀.get? a = some { cls := .type "tuple", data := .seq #[.int b t, .str c u] } := by
  induction x with
  | nil => intro j v h; simp at h
  | cons ha r ih =>
    intro j v h
    cases j with
    | zero => simp at h; subst h; exact ⟨_, _, _, _, _, rfl, rfl, ha⟩
    | succ j => exact ih (by simpa using h)
theorem PairsIn.len {h₀ : Heap} {vs : List Value} {tb : List (Int × Str)} (x : PairsIn h₀ vs tb) : vs.length = tb.length := by
  induction x with
  | nil => rfl
  | cons _ _ ih => simp [ih]
theorem TabsIn.get {h₀ : Heap} {vs : List Value} {tbs : List (List (Int × Str))} (x : TabsIn h₀ vs tbs) : ∀ {j : Nat} {v : Value}, vs[j]? = some v → ∃ (a : Addr) (ws : List Value) (tb : List (Int × Str)), v = .ref a ∧ tbs[j]? = some tb ∧ h₀.get? a = some { cls := .type "tuple", data := .seq (List.toArray ws) } ∧ PairsIn h₀ ws tb := by
  induction x with
  | nil => intro j v h; simp at h
  | cons ha hp r ih =>
    intro j v h
    cases j with
    | zero => simp at h; subst h; exact ⟨_, _, _, rfl, rfl, ha, hp⟩
    | succ j => exact ih (by simpa using h)
theorem tabs_in {w : World} {h₀ : Heap} (X : (Mine.hd.heap_1 w.params).In h₀) : TabsIn h₀ [.ref 783, .ref 785, .ref 787, .ref 791, .ref 793, .ref 795, .ref 799, .ref 801, .ref 803, .ref 807] fmTab := by
  refine .cons (X _ _ (by k_is)) ?_ (.cons (X _ _ (by k_is)) ?_ (.cons (X _ _ (by k_is)) ?_ (.cons (X _ _ (by k_is)) ?_ (.cons (X _ _ (by k_is)) ?_ (.cons (X _ _ (by k_is)) ?_ (.cons (X _ _ (by k_is)) ?_ (.cons (X _ _ (by k_is)) ?_ (.cons (X _ _ (by k_is)) ?_ (.cons (X _ _ (by k_is)) ?_ .nil)))))))))
  all_goals repeat' first | exact .nil | refine .cons (X _ _ (by k_is)) ?_
/-! text F2 -/
theorem strs_snoc {x : Str} {u : Tok} {vs : List Value} {xs : List Str} (hi : StrsAre vs xs) : StrsAre (vs ++ [.str x u]) (xs ++ [x]) := by
  induction hi with
  | nil => exact .cons _ _ .nil
  | cons i t r ih => exact .cons _ _ ih
noncomputable def fmUp (mode : Int) (i : Nat) : List Str := (List.range i).map fun i => fmPick mode i (fmTab.getD i [])
theorem fmUp_succ (mode : Int) (i : Nat) : fmUp mode (i + 1) = fmUp mode i ++ [fmPick mode i (fmTab.getD i [])] := by
  unfold fmUp
  rw [List.range_succ, List.map_append]
  rfl
noncomputable def fmOpts (i : Nat) : List Str := (if i = 0 then Str.ofString "?" else Str.ofString "-") :: (fmTab.getD i []).map (·.2)
theorem fmPick_in (mode : Int) (i : Nat) : ∀ tb : List (Int × Str), fmPick mode i tb ∈ (if i = 0 then Str.ofString "?" else Str.ofString "-") :: tb.map (·.2)
  | [] => .head _
  | (b, c) :: r => by
    unfold fmPick
    by_cases hh : fmHit mode i b = true
    · rw [if_pos hh]
      exact .tail _ (.head _)
    · rw [if_neg hh]
      rcases List.mem_cons.mp (fmPick_in mode i r) with h | h
      · rw [h]; exact .head _
      · exact .tail _ (.tail _ h)
noncomputable def sgOk (x : Str) : Bool := x.cps.size == 1 && x.cps.all fun c => [63, 112, 99, 100, 98, 108, 115, 45, 114, 119, 120, 83, 116, 84].contains c
theorem fmOpts_ok : ∀ i < 10, ∀ x ∈ fmOpts i, sgOk x = true := by decide +kernel
theorem fmAll_ok (mode : Int) : ∀ x ∈ fmAll mode, sgOk x = true := by
  intro x hx
  obtain ⟨i, hi, rfl⟩ := List.mem_map.mp hx
  exact fmOpts_ok i (List.mem_range.mp hi) _ (fmPick_in mode i _)
theorem sum_ones : ∀ l : List Str, (∀ x ∈ l, sgOk x = true) → (l.map (·.length)).sum = l.length
  | [], _ => rfl
  | x :: r, h => by
    have h1 := h x (.head _)
    have h2 : x.length = 1 := by
      unfold sgOk at h1
      rw [Bool.and_eq_true] at h1
      exact beq_iff_eq.mp h1.1
    rw [List.map_cons, List.sum_cons, h2, sum_ones r fun y hy => h y (.tail _ hy), List.length_cons]
    omega
theorem fmAll_len (mode : Int) : ((fmAll mode).map (·.length)).sum = 10 := by
  rw [sum_ones _ (fmAll_ok mode)]
  simp [fmAll]
inductive FmJ (mode : Int) (t : Tok) (pa : Addr) (news : List (Addr × Obj)) (i : Nat) (m₁ : Str → Option Value) (news₁ : List (Addr × Obj)) : Prop
  | mk (vs : List Value) (k : Nat) (q1 : m₁ (Str.ofString "mode") = some (.int mode t)) (q2 : m₁ (Str.ofString "perm") = some (.ref pa)) (q3 : news₁ = (pa, listOf vs.toArray k) :: news) (q4 : StrsAre vs (fmUp mode i)) : FmJ mode t pa news i m₁ news₁
inductive FmK (mode : Int) (t ti : Tok) (pa : Addr) (i : Nat) (vs : List Value) (k : Nat) (news its : List (Addr × Obj)) (tb : List (Int × Str)) (j : Nat) (m₂ : Str → Option Value) (news₂ : List (Addr × Obj)) : Prop
  | mk (q1 : m₂ (Str.ofString "mode") = some (.int mode t)) (q2 : m₂ (Str.ofString "perm") = some (.ref pa)) (q3 : m₂ (Str.ofString "index") = some (.int (i : Int) ti)) (q4 : news₂ = (pa, listOf vs.toArray k) :: (news ++ its)) (q5 : fmPick mode i tb = fmPick mode i (tb.drop j)) : FmK mode t ti pa i vs k news its tb j m₂ news₂
theorem fmode_c {w mean mg mb} {mode : Int} {t : Tok} {news : List (Addr × Obj)} : C w mean mg mb 815 3 9 [.int mode t] news (fun r news' => (∃ t, r = .str (Txt.join (Str.ofString "") (fmAll mode)) t) ∧ news' = news) := by
  refine ctr_by [(Str.ofString "mode", .int mode t)] (by k_is) (by k_is) (fun _ _ => BindsTo.of_eq rfl) (locs rfl) (by kernel_rfl) rfl rfl rfl (by decide) ?_
  intro dp un gd outer A₀ base g L h₁ s tk m hm fx z hd hu
  have n1 := hm _ _ (.head _)
  clear hm
  repeat ktd_said "f1"
  rename_i pa h2 z2 h3 z3
  refine y_forAt z3 ?_
  repeat ktd_said "f1"
  have TI := tabs_in fx.X
  refine it_enumT z3 (fx.X 808 _ (by k_is)) rfl fun it h4 z4 S4 => ?_
  refine ⟨h4, _, _, _, _, _, _, (FmJ mode t pa news), rfl, z4, S4 _ _ _,
    ⟨[], 0, by ktd_said "nm", by ktd_said "nm", rfl, .nil⟩, fun _ _ _ _ p hp => (nomatch hp), ?_, ?_⟩
  · rintro i v m₁ news₁ its h5 tk5 hi ⟨T, ti, xv, rfl, hxv, hT⟩ ⟨vs, k, e1, e2, rfl, hvs⟩ z5
    obtain ⟨ta, ws, tb, rfl, htb, hta, hpi⟩ := TI.get hxv
    have htb' : fmTab.getD i [] = tb := by rw [List.getD_eq_getElem?_getD, htb]; rfl
    have hlen : vs.length ≤ 10 := by
      have := hvs.length
      have h10 : i < 10 := hi
      simp [fmUp] at this
      omega
    refine y_un2 z5 hT rfl fun h6 z6 => ?_
    repeat ktd_said "f1"
    rename_i h7 z7 h8 z8
    refine y_forAt z8 ?_
    repeat ktd_said "f1"
    refine it_tup₀ z8 hta rfl rfl rfl fun it2 h9 z9 S9 => ?_
    refine ⟨h9, _, _, _, _, _, _, (FmK mode t ti pa i vs k news its tb), rfl, z9, S9 _,
      ⟨by ktd_said "nm", by ktd_said "nm", by ktd_said "nm", rfl, rfl⟩, fun _ _ _ _ p hp => (nomatch hp), ?_, ?_⟩
    · rintro j v m₂ news₂ its2 h10 tk10 hj hv ⟨f1, f2, f3, rfl, hpk⟩ z10
      obtain ⟨pa2, b, c, tb1, tc1, rfl, hbc, hpr⟩ := hpi.get hv
      have hdrop : tb.drop j = (b, c) :: tb.drop (j + 1) := by
        obtain ⟨l1, l2⟩ := List.getElem?_eq_some_iff.mp hbc
        rw [List.drop_eq_getElem_cons l1, l2]
      rw [hdrop] at hpk
      replace z10 : Z g L h10 m₂ ((pa, listOf vs.toArray k) :: (news ++ its ++ its2)) := z10
      refine y_un2 z10 ⟨_, z10.F.keep _ _ hpr, rfl, 0, rfl⟩ rfl fun h11 z11 => ?_
      repeat ktd_said "f1"
      have hit : fmHit mode i b = true → ∀ (h' : Heap) (m' : Str → Option Value) (tk' : Nat) (u : Tok), Z g L h' m' ((pa, listOf (vs ++ [Value.str c u]).toArray (k + 1)) :: (news ++ its ++ its2)) → m' (Str.ofString "mode") = some (.int mode t) → m' (Str.ofString "perm") = some (.ref pa) →
          ∃ h'' tk'' m₂ news₂, St s h' tk' = St s h'' tk'' ∧ Z g L h'' m₂ (news₂ ++ its) ∧ FmJ mode t pa news (i + 1) m₂ news₂ := by
        intro hh h' m' tk' u z' a1 a2
        refine ⟨h', tk', m', _, rfl, z'.drop (news := (pa, listOf (vs ++ [Value.str c u]).toArray (k + 1)) :: (news ++ its)), _, _, a1, a2, rfl, ?_⟩
        rw [fmUp_succ, htb', hpk, fmPick, if_pos hh]
        exact strs_snoc hvs
      have miss : fmHit mode i b = false → fmPick mode i tb = fmPick mode i (tb.drop (j + 1)) := by
        intro hh
        rw [hpk, fmPick, if_neg (by rw [hh]; decide)]
      by_cases hi0 : i = 0
      · subst hi0
        refine y_ifHT rfl ?_
        repeat ktd_said "f1"
        refine (sifmt_c).use fx (by assumption) rfl (by omega) (by omega) ?_
        rintro r news' h12 tk12 ⟨⟨t12, rfl⟩, rfl⟩ z12
        repeat ktd_said "f1"
        refine y_splitB (fun c2 => ?_) (fun c2 => ?_)
        · repeat ktd_said "f1"
          exact y_nil (hit (by rw [fmHit, if_pos rfl]; exact c2) _ _ _ _ (by assumption) (by ktd_said "nm") (by ktd_said "nm"))
        · repeat ktd_said "f1"
          exact y_nil (for_next (by assumption) ⟨by ktd_said "nm", by ktd_said "nm", by ktd_said "nm", rfl, miss (by rw [fmHit, if_pos rfl]; exact c2)⟩)
      · refine y_ifHF (by simpa using hi0) ?_
        repeat ktd_said "f1"
        refine y_splitB (fun c2 => ?_) (fun c2 => ?_)
        · repeat ktd_said "f1"
          exact y_nil (hit (by rw [fmHit, if_neg hi0]; exact c2) _ _ _ _ (by assumption) (by ktd_said "nm") (by ktd_said "nm"))
        · repeat ktd_said "f1"
          exact y_nil (for_next (by assumption) ⟨by ktd_said "nm", by ktd_said "nm", by ktd_said "nm", rfl, miss (by rw [fmHit, if_neg hi0]; exact c2)⟩)
    · rintro m₂ news₂ h10 tk10 z10 ⟨f1, f2, f3, rfl, hpk⟩
      have hd : tb.drop ws.length = [] := List.drop_eq_nil_of_le (Nat.le_of_eq hpi.len.symm)
      rw [hd] at hpk
      repeat ktd_said "f1"
      by_cases hi0 : i = 0
      · subst hi0
        refine y_ifHT rfl ?_
        repeat ktd_said "f1"
        refine y_nil (for_next (by assumption) ⟨_, _, by ktd_said "nm", by ktd_said "nm", rfl, ?_⟩)
        rw [fmUp_succ, htb', hpk, fmPick, if_pos rfl]
        exact strs_snoc hvs
      · refine y_ifHF (by simpa using hi0) ?_
        repeat ktd_said "f1"
        refine y_nil (for_next (by assumption) ⟨_, _, by ktd_said "nm", by ktd_said "nm", rfl, ?_⟩)
        rw [fmUp_succ, htb', hpk, fmPick, if_neg hi0]
        exact strs_snoc hvs
  · rintro m₁ news₁ h5 tk5 z5 ⟨vs, k, e1, e2, rfl, hvs⟩
    repeat ktd_said "f1"
    refine v_join z5 (by ktd_said "mem") hvs ?_ fun t' tk' => ?_
    · have h1 := fmAll_len mode
      have h2 : (fmUp mode 10).length = 10 := by simp [fmUp]
      show ((fmUp mode 10).map _).sum + (fmUp mode 10).length * 0 ≤ _
      have h3 : ((fmUp mode 10).map (·.length)).sum = 10 := h1
      omega
    · exact done_ret z5.tail ⟨⟨_, rfl⟩, rfl⟩
/-! text R1 -/
theorem ints_get {vs : List Value} {xs : List Int} (hi : IntsAre vs xs) {i : Nat} (h : i < xs.length) : ∃ t, vs[i]? = some (.int (xs.getD i 0) t) := by
  refine hi.get i (xs.getD i 0) ?_
  rw [List.getD_eq_getElem?_getD]
  simp [h]
noncomputable def rowA (xs : List Int) (g : Nat) : Str := if (xs.getD (3 * g + 2) 0 != 0) = true then Str.ofString "r" else Str.ofString "-"
noncomputable def rowB (xs : List Int) (g : Nat) : Str := if (xs.getD (3 * g + 1) 0 != 0) = true then Str.ofString "w" else Str.ofString "-"
noncomputable def rowE (g : Nat) : Str := if ((g : Int) != 0) = true then Str.ofString "-xSs" else Str.ofString "-xTt"
noncomputable def rowC (xs : List Int) (g : Nat) : Str := ⟨#[(rowE g).cps.getD (xs.getD (3 * g) 0 + 2 * xs.getD (9 + g) 0).toNat 0]⟩
noncomputable def rowUp (kind : Nat) (xs : List Int) : Nat → Str
  | 0 => ⟨#[(Str.ofString "?pc?d?b?-?l?s???").cps.getD kind 0]⟩
  | i + 1 => ((rowUp kind xs i ++ rowA xs (2 - i)) ++ rowB xs (2 - i)) ++ rowC xs (2 - i)
theorem rowE_len (g : Nat) : (rowE g).length = 4 := by unfold rowE; split <;> rfl
theorem rowA_len (xs : List Int) (g : Nat) : (rowA xs g).length = 1 := by unfold rowA; split <;> rfl
theorem rowB_len (xs : List Int) (g : Nat) : (rowB xs g).length = 1 := by unfold rowB; split <;> rfl
theorem len_app (x y : Str) : (x ++ y).length = x.length + y.length := by
  show (x.cps ++ y.cps).size = _
  rw [Array.size_append]
  rfl
theorem rowUp_len (kind : Nat) (xs : List Int) : ∀ i, (rowUp kind xs i).length = 3 * i + 1
  | 0 => rfl
  | i + 1 => by
    unfold rowUp
    rw [len_app, len_app, len_app, rowUp_len kind xs i, rowA_len, rowB_len]
    show _ + 1 = _
    omega
inductive RowJ (q ta : Addr) (kind : Nat) (xs : List Int) (p : Addr × Obj) (news : List (Addr × Obj)) (i : Nat) (m₁ : Str → Option Value) (news₁ : List (Addr × Obj)) : Prop
  | mk (t' : Tok) (q1 : m₁ (Str.ofString "given") = some (.ref q)) (q2 : m₁ (Str.ofString "signs") = some (.str (rowUp kind xs i) t')) (tt : Obj) (q3 : news₁ = (ta, tt) :: news) (q4 : (ta, tt) = p) : RowJ q ta kind xs p news i m₁ news₁
theorem row_c {w mean mg mb} {kind : Nat} {t : Tok} {q : Addr} {vs : List Value} {k : Nat} {xs : List Int} {news : List (Addr × Obj)} (hk : kind < 16) (hq : (q, listOf vs.toArray k) ∈ news) (hi : IntsAre vs xs) (hl : xs.length = 12) (h01 : ∀ x ∈ xs, x = 0 ∨ x = 1) :
    C w mean mg mb 822 3 9 [.int kind t, .ref q] news (fun r news' => (∃ t, r = .str (rowUp kind xs 3) t) ∧ news' = news) := by
  refine ctr_by [(Str.ofString "kind", .int kind t), (Str.ofString "given", .ref q)] (by k_is) (by k_is) (fun _ _ => BindsTo.of_eq rfl) (locs rfl) (by kernel_rfl) rfl rfl rfl (by decide) ?_
  intro dp un gd outer A₀ base g L h₁ s tk m hm fx z hd hu
  have n1 := hm _ _ (.head _)
  have n2 := hm _ _ (.tail _ (.head _))
  clear hm
  have k16 : (Str.ofString "?pc?d?b?-?l?s???").length = 16 := by decide +kernel
  repeat ktd_said "f1"
  refine y_itemS (by omega) (by omega) (by omega) fun t2 tk2 => ?_
  repeat ktd_said "f1"
  rename_i h2 z2
  refine y_forAt z2 ?_
  repeat ktd_said "f1"
  refine y_newTupF z2 (by simp) fun ta h3 z3 => ?_
  refine it_tup z3 (by ktd_said "mem") rfl fun it h4 z4 S4 => ?_
  refine ⟨h4, _, _, _, _, _, _, (RowJ q ta kind xs _ news), rfl, z4, S4 _,
    ⟨_, by ktd_said "nm", by ktd_said "nm", _, rfl, rfl⟩, ?_, ?_, ?_⟩
  · rintro i m₁ news₁ ⟨t', e1, e2, tt, rfl, e3⟩ p hp
    rw [List.mem_singleton.mp hp, ← e3]
    exact .head _
  · rintro i v m₁ news₁ its h5 tk5 hi3 hv ⟨t', e1, e2, tt, rfl, ett⟩ z5
    have hi3' : i < 3 := hi3
    replace z5 : Z g L h5 m₁ ((ta, tt) :: (news ++ its)) := z5
    obtain ⟨tg, rfl⟩ : ∃ tg, v = .int ((2 - i : Nat) : Int) tg := by
      match i, hi3' with
      | 0, _ => simp at hv; exact ⟨_, hv.symm⟩
      | 1, _ => simp at hv; exact ⟨_, hv.symm⟩
      | 2, _ => simp at hv; exact ⟨_, hv.symm⟩
    generalize hg : 2 - i = gg at *
    have hg3 : gg < 3 := by omega
    obtain ⟨t8, g8⟩ := ints_get hi (i := 3 * gg + 2) (by omega)
    obtain ⟨t9, g9⟩ := ints_get hi (i := 3 * gg + 1) (by omega)
    obtain ⟨t10, g10⟩ := ints_get hi (i := 3 * gg) (by omega)
    obtain ⟨t11, g11⟩ := ints_get hi (i := 9 + gg) (by omega)
    have i1 : (3 * (gg : Int) + 2).toNat = 3 * gg + 2 := by omega
    have i2 : (3 * (gg : Int) + 1).toNat = 3 * gg + 1 := by omega
    have i3 : (3 * (gg : Int)).toNat = 3 * gg := by omega
    have i4 : (9 + (gg : Int)).toNat = 9 + gg := by omega
    have hL := rowUp_len kind xs i
    repeat ktd_said "f1"
    refine v_item (by assumption) (by ktd_said "mem") (by omega) (by omega) (by rw [i1]; exact g8) ?_
    repeat ktd_said "f1"
    refine y_iaddS (y := rowA xs gg) (by rw [hL, rowA_len]; omega) fun t12 tk12 => ?_
    have hL2 : (rowUp kind xs i ++ rowA xs gg).length = 3 * i + 2 := by rw [len_app, hL, rowA_len]
    repeat ktd_said "f1"
    refine v_item (by assumption) (by ktd_said "mem") (by omega) (by omega) (by rw [i2]; exact g9) ?_
    repeat ktd_said "f1"
    refine y_iaddS (y := rowB xs gg) (by rw [hL2, rowB_len]; omega) fun t13 tk13 => ?_
    have hL3 : ((rowUp kind xs i ++ rowA xs gg) ++ rowB xs gg).length = 3 * i + 3 := by rw [len_app, hL2, rowB_len]
    repeat ktd_said "f1"
    refine v_item (by assumption) (by ktd_said "mem") (by omega) (by omega) (by rw [i3]; exact g10) ?_
    repeat ktd_said "f1"
    refine v_item (by assumption) (by ktd_said "mem") (by omega) (by omega) (by rw [i4]; exact g11) ?_
    have b10 : xs.getD (3 * gg) 0 = 0 ∨ xs.getD (3 * gg) 0 = 1 := h01 _ (by rw [List.getD_eq_getElem?_getD]; simp [show 3 * gg < xs.length by omega])
    have b11 : xs.getD (9 + gg) 0 = 0 ∨ xs.getD (9 + gg) 0 = 1 := h01 _ (by rw [List.getD_eq_getElem?_getD]; simp [show 9 + gg < xs.length by omega])
    repeat ktd_said "f1"
    have hE := rowE_len gg
    refine y_itemS (x := rowE gg) (by omega) (by rw [hE]; omega) (by omega) fun t14 tk14 => ?_
    refine y_iaddS (y := rowC xs gg) (by rw [hL3]; show _ + 1 < _; omega) fun t15 tk15 => ?_
    repeat ktd_said "f1"
    have hup : rowUp kind xs (i + 1) = ((rowUp kind xs i ++ rowA xs gg) ++ rowB xs gg) ++ rowC xs gg := by rw [rowUp, hg]
    exact y_nil (for_next (by assumption) ⟨t15, by ktd_said "nm", by rw [hup]; exact mset_eq, tt, rfl, ett⟩)
  · rintro m₁ news₁ h5 tk5 z5 ⟨t', e1, e2, tt, rfl, -⟩
    repeat ktd_said "f1"
    exact done_ret z5.tail ⟨⟨_, rfl⟩, rfl⟩
/-! text C1 -/
theorem Z.sublist {h₀ h : Heap} {L : Addr} {m : Str → Option Value} {news news' : List (Addr × Obj)} (z : Z h₀ L h m news) (hs : news'.Sublist news) : Z h₀ L h m news' :=
  ⟨z.F, fun p hp => z.N p (hs.subset hp), z.nd.sublist (hs.map _)⟩
noncomputable def kindOf (n : Int) : Int := (n % 10 ^ 12 / 6 ^ 12 + 4) % 16
noncomputable def waitsOf (n : Int) : List Int := (List.range 12).map fun (b : Nat) => (n % 10 ^ 12 / 6 ^ (b : Nat) - (b : Int)) % 6
noncomputable def levelOf (n l : Int) : Int := 4096 * kindOf n + (((List.range 12).filter fun (b : Nat) => decide ((waitsOf n).getD b 0 < l)).map fun (b : Nat) => (2 : Int) ^ b).sum
theorem p6 : ∀ i < 12, 0 < (6 : Int) ^ i ∧ ((6 : Int) ^ i).natAbs < 1073741824 := by decide
theorem nd3 (L : Nat) : ([L + 1 + 1 + 1, L + 1 + 1, L + 1] : List Nat).Nodup := by
  refine List.nodup_cons.mpr ⟨?_, List.nodup_cons.mpr ⟨?_, List.nodup_cons.mpr ⟨List.not_mem_nil, List.nodup_nil⟩⟩⟩
  · intro h
    simp only [List.mem_cons, List.not_mem_nil, or_false] at h
    omega
  · intro h
    simp only [List.mem_cons, List.not_mem_nil, or_false] at h
    omega
theorem gt3 (L : Nat) : ∀ c ∈ ([L + 1 + 1 + 1, L + 1 + 1, L + 1] : List Nat), L < c := by
  intro c h
  simp only [List.mem_cons, List.not_mem_nil, or_false] at h
  omega
inductive ChainP (n : Int) (news : List (Addr × Obj)) (r : Value) (news' : List (Addr × Obj)) : Prop
  | mk (ta : Addr) (la : Addr) (wa : Addr) (lv : List Value) (k : Nat) (wv : List Value) (tk : Tok) (q1 : r = .ref ta) (q2 : news' = (ta, tupOf [.int (kindOf n) tk, .ref wa, .ref la]) :: (la, listOf lv.toArray k) :: (wa, lstO wv) :: news) (q3 : IntsAre wv (waitsOf n)) (q4 : IntsAre lv ((List.range 6).map fun (l : Nat) => levelOf n (l : Int))) : ChainP n news r news'
inductive ChainJ (n : Int) (la D L : Addr) (ys : List Value) (o5 o4 : Obj) (news : List (Addr × Obj)) (i : Nat) (m₁ : Str → Option Value) (news₁ : List (Addr × Obj)) : Prop
  | mk (lv : List Value) (k : Nat) (o : Obj) (v : Option Value) (tk1 : Tok) (q1 : m₁ (Str.ofString "kind") = some (.int (kindOf n) tk1)) (q2 : m₁ (Str.ofString "levels") = some (.ref la)) (q3 : o.data = .cell v) (q4 : news₁ = (la, listOf lv.toArray k) :: (D, lstO ys) :: (L + 1 + 1 + 1, o) :: (L + 1 + 1, o5) :: (L + 1, o4) :: news) (q5 : IntsAre lv ((List.range i).map fun (l : Nat) => levelOf n (l : Int))) : ChainJ n la D L ys o5 o4 news i m₁ news₁
theorem chain_c {w mean mg mb} {n : Int} {t : Tok} {news : List (Addr × Obj)} : C w mean mg mb 827 3 9 [.int n t] news (ChainP n news) := by
  refine ctrC_by [(Str.ofString "number", .int n t)] (by k_is) (by k_is) (fun _ _ => BindsTo.of_eq rfl) (by kernel_rfl) (by decide) rfl rfl rfl ?_
  intro dp un gd outer A₀ base g L h₁ s tk cells cl hcl fx hcells z0 hd hu
  have hcells0 := hcells
  rw [hcl] at hcells0
  have hcells' : CellsAre _ [(Str.ofString "level", L + 1 + 1 + 1), (Str.ofString "waits", L + 1 + 1), (Str.ofString "chain", L + 1)] cells := hcells0
  clear hcells hcells0
  cases hcells' with
  | cons d1 r1 =>
  cases r1 with
  | cons d2 r2 =>
  cases r2 with
  | cons d3 r3 =>
  cases r3
  rename_i o1 o2 o3
  replace d1 : o1.data = .cell none := d1
  replace d2 : o2.data = .cell none := d2
  replace d3 : o3.data = .cell none := d3
  have z := z0 (nd3 L) (gt3 L)
  clear z0
  generalize hm : bindL _ _ _ = m at z
  have n1 : m (Str.ofString "number") = some (.int n t) := by rw [← hm]; kernel_rfl
  clear hm
  replace z : Z g L h₁ m ((L + 1 + 1 + 1, o1) :: (L + 1 + 1, o2) :: (L + 1, o3) :: news) := z
  have hcl' : cl = [(Str.ofString "level", L + 1 + 1 + 1), (Str.ofString "waits", L + 1 + 1), (Str.ofString "chain", L + 1)] := by rw [hcl]; kernel_rfl
  clear hcl
  subst hcl'
  have l1 : ([(Str.ofString "level", L + 1 + 1 + 1), (Str.ofString "waits", L + 1 + 1), (Str.ofString "chain", L + 1)] : List (Str × Addr)).lookup (Str.ofString "level") = some (L + 1 + 1 + 1) := by kernel_rfl
  have l2 : ([(Str.ofString "level", L + 1 + 1 + 1), (Str.ofString "waits", L + 1 + 1), (Str.ofString "chain", L + 1)] : List (Str × Addr)).lookup (Str.ofString "waits") = some (L + 1 + 1) := by kernel_rfl
  have l3 : ([(Str.ofString "level", L + 1 + 1 + 1), (Str.ofString "waits", L + 1 + 1), (Str.ofString "chain", L + 1)] : List (Str × Addr)).lookup (Str.ofString "chain") = some (L + 1) := by kernel_rfl
  repeat ktd_said "g1"
  rename_i h2 o4 d4 z2 h3 z3
  have l4 : ([(Str.ofString "chain", L + 1)] : List (Str × Addr)).lookup (Str.ofString "chain") = some (L + 1) := by kernel_rfl
  refine y_assign ?_
  refine y_comp (cl := [(Str.ofString "chain", L + 1)]) z3 ?_
  repeat ktd_said "g1"
  refine it_range1 (n := 12) z3 rfl (by decide) rfl fun it h4 tk4 z4 S4 => ?_
  refine ⟨h4, _, _, _, _, _, _, fun i ys => IntsAre ys ((List.range i).map fun (b : Nat) => (n % 10 ^ 12 / 6 ^ (b : Nat) - (b : Int)) % 6), rfl, z4, S4 _, fun p hp => (nomatch hp), by decide, .nil, ?_, ?_⟩
  · rintro i v ys C oC mc its h5 tk5 hi ⟨tv, rfl⟩ hJ hC z5
    replace z5 : Z g L h5 _ ((C, oC) :: (L + 1 + 1 + 1, o1) :: (L + 1 + 1, o2) :: (L + 1, o4) :: (news ++ its)) := z5
    have hi' : i < 12 := hi
    repeat ktd_said "g1"
    refine y_fdiv (by rw [Int.toNat_natCast]; exact (p6 i hi').1) (by rw [Int.toNat_natCast]; exact PyProof.noPylong_small (p6 i hi').2) ?_
    repeat ktd_said "g1"
    refine c_end (by assumption) (by assumption) ?_
    dsimp only
    rw [List.range_succ, List.map_append, Int.toNat_natCast]
    exact ints_snoc hJ
  · intro ys D C oC mc h5 tk5 hJ hC z5
    refine fin_v hC z5 fun h6 z6 => ?_
    replace hJ : IntsAre ys (waitsOf n) := hJ
    repeat ktd_said "g1"
    rename_i h7 o5 d5 z7 la h8 z8 h9 z9
    refine y_forAt z9 ?_
    repeat ktd_said "g1"
    refine it_range1 (n := 6) z9 rfl (by decide) rfl fun it2 h10 tk10 z10 S10 => ?_
    refine ⟨h10, _, _, _, _, _, _, (ChainJ n la D L ys o5 o4 news), rfl, z10, S10 _,
      ⟨[], 0, o1, none, _, by ktd_said "nm", by ktd_said "nm", d1, rfl, .nil⟩, fun _ _ _ _ p hp => (nomatch hp), ?_, ?_⟩
    · rintro i v m₁ news₁ its h11 tk11 hi ⟨tv, rfl⟩ ⟨lv, k, o, v0, tk1, e1, e2, d6, rfl, hlv⟩ z11
      replace z11 : Z g L h11 m₁ ((la, listOf lv.toArray k) :: (D, lstO ys) :: (L + 1 + 1 + 1, o) :: (L + 1 + 1, o5) :: (L + 1, o4) :: (news ++ its)) := z11
      have hi' : i < 6 := hi
      have hlen : lv.length ≤ 6 := by
        have := hlv.length
        simp at this
        omega
      repeat ktd_said "g1"
      rename_i h12 o6 d7 z12
      have l5 : ([(Str.ofString "waits", L + 1 + 1), (Str.ofString "level", L + 1 + 1 + 1)] : List (Str × Addr)).lookup (Str.ofString "level") = some (L + 1 + 1 + 1) := by kernel_rfl
      have l6 : ([(Str.ofString "waits", L + 1 + 1), (Str.ofString "level", L + 1 + 1 + 1)] : List (Str × Addr)).lookup (Str.ofString "waits") = some (L + 1 + 1) := by kernel_rfl
      refine y_comp (cl := [(Str.ofString "waits", L + 1 + 1), (Str.ofString "level", L + 1 + 1 + 1)]) z12 ?_
      repeat ktd_said "g1"
      refine it_range1 (n := 12) z12 rfl (by decide) rfl fun it3 h13 tk13 z13 S13 => ?_
      refine ⟨h13, _, _, _, _, _, _, fun j ys2 => IntsAre ys2 (((List.range j).filter fun (b : Nat) => decide ((waitsOf n).getD b 0 < (i : Int))).map fun (b : Nat) => (2 : Int) ^ b), rfl, z13, S13 _, fun p hp => (nomatch hp), by decide, .nil, ?_, ?_⟩
      · rintro j v ys2 C oC mc its2 h14 tk14 hj ⟨tv2, rfl⟩ hJ2 hC2 z14
        replace z14 : Z g L h14 m₁ ((C, oC) :: (la, listOf lv.toArray k) :: (D, lstO ys) :: (L + 1 + 1 + 1, o6) :: (L + 1 + 1, o5) :: (L + 1, o4) :: (news ++ its ++ its2)) := z14
        have hj' : j < 12 := hj
        obtain ⟨tw, hw⟩ := ints_get hJ (i := j) (by simp [waitsOf]; omega)
        repeat ktd_said "g1"
        refine v_item (by assumption) (by ktd_said "mem") (by omega) (by omega) (by rw [Int.toNat_natCast]; exact hw) ?_
        repeat ktd_said "g1"
        refine y_split (fun c2 => ?_) (fun c2 => ?_)
        · repeat ktd_said "g1"
          refine c_end (by assumption) (by assumption) ?_
          dsimp only
          rw [List.range_succ, List.filter_append, List.map_append, Int.toNat_natCast]
          have e : ([j].filter fun (b : Nat) => decide ((waitsOf n).getD b 0 < (i : Int))) = [j] := List.filter_cons_of_pos (decide_eq_true c2)
          rw [e]
          exact ints_snoc hJ2
        · refine c_end (by assumption) (by assumption) ?_
          dsimp only
          rw [List.range_succ, List.filter_append, List.map_append]
          have e : ([j].filter fun (b : Nat) => decide ((waitsOf n).getD b 0 < (i : Int))) = [] := List.filter_cons_of_neg (by simpa using c2)
          rw [e]
          simpa using hJ2
      · intro ys2 D2 C oC mc h14 tk14 hJ2 hC2 z14
        refine fin_v hC2 z14 fun h15 z15 => ?_
        repeat ktd_said "g1"
        refine v_sum z15 (by ktd_said "mem") hJ2 rfl fun t16 h16 tk16 z16 => ?_
        repeat ktd_said "g1"
        rename_i h17 z17
        refine y_nil (for_next (Z.tail z17) ⟨_, _, _, _, _, by ktd_said "nm", by ktd_said "nm", d7, rfl, ?_⟩)
        rw [show List.range (i + 1) = List.range i ++ [i] from List.range_succ, List.map_append]
        exact ints_snoc hlv
    · rintro m₁ news₁ h11 tk11 z11 ⟨lv, k, o, v0, tk1, e1, e2, d6, rfl, hlv⟩
      repeat ktd_said "g1"
      refine y_newTupF z11 (by simp) fun ta h12 z12 => ?_
      refine done_ret (z12.sublist (news' := (ta, tupOf [.int (kindOf n) tk1, .ref D, .ref la]) :: (la, listOf lv.toArray k) :: (D, lstO ys) :: news) (by ktd_said "sub")) ?_
      exact ⟨ta, la, D, lv, k, ys, tk1, rfl, rfl, hJ, hlv⟩
/-! text G1 -/
theorem sdLoop_len (ni : Int) : ∀ (n : Nat) (xs : List Int) (p : Nat), (sdLoop ni n xs p).1.length = xs.length
  | 0, _, _ => rfl
  | n + 1, xs, p => by
    rw [sdLoop_succ]
    split
    · rfl
    · split
      · rw [sdLoop_len ni n, List.length_set]
      · rfl
theorem siftdown_len (xs : List Int) (p : Nat) : (siftdown xs p).length = xs.length := by
  unfold siftdown
  rw [List.length_set, sdLoop_len]
theorem suLoop_len (n : Nat) : ∀ (k : Nat) (xs : List Int) (p : Nat), (suLoop n k xs p).1.length = xs.length
  | 0, _, _ => rfl
  | k + 1, xs, p => by
    rw [suLoop_succ]
    split
    · rw [suLoop_len n k, List.length_set]
    · rfl
theorem siftup_len (xs : List Int) : (siftup xs).length = xs.length := by
  unfold siftup
  rw [siftdown_len, List.length_set, suLoop_len]
theorem hpop_len (xs : List Int) : (hpop xs).2.length = xs.length - 1 := by
  unfold hpop
  split
  · rw [List.length_dropLast]
  · rw [siftup_len, List.length_set, List.length_dropLast]
noncomputable def popsQ : Nat → List Int → List Int × List Int
  | 0, xs => ([], xs)
  | i + 1, xs => ((popsQ i xs).1 ++ [(hpop (popsQ i xs).2).1], (hpop (popsQ i xs).2).2)
theorem popsQ_len : ∀ (i : Nat) (xs : List Int), (popsQ i xs).2.length = xs.length - i ∧ (popsQ i xs).1.length = i
  | 0, xs => ⟨rfl, rfl⟩
  | i + 1, xs => by
    obtain ⟨a, b⟩ := popsQ_len i xs
    unfold popsQ
    refine ⟨?_, ?_⟩
    · show (hpop _).2.length = _
      rw [hpop_len, a]
      omega
    · simp [b]
noncomputable def ends4 : List Str := [Str.ofString "<>", Str.ofString "><", Str.ofString "<", Str.ofString ""]
noncomputable def goneF (last : Str) (k : Nat) (xs : List Int) (mode : Int) : List Int × List Int :=
  if (last == Str.ofString "<") = true then ((popsQ k xs).1, hpush (popsQ k xs).2 mode)
  else if (last == Str.ofString "<>") = true then ((popsQ k xs).1 ++ [(hpp (popsQ k xs).2 mode).1], (hpp (popsQ k xs).2 mode).2)
  else if (last == Str.ofString "><") = true then ((popsQ k xs).1 ++ [(hrep (popsQ k xs).2 mode).1], (hrep (popsQ k xs).2 mode).2)
  else popsQ k xs
theorem strs_get {vs : List Value} {xs : List Str} (hi : StrsAre vs xs) {x : Str} {r : List Str} (h : xs = x :: r) : ∃ t, vs[0]? = some (.str x t) := by
  subst h
  cases hi with
  | cons i t r => exact ⟨_, rfl⟩
inductive GoneP (q : Addr) (last : Str) (k : Nat) (xs : List Int) (mode : Int) (base : List (Addr × Obj)) (r : Value) (news' : List (Addr × Obj)) : Prop
  | mk (ga : Addr) (gv : List Value) (gk : Nat) (o' : Obj) (q1 : r = .ref ga) (q2 : news' = (ga, listOf gv.toArray gk) :: (q, o') :: base) (q3 : IntsAre gv (goneF last k xs mode).1) (q4 : LI (goneF last k xs mode).2 o') : GoneP q last k xs mode base r news'
inductive GoneJ (q da D ga : Addr) (mode : Int) (t2 tl0 : Tok) (last : Str) (ys : List Value) (od o1 : Obj) (L : Addr) (base : List (Addr × Obj)) (xs : List Int) (i : Nat) (m₁ : Str → Option Value) (news₁ : List (Addr × Obj)) : Prop
  | mk (gv : List Value) (gk : Nat) (o' : Obj) (q1 : m₁ (Str.ofString "queue") = some (.ref q)) (q2 : m₁ (Str.ofString "mode") = some (.int mode t2)) (q3 : m₁ (Str.ofString "gone") = some (.ref ga)) (q4 : m₁ (Str.ofString "last") = some (.str last tl0)) (q5 : news₁ = (ga, listOf gv.toArray gk) :: (D, lstO ys) :: (da, od) :: (L + 1, o1) :: (q, o') :: base) (q6 : IntsAre gv (popsQ i xs).1) (q7 : LI (popsQ i xs).2 o') : GoneJ q da D ga mode t2 tl0 last ys od o1 L base xs i m₁ news₁
theorem gone_c {w mean mg mb} {q : Addr} {o : Obj} {xs : List Int} {run last : Str} {tl : List Str} {k : Nat} {mode : Int} {t1 t2 : Tok} {base : List (Addr × Obj)} (ho : LI xs o) (hrl : run.length < 1000) (hlast : ends4.filter (Txt.endswith run) = last :: tl) (hk : run.length = k + last.length) (hkx : k ≤ xs.length) (hxl : xs.length < 100)
    (hrep : last = Str.ofString "><" → k < xs.length) :
    C w mean mg mb 844 5 15 [.ref q, .str run t1, .int mode t2] ((q, o) :: base) (GoneP q last k xs mode base) := by
  refine ctrC_by [(Str.ofString "queue", .ref q), (Str.ofString "run", .str run t1), (Str.ofString "mode", .int mode t2)] (by k_is) (by k_is) (fun _ _ => BindsTo.of_eq rfl) (by kernel_rfl) (by decide) rfl rfl rfl ?_
  intro dp un gd outer A₀ bas g L h₁ s tk cells cl hcl fx hcells z0 hd hu
  have hcells0 := hcells
  rw [hcl] at hcells0
  have hcells' : CellsAre _ [(Str.ofString "run", L + 1)] cells := hcells0
  clear hcells hcells0
  cases hcells' with
  | cons d1 r1 =>
  cases r1
  rename_i o1
  replace d1 : o1.data = .cell (some (.str run t1)) := d1
  have z := z0 (by simp) (by intro c hc; rw [List.mem_singleton.mp hc]; exact Nat.lt_succ_self _)
  clear z0
  generalize hm : bindL _ _ _ = m at z
  have n1 : m (Str.ofString "queue") = some (.ref q) := by rw [← hm]; kernel_rfl
  have n2 : m (Str.ofString "mode") = some (.int mode t2) := by rw [← hm]; kernel_rfl
  clear hm
  replace z : Z g L h₁ m ((L + 1, o1) :: (q, o) :: base) := z
  have hcl' : cl = [(Str.ofString "run", L + 1)] := by rw [hcl]; kernel_rfl
  clear hcl
  subst hcl'
  have l1 : ([(Str.ofString "run", L + 1)] : List (Str × Addr)).lookup (Str.ofString "run") = some (L + 1) := by kernel_rfl
  repeat ktd_said "g1"
  refine y_comp (cl := [(Str.ofString "run", L + 1)]) z ?_
  repeat ktd_said "g1"
  rename_i da h2 z2
  refine it_list z2 (by ktd_said "mem") rfl fun it h3 z3 S3 => ?_
  refine ⟨h3, _, _, _, _, _, _, fun i ys => StrsAre ys ((ends4.take i).filter (Txt.endswith run)), rfl, z3, S3 _, ?_, by simp, .nil, ?_, ?_⟩
  · intro p hp
    rw [List.mem_singleton.mp hp]
    exact .head _
  · rintro i v ys C oC mc its h4 tk4 hi hv hJ hC z4
    replace z4 : Z g L h4 m ((C, oC) :: (da, _) :: (L + 1, o1) :: (q, o) :: (base ++ its)) := z4
    have hi' : i < 4 := hi
    obtain ⟨e, te, rfl, he⟩ : ∃ e te, v = .str e te ∧ ends4[i]? = some e := by
      match i, hi' with
      | 0, _ => simp at hv; exact ⟨_, _, hv.symm, rfl⟩
      | 1, _ => simp at hv; exact ⟨_, _, hv.symm, rfl⟩
      | 2, _ => simp at hv; exact ⟨_, _, hv.symm, rfl⟩
      | 3, _ => simp at hv; exact ⟨_, _, hv.symm, rfl⟩
    repeat ktd_said "g1"
    refine y_splitB (fun c2 => ?_) (fun c2 => ?_)
    · repeat ktd_said "g1"
      refine c_end (by assumption) (by assumption) ?_
      dsimp only
      rw [List.take_add_one, he, List.filter_append]
      have e2 : (some e).toList.filter (Txt.endswith run) = [e] := List.filter_cons_of_pos c2
      rw [e2]
      exact strs_snoc hJ
    · refine c_end (by assumption) (by assumption) ?_
      dsimp only
      rw [List.take_add_one, he, List.filter_append]
      have e2 : (some e).toList.filter (Txt.endswith run) = [] := List.filter_cons_of_neg (by simpa using c2)
      rw [e2, List.append_nil]
      exact hJ
  · intro ys D C oC mc h4 tk4 hJ hC z4
    refine fin_v hC z4 fun h5 z5 => ?_
    replace hJ : StrsAre ys (ends4.filter (Txt.endswith run)) := hJ
    obtain ⟨tl0, hy0⟩ := strs_get hJ hlast
    repeat ktd_said "g1"
    refine v_item z5 (by ktd_said "mem") (by decide) (by decide) hy0 ?_
    have hll : last.length ≤ run.length := by omega
    repeat ktd_said "g1"
    rename_i h6 z6 ga h7 z7 h8 z8
    refine y_forAt z8 ?_
    repeat ktd_said "g1"
    refine it_range1 (n := k) z8 (by omega) (by omega) rfl fun it2 h9 tk9 z9 S9 => ?_
    refine ⟨h9, _, _, _, _, _, _, (GoneJ q da D ga mode t2 tl0 last ys _ o1 L base xs), rfl, z9, S9 _,
      ⟨[], 0, o, by ktd_said "nm", by ktd_said "nm", by ktd_said "nm", by ktd_said "nm", rfl, .nil, ho⟩, fun _ _ _ _ p hp => (nomatch hp), ?_, ?_⟩
    · rintro i v m₁ news₁ its h10 tk10 hi ⟨tv, rfl⟩ ⟨gv, gk, o', e1, e2, e3, e4, rfl, hgv, ho'⟩ z10
      replace z10 : Z g L h10 m₁ ((ga, listOf gv.toArray gk) :: (D, lstO ys) :: (da, _) :: (L + 1, o1) :: (q, o') :: (base ++ its)) := z10
      have hi' : i < k := hi
      obtain ⟨pl1, pl2⟩ := popsQ_len i xs
      have hgl : gv.length < 100 := by
        have := hgv.length
        omega
      repeat ktd_said "g1"
      rename_i h11 z11
      refine (pop_c (i := 4) (news := (ga, listOf gv.toArray gk) :: (D, lstO ys) :: (da, _) :: (L + 1, o1) :: (q, o') :: (base ++ its)) rfl ho' (by omega) (by omega)).use fx (by assumption) rfl (by omega) (by omega) ?_
      rintro r news' h12 tk12 ⟨⟨tr, rfl⟩, o2, ho2, rfl⟩ z12
      replace z12 : Z g L h12 _ ((ga, listOf gv.toArray gk) :: (D, lstO ys) :: (da, _) :: (L + 1, o1) :: (q, o2) :: (base ++ its)) := z12
      repeat ktd_said "g1"
      exact y_nil (for_next (by assumption) ⟨_, _, o2, by ktd_said "nm", by ktd_said "nm", by ktd_said "nm", by ktd_said "nm", rfl, ints_snoc hgv, ho2⟩)
    · rintro m₁ news₁ h10 tk10 z10 ⟨gv, gk, o', e1, e2, e3, e4, rfl, hgv, ho'⟩
      obtain ⟨pl1, pl2⟩ := popsQ_len k xs
      have hgl : gv.length < 100 := by
        have := hgv.length
        omega
      repeat ktd_said "g1"
      refine y_splitB (fun c1 => ?_) (fun c1 => ?_)
      · have hG : goneF last k xs mode = ((popsQ k xs).1, hpush (popsQ k xs).2 mode) := if_pos c1
        repeat ktd_said "g1"
        refine (push_c (i := 4) (news := (ga, listOf gv.toArray gk) :: (D, lstO ys) :: (da, _) :: (L + 1, o1) :: (q, o') :: base) rfl ho' (by omega)).use fx (by assumption) rfl (by omega) (by omega) ?_
        rintro r news' h12 tk12 ⟨rfl, o2, ho2, rfl⟩ z12
        replace z12 : Z g L h12 _ ((ga, listOf gv.toArray gk) :: (D, lstO ys) :: (da, _) :: (L + 1, o1) :: (q, o2) :: base) := z12
        repeat ktd_said "g1"
        refine done_ret (z12.sublist (news' := (ga, listOf gv.toArray gk) :: (q, o2) :: base) (by ktd_said "sub")) ⟨ga, gv, gk, o2, rfl, rfl, by rw [hG]; exact hgv, by rw [hG]; exact ho2⟩
      · repeat ktd_said "g1"
        refine y_splitB (fun c2 => ?_) (fun c2 => ?_)
        · have hG : goneF last k xs mode = ((popsQ k xs).1 ++ [(hpp (popsQ k xs).2 mode).1], (hpp (popsQ k xs).2 mode).2) := by unfold goneF; rw [if_neg (by rw [c1]; decide), if_pos c2]
          repeat ktd_said "g1"
          refine (pp_c (i := 4) (news := (ga, listOf gv.toArray gk) :: (D, lstO ys) :: (da, _) :: (L + 1, o1) :: (q, o') :: base) rfl ho' (by omega)).use fx (by assumption) rfl (by omega) (by omega) ?_
          rintro r news' h12 tk12 ⟨⟨tr, rfl⟩, o2, ho2, rfl⟩ z12
          replace z12 : Z g L h12 _ ((ga, listOf gv.toArray gk) :: (D, lstO ys) :: (da, _) :: (L + 1, o1) :: (q, o2) :: base) := z12
          repeat ktd_said "g1"
          rename_i h13 z13
          refine done_ret (z13.sublist (news' := (ga, listOf (gv ++ [Value.int (hpp (popsQ k xs).2 mode).1 tr]).toArray (gk + 1)) :: (q, o2) :: base) (by ktd_said "sub")) ⟨ga, _, _, o2, rfl, rfl, by rw [hG]; exact ints_snoc hgv, by rw [hG]; exact ho2⟩
        · repeat ktd_said "g1"
          refine y_splitB (fun c3 => ?_) (fun c3 => ?_)
          · have hG : goneF last k xs mode = ((popsQ k xs).1 ++ [(Mine.hrep (popsQ k xs).2 mode).1], (Mine.hrep (popsQ k xs).2 mode).2) := by unfold goneF; rw [if_neg (by rw [c1]; decide), if_neg (by rw [c2]; decide), if_pos c3]
            have hk' := hrep (eq_of_beq c3)
            repeat ktd_said "g1"
            refine (rep_c (i := 4) (news := (ga, listOf gv.toArray gk) :: (D, lstO ys) :: (da, _) :: (L + 1, o1) :: (q, o') :: base) rfl ho' (by omega) (by omega)).use fx (by assumption) rfl (by omega) (by omega) ?_
            rintro r news' h12 tk12 ⟨⟨tr, rfl⟩, o2, ho2, rfl⟩ z12
            replace z12 : Z g L h12 _ ((ga, listOf gv.toArray gk) :: (D, lstO ys) :: (da, _) :: (L + 1, o1) :: (q, o2) :: base) := z12
            repeat ktd_said "g1"
            rename_i h13 z13
            refine done_ret (z13.sublist (news' := (ga, listOf (gv ++ [Value.int (Mine.hrep (popsQ k xs).2 mode).1 tr]).toArray (gk + 1)) :: (q, o2) :: base) (by ktd_said "sub")) ⟨ga, _, _, o2, rfl, rfl, by rw [hG]; exact ints_snoc hgv, by rw [hG]; exact ho2⟩
          · have hG : goneF last k xs mode = popsQ k xs := by unfold goneF; rw [if_neg (by rw [c1]; decide), if_neg (by rw [c2]; decide), if_neg (by rw [c3]; decide)]
            repeat ktd_said "g1"
            exact done_ret (z10.sublist (news' := (ga, listOf gv.toArray gk) :: (q, o') :: base) (by ktd_said "sub")) ⟨ga, gv, gk, o', rfl, rfl, by rw [hG]; exact hgv, by rw [hG]; exact ho'⟩
/-! text D1 -/
/-- the pieces, as they lie in the ledger -/
inductive PcIn (news : List (Addr × Obj)) : List Value → List (Str × Int) → Prop
  | nil : PcIn news [] []
  | cons {a : Addr} {x : Str} {l : Int} {t u : Tok} {r : List Value} {ps : List (Str × Int)} : (a, tupOf [.str x t, .int l u]) ∈ news → PcIn news r ps → PcIn news (Value.ref a :: r) ((x, l) :: ps)
theorem PcIn.get {news : List (Addr × Obj)} {vs : List Value} {ps : List (Str × Int)} (h : PcIn news vs ps) : ∀ {j : Nat} {v : Value}, vs[j]? = some v → ∃ (a : Addr) (x : Str) (l : Int) (t u : Tok), v = .ref a ∧ ps[j]? = some (x, l) ∧ (a, tupOf [.str x t, .int l u]) ∈ news := by
  induction h with
  | nil => intro j v h; simp at h
  | cons ha r ih =>
    intro j v h
    cases j with
    | zero => simp at h; subst h; exact ⟨_, _, _, _, _, rfl, rfl, ha⟩
    | succ j => exact ih (by simpa using h)
theorem PcIn.len {news : List (Addr × Obj)} {vs : List Value} {ps : List (Str × Int)} (h : PcIn news vs ps) : vs.length = ps.length := by
  induction h with
  | nil => rfl
  | cons _ _ ih => simp [ih]
noncomputable def lackIn (waits : List Int) (level : Int) (lk : List Int) : List Int := List.zipWith (fun few wait => few + (if decide (level ≤ wait) = true then 1 else 0)) lk waits
noncomputable def lackRow (lk : List Int) : List Int := lk.map fun few => if (few != 0) = true then 0 else 1
noncomputable def lackOut (lk : List Int) : List Int := lk.map fun few => if (few != 0) = true then few - 1 else 0
noncomputable def tell1 (kind : Nat) (waits : List Int) (level : Int) (st : List Int × List Str) (c : Nat) : List Int × List Str :=
  if ((⟨#[c]⟩ : Str) == Str.ofString "<") = true then (lackIn waits level st.1, st.2) else (lackOut st.1, st.2 ++ [rowUp kind (lackRow st.1) 3])
noncomputable def tellP (kind : Nat) (waits : List Int) (st : List Int × List Str) (p : Str × Int) : List Int × List Str := p.1.cps.toList.foldl (tell1 kind waits p.2) st
noncomputable def tellAll (kind : Nat) (waits : List Int) (ps : List (Str × Int)) : List Int × List Str := ps.foldl (tellP kind waits) (List.replicate 12 0, [])
theorem tell1_len {kind : Nat} {waits : List Int} {level : Int} {st : List Int × List Str} {c : Nat} (hw : waits.length = 12) (h : st.1.length = 12) : (tell1 kind waits level st c).1.length = 12 ∧ (tell1 kind waits level st c).2.length ≤ st.2.length + 1 := by
  unfold tell1
  split
  · simp [lackIn, h, hw]
  · simp [lackOut, h]
theorem tellL_len {kind : Nat} {waits : List Int} {level : Int} (hw : waits.length = 12) : ∀ (l : List Nat) (st : List Int × List Str), st.1.length = 12 → (l.foldl (tell1 kind waits level) st).1.length = 12 ∧ (l.foldl (tell1 kind waits level) st).2.length ≤ st.2.length + l.length
  | [], _, h => ⟨h, Nat.le_refl _⟩
  | c :: r, st, h => by
    obtain ⟨a, b⟩ := tell1_len (kind := kind) (level := level) (c := c) hw h
    obtain ⟨a2, b2⟩ := tellL_len (kind := kind) (level := level) hw r _ a
    exact ⟨a2, by simp only [List.foldl_cons, List.length_cons]; omega⟩
theorem tellP_len {kind : Nat} {waits : List Int} (hw : waits.length = 12) : ∀ (ps : List (Str × Int)) (st : List Int × List Str), st.1.length = 12 → (∀ p ∈ ps, p.1.length < 50) → (ps.foldl (tellP kind waits) st).1.length = 12 ∧ (ps.foldl (tellP kind waits) st).2.length ≤ st.2.length + 50 * ps.length
  | [], _, h, _ => ⟨h, Nat.le_refl _⟩
  | p :: r, st, h, hp => by
    obtain ⟨a, b⟩ := tellL_len (kind := kind) (level := p.2) hw p.1.cps.toList st h
    obtain ⟨a2, b2⟩ := tellP_len (kind := kind) hw r _ a fun q hq => hp q (.tail _ hq)
    have h50 : p.1.cps.toList.length < 50 := hp p (.head _)
    refine ⟨a2, ?_⟩
    simp only [List.foldl_cons, List.length_cons]
    have b' : (tellP kind waits st p).2.length ≤ st.2.length + p.1.cps.toList.length := b
    have b2' : (r.foldl (tellP kind waits) (tellP kind waits st p)).2.length ≤ (tellP kind waits st p).2.length + 50 * r.length := b2
    omega
theorem foldl_take {α β : Type} (f : β → α → β) (b : β) (l : List α) {i : Nat} {x : α} (h : l[i]? = some x) : (l.take (i + 1)).foldl f b = f ((l.take i).foldl f b) x := by
  rw [List.take_add_one, h, List.foldl_append]
  rfl
theorem ints_at {vs : List Value} {xs : List Int} (hi : IntsAre vs xs) : ∀ {i : Nat} {v : Value}, vs[i]? = some v → ∃ a t, v = .int a t ∧ xs[i]? = some a := by
  induction hi with
  | nil => intro i v h; simp at h
  | cons x t r ih =>
    intro i v h
    cases i with
    | zero => simp at h; subst h; exact ⟨_, _, rfl, rfl⟩
    | succ i => exact ih (by simpa using h)
theorem take_snoc {α : Type} {l : List α} {i : Nat} {x : α} (h : l[i]? = some x) : l.take (i + 1) = l.take i ++ [x] := by
  rw [List.take_add_one, h]
  rfl
inductive ToldP (kind : Nat) (waits : List Int) (ps : List (Str × Int)) (news : List (Addr × Obj)) (r : Value) (news' : List (Addr × Obj)) : Prop
  | mk (ta : Addr) (tv : List Value) (tk : Nat) (q1 : r = .ref ta) (q2 : news' = (ta, listOf tv.toArray tk) :: news) (q3 : StrsAre tv (tellAll kind waits ps).2) : ToldP kind waits ps news r news'
inductive ToldJ (kind : Nat) (t : Tok) (wa ta : Addr) (L : Addr) (waits : List Int) (ps : List (Str × Int)) (news : List (Addr × Obj)) (i : Nat) (m₁ : Str → Option Value) (news₁ : List (Addr × Obj)) : Prop
  | mk (tv : List Value) (tkk : Nat) (la : Addr) (lv : List Value) (lk : Nat) (o : Obj) (v0 : Option Value) (q1 : m₁ (Str.ofString "kind") = some (.int kind t)) (q2 : m₁ (Str.ofString "waits") = some (.ref wa)) (q3 : m₁ (Str.ofString "told") = some (.ref ta)) (q4 : m₁ (Str.ofString "lacking") = some (.ref la)) (q5 : o.data = .cell v0) (q6 : news₁ = (ta, listOf tv.toArray tkk) :: (la, listOf lv.toArray lk) :: (L + 1, o) :: news) (q7 : StrsAre tv ((ps.take i).foldl (tellP kind waits) (List.replicate 12 0, [])).2) (q8 : IntsAre lv ((ps.take i).foldl (tellP kind waits) (List.replicate 12 0, [])).1) : ToldJ kind t wa ta L waits ps news i m₁ news₁
inductive ToldK (kind : Nat) (t : Tok) (wa ta : Addr) (L : Addr) (waits : List Int) (o2 : Obj) (news its : List (Addr × Obj)) (x : Str) (l : Int) (st : List Int × List Str) (j : Nat) (m₂ : Str → Option Value) (news₂ : List (Addr × Obj)) : Prop
  | mk (tv : List Value) (tkk : Nat) (la : Addr) (lv : List Value) (lk : Nat) (q1 : m₂ (Str.ofString "kind") = some (.int kind t)) (q2 : m₂ (Str.ofString "waits") = some (.ref wa)) (q3 : m₂ (Str.ofString "told") = some (.ref ta)) (q4 : m₂ (Str.ofString "lacking") = some (.ref la)) (q5 : news₂ = (ta, listOf tv.toArray tkk) :: (la, listOf lv.toArray lk) :: (L + 1, o2) :: (news ++ its)) (q6 : StrsAre tv ((x.cps.toList.take j).foldl (tell1 kind waits l) st).2) (q7 : IntsAre lv ((x.cps.toList.take j).foldl (tell1 kind waits l) st).1) : ToldK kind t wa ta L waits o2 news its x l st j m₂ news₂
theorem told_c {w mean mg mb} {kind : Nat} {wa pa : Addr} {wv pv : List Value} {wk pk : Nat} {waits : List Int} {ps : List (Str × Int)} {t : Tok} {news : List (Addr × Obj)} (hkd : kind < 16) (hwa : (wa, listOf wv.toArray wk) ∈ news) (hwv : IntsAre wv waits) (hwl : waits.length = 12)
    (hpa : (pa, listOf pv.toArray pk) ∈ news) (hpc : PcIn news pv ps) (hpl : ps.length < 50) (hps : ∀ p ∈ ps, p.1.length < 50 ∧ p.1.cps.all (· < 128) = true) :
    C w mean mg mb 832 6 18 [.int kind t, .ref wa, .ref pa] news (ToldP kind waits ps news) := by
  refine ctrC_by [(Str.ofString "kind", .int kind t), (Str.ofString "waits", .ref wa), (Str.ofString "pieces", .ref pa)] (by k_is) (by k_is) (fun _ _ => BindsTo.of_eq rfl) (by kernel_rfl) (by decide) rfl rfl rfl ?_
  intro dp un gd outer A₀ bas g L h₁ s tk cells cl hcl fx hcells z0 hd hu
  have hcells0 := hcells
  rw [hcl] at hcells0
  have hcells' : CellsAre _ [(Str.ofString "level", L + 1)] cells := hcells0
  clear hcells hcells0
  cases hcells' with
  | cons d1 r1 =>
  cases r1
  rename_i o1
  replace d1 : o1.data = .cell none := d1
  have z := z0 (by simp) (by intro c hc; rw [List.mem_singleton.mp hc]; exact Nat.lt_succ_self _)
  clear z0
  generalize hm : bindL _ _ _ = m at z
  have n1 : m (Str.ofString "kind") = some (.int kind t) := by rw [← hm]; kernel_rfl
  have n2 : m (Str.ofString "waits") = some (.ref wa) := by rw [← hm]; kernel_rfl
  have n3 : m (Str.ofString "pieces") = some (.ref pa) := by rw [← hm]; kernel_rfl
  clear hm
  replace z : Z g L h₁ m ((L + 1, o1) :: news) := z
  have hcl' : cl = [(Str.ofString "level", L + 1)] := by rw [hcl]; kernel_rfl
  clear hcl
  subst hcl'
  have l1 : ([(Str.ofString "level", L + 1)] : List (Str × Addr)).lookup (Str.ofString "level") = some (L + 1) := by kernel_rfl
  repeat ktd_said "g1"
  refine v_mul12 (by assumption) (by ktd_said "mem") fun la h2 z2 => ?_
  repeat ktd_said "g1"
  rename_i l0 h3 z3 ta h4 z4 h5 z5 h6 z6 h7 z7
  have z8 := z7.sublist (news' := (ta, listOf #[] 0) :: (la, listOf (List.replicate 12 (Value.int 0 tk)).toArray 0) :: (L + 1, o1) :: news) (by ktd_said "sub")
  refine y_forAt z8 ?_
  repeat ktd_said "g1"
  refine it_list z8 (by ktd_said "mem") rfl fun it h9 z9 S9 => ?_
  refine ⟨h9, _, _, _, _, _, _, (ToldJ kind t wa ta L waits ps news), rfl, z9, S9 _,
    ⟨[], 0, la, _, 0, o1, none, by ktd_said "nm", by ktd_said "nm", by ktd_said "nm", by ktd_said "nm", d1, rfl, .nil, ?_⟩, ?_, ?_, ?_⟩
  · simp only [List.replicate]
    repeat first | exact .nil | refine .cons _ _ ?_
  · rintro i m₁ news₁ ⟨tv, tkk, la, lv, lk, o, v0, e1, e2, e3, e4, d2, rfl, htv, hlv⟩ p hp
    rw [List.mem_singleton.mp hp]
    exact .tail _ (.tail _ (.tail _ hpa))
  · rintro i v m₁ news₁ its h10 tk10 hi hv ⟨tv, tkk, la, lv, lk, o, v0, e1, e2, e3, e4, d2, rfl, htv, hlv⟩ z10
    replace z10 : Z g L h10 m₁ ((ta, listOf tv.toArray tkk) :: (la, listOf lv.toArray lk) :: (L + 1, o) :: (news ++ its)) := z10
    obtain ⟨pt, x, l, tx, tl, rfl, hpi, hpt⟩ := hpc.get hv
    generalize hst : (ps.take i).foldl (tellP kind waits) (List.replicate 12 0, []) = st at *
    have hstl := tellP_len (kind := kind) hwl (ps.take i) (List.replicate 12 0, []) (by simp) (fun p hp => (hps p (List.mem_of_mem_take hp)).1)
    rw [hst] at hstl
    obtain ⟨hx50, hx128⟩ := hps _ (List.mem_of_getElem? hpi)
    replace hx50 : x.length < 50 := hx50
    have hil : (ps.take i).length ≤ 50 := by rw [List.length_take]; omega
    refine y_un2 z10 ⟨_, (z10.N _ (.tail _ (.tail _ (.tail _ (List.mem_append_left _ hpt))))).1, rfl, 0, rfl⟩ rfl fun h11 z11 => ?_
    repeat ktd_said "g1"
    rename_i h12 z12 h13 o2 d3 z13
    refine y_forAt z13 ?_
    repeat ktd_said "g1"
    refine it_str z13 hx128 rfl fun it2 h14 z14 S14 => ?_
    refine ⟨h14, _, _, _, _, _, _, (ToldK kind t wa ta L waits o2 news its x l st), rfl, z14, S14 _,
      ⟨tv, tkk, la, lv, lk, by ktd_said "nm", by ktd_said "nm", by ktd_said "nm", by ktd_said "nm", rfl, htv, hlv⟩, fun _ _ _ _ p hp => (nomatch hp), ?_, ?_⟩
    · rintro j v m₂ news₂ its2 h15 tk15 hj ⟨c, u, hc, rfl⟩ ⟨tv, tkk, la, lv, lk, f1, f2, f3, f4, rfl, htv2, hlv2⟩ z15
      replace z15 : Z g L h15 m₂ ((ta, listOf tv.toArray tkk) :: (la, listOf lv.toArray lk) :: (L + 1, o2) :: (news ++ its ++ its2)) := z15
      have hc' : x.cps.toList[j]? = some c := by simpa using hc
      have hft := foldl_take (tell1 kind waits l) st x.cps.toList hc'
      generalize hst2 : (x.cps.toList.take j).foldl (tell1 kind waits l) st = st2 at *
      have hst2l := tellL_len (kind := kind) (level := l) hwl (x.cps.toList.take j) st hstl.1
      rw [hst2] at hst2l
      have hj50 : (x.cps.toList.take j).length ≤ 50 := by
        have : x.cps.toList.length = x.length := by simp; rfl
        rw [List.length_take]; omega
      have hlvl := hlv2.length
      have hwvl := hwv.length
      have htvl := htv2.length
      have htv2l : tv.length < 100000 := by
        have := hstl.2
        have := hst2l.2
        simp only [List.length_nil] at *
        omega
      repeat ktd_said "g1"
      refine y_splitB (fun c2 => ?_) (fun c2 => ?_)
      · have hT : tell1 kind waits l st2 c = (lackIn waits l st2.1, st2.2) := if_pos c2
        rw [hT] at hft
        repeat ktd_said "g1"
        rename_i h16 z16
        refine y_assignComp (cl := [(Str.ofString "level", L + 1)]) z16 ?_
        repeat ktd_said "g1"
        refine it_zip z16 (by ktd_said "mem") (by ktd_said "mem") rfl fun it3 h17 z17 S17 => ?_
        refine ⟨h17, _, _, _, _, _, _, fun i ys => IntsAre ys ((lackIn waits l st2.1).take i), rfl, z17, S17 _ _ _, ?_, by omega, .nil, ?_, ?_⟩
        · intro p hp
          rcases List.mem_cons.mp hp with rfl | hp
          · exact .tail _ (.head _)
          · rw [List.mem_singleton.mp hp]
            ktd_said "mem"
        · rintro i' v ys C oC mc its3 h18 tk18 hi' ⟨T, xv, yv, rfl, hxv, hyv, hT18⟩ hJ hC z18
          replace z18 : Z g L h18 _ ((C, oC) :: (ta, listOf tv.toArray tkk) :: (la, listOf lv.toArray lk) :: (L + 1, o2) :: (news ++ its ++ its2 ++ its3)) := z18
          obtain ⟨fa, fta, rfl, hfa⟩ := ints_at hlv2 hxv
          obtain ⟨wb, wtb, rfl, hwb⟩ := ints_at hwv hyv
          refine y_un2 z18 hT18 rfl fun h19 z19 => ?_
          repeat ktd_said "g1"
          refine c_end (by assumption) (by assumption) ?_
          dsimp only
          rw [take_snoc (x := fa + (if decide (l ≤ wb) = true then 1 else 0)) (by rw [lackIn, List.getElem?_zipWith, hfa, hwb])]
          exact ints_snoc hJ
        · intro ys D C oC mc h18 tk18 hJ hC z18
          refine fin_a hC z18 fun h19 z19 => ?_
          rw [List.take_of_length_le (by simp [lackIn]; omega)] at hJ
          have z20 := (z19.perm (List.Perm.swap _ _ _)).sublist (news' := (ta, listOf tv.toArray tkk) :: (D, lstO ys) :: (L + 1, o2) :: (news ++ its ++ its2)) (by ktd_said "sub")
          repeat ktd_said "g1"
          refine y_nil (for_next z20 ⟨tv, tkk, D, ys, ys.length, by ktd_said "nm", by ktd_said "nm", by ktd_said "nm", by ktd_said "nm", rfl, ?_, ?_⟩)
          · rw [hft]; exact htv2
          · rw [hft]; exact hJ
      · have hT : tell1 kind waits l st2 c = (lackOut st2.1, st2.2 ++ [rowUp kind (lackRow st2.1) 3]) := if_neg (by rw [c2]; decide)
        rw [hT] at hft
        repeat ktd_said "g1"
        rename_i h16 z16
        refine y_comp (cl := []) z16 ?_
        repeat ktd_said "g1"
        refine it_list z16 (by ktd_said "mem") rfl fun it3 h17 z17 S17 => ?_
        refine ⟨h17, _, _, _, _, _, _, fun i ys => IntsAre ys ((lackRow st2.1).take i), rfl, z17, S17 _, ?_, by omega, .nil, ?_, ?_⟩
        · intro p hp
          rw [List.mem_singleton.mp hp]
          ktd_said "mem"
        · rintro i' v ys C oC mc its3 h18 tk18 hi' hv18 hJ hC z18
          replace z18 : Z g L h18 _ ((C, oC) :: (ta, listOf tv.toArray tkk) :: (la, listOf lv.toArray lk) :: (L + 1, o2) :: (news ++ its ++ its2 ++ its3)) := z18
          obtain ⟨fa, fta, rfl, hfa⟩ := ints_at hlv2 hv18
          repeat ktd_said "g1"
          refine c_end (by assumption) (by assumption) ?_
          dsimp only
          rw [take_snoc (x := if (fa != 0) = true then 0 else 1) (by rw [lackRow, List.getElem?_map, hfa]; rfl)]
          exact ints_snoc hJ
        · intro ys D C oC mc h18 tk18 hJ hC z18
          refine fin_v hC z18 fun h19 z19 => ?_
          rw [List.take_of_length_le (by simp [lackRow]; omega)] at hJ
          repeat ktd_said "g1"
          refine (row_c hkd (List.mem_cons_self ..) hJ (by simp [lackRow]; omega) ?_).use fx z19 rfl (by omega) (by omega) ?_
          · intro x hx
            obtain ⟨y, _, rfl⟩ := List.mem_map.mp hx
            by_cases q : (y != 0) = true
            · rw [if_pos q]; exact .inl rfl
            · rw [if_neg q]; exact .inr rfl
          rintro r news' h20 tk20 ⟨⟨tr, rfl⟩, rfl⟩ z20
          repeat ktd_said "g1"
          rename_i h21 z21
          have z22 := z21.tail
          refine y_assignComp (cl := []) z22 ?_
          repeat ktd_said "g1"
          refine it_list z22 (by ktd_said "mem") rfl fun it4 h23 z23 S23 => ?_
          refine ⟨h23, _, _, _, _, _, _, fun i ys => IntsAre ys ((lackOut st2.1).take i), rfl, z23, S23 _, ?_, by omega, .nil, ?_, ?_⟩
          · intro p hp
            rw [List.mem_singleton.mp hp]
            ktd_said "mem"
          · rintro i' v ys C oC mc its3 h18 tk18 hi' hv18 hJ hC z18
            replace z18 : Z g L h18 _ ((C, oC) :: (ta, listOf (tv ++ [Value.str (rowUp kind (lackRow st2.1) 3) tr]).toArray (tkk + 1)) :: (la, listOf lv.toArray lk) :: (L + 1, o2) :: (news ++ its ++ its2 ++ its3)) := z18
            obtain ⟨fa, fta, rfl, hfa⟩ := ints_at hlv2 hv18
            repeat ktd_said "g1"
            refine y_splitB (fun c3 => ?_) (fun c3 => ?_)
            · repeat ktd_said "g1"
              refine c_end (by assumption) (by assumption) ?_
              dsimp only
              rw [take_snoc (x := fa - 1) (by rw [lackOut, List.getElem?_map, hfa]; show some (if (fa != 0) = true then fa - 1 else 0) = _; rw [if_pos c3])]
              exact ints_snoc hJ
            · repeat ktd_said "g1"
              refine c_end (by assumption) (by assumption) ?_
              dsimp only
              rw [take_snoc (x := 0) (by rw [lackOut, List.getElem?_map, hfa]; show some (if (fa != 0) = true then fa - 1 else 0) = _; rw [if_neg (by rw [c3]; decide)])]
              exact ints_snoc hJ
          · intro ys D C oC mc h18 tk18 hJ hC z18
            refine fin_a hC z18 fun h19 z19 => ?_
            rw [List.take_of_length_le (by simp [lackOut]; omega)] at hJ
            have z24 := (z19.perm (List.Perm.swap _ _ _)).sublist (news' := (ta, listOf (tv ++ [Value.str (rowUp kind (lackRow st2.1) 3) tr]).toArray (tkk + 1)) :: (D, lstO ys) :: (L + 1, o2) :: (news ++ its ++ its2)) (by ktd_said "sub")
            repeat ktd_said "g1"
            refine y_nil (for_next z24 ⟨_, _, D, ys, ys.length, by ktd_said "nm", by ktd_said "nm", by ktd_said "nm", by ktd_said "nm", rfl, ?_, ?_⟩)
            · rw [hft]; exact strs_snoc htv2
            · rw [hft]; exact hJ
    · rintro m₂ news₂ h15 tk15 z15 ⟨tv, tkk, la, lv, lk, f1, f2, f3, f4, rfl, htv2, hlv2⟩
      rw [List.take_of_length_le (by simp)] at htv2 hlv2
      have hft := foldl_take (tellP kind waits) (List.replicate 12 0, []) ps hpi
      rw [hst] at hft
      repeat ktd_said "g1"
      refine y_nil (for_next z15 ⟨tv, tkk, la, lv, lk, o2, _, f1, f2, f3, f4, d3, rfl, ?_, ?_⟩)
      · rw [hft]; exact htv2
      · rw [hft]; exact hlv2
  · rintro m₁ news₁ h10 tk10 z10 ⟨tv, tkk, la, lv, lk, o, v0, e1, e2, e3, e4, d2, rfl, htv, hlv⟩
    rw [List.take_of_length_le (Nat.le_of_eq hpc.len.symm)] at htv
    repeat ktd_said "g1"
    exact done_ret (z10.sublist (news' := (ta, listOf tv.toArray tkk) :: news) (by ktd_said "sub")) ⟨ta, tv, tkk, rfl, rfl, htv⟩
/-! text I1 -/
theorem y_cwT {M : Model} {A : Around} {E : Value → Shared → Prop} {s : Shared} {env : Env} {pos : Pos} {T : String} {e : Expr} {rest : List Expr} {Q : Value → Shared → Prop}
    (k : wpAny M A (spliced (backTo pos (starEach (e :: rest) env))) (fun vs s₁ => wpAny M A (call (.type T) vs) Q E s₁) E s)
    (he : starEach (e :: rest) env = (false, eval e env) :: starEach rest env := by kernel_rfl) (hplain : (backTo pos (starEach rest env)).any (·.1) = false := by kernel_rfl) :
    wpAny M A (callWith pos (.type T) [] (backTo pos (starEach (e :: rest) env)) []) Q E s := PyProof.Rows.callWith_type1 k he hplain
theorem y_typeI {prog : Program} {w : World} {A : Around} {E : Value → Shared → Prop} {s : Shared} {n : Int} {t : Tok} {Q : Value → Shared → Prop} (k : Q (.type "int") s) : wpAny (model prog w) A (call (.type "type") [.int n t]) Q E s := call_type_of (Tx := "int") rfl (by decide +kernel) k
theorem y_intI {prog : Program} {w : World} {A : Around} {E : Value → Shared → Prop} {s : Shared} {n : Int} {t : Tok} {Q : Value → Shared → Prop} (k : Q (.int n t) s) : wpAny (model prog w) A (call (.type "int") [.int n t]) Q E s := call_int_int k
theorem y_neg {prog : Program} {w : World} {A : Around} {E : Value → Shared → Prop} {s : Shared} {h : Heap} {tk : Nat} {a : Int} {t : Tok} {Q : Value → Shared → Prop} (k : Q (.int (-a) tk) (St s h (tk + 1))) : wpAny (model prog w) A (unaryOp .USub (.int a t)) Q E (St s h tk) := P.neg_int (s := St s h tk) k
theorem index_k {w mean mg mb} {what : Str} {t t2 : Tok} {news : List (Addr × Obj)} : C w mean mg mb 95 1 3 [.int 1 t, .str what t2] news (fun r news' => (∃ t', r = .int 1 t') ∧ news' = news) := by
  refine ctr_by [(Str.ofString "n", .int 1 t), (Str.ofString "what", .str what t2)] (by k_is) (by k_is) (fun _ _ => BindsTo.of_eq rfl) (locs rfl) (by kernel_rfl) rfl rfl rfl (by decide) ?_
  intro dp un gd outer A₀ base g L h₁ s tk m hm fx z hdp hu
  have n1 := hm _ _ (.head _)
  clear hm
  repeat ktd_said "i1"
  refine y_neg ?_
  repeat ktd_said "i1"
  exact done_ret (by assumption) ⟨⟨_, rfl⟩, rfl⟩
/-! text S1 -/

theorem check_c {w mean mg mb} {x dx : Addr} {news : List (Addr × Obj)} {i j N : Nat} {am : Str → Option Value} {od : Obj} {tape : Str} {t0 : Tok} (hx : news[i]? = some (x, instObj 629 dx)) (hdx : news[j]? = some (dx, od)) (hd : DI N am od) (hb : am (Str.ofString "_StringIO__buf") = some (.str tape t0)) :
    C w mean mg mb 413 1 3 [.ref x] news (fun r news' => r = .none ∧ news' = news) := by
  refine ctr_by [(Str.ofString "self", .ref x)] (by k_is) (by k_is) (fun _ _ => BindsTo.of_eq rfl) (locs rfl) (by kernel_rfl) rfl rfl rfl (by decide) ?_
  intro dp un gd outer A₀ base g L h₁ s tk m hm fx z hdp hu
  have n1 := hm _ _ (.head _)
  clear hm
  repeat ktd_said "y1"
  exact y_nil (done_next z ⟨rfl, rfl⟩)
theorem read_c {w mean mg mb} {x dx : Addr} {news : List (Addr × Obj)} {i j N : Nat} {am : Str → Option Value} {od : Obj} {tape : Str} {p : Nat} {t0 t1 t2 : Tok} (hij : i ≠ j) (hx : news[i]? = some (x, instObj 629 dx)) (hdx : news[j]? = some (dx, od)) (hd : DI N am od) (hN : N ≤ 100)
    (hb : am (Str.ofString "_StringIO__buf") = some (.str tape t0)) (hp : am (Str.ofString "_StringIO__pos") = some (.int p t1)) (hc : am (Str.ofString "_StringIO__check") = none) (hl : tape.length < 1000) (hpl : p ≤ tape.length) :
    C w mean mg mb 575 2 6 [.ref x, .int 1 t2] news (fun r news' => if p < tape.length then (∃ t, r = .str ⟨#[tape.cps.getD p 0]⟩ t) ∧ ∃ od' t', DI N (mset am (Str.ofString "_StringIO__pos") (.int ((p + 1 : Nat) : Int) t')) od' ∧ news' = news.set j (dx, od') else (∃ t, r = .str (Str.ofString "") t) ∧ news' = news) := by
  refine ctr_by [(Str.ofString "self", .ref x), (Str.ofString "size", .int 1 t2)] (by k_is) (by k_is) (fun _ X => binds_K X rfl (by k_is) rfl rfl rfl) (locs rfl) (by kernel_rfl) rfl rfl rfl (by decide) ?_
  intro dp un gd outer A₀ base g L h₁ s tk m hm fx z hdp hu
  have n1 := hm _ _ (.head _)
  have n2 := hm _ _ (.tail _ (.head _))
  clear hm
  repeat ktd_said "y1"
  refine (index_k).use fx z rfl (by omega) (by omega) ?_
  rintro r news' h2 tk2 ⟨⟨t3, rfl⟩, rfl⟩ z2
  repeat ktd_said "y1"
  rename_i h3 z3
  refine (check_c hx hdx hd hb).use fx z3 rfl (by omega) (by omega) ?_
  rintro r news' h4 tk4 ⟨rfl, rfl⟩ z4
  repeat ktd_said "y1"
  refine y_split (fun c => ?_) (fun c => ?_)
  · repeat ktd_said "y1"
    exact done_ret (by assumption) (by rw [if_neg (by omega)]; exact ⟨⟨_, rfl⟩, rfl⟩)
  · have hlt : p < tape.length := by omega
    repeat ktd_said "y1"
    refine y_split (fun c2 => ?_) (fun c2 => ?_)
    · repeat ktd_said "y1"
      rename_i h5 od5 hd5 z5
      have hx5 := set_off (q := dx) (o' := od5) (i := j) (Ne.symm hij) hx
      have hdx5 := set_at (o' := od5) hdx
      have e : (p : Int) + 1 = ((p + 1 : Nat) : Int) := by omega
      rw [e] at hd5
      repeat ktd_said "y1"
      rename_i h6 t6 tk6 z6
      rw [slice_one hlt]
      exact done_ret z6 (by rw [if_pos hlt]; exact ⟨⟨_, rfl⟩, od5, _, hd5, rfl⟩)
    · repeat ktd_said "y1"
      rename_i h5 od5 hd5 z5
      have hx5 := set_off (q := dx) (o' := od5) (i := j) (Ne.symm hij) hx
      have hdx5 := set_at (o' := od5) hdx
      have e : (tape.length : Int) = ((p + 1 : Nat) : Int) := by omega
      rw [e] at hd5
      repeat ktd_said "y1"
      rename_i h6 t6 tk6 z6
      have e2 : (tape.length : Int) = (p : Int) + 1 := by omega
      rw [e2, slice_one hlt]
      exact done_ret z6 (by rw [if_pos hlt]; exact ⟨⟨_, rfl⟩, od5, _, hd5, rfl⟩)
/-! text L0 -/
structure LIx where
  b : Nat
  x : Addr
  dx : Addr
  sx : Addr
  sdx : Addr
  d0 : Addr
  d1 : Addr
  qp : Addr
@[reducible] noncomputable def LA (am0 : Str → Option Value) (sv tv : Value) : Str → Option Value := mset (mset am0 (Str.ofString "state") sv) (Str.ofString "token") tv
@[reducible] noncomputable def SA (sam0 : Str → Option Value) (p : Nat) (t : Tok) : Str → Option Value := mset sam0 (Str.ofString "_StringIO__pos") (.int p t)
theorem LA_token (am0 : Str → Option Value) (sv tv tv' : Value) : mset (LA am0 sv tv) (Str.ofString "token") tv' = LA am0 sv tv' := by
  funext y
  simp only [LA, mset]
  split <;> rfl
theorem LA_state (am0 : Str → Option Value) (sv sv' tv : Value) : mset (LA am0 sv tv) (Str.ofString "state") sv' = LA am0 sv' tv := by
  funext y
  simp only [LA, mset]
  by_cases h1 : y = Str.ofString "state"
  · subst h1
    rw [if_pos rfl, if_neg (by decide), if_pos rfl]
  · rw [if_neg h1, if_neg h1, if_neg h1]
theorem SA_pos (sam0 : Str → Option Value) (p p' : Nat) (t t' : Tok) : mset (SA sam0 p t) (Str.ofString "_StringIO__pos") (.int p' t') = SA sam0 p' t' := by
  funext y
  simp only [SA, mset]
  split <;> rfl
structure Lex (I : LIx) (news0 news : List (Addr × Obj)) (am0 sam0 : Str → Option Value) (sv tv : Value) (p : Nat) (vs : List Value) : Prop where
  f1 : news[(I.b + 0)]? = some (I.x, instObj 764 I.dx)
  f2 : ∃ od, news[(I.b + 1)]? = some (I.dx, od) ∧ DI 40 (LA am0 sv tv) od
  f3 : news[(I.b + 2)]? = some (I.sx, instObj 629 I.sdx)
  f4 : ∃ od t, news[(I.b + 3)]? = some (I.sdx, od) ∧ DI 40 (SA sam0 p t) od
  f5 : news[(I.b + 4)]? = some (I.d0, dqOf 0 [])
  f6 : news[(I.b + 5)]? = some (I.d1, dqOf 0 [])
  f7 : ∃ n, news[(I.b + 6)]? = some (I.qp, dqOf n vs)
  rest : ∀ k, k ≠ (I.b + 1) → k ≠ (I.b + 3) → k ≠ (I.b + 6) → news[k]? = news0[k]?
  len : news.length = news0.length
noncomputable def WC : Str := Str.ofString "abcdfeghijklmnopqrstuvwxyzABCDEFGHIJKLMNOPQRSTUVWXYZ0123456789_~-./*?="
structure AmOk (I : LIx) (am0 : Str → Option Value) : Prop where
  instream : am0 (Str.ofString "instream") = some (.ref I.sx)
  posix : am0 (Str.ofString "posix") = some (.bool false)
  eof : ∃ t, am0 (Str.ofString "eof") = some (.str (Str.ofString "") t)
  commenters : ∃ t, am0 (Str.ofString "commenters") = some (.str (Str.ofString "#") t)
  wordchars : ∃ t, am0 (Str.ofString "wordchars") = some (.str WC t)
  whitespace : ∃ t, am0 (Str.ofString "whitespace") = some (.str (Str.ofString " \t\r\n") t)
  wsplit : am0 (Str.ofString "whitespace_split") = some (.bool false)
  quotes : ∃ t, am0 (Str.ofString "quotes") = some (.str (Str.ofString "'\"") t)
  escape : ∃ t, am0 (Str.ofString "escape") = some (.str (Str.ofString "\\") t)
  pushback : am0 (Str.ofString "pushback") = some (.ref I.d0)
  debug : ∃ t, am0 (Str.ofString "debug") = some (.int 0 t)
  filestack : am0 (Str.ofString "filestack") = some (.ref I.d1)
  source : am0 (Str.ofString "source") = some .none
  pchars : ∃ t, am0 (Str.ofString "_punctuation_chars") = some (.str (Str.ofString "<>") t)
  pbc : am0 (Str.ofString "_pushback_chars") = some (.ref I.qp)
  nrt : am0 (Str.ofString "read_token") = none
  ngt : am0 (Str.ofString "get_token") = none
structure SamOk (sam0 : Str → Option Value) (tape : Str) : Prop where
  buf : ∃ t, sam0 (Str.ofString "_StringIO__buf") = some (.str tape t)
  nchk : sam0 (Str.ofString "_StringIO__check") = none
  nread : sam0 (Str.ofString "read") = none
  len : tape.length < 1000
section
variable {w : World} {A₀ : Around} {E : Value → Shared → Prop} {s : Shared} {h₀ base : Heap} {outer : List Env} {L a : Addr} {mg mb : Str → Option Value} {mean : ExcName → Option Value} {A : Around} {I : LIx} {news0 : List (Addr × Obj)} {am0 sam0 : Str → Option Value} {tape : Str} {m : Str → Option Value} {news : List (Addr × Obj)} {sv tv v : Value} {p : Nat} {vs : List Value} {name : Str} {h : Heap} {tk : Nat}
theorem lx_attr {expr : Bool} {attr : Option Value} {Q : Value → Shared → Prop} (fx : Fix (Mine.hd.heap_1 w.params) Mine.vw LO mean mg mb A₀ base outer h₀) (z : Z h₀ L h m news) (lx : Lex I news0 news am0 sam0 sv tv p vs)
    (hg : plainGet (Mine.hd.heap_1 w.params) 764 name = true) (hh : hasDictIn (Mine.hd.heap_1 w.params) 764 = true) (ha : findIn (Mine.hd.heap_1 w.params) (.ref 764) name = some attr) (hn : noGet (Mine.hd.heap_1 w.params) attr = true)
    (hv : LA am0 sv tv name = some v) (hhd : handedIn v = true) (k : Q v (St s h (tk + 1))) : wpAny (model PR w) A (getAttr (.ref I.x) name expr) Q E (St s h tk) := by
  obtain ⟨od, h2, hd⟩ := lx.f2
  exact y_attr fx z lx.f1 h2 hd hg hh ha hn hv hhd k
theorem Lex.set2 {od : Obj} {sv' tv' : Value} (lx : Lex I news0 news am0 sam0 sv tv p vs) (hd : DI 40 (LA am0 sv' tv') od) : Lex I news0 (news.set (I.b + 1) (I.dx, od)) am0 sam0 sv' tv' p vs := by
  obtain ⟨od0, h2, _⟩ := lx.f2
  exact ⟨set_off (by omega) lx.f1, ⟨od, set_at h2, hd⟩, set_off (by omega) lx.f3, (let ⟨o, t, h4, d4⟩ := lx.f4; ⟨o, t, set_off (by omega) h4, d4⟩), set_off (by omega) lx.f5, set_off (by omega) lx.f6, (let ⟨n, h7⟩ := lx.f7; ⟨n, set_off (by omega) h7⟩),
    fun k a b c => set_off (Ne.symm a) (lx.rest k a b c), by rw [List.length_set]; exact lx.len⟩
theorem Lex.set4 {od : Obj} {p' : Nat} {t' : Tok} (lx : Lex I news0 news am0 sam0 sv tv p vs) (hd : DI 40 (SA sam0 p' t') od) : Lex I news0 (news.set (I.b + 3) (I.sdx, od)) am0 sam0 sv tv p' vs := by
  obtain ⟨od0, t0, h4, _⟩ := lx.f4
  exact ⟨set_off (by omega) lx.f1, (let ⟨o, h2, d2⟩ := lx.f2; ⟨o, set_off (by omega) h2, d2⟩), set_off (by omega) lx.f3, ⟨od, t', set_at h4, hd⟩, set_off (by omega) lx.f5, set_off (by omega) lx.f6, (let ⟨n, h7⟩ := lx.f7; ⟨n, set_off (by omega) h7⟩),
    fun k a b c => set_off (Ne.symm b) (lx.rest k a b c), by rw [List.length_set]; exact lx.len⟩
theorem Lex.set7 {n : Int} {vs' : List Value} (lx : Lex I news0 news am0 sam0 sv tv p vs) : Lex I news0 (news.set (I.b + 6) (I.qp, dqOf n vs')) am0 sam0 sv tv p vs' := by
  obtain ⟨n0, h7⟩ := lx.f7
  exact ⟨set_off (by omega) lx.f1, (let ⟨o, h2, d2⟩ := lx.f2; ⟨o, set_off (by omega) h2, d2⟩), set_off (by omega) lx.f3, (let ⟨o, t, h4, d4⟩ := lx.f4; ⟨o, t, set_off (by omega) h4, d4⟩), set_off (by omega) lx.f5, set_off (by omega) lx.f6, ⟨n, set_at h7⟩,
    fun k a b c => set_off (Ne.symm c) (lx.rest k a b c), by rw [List.length_set]; exact lx.len⟩
theorem lx_setState {Q : Unit → Shared → Prop} (fx : Fix (Mine.hd.heap_1 w.params) Mine.vw LO mean mg mb A₀ base outer h₀) (z : Z h₀ L h m news) (lx : Lex I news0 news am0 sam0 sv tv p vs)
    (k : ∀ h' news', Lex I news0 news' am0 sam0 v tv p vs → Z h₀ L h' m news' → Q () (St s h' (tk + 2))) : wpAny (model PR w) A (setAttr (.ref I.x) (Str.ofString "state") v) Q E (St s h tk) := by
  obtain ⟨od, h2, hd⟩ := lx.f2
  refine y_setattr fx z lx.f1 h2 hd (by k_is) (by k_is) (by k_is) (by k_is) (isSome_of (mset_ne (by decide) mset_eq)) (by decide) fun h' od' hd' z' => ?_
  rw [LA_state] at hd'
  exact k h' _ (lx.set2 hd') z'
theorem lx_setToken {Q : Unit → Shared → Prop} (fx : Fix (Mine.hd.heap_1 w.params) Mine.vw LO mean mg mb A₀ base outer h₀) (z : Z h₀ L h m news) (lx : Lex I news0 news am0 sam0 sv tv p vs)
    (k : ∀ h' news', Lex I news0 news' am0 sam0 sv v p vs → Z h₀ L h' m news' → Q () (St s h' (tk + 2))) : wpAny (model PR w) A (setAttr (.ref I.x) (Str.ofString "token") v) Q E (St s h tk) := by
  obtain ⟨od, h2, hd⟩ := lx.f2
  refine y_setattr fx z lx.f1 h2 hd (by k_is) (by k_is) (by k_is) (by k_is) (isSome_of mset_eq) (by decide) fun h' od' hd' z' => ?_
  rw [LA_token] at hd'
  exact k h' _ (lx.set2 hd') z'
theorem lx_methR {pl : Sem Bool} {Q : Value × List Value → Shared → Prop} (fx : Fix (Mine.hd.heap_1 w.params) Mine.vw LO mean mg mb A₀ base outer h₀) (z : Z h₀ L h m news) (lx : Lex I news0 news am0 sam0 sv tv p vs) (so : SamOk sam0 tape)
    (k : Q (.ref 575, [.ref I.sx]) (St s h tk)) : wpAny (model PR w) A (getMethod (.ref I.sx) (Str.ofString "read") pl) Q E (St s h tk) := by
  obtain ⟨od, t, h4, hd⟩ := lx.f4
  exact y_methI fx z lx.f3 h4 hd (by k_is) (by k_is) (by k_is) (mset_ne (by decide) so.nread) k
theorem lx_meth {f : Addr} {pl : Sem Bool} {Q : Value × List Value → Shared → Prop} (fx : Fix (Mine.hd.heap_1 w.params) Mine.vw LO mean mg mb A₀ base outer h₀) (z : Z h₀ L h m news) (lx : Lex I news0 news am0 sam0 sv tv p vs)
    (hg : plainGet (Mine.hd.heap_1 w.params) 764 name = true) (hf : findIn (Mine.hd.heap_1 w.params) (.ref 764) name = some (some (.ref f))) (ht : isFn (Mine.hd.heap_1 w.params) (.ref f) = true) (hv : LA am0 sv tv name = none)
    (k : Q (.ref f, [.ref I.x]) (St s h tk)) : wpAny (model PR w) A (getMethod (.ref I.x) name pl) Q E (St s h tk) := by
  obtain ⟨od, h2, hd⟩ := lx.f2
  exact y_methI fx z lx.f1 h2 hd hg hf ht hv k
theorem lx_readC {dp un : Nat} {gd : Option (List Code)} {cn : Str} {cs : Scope} {ccd : Value} {cl : List (Str × Addr)} {t2 : Tok} {Q : Value → Shared → Prop} (fx : Fix (Mine.hd.heap_1 w.params) Mine.vw LO mean mg mb A₀ base outer h₀) (z : Z h₀ L h m news) (lx : Lex I news0 news am0 sam0 sv tv p vs) (so : SamOk sam0 tape) (hk : cs.kind = .function) (hd : dp + 2 < 450) (hu : un + 6 < 450) (hp : p < tape.length)
    (k : ∀ h' tk' news' t, Lex I news0 news' am0 sam0 sv tv (p + 1) vs → Z h₀ L h' m news' → Q (.str ⟨#[tape.cps.getD p 0]⟩ t) (St s h' tk')) :
    wpAny (model PR w) (ktrTop dp un gd cn cs L a ccd cl outer) (call (.ref 575) [.ref I.sx, .int 1 t2]) Q E (St s h tk) := by
  obtain ⟨od, t, h4, hd4⟩ := lx.f4
  obtain ⟨tb, hb⟩ := so.buf
  refine (read_c (by omega) lx.f3 h4 hd4 (by decide) (mset_ne (by decide) hb) mset_eq (mset_ne (by decide) so.nchk) so.len (Nat.le_of_lt hp)).use fx z hk hd hu fun r news' h' tk' hr z' => ?_
  rw [if_pos hp] at hr
  obtain ⟨⟨t, rfl⟩, od', t', hd', rfl⟩ := hr
  rw [SA_pos] at hd'
  exact k h' tk' _ t (lx.set4 hd') z'
theorem lx_readE {dp un : Nat} {gd : Option (List Code)} {cn : Str} {cs : Scope} {ccd : Value} {cl : List (Str × Addr)} {t2 : Tok} {Q : Value → Shared → Prop} (fx : Fix (Mine.hd.heap_1 w.params) Mine.vw LO mean mg mb A₀ base outer h₀) (z : Z h₀ L h m news) (lx : Lex I news0 news am0 sam0 sv tv p vs) (so : SamOk sam0 tape) (hk : cs.kind = .function) (hd : dp + 2 < 450) (hu : un + 6 < 450) (hp : p = tape.length)
    (k : ∀ h' tk' t, Z h₀ L h' m news → Q (.str (Str.ofString "") t) (St s h' tk')) :
    wpAny (model PR w) (ktrTop dp un gd cn cs L a ccd cl outer) (call (.ref 575) [.ref I.sx, .int 1 t2]) Q E (St s h tk) := by
  obtain ⟨od, t, h4, hd4⟩ := lx.f4
  obtain ⟨tb, hb⟩ := so.buf
  refine (read_c (by omega) lx.f3 h4 hd4 (by decide) (mset_ne (by decide) hb) mset_eq (mset_ne (by decide) so.nchk) so.len (Nat.le_of_eq hp)).use fx z hk hd hu fun r news' h' tk' hr z' => ?_
  rw [if_neg (by omega)] at hr
  obtain ⟨⟨t, rfl⟩, rfl⟩ := hr
  exact k h' tk' t z'
theorem lx_dqTruth {Q : Bool → Shared → Prop} (z : Z h₀ L h m news) (lx : Lex I news0 news am0 sam0 sv tv p vs) (hl : vs.length < 900) (k : Q (!vs.isEmpty) (St s h (tk + 2))) : wpAny (model PR w) A (truthy (.ref I.qp)) Q E (St s h tk) := by
  obtain ⟨n, h7⟩ := lx.f7
  exact dq_truth z h7 hl k
theorem lx_dqMeth {id : String} {pl : Sem Bool} {Q : Value × List Value → Shared → Prop} (z : Z h₀ L h m news) (lx : Lex I news0 news am0 sam0 sv tv p vs) (slot : Slot "collections.deque" name id) (hty : typeOf (.builtin id) = pure (.type "method_descriptor"))
    (k : Q (.builtin id, [.ref I.qp]) (St s h tk)) : wpAny (model PR w) A (getMethod (.ref I.qp) name pl) Q E (St s h tk) := by
  obtain ⟨n, h7⟩ := lx.f7
  exact dq_meth z h7 slot hty k
theorem lx_dqApp {Q : Value → Shared → Prop} (z : Z h₀ L h m news) (lx : Lex I news0 news am0 sam0 sv tv p []) (k : ∀ h' news', Lex I news0 news' am0 sam0 sv tv p [v] → Z h₀ L h' m news' → Q .none (St s h' tk)) :
    wpAny (model PR w) A (call (.builtin "collections.deque.append") [.ref I.qp, v]) Q E (St s h tk) := by
  obtain ⟨n, h7⟩ := lx.f7
  exact dq_append z h7 (by decide) fun h' z' => k h' _ lx.set7 z'
theorem lx_dqPop {Q : Value → Shared → Prop} (z : Z h₀ L h m news) (lx : Lex I news0 news am0 sam0 sv tv p [v]) (k : ∀ h' news', Lex I news0 news' am0 sam0 sv tv p [] → Z h₀ L h' m news' → Q v (St s h' tk)) :
    wpAny (model PR w) A (call (.builtin "collections.deque.pop") [.ref I.qp]) Q E (St s h tk) := by
  obtain ⟨n, h7⟩ := lx.f7
  exact dq_pop (vs := []) z h7 (by decide) fun h' z' => k h' _ lx.set7 z'
end
/-! text L1 -/
theorem pchars_c {w mean mg mb} {I : LIx} {news0 news : List (Addr × Obj)} {am0 sam0 : Str → Option Value} {sv tv : Value} {p : Nat} {vs : List Value} {t1 : Tok} (lx : Lex I news0 news am0 sam0 sv tv p vs) (hp : am0 (Str.ofString "_punctuation_chars") = some (.str (Str.ofString "<>") t1)) :
    C w mean mg mb 695 1 3 [.ref I.x] news (fun r news' => r = .str (Str.ofString "<>") t1 ∧ news' = news) := by
  refine ctr_by [(Str.ofString "self", .ref I.x)] (by k_is) (by k_is) (fun _ _ => BindsTo.of_eq rfl) (locs rfl) (by kernel_rfl) rfl rfl rfl (by decide) ?_
  intro dp un gd outer A₀ base g L h₁ s tk m hm fx z hdp hu
  have n1 := hm _ _ (.head _)
  clear hm
  repeat ktd_said "l1"
  exact done_ret z ⟨rfl, rfl⟩
theorem lx_prop {w : World} {A₀ : Around} {E : Value → Shared → Prop} {s : Shared} {h : Heap} {tk : Nat} {h₀ base : Heap} {outer : List Env} {L a : Addr} {m mg mb : Str → Option Value} {mean : ExcName → Option Value} {expr : Bool}
    {I : LIx} {news0 news : List (Addr × Obj)} {am0 sam0 : Str → Option Value} {sv tv : Value} {p : Nat} {vs : List Value} {t1 : Tok} {dp un : Nat} {gd : Option (List Code)} {cn : Str} {cs : Scope} {ccd : Value} {cl : List (Str × Addr)} {Q : Value → Shared → Prop} (fx : Fix (Mine.hd.heap_1 w.params) Mine.vw LO mean mg mb A₀ base outer h₀) (z : Z h₀ L h m news) (lx : Lex I news0 news am0 sam0 sv tv p vs)
    (hp : am0 (Str.ofString "_punctuation_chars") = some (.str (Str.ofString "<>") t1)) (hk : cs.kind = .function) (hd : dp + 1 < 450) (hu : un + 1 + 3 < 450)
    (k : ∀ h' tk', Z h₀ L h' m news → Q (.str (Str.ofString "<>") t1) (St s h' tk')) :
    wpAny (model PR w) (ktrTop dp un gd cn cs L a ccd cl outer) (getAttr (.ref I.x) (Str.ofString "punctuation_chars") expr) Q E (St s h tk) := by
  obtain ⟨od, h2, hd2⟩ := lx.f2
  refine y_prop fx z lx.f1 h2 (by k_is) (by k_is) (by k_is) (by k_is) (by k_is) (by k_is) (pchars_c lx hp) hk hd hu ?_
  rintro r news' h' tk' ⟨rfl, rfl⟩ z'
  exact ⟨rfl, k h' tk' z'⟩
/-! text L2 -/
noncomputable def wl : List Nat := [63, 112, 99, 100, 98, 108, 115, 45, 114, 119, 120, 83, 116, 84]
noncomputable def pl : List Nat := [60, 62]
theorem w_facts : ∀ c ∈ wl, ((⟨#[c]⟩ : Str) == Str.ofString "\n") = false ∧ Txt.contains (Str.ofString " \t\r\n") ⟨#[c]⟩ = false ∧ Txt.contains (Str.ofString "#") ⟨#[c]⟩ = false ∧ Txt.contains WC ⟨#[c]⟩ = true ∧ Txt.contains (Str.ofString "<>") ⟨#[c]⟩ = false := by decide +kernel
theorem p_facts : ∀ c ∈ pl, ((⟨#[c]⟩ : Str) == Str.ofString "\n") = false ∧ Txt.contains (Str.ofString " \t\r\n") ⟨#[c]⟩ = false ∧ Txt.contains (Str.ofString "#") ⟨#[c]⟩ = false ∧ Txt.contains WC ⟨#[c]⟩ = false ∧ Txt.contains (Str.ofString "<>") ⟨#[c]⟩ = true ∧ Txt.contains (Str.ofString "'\"") ⟨#[c]⟩ = false := by decide +kernel
noncomputable def remC (tape : Str) (p : Nat) : List Nat := tape.cps.toList.drop p
noncomputable def hdS : List Nat → Str
  | [] => Str.ofString ""
  | c :: _ => ⟨#[c]⟩
/-- what the lexer still has to read: R -/
noncomputable def Rem (tape : Str) (p : Nat) (vs : List Value) (R : List Nat) : Prop := p ≤ tape.length ∧ ((vs = [] ∧ R = remC tape p) ∨ ∃ d t, vs = [.str ⟨#[d]⟩ t] ∧ R = d :: remC tape p)
theorem remC_cons {tape : Str} {p : Nat} (h : p < tape.length) : remC tape p = tape.cps.getD p 0 :: remC tape (p + 1) := by
  unfold remC
  have : p < tape.cps.toList.length := by rw [Array.length_toList]; exact h
  rw [List.drop_eq_getElem_cons this]
  have h' : p < tape.cps.size := h
  simp [Array.getD, h']
theorem remC_nil {tape : Str} {p : Nat} (h : p = tape.length) : remC tape p = [] := by
  unfold remC
  apply List.drop_of_length_le
  rw [h]
  simp [Str.length]
theorem pl_not : ∀ c ∈ pl, c ∉ wl := by decide
theorem rem_len {tape : Str} {p : Nat} {vs : List Value} {R : List Nat} (h : Rem tape p vs R) : R.length ≤ tape.length + 1 := by
  obtain ⟨hp, ⟨-, rfl⟩ | ⟨d, t, -, rfl⟩⟩ := h
  · simp only [remC, List.length_drop, Array.length_toList]
    show tape.length - p ≤ _
    omega
  · simp only [remC, List.length_cons, List.length_drop, Array.length_toList]
    show tape.length - p + 1 ≤ _
    omega
theorem cat_one {l : List Nat} {c : Nat} {t : Tok} : Value.str ((⟨l.toArray⟩ : Str) ++ ⟨#[c]⟩) t = .str ⟨(l ++ [c]).toArray⟩ t := by
  congr 1
  show (⟨l.toArray ++ #[c]⟩ : Str) = _
  congr 1
  simp
theorem sv_pos {c0 : Nat} {t : Tok} (h : c0 ∈ wl) : Value.str (Str.ofString "a") t = .str (if c0 ∈ wl then Str.ofString "a" else Str.ofString "c") t := by rw [if_pos h]
theorem sv_neg {c0 : Nat} {t : Tok} (h : c0 ∉ wl) : Value.str (Str.ofString "c") t = .str (if c0 ∈ wl then Str.ofString "a" else Str.ofString "c") t := by rw [if_neg h]
noncomputable def twR (c0 : Nat) (l : List Nat) : List Nat := l.takeWhile fun d => decide (d ∈ wl) == decide (c0 ∈ wl)
noncomputable def dwR (c0 : Nat) (l : List Nat) : List Nat := l.dropWhile fun d => decide (d ∈ wl) == decide (c0 ∈ wl)
inductive RTA (c0 : Nat) (R0 : List Nat) (n : Nat) (sv tv : Value) (R : List Nat) : Prop
  | mk (h : ∃ t t', sv = .str (Str.ofString " ") t ∧ tv = .str (Str.ofString "") t') (e : R = c0 :: R0) (hn : n = R.length + 1) : RTA c0 R0 n sv tv R
inductive RTB (c0 : Nat) (R0 : List Nat) (n : Nat) (sv tv : Value) (vs' : List Value) (R : List Nat) : Prop
  | mk (t t' : Tok) (l : List Nat) (e1 : sv = .str (if c0 ∈ wl then Str.ofString "a" else Str.ofString "c") t) (e2 : tv = .str ⟨l.toArray⟩ t') (hl : l ≠ []) (hll : l.length + R.length ≤ (c0 :: R0).length) (e3 : vs' = []) (hn : n = R.length)
    (htw : twR c0 (c0 :: R0) = l ++ twR c0 R) (hdw : dwR c0 (c0 :: R0) = dwR c0 R) : RTB c0 R0 n sv tv vs' R
inductive RTJ (I : LIx) (news0 : List (Addr × Obj)) (am0 sam0 : Str → Option Value) (tape : Str) (c0 : Nat) (R0 : List Nat) (n : Nat) (m₁ : Str → Option Value) (news₁ : List (Addr × Obj)) : Prop
  | mk (e1 : m₁ (Str.ofString "self") = some (.ref I.x)) (sv tv : Value) (p' : Nat) (vs' : List Value) (R : List Nat) (lx : Lex I news0 news₁ am0 sam0 sv tv p' vs') (hr : Rem tape p' vs' R) (hc : ∀ c ∈ R, c ∈ wl ∨ c ∈ pl)
    (h : RTA c0 R0 n sv tv R ∨ RTB c0 R0 n sv tv vs' R) : RTJ I news0 am0 sam0 tape c0 R0 n m₁ news₁
inductive RTM (I : LIx) (news0 : List (Addr × Obj)) (am0 sam0 : Str → Option Value) (tape : Str) (g : Heap) (L : Addr) (s : Shared) (m₁ : Str → Option Value) (R : List Nat) (sv tv : Value) (s' : Shared) : Prop
  | mk (h' : Heap) (tk' : Nat) (news' : List (Addr × Obj)) (t : Tok) (p2 : Nat) (e : s' = St s h' tk') (z : Z g L h' (mset m₁ (Str.ofString "nextchar") (.str (hdS R) t)) news') (lx : Lex I news0 news' am0 sam0 sv tv p2 []) (hp : p2 ≤ tape.length) (hr : remC tape p2 = R.tail) : RTM I news0 am0 sam0 tape g L s m₁ R sv tv s'
inductive RTP (I : LIx) (news0 : List (Addr × Obj)) (am0 sam0 : Str → Option Value) (tape : Str) (c0 : Nat) (R0 : List Nat) (r : Value) (news' : List (Addr × Obj)) : Prop
  | mk (h : ∃ t, r = .str ⟨(twR c0 (c0 :: R0)).toArray⟩ t) (sv : Value) (t : Tok) (p' : Nat) (vs' : List Value) (lx : Lex I news0 news' am0 sam0 sv (.str (Str.ofString "") t) p' vs') (hr : Rem tape p' vs' (dwR c0 (c0 :: R0)))
    (hh : (sv = .none ∧ dwR c0 (c0 :: R0) = []) ∨ ((∃ t', sv = .str (Str.ofString " ") t') ∧ dwR c0 (c0 :: R0) ≠ [])) : RTP I news0 am0 sam0 tape c0 R0 r news'
theorem readtok_c {w mean mg mb} {I : LIx} {news0 news : List (Addr × Obj)} {am0 sam0 : Str → Option Value} {p : Nat} {vs : List Value} {tape : Str} {t1 t2 : Tok} {c0 : Nat} {R0 : List Nat} (lx : Lex I news0 news am0 sam0 (.str (Str.ofString " ") t1) (.str (Str.ofString "") t2) p vs) (ao : AmOk I am0) (so : SamOk sam0 tape)
    (hr : Rem tape p vs (c0 :: R0)) (hc : ∀ c ∈ c0 :: R0, c ∈ wl ∨ c ∈ pl) :
    C w mean mg mb 732 3 9 [.ref I.x] news (RTP I news0 am0 sam0 tape c0 R0) := by
  refine ctr_by [(Str.ofString "self", .ref I.x)] (by k_is) (by k_is) (fun _ _ => BindsTo.of_eq rfl) (locs rfl) (by kernel_rfl) rfl rfl rfl (by decide) ?_
  intro dp un gd outer A₀ base g L h₁ s tk m hm fx z hdp hu
  have n1 := hm _ _ (.head _)
  clear hm
  have hbig : (c0 :: R0).length < 1002 := Nat.lt_of_le_of_lt (rem_len hr) (by have := so.len; omega)
  obtain ⟨a1, a2, ⟨ta3, a3⟩, ⟨ta4, a4⟩, ⟨ta5, a5⟩, ⟨ta6, a6⟩, a7, ⟨ta8, a8⟩, ⟨ta9, a9⟩, a10, ⟨ta11, a11⟩, a12, a13, ⟨ta14, a14⟩, a15, a16, a17⟩ := ao
  repeat ktd_said "l1"
  rename_i h2 z2
  refine y_while (RTJ I news0 am0 sam0 tape c0 R0) (n₀ := (c0 :: R0).length + 1) z2
      ⟨by ktd_said "nm", _, _, p, vs, c0 :: R0, lx, hr, hc, .inl ⟨⟨_, _, rfl, rfl⟩, rfl, rfl⟩⟩ ?_
  rintro n m₁ news₁ h₃ tk₃ z₃ ⟨e1, sv, tv, p', vs', R, lx3, hr3, hc3, hJ⟩
  iterate 4 (ktd_said "l1")
  refine y_mid (RTM I news0 am0 sam0 tape g L s m₁ R sv tv) ?_ ?_
  · repeat ktd_said "l2"
    obtain ⟨hp3, hr3⟩ := hr3
    rcases hr3 with ⟨rfl, rfl⟩ | ⟨d, t, rfl, rfl⟩
    · repeat ktd_said "l2"
      by_cases hlt : p' < tape.length
      · refine lx_readC (by assumption) (by assumption) lx3 so rfl (by omega) (by omega) hlt ?_
        intro h5 tk5 news5 t5 lx5 z5
        repeat ktd_said "l2"
        rename_i h6 z6
        refine mid_nil ⟨_, _, _, t5, p' + 1, rfl, ?_, lx5, by omega, ?_⟩
        · rw [remC_cons hlt]
          exact z6
        · rw [remC_cons hlt]
          rfl
      · have hpe : p' = tape.length := by omega
        refine lx_readE (by assumption) (by assumption) lx3 so rfl (by omega) (by omega) hpe ?_
        intro h5 tk5 t5 z5
        repeat ktd_said "l2"
        rename_i h6 z6
        refine mid_nil ⟨_, _, _, t5, p', rfl, ?_, lx3, hp3, ?_⟩
        · rw [remC_nil hpe]
          exact z6
        · rw [remC_nil hpe]
          rfl
    · repeat ktd_said "l2"
      rename_i h5 news5 lx5 z5 h6 z6
      exact mid_nil ⟨_, _, _, t, p', rfl, z6, lx5, hp3, rfl⟩
  · rintro s' ⟨h4, tk4, news4, t4, p4, rfl, z4, lx4, hp4, hrem⟩
    rcases hJ with ⟨⟨ts, tt, rfl, rfl⟩, rfl, rfl⟩ | ⟨ts, tt, l, rfl, rfl, hl0, hll, rfl, rfl, htw, hdw⟩
    · -- the first sign
      replace z4 : Z g L h4 (mset m₁ (Str.ofString "nextchar") (.str ⟨#[c0]⟩ t4)) news4 := z4
      rcases hc3 c0 (.head _) with hw | hpun
      · obtain ⟨f1, f2, f3, f4, f5⟩ := w_facts c0 hw
        repeat ktd_said "l2"
        rename_i h6 news6 lx6 z6
        refine y_nil (loop_next z6 (n' := R0.length) (by simp only [List.length_cons]; omega) ⟨by ktd_said "nm", _, _, p4, [], R0, lx6, ⟨hp4, .inl ⟨rfl, hrem.symm⟩⟩, fun c hm => hc3 c (.tail _ hm), .inr ⟨_, _, [c0], sv_pos hw, rfl, by simp, by simp only [List.length_cons, List.length_nil]; omega, rfl, rfl, ?_, ?_⟩⟩)
        · rw [twR, List.takeWhile_cons_of_pos (by simp)]
          rfl
        · rw [dwR, List.dropWhile_cons_of_pos (by simp)]; rfl
      · have hnw : c0 ∉ wl := pl_not c0 hpun
        obtain ⟨f1, f2, f3, f4, f5, f6⟩ := p_facts c0 hpun
        repeat ktd_said "l2"
        rename_i h6 news6 lx6 z6
        refine y_nil (loop_next z6 (n' := R0.length) (by simp only [List.length_cons]; omega) ⟨by ktd_said "nm", _, _, p4, [], R0, lx6, ⟨hp4, .inl ⟨rfl, hrem.symm⟩⟩, fun c hm => hc3 c (.tail _ hm), .inr ⟨_, _, [c0], sv_neg hnw, rfl, by simp, by simp only [List.length_cons, List.length_nil]; omega, rfl, rfl, ?_, ?_⟩⟩)
        · rw [twR, List.takeWhile_cons_of_pos (by simp)]
          rfl
        · rw [dwR, List.dropWhile_cons_of_pos (by simp)]; rfl
    · have hR := hr3.2
      simp only [false_and, exists_const, or_false, true_and, reduceCtorEq] at hR
      cases R with
      | nil =>
        replace z4 : Z g L h4 (mset m₁ (Str.ofString "nextchar") (.str (Str.ofString "") t4)) news4 := z4
        rw [show twR c0 [] = [] from rfl, List.append_nil] at htw
        rw [show dwR c0 [] = [] from rfl] at hdw
        by_cases hw : c0 ∈ wl
        · rw [if_pos hw] at lx4
          repeat ktd_said "l2"
          refine done_ret (by assumption) ⟨⟨tt, ?_⟩, .none, _, p4, [], by assumption, ⟨hp4, .inl ⟨rfl, ?_⟩⟩, .inl ⟨rfl, hdw⟩⟩
          · rw [htw]
          · rw [hdw, hrem]; rfl
        · rw [if_neg hw] at lx4
          repeat ktd_said "l2"
          refine done_ret (by assumption) ⟨⟨tt, ?_⟩, .none, _, p4, [], by assumption, ⟨hp4, .inl ⟨rfl, ?_⟩⟩, .inl ⟨rfl, hdw⟩⟩
          · rw [htw]
          · rw [hdw, hrem]; rfl
      | cons c R =>
        replace z4 : Z g L h4 (mset m₁ (Str.ofString "nextchar") (.str ⟨#[c]⟩ t4)) news4 := z4
        have hlne : ((⟨l.toArray⟩ : Str).length != 0) = true := by
          simp only [Str.length, List.size_toArray]
          cases l with
          | nil => exact absurd rfl hl0
          | cons _ _ => rfl
        have hls : (⟨l.toArray⟩ : Str).length + (⟨#[c]⟩ : Str).length < 100000 := by
          simp only [Str.length, List.size_toArray, List.length_cons] at *
          show _ + 1 < _
          omega
        by_cases hw : c0 ∈ wl
        · rw [if_pos hw] at lx4
          rcases hc3 c (.head _) with hcw | hcp
          · obtain ⟨f1, f2, f3, f4, f5⟩ := w_facts c hcw
            have hb : (decide (c ∈ wl) == decide (c0 ∈ wl)) = true := by simp [hcw, hw]
            rw [show twR c0 (c :: R) = _ from List.takeWhile_cons, if_pos hb] at htw
            rw [show dwR c0 (c :: R) = _ from List.dropWhile_cons, if_pos hb] at hdw
            repeat ktd_said "l2"
            refine y_nil (loop_next (by assumption) (n' := R.length) (by simp only [List.length_cons]; omega) ⟨by ktd_said "nm", _, _, p4, [], R, by assumption, ⟨hp4, .inl ⟨rfl, hrem.symm⟩⟩, fun c hm => hc3 c (.tail _ hm), .inr ⟨_, _, l ++ [c], sv_pos hw, cat_one, by simp, by simp only [List.length_cons, List.length_append, List.length_nil] at *; omega, rfl, rfl, ?_, hdw⟩⟩)
            rw [htw, List.append_assoc]
            rfl
          · obtain ⟨f1, f2, f3, f4, f5, f6⟩ := p_facts c hcp
            have hb : (decide (c ∈ wl) == decide (c0 ∈ wl)) = false := by simp [pl_not c hcp, hw]
            rw [show twR c0 (c :: R) = _ from List.takeWhile_cons, if_neg (by simp [hb]), List.append_nil] at htw
            rw [show dwR c0 (c :: R) = _ from List.dropWhile_cons, if_neg (by simp [hb])] at hdw
            repeat ktd_said "l2"
            refine done_ret (by assumption) ⟨⟨tt, ?_⟩, _, _, p4, _, by assumption, ⟨hp4, .inr ⟨c, t4, rfl, ?_⟩⟩, .inr ⟨⟨_, rfl⟩, by rw [hdw]; exact List.cons_ne_nil _ _⟩⟩
            · rw [htw]
            · rw [hdw, hrem]; rfl
        · rw [if_neg hw] at lx4
          rcases hc3 c (.head _) with hcw | hcp
          · obtain ⟨f1, f2, f3, f4, f5⟩ := w_facts c hcw
            have hb : (decide (c ∈ wl) == decide (c0 ∈ wl)) = false := by simp [hcw, hw]
            rw [show twR c0 (c :: R) = _ from List.takeWhile_cons, if_neg (by simp [hb]), List.append_nil] at htw
            rw [show dwR c0 (c :: R) = _ from List.dropWhile_cons, if_neg (by simp [hb])] at hdw
            repeat ktd_said "l2"
            refine done_ret (by assumption) ⟨⟨tt, ?_⟩, _, _, p4, _, by assumption, ⟨hp4, .inr ⟨c, t4, rfl, ?_⟩⟩, .inr ⟨⟨_, rfl⟩, by rw [hdw]; exact List.cons_ne_nil _ _⟩⟩
            · rw [htw]
            · rw [hdw, hrem]; rfl
          · obtain ⟨f1, f2, f3, f4, f5, f6⟩ := p_facts c hcp
            have hb : (decide (c ∈ wl) == decide (c0 ∈ wl)) = true := by simp [pl_not c hcp, hw]
            rw [show twR c0 (c :: R) = _ from List.takeWhile_cons, if_pos hb] at htw
            rw [show dwR c0 (c :: R) = _ from List.dropWhile_cons, if_pos hb] at hdw
            repeat ktd_said "l2"
            refine y_nil (loop_next (by assumption) (n' := R.length) (by simp only [List.length_cons]; omega) ⟨by ktd_said "nm", _, _, p4, [], R, by assumption, ⟨hp4, .inl ⟨rfl, hrem.symm⟩⟩, fun c hm => hc3 c (.tail _ hm), .inr ⟨_, _, l ++ [c], sv_neg hw, cat_one, by simp, by simp only [List.length_cons, List.length_append, List.length_nil] at *; omega, rfl, rfl, ?_, hdw⟩⟩)
            rw [htw, List.append_assoc]
            rfl
/-! text L3 -/
theorem lx_dqT0 {w : World} {A : Around} {E : Value → Shared → Prop} {s : Shared} {h : Heap} {tk : Nat} {h₀ : Heap} {L : Addr} {m : Str → Option Value} {I : LIx} {news0 news : List (Addr × Obj)} {am0 sam0 : Str → Option Value} {sv tv : Value} {p : Nat} {vs : List Value}
    {Q : Bool → Shared → Prop} (z : Z h₀ L h m news) (lx : Lex I news0 news am0 sam0 sv tv p vs) (k : Q false (St s h (tk + 2))) : wpAny (model PR w) A (truthy (.ref I.d0)) Q E (St s h tk) := dq_truth (vs := []) z lx.f5 (by decide) k
theorem lx_dqT1 {w : World} {A : Around} {E : Value → Shared → Prop} {s : Shared} {h : Heap} {tk : Nat} {h₀ : Heap} {L : Addr} {m : Str → Option Value} {I : LIx} {news0 news : List (Addr × Obj)} {am0 sam0 : Str → Option Value} {sv tv : Value} {p : Nat} {vs : List Value}
    {Q : Bool → Shared → Prop} (z : Z h₀ L h m news) (lx : Lex I news0 news am0 sam0 sv tv p vs) (k : Q false (St s h (tk + 2))) : wpAny (model PR w) A (truthy (.ref I.d1)) Q E (St s h tk) := dq_truth (vs := []) z lx.f6 (by decide) k
theorem readend_c {w mean mg mb} {I : LIx} {news0 news : List (Addr × Obj)} {am0 sam0 : Str → Option Value} {p : Nat} {tape : Str} {t2 : Tok} (lx : Lex I news0 news am0 sam0 .none (.str (Str.ofString "") t2) p []) (ao : AmOk I am0) (so : SamOk sam0 tape)
    (hp : p = tape.length) :
    C w mean mg mb 732 3 9 [.ref I.x] news (fun r news' => (∃ t, r = .str (Str.ofString "") t) ∧ ∃ t, Lex I news0 news' am0 sam0 .none (.str (Str.ofString "") t) p []) := by
  refine ctr_by [(Str.ofString "self", .ref I.x)] (by k_is) (by k_is) (fun _ _ => BindsTo.of_eq rfl) (locs rfl) (by kernel_rfl) rfl rfl rfl (by decide) ?_
  intro dp un gd outer A₀ base g L h₁ s tk m hm fx z hdp hu
  have n1 := hm _ _ (.head _)
  clear hm
  obtain ⟨a1, a2, ⟨ta3, a3⟩, ⟨ta4, a4⟩, ⟨ta5, a5⟩, ⟨ta6, a6⟩, a7, ⟨ta8, a8⟩, ⟨ta9, a9⟩, a10, ⟨ta11, a11⟩, a12, a13, ⟨ta14, a14⟩, a15, a16, a17⟩ := ao
  repeat ktd_said "l3"
  rename_i h2 z2
  refine y_while (fun n m₁ news₁ => m₁ (Str.ofString "self") = some (.ref I.x) ∧ news₁ = news) (n₀ := 0) z2 ⟨by ktd_said "nm", rfl⟩ ?_
  rintro n m₁ news₁ h₃ tk₃ z₃ ⟨e1, rfl⟩
  repeat ktd_said "l3"
  refine lx_readE (by assumption) (by assumption) lx so rfl (by omega) (by omega) hp ?_
  intro h5 tk5 t5 z5
  repeat ktd_said "l3"
  exact done_ret (by assumption) ⟨⟨_, rfl⟩, _, by assumption⟩
theorem gettok_c {w mean mg mb} {I : LIx} {news0 news : List (Addr × Obj)} {am0 sam0 : Str → Option Value} {p : Nat} {vs : List Value} {tape : Str} {t1 t2 : Tok} {c0 : Nat} {R0 : List Nat} (lx : Lex I news0 news am0 sam0 (.str (Str.ofString " ") t1) (.str (Str.ofString "") t2) p vs) (ao : AmOk I am0) (so : SamOk sam0 tape)
    (hr : Rem tape p vs (c0 :: R0)) (hc : ∀ c ∈ c0 :: R0, c ∈ wl ∨ c ∈ pl) :
    C w mean mg mb 725 4 12 [.ref I.x] news (RTP I news0 am0 sam0 tape c0 R0) := by
  refine ctr_by [(Str.ofString "self", .ref I.x)] (by k_is) (by k_is) (fun _ _ => BindsTo.of_eq rfl) (locs rfl) (by kernel_rfl) rfl rfl rfl (by decide) ?_
  intro dp un gd outer A₀ base g L h₁ s tk m hm fx z hdp hu
  have n1 := hm _ _ (.head _)
  clear hm
  have cc := readtok_c (w := w) (mean := mean) (mg := mg) (mb := mb) lx ao so hr hc
  obtain ⟨a1, a2, ⟨ta3, a3⟩, ⟨ta4, a4⟩, ⟨ta5, a5⟩, ⟨ta6, a6⟩, a7, ⟨ta8, a8⟩, ⟨ta9, a9⟩, a10, ⟨ta11, a11⟩, a12, a13, ⟨ta14, a14⟩, a15, a16, a17⟩ := ao
  repeat ktd_said "l3"
  refine cc.use fx (by assumption) rfl (by omega) (by omega) ?_
  rintro r news3 h3 tk3 ⟨⟨tr, rfl⟩, sv, t, p', vs', lx3, hr3, hsv⟩ z3
  repeat ktd_said "l3"
  rename_i h4 z4
  generalize hT : twR c0 (c0 :: R0) = T at *
  have hne : ((⟨T.toArray⟩ : Str) == Str.ofString "") = false := by
    rw [← hT, twR, List.takeWhile_cons_of_pos (by simp)]
    rfl
  refine y_while (fun n m₁ news₁ => m₁ (Str.ofString "self") = some (.ref I.x) ∧ m₁ (Str.ofString "raw") = some (.str ⟨T.toArray⟩ tr) ∧ news₁ = news3) (n₀ := 0) z4 ⟨by ktd_said "nm", by ktd_said "nm", rfl⟩ ?_
  rintro n m₁ news₁ h₃ tk₃ z₃ ⟨e1, e2, rfl⟩
  repeat ktd_said "l3"
  exact done_ret (by assumption) ⟨⟨tr, by rw [hT]⟩, sv, t, p', vs', lx3, hr3, hsv⟩
theorem getend_c {w mean mg mb} {I : LIx} {news0 news : List (Addr × Obj)} {am0 sam0 : Str → Option Value} {p : Nat} {tape : Str} {t2 : Tok} (lx : Lex I news0 news am0 sam0 .none (.str (Str.ofString "") t2) p []) (ao : AmOk I am0) (so : SamOk sam0 tape)
    (hp : p = tape.length) :
    C w mean mg mb 725 4 12 [.ref I.x] news (fun r news' => (∃ t, r = .str (Str.ofString "") t) ∧ ∃ t, Lex I news0 news' am0 sam0 .none (.str (Str.ofString "") t) p []) := by
  refine ctr_by [(Str.ofString "self", .ref I.x)] (by k_is) (by k_is) (fun _ _ => BindsTo.of_eq rfl) (locs rfl) (by kernel_rfl) rfl rfl rfl (by decide) ?_
  intro dp un gd outer A₀ base g L h₁ s tk m hm fx z hdp hu
  have n1 := hm _ _ (.head _)
  clear hm
  have cc := readend_c (w := w) (mean := mean) (mg := mg) (mb := mb) lx ao so hp
  obtain ⟨a1, a2, ⟨ta3, a3⟩, ⟨ta4, a4⟩, ⟨ta5, a5⟩, ⟨ta6, a6⟩, a7, ⟨ta8, a8⟩, ⟨ta9, a9⟩, a10, ⟨ta11, a11⟩, a12, a13, ⟨ta14, a14⟩, a15, a16, a17⟩ := ao
  repeat ktd_said "l3"
  refine cc.use fx (by assumption) rfl (by omega) (by omega) ?_
  rintro r news3 h3 tk3 ⟨⟨tr, rfl⟩, t, lx3⟩ z3
  repeat ktd_said "l3"
  rename_i h4 z4
  refine y_while (fun n m₁ news₁ => m₁ (Str.ofString "self") = some (.ref I.x) ∧ m₁ (Str.ofString "raw") = some (.str (Str.ofString "") tr) ∧ news₁ = news3) (n₀ := 0) z4 ⟨by ktd_said "nm", by ktd_said "nm", rfl⟩ ?_
  rintro n m₁ news₁ h₃ tk₃ z₃ ⟨e1, e2, rfl⟩
  repeat ktd_said "l3"
  exact done_ret (by assumption) ⟨⟨_, rfl⟩, t, lx3⟩
/-! text S2 -/
section
variable {w : World} {A₀ A : Around} {E : Value → Shared → Prop} {s : Shared} {h₀ base : Heap} {outer : List Env} {L x dx : Addr} {mg mb : Str → Option Value} {mean : ExcName → Option Value} {nb : List (Addr × Obj)} {od : Obj} {am : Str → Option Value} {N : Nat} {name : Str} {v : Value} {m : Str → Option Value} {h : Heap} {tk : Nat}
theorem y_typeS {prog : Program} {y : Str} {t : Tok} {Q : Value → Shared → Prop} (k : Q (.type "str") s) : wpAny (model prog w) A (call (.type "type") [.str y t]) Q E s := call_type_of (Tx := "str") rfl (by decide +kernel) k
theorem y_neS {prog : Program} {y z : Str} {t u : Tok} {Q : Value → Shared → Prop} (k : Q (.bool (y != z)) s) : wpAny (model prog w) A (compareOp .NotEq (.str y t) (.str z u)) Q E s := PyProof.Rows.ne_str k
theorem os_i1 {A B : Addr × Obj} : (nb ++ [A, B])[nb.length]? = some A := by simp
theorem os_i2 {A B : Addr × Obj} : (nb ++ [A, B])[nb.length + 1]? = some B := by simp
theorem os_w {A B C : Addr × Obj} : (nb ++ [A, B]).set (nb.length + 1) C = nb ++ [A, C] := by simp
theorem os_new {Q : Unit → Shared → Prop} (fx : Fix (Mine.hd.heap_1 w.params) Mine.vw LO mean mg mb A₀ base outer h₀) (z : Z h₀ L h m (nb ++ [(x, instObj 629 dx), (dx, od)])) (hd : DI N am od)
    (ht : takerIn (Mine.hd.heap_1 w.params) 629 name = some none) (hN : N < 1000)
    (k : ∀ h' od', DI (N + 1) (mset am name v) od' → Z h₀ L h' m (nb ++ [(x, instObj 629 dx), (dx, od')]) → Q () (St s h' (tk + 2))) : wpAny (model PR w) A (setAttr (.ref x) name v) Q E (St s h tk) := by
  refine y_newattr fx z os_i1 os_i2 hd (by k_is) (by k_is) ht (by k_is) hN fun h' od' hd' z' => ?_
  rw [os_w] at z'
  exact k h' od' hd' z'
theorem os_set {Q : Unit → Shared → Prop} (fx : Fix (Mine.hd.heap_1 w.params) Mine.vw LO mean mg mb A₀ base outer h₀) (z : Z h₀ L h m (nb ++ [(x, instObj 629 dx), (dx, od)])) (hd : DI N am od)
    (ht : takerIn (Mine.hd.heap_1 w.params) 629 name = some none) (hold : (am name).isSome = true) (hN : N ≤ 1000)
    (k : ∀ h' od', DI N (mset am name v) od' → Z h₀ L h' m (nb ++ [(x, instObj 629 dx), (dx, od')]) → Q () (St s h' (tk + 2))) : wpAny (model PR w) A (setAttr (.ref x) name v) Q E (St s h tk) := by
  refine y_setattr fx z os_i1 os_i2 hd (by k_is) (by k_is) ht (by k_is) hold hN fun h' od' hd' z' => ?_
  rw [os_w] at z'
  exact k h' od' hd' z'
theorem os_get {expr : Bool} {attr : Option Value} {Q : Value → Shared → Prop} (fx : Fix (Mine.hd.heap_1 w.params) Mine.vw LO mean mg mb A₀ base outer h₀) (z : Z h₀ L h m (nb ++ [(x, instObj 629 dx), (dx, od)])) (hd : DI N am od)
    (hg : plainGet (Mine.hd.heap_1 w.params) 629 name = true) (ha : findIn (Mine.hd.heap_1 w.params) (.ref 629) name = some attr) (hn : noGet (Mine.hd.heap_1 w.params) attr = true) (hv : am name = some v) (hhd : handedIn v = true) (k : Q v (St s h (tk + 1))) :
    wpAny (model PR w) A (getAttr (.ref x) name expr) Q E (St s h tk) := y_attr fx z os_i1 os_i2 hd hg (by k_is) ha hn hv hhd k
end
theorem translated_c {w mean mg mb} {x dx : Addr} {nb : List (Addr × Obj)} {N : Nat} {am : Str → Option Value} {od : Obj} {tape : Str} {t tn : Tok} (hd : DI N am od) (hn : am (Str.ofString "_StringIO__newline") = some (.str (Str.ofString "\n") tn)) :
    C w mean mg mb 406 1 3 [.ref x, .str tape t] (nb ++ [(x, instObj 629 dx), (dx, od)]) (fun r news' => r = .str tape t ∧ news' = nb ++ [(x, instObj 629 dx), (dx, od)]) := by
  refine ctr_by [(Str.ofString "self", .ref x), (Str.ofString "s", .str tape t)] (by k_is) (by k_is) (fun _ _ => BindsTo.of_eq rfl) (locs rfl) (by kernel_rfl) rfl rfl rfl (by decide) ?_
  intro dp un gd outer A₀ base g L h₁ s tk m hm fx z hdp hu
  have n1 := hm _ _ (.head _)
  have n2 := hm _ _ (.tail _ (.head _))
  clear hm
  repeat ktd_said "s2"
  exact done_ret (by assumption) ⟨rfl, rfl⟩
/-- what StringIO(tape) leaves as its dict -/
inductive SIO (tape : Str) (od : Obj) : Prop
  | mk (am : Str → Option Value) (hd : DI 40 am od) (hb : ∃ t, am (Str.ofString "_StringIO__buf") = some (.str tape t)) (t : Tok) (hp : am (Str.ofString "_StringIO__pos") = some (.int 0 t)) (hc : am (Str.ofString "_StringIO__check") = none) (hr : am (Str.ofString "read") = none) : SIO tape od
theorem DI.mono0 {N M : Nat} {am : Str → Option Value} {od : Obj} (h : DI N am od) (hN : N ≤ M) : DI M am od := by
  obtain ⟨es, n, a, b, c⟩ := h
  exact ⟨es, n, a, Nat.le_trans b hN, c⟩
theorem DI_empty0 : DI 0 (fun _ => none) (dictOf [] 0) := ⟨[], 0, rfl, Nat.le_refl _, fun _ h => (nomatch h), fun _ => rfl⟩
theorem sioinit_c {w mean mg mb} {x dx : Addr} {nb : List (Addr × Obj)} {tape : Str} {t : Tok} :
    CtrK PR w (Mine.hd.heap_1 w.params) Mine.vw LO mean mg mb 399 3 6 [.ref x, .str tape t] [] (nb ++ [(x, instObj 629 dx), (dx, dictOf [] 0)]) (fun r news' => r = .none ∧ ∃ od, SIO tape od ∧ news' = nb ++ [(x, instObj 629 dx), (dx, od)]) := by
  refine ctrK_by [(Str.ofString "self", .ref x), (Str.ofString "initial_value", .str tape t), (Str.ofString "newline", .str (Str.ofString "\n") 732)] (by k_is) (by k_is) (fun _ X => binds_K X rfl (by k_is) rfl rfl rfl) (locs rfl) (by kernel_rfl) rfl rfl rfl (by decide) ?_
  intro dp un gd outer A₀ base g L h₁ s tk m hm fx z hdp hu
  have n1 := hm _ _ (.head _)
  have n2 := hm _ _ (.tail _ (.head _))
  have n3 := hm _ _ (.tail _ (.tail _ (.head _)))
  clear hm
  have hd := DI_empty0
  repeat ktd_said "s2"
  rename_i h2 od2 hd2 z2 h3 od3 hd3 z3 h4 od4 hd4 z4
  refine y_methI fx z4 os_i1 os_i2 hd4 (by k_is) (by k_is) (by k_is) (mset_ne (by decide) (mset_ne (by decide) (mset_ne (by decide) rfl))) ?_
  repeat ktd_said "s2"
  refine (translated_c hd4 (by ktd_said "nm")).use fx z4 rfl (by omega) (by omega) ?_
  rintro r news' h5 tk5 ⟨rfl, rfl⟩ z5
  repeat ktd_said "s2"
  rename_i h6 od6 hd6 z6
  exact y_nil (done_next z6 ⟨rfl, od6, ⟨_, hd6.mono0 (by decide), ⟨_, by ktd_said "nm"⟩, _, by ktd_said "nm", mset_ne (by decide) (mset_ne (by decide) (mset_ne (by decide) (mset_ne (by decide) rfl))), mset_ne (by decide) (mset_ne (by decide) (mset_ne (by decide) (mset_ne (by decide) rfl)))⟩, rfl⟩)
/-! text L4 -/
theorem Z.hasL {h₀ h : Heap} {L : Addr} {m : Str → Option Value} {news : List (Addr × Obj)} (z : Z h₀ L h m news) : ∃ o, h.get? L = some o := by
  obtain ⟨_, _, _, ho, _⟩ := z.F.ns
  exact ⟨_, ho⟩
theorem sio_new {prog : Program} {w : World} {A : Around} {E : Value → Shared → Prop} {s : Shared} {Q : Value → Shared → Prop} (X : (Mine.hd.heap_1 w.params).In s.heap) (k : Q (.ref 122) { s with toks := s.toks + 1 }) :
    wpAny (model prog w) A (getAttr (.ref 629) (Str.ofString "__new__")) Q E s :=
  cls_bind (mc := .type "type") (g := .builtin "staticmethod.__get__") (a := .ref 126) (obj := .none) (tp := .ref 629) X (by k_is) (by k_is) (wpAny_call (sm_get (s := { s with toks := s.toks + 1 }) (f := .ref 122) (rest := []) X (by k_is) (handed_on (by kernel_rfl) k)))
theorem sio_mro {M : Model} {w : World} {h : Heap} (X : (Mine.hd.heap_1 w.params).In h) : Looks M h (mroOf (.ref 629)) [.ref 629, .ref 152, .ref 125, .type "object"] :=
  (Looks.ld (part := none) (X 629 _ (by k_is))).andThen .now |>.andThen .now
theorem sio_made {M : Model} {w : World} {h : Heap} (X : (Mine.hd.heap_1 w.params).In h) : Looks M h (Bind.madeBy (.ref 629)) none := by
  intro A Q E s k q
  unfold Bind.madeBy
  refine wpAny_bind (sio_mro X A _ E s k ?_)
  rw [List.forIn_cons]
  refine wpAny_bind (wpAny_bind (wpAny_bind (wpAny_bind (wpAny_loadPart (k _ _ (X 629 _ (by k_is))) (wpAny_pure ?_)))))
  exact wpAny_pure (wpAny_pure (wpAny_pure q))
theorem sio_glue {prog : Program} {w : World} {A : Around} {R : Result → Shared → Prop} {h : Heap} {g : Array GenState} {d : Drawn} {t : Nat} {os : OsState} {rest : List Value} (X : (Mine.hd.heap_1 w.params).In h)
    (hq : wpAny (model prog w) (A.under (.builtin "type.__call__" ⟨.ref 629 :: rest, []⟩)) (call (.ref 122) (.ref 629 :: rest)) (fun r s' => ∃ x dx, r = .ref x ∧ (Mine.hd.heap_1 w.params).In s'.heap ∧ s'.heap.get? x = some (instObj 629 dx) ∧
      codeAny (model prog w) (A.under (.builtin "type.__call__" ⟨.ref 629 :: rest, []⟩)) (.call (.ref 399) ⟨.ref x :: rest, []⟩) (InitBack x R) s') (fun _ _ => False) ⟨h, g, d, t + 1, os⟩) :
    codeAny (model prog w) A (.call (.ref 629) ⟨rest, []⟩) R ⟨h, g, d, t, os⟩ := by
  have hC := X 629 _ (by k_is)
  have call : Looks (model prog w) h (specialOf (.ref 629) "__call__") (some (.builtin "type.__call__")) := looks_specialIn X (by k_is)
  have typ : Looks (model prog w) h (isInstance (.ref 629) (.type "type")) true := looks_instIn X (by k_is)
  have hm := sio_mro (M := model prog w) X
  have made := sio_made (M := model prog w) X
  refine codeAny_of_tree ?_
  show wpAny _ _ (callAny (.ref 629) _) _ _ _
  refine nd_load hC ?_
  show wpAny _ _ (callAny.viaDunder (.ref 629) _) _ _ _
  unfold callAny.viaDunder
  refine wpAny_bind (call.at ?_)
  dsimp only
  rw [tc_bind]
  refine wpAny_bind (wpAny_pure (wpAny_bind (wpAny_pure ?_)))
  refine wpAny_pure (a := Fin.again (.call (.builtin "type.__call__") ⟨.ref 629 :: rest, []⟩)) (And.intro rfl ?_)
  refine codeAny_call_builtin_at (Code.quiet_builtin _ (by decide +kernel)) entry_typeCall (check_slot tc_kind tc_split typ (tc_args _ _ _) ?_)
  unfold Builtin.«type.__call__»
  repeat (first | with_reducible refine sio_new (s := ⟨h, g, d, t, os⟩) X ?_ | with_reducible refine wpAny_mono hq ?_ ?_ | lk)
  rotate_left
  · exact fun _ _ x => x.elim
  rintro r ⟨h2, g2, d2, t2, os2⟩ ⟨x, dx, rfl, X2, hx, hi⟩
  dsimp only at X2 hx hi
  have t1 : Looks (model prog w) h2 (typeOf (.ref x)) (.ref 629) := (Looks.ld hx).andThen .now
  have s1 : Looks (model prog w) h2 (isSubtype (.ref 629) (.ref 629)) true := looks_mroIn X2 (by k_is)
  have i1 : Looks (model prog w) h2 (typeLookup (.ref 629) "__init__") (some (.ref 399)) := looks_findIn X2 (by k_is)
  have b1 := bind_fn (M := model prog w) X2 (f := 399) (.ref x) (by k_is)
  unfold isInstance callSpecial? specialOf
  repeat (first | with_reducible refine wpAny_call ?_ | lk)
  refine codeAny_mono hi fun r s' z => ?_
  rcases r with e | (v | _ | _ | _) <;> first | exact z | exact z.elim | skip
  obtain ⟨rfl, z⟩ := z
  exact wpAny_pure (wpAny_pure z)
theorem y_sio {w : World} {A₀ : Around} {E : Value → Shared → Prop} {s : Shared} {h : Heap} {tk : Nat} {h₀ base : Heap} {outer : List Env} {L a : Addr} {m mg mb : Str → Option Value} {mean : ExcName → Option Value} {news : List (Addr × Obj)} {tape : Str} {t : Tok} {Q : Value → Shared → Prop}
    {dp un : Nat} {gd : Option (List Code)} {cn : Str} {cs : Scope} {ccd : Value} {cl : List (Str × Addr)}
    (fx : Fix (Mine.hd.heap_1 w.params) Mine.vw LO mean mg mb A₀ base outer h₀) (z : Z h₀ L h m news) (hk : cs.kind = .function) (hd : dp + 4 < 450) (hu : un + 7 < 450)
    (k : ∀ x dx od h' tk', SIO tape od → Z h₀ L h' m (news ++ [(x, instObj 629 dx), (dx, od)]) → Q (.ref x) (St s h' tk')) :
    wpAny (model PR w) (ktrTop dp un gd cn cs L a ccd cl outer) (call (.ref 629) [.str tape t]) Q E (St s h tk) := by
  have X := fx.X.keeps z.F.keep
  refine wpAny_call (sio_glue (h := h) X ?_)
  refine wpAny_room (d := 500) (u := 500) (d' := dp + 1) (u' := un + 1) (new_c PR w tape t _ cn cs L a ccd cl outer (St s h (tk + 1)) _ _ X ?_) (by omega) (by omega)
  rintro x h' tk' nw D ⟨i, dx, hx, hdx⟩
  have keep : ∀ b o, h.get? b = some o → h'.get? b = some o := fun b o e => D.keep b o e (Bool.or_true _)
  suffices z2 : Z h₀ L h' m (news ++ [(x, instObj 629 dx), (dx, dictOf [] 0)]) by
    refine ⟨x, dx, rfl, X.keeps keep, (D.nw _ (List.mem_of_getElem? hx)).1, ?_⟩
    refine sioinit_c (dp + 1) (un + 1) _ cn cs a ccd cl outer A₀ base h₀ L m s h' tk' _ fx z2 hk (by omega) (by omega) ?_
    rintro r news'' h'' tk'' ⟨rfl, od, hs, rfl⟩ z''
    exact ⟨rfl, k x dx od h'' tk'' hs z''⟩
  have z' : Z h₀ L h' m news := z.keeps keep
  have fr : ∀ q : Addr × Obj, q ∈ nw → h'.get? q.1 = some q.2 ∧ q.1 ≠ L ∧ h₀.get? q.1 = none ∧ q.1 ∉ news.map (·.1) := by
    intro q hq
    obtain ⟨q1, q2⟩ := D.nw q hq
    refine ⟨q1, ?_, ?_, ?_⟩
    · rintro rfl
      obtain ⟨oL, hL⟩ := z.hasL
      have q2' : h.get? q.1 = none := q2
      rw [hL] at q2'
      cases q2'
    · cases e : h₀.get? q.1 with
      | none => rfl
      | some o =>
        have := z.F.keep _ _ e
        have q2' : h.get? q.1 = none := q2
        rw [this] at q2'
        cases q2'
    · intro hm
      obtain ⟨r, hr, e⟩ := List.mem_map.mp hm
      have := (z.N r hr).1
      have q2' : h.get? q.1 = none := q2
      rw [← e, this] at q2'
      cases q2'
  have f1 := fr _ (List.mem_of_getElem? hx)
  have f2 := fr _ (List.mem_of_getElem? hdx)
  have hne : x ≠ dx := by
    have o := D.ord
    rw [List.pairwise_iff_getElem] at o
    obtain ⟨l1, e1⟩ := List.getElem?_eq_some_iff.mp hx
    obtain ⟨l2, e2⟩ := List.getElem?_eq_some_iff.mp hdx
    have := o i (i + 1) (by simpa using l1) (by simpa using l2) (by omega)
    simp only [List.getElem_map, e1, e2] at this
    exact Nat.ne_of_gt this
  refine ⟨z'.F, ?_, ?_⟩
  · intro q hq
    rcases List.mem_append.mp hq with hq | hq
    · exact z'.N q hq
    · rcases List.mem_cons.mp hq with rfl | hq
      · exact ⟨f1.1, f1.2.1, f1.2.2.1⟩
      · rcases List.mem_cons.mp hq with rfl | hq
        · exact ⟨f2.1, f2.2.1, f2.2.2.1⟩
        · cases hq
  · rw [List.map_append]
    refine List.nodup_append.mpr ⟨z.nd, ?_, ?_⟩
    · exact List.nodup_cons.mpr ⟨by simpa using hne, List.nodup_cons.mpr ⟨by simp, List.nodup_nil⟩⟩
    · intro a ha b hb e
      subst e
      simp only [List.map_cons, List.map_nil, List.mem_cons, List.not_mem_nil, or_false] at hb
      rcases hb with rfl | rfl
      · exact f1.2.2.2 ha
      · exact f2.2.2.2 ha
/-! text L5 -/
section
variable {w : World} {A₀ A : Around} {E : Value → Shared → Prop} {s : Shared} {h₀ base : Heap} {outer : List Env} {L a : Addr} {mg mb : Str → Option Value} {mean : ExcName → Option Value} {tape : Str} {h : Heap} {tk : Nat} {x dx : Addr} {m : Str → Option Value} {nb tl : List (Addr × Obj)} {od : Obj} {am : Str → Option Value} {N : Nat} {name : Str} {v : Value} {t : Tok}
    {dp un : Nat} {gd : Option (List Code)} {cn : Str} {cs : Scope} {ccd : Value} {cl : List (Str × Addr)}
theorem ob_i1 {A B : Addr × Obj} : (nb ++ A :: B :: tl)[nb.length]? = some A := by simp
theorem ob_i2 {A B : Addr × Obj} : (nb ++ A :: B :: tl)[nb.length + 1]? = some B := by simp
theorem ob_set {A B C : Addr × Obj} : (nb ++ A :: B :: tl).set (nb.length + 1) C = nb ++ A :: C :: tl := by simp
theorem ob_new {Q : Unit → Shared → Prop} (fx : Fix (Mine.hd.heap_1 w.params) Mine.vw LO mean mg mb A₀ base outer h₀) (z : Z h₀ L h m (nb ++ (x, instObj 764 dx) :: (dx, od) :: tl)) (hd : DI N am od)
    (ht : takerIn (Mine.hd.heap_1 w.params) 764 name = some none) (hN : N < 1000)
    (k : ∀ h' od', DI (N + 1) (mset am name v) od' → Z h₀ L h' m (nb ++ (x, instObj 764 dx) :: (dx, od') :: tl) → Q () (St s h' (tk + 2))) : wpAny (model PR w) A (setAttr (.ref x) name v) Q E (St s h tk) := by
  refine y_newattr fx z ob_i1 ob_i2 hd (by k_is) (by k_is) ht (by k_is) hN fun h' od' hd' z' => ?_
  rw [ob_set] at z'
  exact k h' od' hd' z'
theorem ob_set' {Q : Unit → Shared → Prop} (fx : Fix (Mine.hd.heap_1 w.params) Mine.vw LO mean mg mb A₀ base outer h₀) (z : Z h₀ L h m (nb ++ (x, instObj 764 dx) :: (dx, od) :: tl)) (hd : DI N am od)
    (ht : takerIn (Mine.hd.heap_1 w.params) 764 name = some none) (hold : (am name).isSome = true) (hN : N ≤ 1000)
    (k : ∀ h' od', DI N (mset am name v) od' → Z h₀ L h' m (nb ++ (x, instObj 764 dx) :: (dx, od') :: tl) → Q () (St s h' (tk + 2))) : wpAny (model PR w) A (setAttr (.ref x) name v) Q E (St s h tk) := by
  refine y_setattr fx z ob_i1 ob_i2 hd (by k_is) (by k_is) ht (by k_is) hold hN fun h' od' hd' z' => ?_
  rw [ob_set] at z'
  exact k h' od' hd' z'
theorem ob_get {expr : Bool} {attr : Option Value} {Q : Value → Shared → Prop} (fx : Fix (Mine.hd.heap_1 w.params) Mine.vw LO mean mg mb A₀ base outer h₀) (z : Z h₀ L h m (nb ++ (x, instObj 764 dx) :: (dx, od) :: tl)) (hd : DI N am od)
    (hg : plainGet (Mine.hd.heap_1 w.params) 764 name = true) (ha : findIn (Mine.hd.heap_1 w.params) (.ref 764) name = some attr) (hn : noGet (Mine.hd.heap_1 w.params) attr = true) (hv : am name = some v) (hhd : handedIn v = true) (k : Q v (St s h (tk + 1))) :
    wpAny (model PR w) A (getAttr (.ref x) name expr) Q E (St s h tk) := y_attr fx z ob_i1 ob_i2 hd hg (by k_is) ha hn hv hhd k
theorem ob_sio {Q : Value → Shared → Prop} (fx : Fix (Mine.hd.heap_1 w.params) Mine.vw LO mean mg mb A₀ base outer h₀) (z : Z h₀ L h m (nb ++ (x, instObj 764 dx) :: (dx, od) :: tl)) (hk : cs.kind = .function) (hd : dp + 4 < 450) (hu : un + 7 < 450)
    (k : ∀ y dy oy h' tk', SIO tape oy → Z h₀ L h' m (nb ++ (x, instObj 764 dx) :: (dx, od) :: (tl ++ [(y, instObj 629 dy), (dy, oy)])) → Q (.ref y) (St s h' tk')) :
    wpAny (model PR w) (ktrTop dp un gd cn cs L a ccd cl outer) (call (.ref 629) [.str tape t]) Q E (St s h tk) :=
  y_sio fx z hk hd hu fun y dy oy h' tk' hs z' => k y dy oy h' tk' hs (by simpa only [List.append_assoc, List.cons_append] using z')
theorem Z.fresh {news : List (Addr × Obj)} {h' : Heap} {o : Obj} {y : Addr} (z : Z h₀ L h m news) (hk : ∀ b o, h.get? b = some o → h'.get? b = some o) (q2 : h.get? y = none) (q1 : h'.get? y = some o) : Z h₀ L h' m (news ++ [(y, o)]) := by
  have z' : Z h₀ L h' m news := z.keeps hk
  have q3 : y ≠ L := by
    rintro rfl
    obtain ⟨oL, hL⟩ := z.hasL
    rw [hL] at q2
    cases q2
  have q4 : h₀.get? y = none := by
    cases e : h₀.get? y with
    | none => rfl
    | some o =>
      have := z.F.keep _ _ e
      rw [this] at q2
      cases q2
  refine ⟨z'.F, ?_, ?_⟩
  · intro q hq
    rcases List.mem_append.mp hq with hq | hq
    · exact z'.N q hq
    · rw [List.mem_singleton.mp hq]
      exact ⟨q1, q3, q4⟩
  · rw [List.map_append]
    refine List.nodup_append.mpr ⟨z.nd, by simp, ?_⟩
    intro a ha b hb e
    subst e
    simp only [List.map_cons, List.map_nil, List.mem_singleton] at hb
    subst hb
    obtain ⟨r, hr, e⟩ := List.mem_map.mp ha
    have := (z.N r hr).1
    rw [e, q2] at this
    cases this
theorem Z.fresh1 {news nw : List (Addr × Obj)} {h' : Heap} {o : Obj} {y : Addr} {i : Nat} (z : Z h₀ L h m news) (D : PySem.W.X.Mem h h' [] nw) (hy : nw[i]? = some (y, o)) : Z h₀ L h' m (news ++ [(y, o)]) :=
  z.fresh (fun b o e => D.keep b o e (Bool.or_true _)) (D.nw _ (List.mem_of_getElem? hy)).2 (D.nw _ (List.mem_of_getElem? hy)).1
theorem ob_dq {Q : Value → Shared → Prop} (fx : Fix (Mine.hd.heap_1 w.params) Mine.vw LO mean mg mb A₀ base outer h₀) (z : Z h₀ L h m (nb ++ (x, instObj 764 dx) :: (dx, od) :: tl)) (hd : dp ≤ 500) (hu : un ≤ 500)
    (k : ∀ y h' tk', Z h₀ L h' m (nb ++ (x, instObj 764 dx) :: (dx, od) :: (tl ++ [(y, dqOf 0 [])])) → Q (.ref y) (St s h' tk')) :
    wpAny (model PR w) (ktrTop dp un gd cn cs L a ccd cl outer) (call (.type "collections.deque") []) Q E (St s h tk) := by
  refine wpAny_room (dq_c PR w gd cn cs L a ccd cl outer (St s h tk) Q E (fx.X.keeps z.F.keep) ?_) hd hu
  rintro y h' tk' nw D ⟨i, hi⟩
  exact k y h' tk' (by simpa only [List.append_assoc, List.cons_append] using z.fresh1 D hi)
theorem ne_sys (fx : Fix (Mine.hd.heap_1 w.params) Mine.vw LO mean mg mb A₀ base outer h₀) {news : List (Addr × Obj)} {q : Addr} {o : Obj} (z : Z h₀ L h m news) (hq : (q, o) ∈ news) : (q == sysModules) = false := by
  refine beq_eq_false_iff_ne.mpr fun e => ?_
  have h1 := fx.X 1 _ (by k_is)
  have h2 := (z.N _ hq).2.2
  rw [show (q, o).1 = 1 from e, h1] at h2
  cases h2
theorem ob_mtm {x' : Str} {u : Tok} {pl : Sem Bool} {Q : Value × List Value → Shared → Prop} (k : Q (.builtin "str.maketrans", []) (St s h (tk + 1))) :
    wpAny (model PR w) A (getMethod (.str x' u) (Str.ofString "maketrans") pl) Q E (St s h tk) := mt_meth k
theorem ob_trm {x' : Str} {u : Tok} {pl : Sem Bool} {Q : Value × List Value → Shared → Prop} (k : Q (.builtin "str.translate", [.str x' u]) (St s h tk)) :
    wpAny (model PR w) A (getMethod (.str x' u) (Str.ofString "translate") pl) Q E (St s h tk) := tr_meth k
theorem ob_fkm {pl : Sem Bool} {Q : Value × List Value → Shared → Prop} (fx : Fix (Mine.hd.heap_1 w.params) Mine.vw LO mean mg mb A₀ base outer h₀) (z : Z h₀ L h m (nb ++ (x, instObj 764 dx) :: (dx, od) :: tl)) (hd : dp ≤ 500) (hu : un ≤ 500)
    (k : ∀ b h' tk', Z h₀ L h' m (nb ++ (x, instObj 764 dx) :: (dx, od) :: (tl ++ [(b, bfObj)])) → Q (.ref b, []) (St s h' tk')) :
    wpAny (model PR w) (ktrTop dp un gd cn cs L a ccd cl outer) (getMethod (.type "dict") (Str.ofString "fromkeys") pl) Q E (St s h tk) := by
  refine fk_meth (wpAny_room (ga_c PR w gd cn cs L a ccd cl outer (St s h (tk + 1)) _ _ (fx.X.keeps z.F.keep) _ ?_) hd hu)
  rintro b h' tk' nw D ⟨i, hi⟩
  exact ⟨b, rfl, k b h' tk' (by simpa only [List.append_assoc, List.cons_append] using z.fresh1 D hi)⟩
theorem ob_fk {b : Addr} {u : Tok} {Q : Value → Shared → Prop} (fx : Fix (Mine.hd.heap_1 w.params) Mine.vw LO mean mg mb A₀ base outer h₀) (z : Z h₀ L h m (nb ++ (x, instObj 764 dx) :: (dx, od) :: (tl ++ [(b, bfObj)]))) (hd : dp ≤ 500) (hu : un ≤ 500)
    (k : ∀ q h' tk' h1 h2 t1 t2 n, Z h₀ L h' m (nb ++ (x, instObj 764 dx) :: (dx, od) :: (tl ++ [(q, fkObj h1 h2 t1 t2 n)])) → Q (.ref q) (St s h' tk')) :
    (St s h tk).heap.get? b = some bfObj ∧ wpAny (model PR w) (ktrTop dp un gd cn cs L a ccd cl outer) (call (.ref b) [.str (Str.ofString "<>") u]) Q E (St s h tk) := by
  have hb : h.get? b = some bfObj := (z.N _ (by simp : (b, bfObj) ∈ _)).1
  refine ⟨hb, wpAny_room (fk_c PR w gd cn cs L a b ccd cl outer (St s h tk) _ _ (fx.X.keeps z.F.keep) _ hb ?_) hd hu⟩
  rintro q h' tk' nw D ⟨i, h1, h2, t1, t2, n, hi⟩
  have z0 : Z h₀ L h m (nb ++ (x, instObj 764 dx) :: (dx, od) :: tl) := by
    have z1 : Z h₀ L h m ((nb ++ (x, instObj 764 dx) :: (dx, od) :: tl) ++ [(b, bfObj)]) := by simpa only [List.append_assoc, List.cons_append] using z
    exact z1.drop
  exact k q h' tk' h1 h2 t1 t2 n (by simpa only [List.append_assoc, List.cons_append] using z0.fresh1 D hi)
theorem ob_cw {M : Model} {pos : Pos} {b : Addr} {env : Env} {e : Expr} {rest : List Expr} {Q : Value → Shared → Prop} (z : Z h₀ L h m (nb ++ (x, instObj 764 dx) :: (dx, od) :: (tl ++ [(b, bfObj)])))
    (k : wpAny M A (spliced (backTo pos (starEach (e :: rest) env))) (fun vs s₁ => s₁.heap.get? b = some bfObj ∧ wpAny M A (call (.ref b) vs) Q E s₁) E (St s h tk))
    (he : starEach (e :: rest) env = (false, eval e env) :: starEach rest env := by kernel_rfl) (hplain : (backTo pos (starEach rest env)).any (·.1) = false := by kernel_rfl) :
    wpAny M A (callWith pos (.ref b) [] (backTo pos (starEach (e :: rest) env)) []) Q E (St s h tk) := bf_callWith k he hplain
/-- the table that maketrans made -/
noncomputable def TabOk (w : World) (o : Obj) : Prop := ∃ es ep, o.ExactDict ∧ o.data = .dict es ep ∧ KeysOf (intKind PR w) es ∧ ∀ k, findBy (intKind PR w).is es k = (fun x => if x = 62 then some .none else if x = 60 then some .none else none) k
theorem ob_mt {q : Addr} {h1 h2 : Int} {t1 t2 : Tok} {n : Nat} {Q : Value → Shared → Prop} (fx : Fix (Mine.hd.heap_1 w.params) Mine.vw LO mean mg mb A₀ base outer h₀) (z : Z h₀ L h m (nb ++ (x, instObj 764 dx) :: (dx, od) :: (tl ++ [(q, fkObj h1 h2 t1 t2 n)])))
    (k : ∀ d o h' tk', TabOk w o → Z h₀ L h' m (nb ++ (x, instObj 764 dx) :: (dx, od) :: (tl ++ [(d, o)])) → Q (.ref d) (St s h' tk')) :
    wpAny (model PR w) A (call (.builtin "str.maketrans") [.ref q]) Q E (St s h tk) := by
  have hm : (q, fkObj h1 h2 t1 t2 n) ∈ nb ++ (x, instObj 764 dx) :: (dx, od) :: (tl ++ [(q, fkObj h1 h2 t1 t2 n)]) := by simp
  refine mt_call (s := St s h tk) (z.N _ hm).1 (ne_sys fx z hm) ?_
  rintro d h' tk' hk hd ⟨o, es, ep, ho, r⟩
  have z0 : Z h₀ L h m (nb ++ (x, instObj 764 dx) :: (dx, od) :: tl) := by
    have z1 : Z h₀ L h m ((nb ++ (x, instObj 764 dx) :: (dx, od) :: tl) ++ [(q, fkObj h1 h2 t1 t2 n)]) := by simpa only [List.append_assoc, List.cons_append] using z
    exact z1.drop
  refine k d o h' tk' ⟨es, ep, r⟩ ?_
  have z2 := z0.fresh (o := o) hk hd ho
  simpa only [List.append_assoc, List.cons_append] using z2
theorem ob_tr {d : Addr} {o : Obj} {x' : Str} {u : Tok} {Q : Value → Shared → Prop} (fx : Fix (Mine.hd.heap_1 w.params) Mine.vw LO mean mg mb A₀ base outer h₀) (z : Z h₀ L h m (nb ++ (x, instObj 764 dx) :: (dx, od) :: (tl ++ [(d, o)]))) (ht : TabOk w o) (hh : A.handled = none)
    (h0 : (x'.length == 0) = false) (ha : (x'.cps.all fun c => decide (c < 128) && !(c == 60) && !(c == 62)) = true) (hl : Nat.ble (x'.length + 1) 1000 = true)
    (k : ∀ h' tk' t', Z h₀ L h' m (nb ++ (x, instObj 764 dx) :: (dx, od) :: (tl ++ [(d, o)])) → Q (.str x' t') (St s h' tk')) :
    wpAny (model PR w) A (call (.builtin "str.translate") [.str x' u, .ref d]) Q E (St s h tk) := by
  have hm : (d, o) ∈ nb ++ (x, instObj 764 dx) :: (dx, od) :: (tl ++ [(d, o)]) := by simp
  obtain ⟨es, ep, r⟩ := ht
  refine tr_call (s := St s h tk) (by simpa using h0) (ne_sys fx z hm) hh ⟨o, es, ep, (z.N _ hm).1, r⟩ ?_ ?_ (lt_ble hl) ?_
  · intro c hc
    have := (Array.all_eq_true'.mp ha) c (by simpa using hc)
    simp only [Bool.and_eq_true, decide_eq_true_eq, Bool.not_eq_true', beq_eq_false_iff_ne] at this
    rw [if_neg (by omega), if_neg (by omega)]
  · refine Array.all_eq_true'.mpr fun c hc => ?_
    have := (Array.all_eq_true'.mp ha) c hc
    simp only [Bool.and_eq_true, decide_eq_true_eq] at this
    simpa using this.1.1
  · intro h' tk' t' hk
    exact k h' tk' t' (z.keeps hk)
theorem y_cwT0 {M : Model} {env : Env} {pos : Pos} {T : String} {Q : Value → Shared → Prop} {s : Shared} (k : wpAny M A (call (.type T) []) Q E s) : wpAny M A (callWith pos (.type T) [] (backTo pos (starEach [] env)) []) Q E s := PyProof.Rows.callWith_type0 k
theorem y_isiS {Q : Value → Shared → Prop} {s : Shared} (k : Q (.bool true) s) : wpAny (model PR w) A (call (.builtin "isinstance") [.str tape t, .type "str"]) Q E s := IsiPair.str_str k
end
theorem DI_empty : DI 0 (fun _ => none) (dictOf [] 0) := ⟨[], 0, rfl, Nat.le_refl _, fun _ h => (nomatch h), fun _ => rfl⟩
theorem DI.mono {N M : Nat} {am : Str → Option Value} {od : Obj} (h : DI N am od) (hN : N ≤ M) : DI M am od := by
  obtain ⟨es, n, a, b, c⟩ := h
  exact ⟨es, n, a, Nat.le_trans b hN, c⟩
theorem LA_self {am : Str → Option Value} {sv tv : Value} (h1 : am (Str.ofString "state") = some sv) (h2 : am (Str.ofString "token") = some tv) : LA am sv tv = am := by
  funext y
  simp only [LA, mset]
  split
  · rename_i e; rw [e, h2]
  · split
    · rename_i e; rw [e, h1]
    · rfl
theorem SA_self {am : Str → Option Value} {p : Nat} {t : Tok} (h1 : am (Str.ofString "_StringIO__pos") = some (.int p t)) : SA am p t = am := by
  funext y
  simp only [SA, mset]
  split
  · rename_i e; rw [e, h1]
  · rfl
@[reducible] noncomputable def lexNews (x dx y dy d0 d1 qp : Addr) (od oy : Obj) : List (Addr × Obj) := [(x, instObj 764 dx), (dx, od), (y, instObj 629 dy), (dy, oy), (d0, dqOf 0 []), (d1, dqOf 0 []), (qp, dqOf 0 [])]
theorem lex_make {x dx y dy d0 d1 qp : Addr} {od oy : Obj} {news : List (Addr × Obj)} {am : Str → Option Value} {N : Nat} {tape : Str} {t t' : Tok} (hN : N ≤ 40) (hd : DI N am od) (hs : SIO tape oy) (hl : tape.length < 1000)
    (h1 : am (Str.ofString "state") = some (.str (Str.ofString " ") t)) (h2 : am (Str.ofString "token") = some (.str (Str.ofString "") t')) :
    ∃ sam0, SamOk sam0 tape ∧ Lex ⟨news.length, x, dx, y, dy, d0, d1, qp⟩ (news ++ lexNews x dx y dy d0 d1 qp od oy) (news ++ lexNews x dx y dy d0 d1 qp od oy) am sam0 (.str (Str.ofString " ") t) (.str (Str.ofString "") t') 0 [] := by
  obtain ⟨sam, hds, hb, tp, hp, hc, hr⟩ := hs
  refine ⟨sam, ⟨hb, hc, hr, hl⟩, ?_⟩
  exact ⟨by simp, ⟨od, by simp, by rw [LA_self h1 h2]; exact hd.mono hN⟩, by simp, ⟨oy, tp, by simp, by rw [SA_self (p := 0) hp]; exact hds⟩, by simp, by simp, ⟨0, by simp⟩, fun _ _ _ _ => rfl, rfl⟩
theorem init_c {w mean mg mb} {x dx : Addr} {news : List (Addr × Obj)} {tape : Str} {t1 t2 : Tok} (hl : tape.length < 1000) :
    CtrK PR w (Mine.hd.heap_1 w.params) Mine.vw LO mean mg mb 688 9 20 [.ref x, .str tape t1] [(Str.ofString "punctuation_chars", .str (Str.ofString "<>") t2)] (news ++ [(x, instObj 764 dx), (dx, dictOf [] 0)])
      (fun r news' => r = .none ∧ ∃ I od oy am0 sam0 t t', I.b = news.length ∧ I.x = x ∧ news' = news ++ lexNews x dx I.sx I.sdx I.d0 I.d1 I.qp od oy ∧ AmOk I am0 ∧ SamOk sam0 tape ∧ Lex I news' news' am0 sam0 (.str (Str.ofString " ") t) (.str (Str.ofString "") t') 0 []) := by
  refine ctrK_by [(Str.ofString "self", .ref x), (Str.ofString "instream", .str tape t1), (Str.ofString "infile", .none), (Str.ofString "posix", .bool false), (Str.ofString "punctuation_chars", .str (Str.ofString "<>") t2)] (by k_is) (by k_is) (fun _ X => binds_K X rfl (by k_is) rfl rfl rfl) (locs rfl) (by kernel_rfl) rfl rfl rfl (by decide) ?_
  intro dp un gd outer A₀ base g L h₁ s tk m hm fx z hdp hu
  have n1 := hm _ _ (.head _)
  have n2 := hm _ _ (.tail _ (.head _))
  have n3 := hm _ _ (.tail _ (.tail _ (.head _)))
  have n4 := hm _ _ (.tail _ (.tail _ (.tail _ (.head _))))
  have n5 := hm _ _ (.tail _ (.tail _ (.tail _ (.tail _ (.head _)))))
  clear hm
  have hd := DI_empty
  repeat ktd_said "m1"
  rename_i d9 o9 h9 tk9 ht9 z9 h10 z10 h11 tk11 t11 z11 h12 od12 hd12 z12
  have z13 := (show Z g L h12 _ ((news ++ lexNews _ _ _ _ _ _ _ _ _) ++ [(d9, o9)]) by simpa only [List.append_assoc, List.cons_append, List.nil_append] using z12).drop
  obtain ⟨sam0, so, lx⟩ := lex_make (news := news) (by decide) hd12 (by assumption) hl (by ktd_said "nm") (by ktd_said "nm")
  refine y_nil (done_next z13 ⟨rfl, _, _, _, _, _, _, _, rfl, rfl, rfl, ?_, so, lx⟩)
  constructor
  all_goals first
    | ktd_said "nm"
    | exact ⟨_, by ktd_said "nm"⟩
    | (repeat refine mset_ne (by decide) ?_); rfl
/-! text K1 -/
section
variable {w : World} {A : Around} {E : Value → Shared → Prop} {s : Shared} {h₀ : Heap} {L : Addr} {I : LIx} {news0 : List (Addr × Obj)} {am0 sam0 : Str → Option Value} {h : Heap} {tk : Nat} {m : Str → Option Value} {news : List (Addr × Obj)} {sv tv : Value} {p : Nat} {vs : List Value}
theorem Lex.re (lx : Lex I news0 news am0 sam0 sv tv p vs) : Lex I news news am0 sam0 sv tv p vs := ⟨lx.f1, lx.f2, lx.f3, lx.f4, lx.f5, lx.f6, lx.f7, fun _ _ _ _ => rfl, rfl⟩
theorem getElem?_app {e : List (Addr × Obj)} {i : Nat} {q : Addr × Obj} (h : news[i]? = some q) : (news ++ e)[i]? = some q := by
  rw [List.getElem?_append_left (List.getElem?_eq_some_iff.mp h).1]; exact h
theorem Lex.app {e : List (Addr × Obj)} (lx : Lex I news0 news am0 sam0 sv tv p vs) : Lex I (news ++ e) (news ++ e) am0 sam0 sv tv p vs :=
  ⟨getElem?_app lx.f1, (let ⟨o, h2, d2⟩ := lx.f2; ⟨o, getElem?_app h2, d2⟩), getElem?_app lx.f3, (let ⟨o, t, h4, d4⟩ := lx.f4; ⟨o, t, getElem?_app h4, d4⟩), getElem?_app lx.f5, getElem?_app lx.f6, (let ⟨n, h7⟩ := lx.f7; ⟨n, getElem?_app h7⟩), fun _ _ _ _ => rfl, rfl⟩
theorem Lex.setO {q : Addr × Obj} (lx : Lex I news0 news am0 sam0 sv tv p vs) : Lex I (news.set (I.b + 7) q) (news.set (I.b + 7) q) am0 sam0 sv tv p vs :=
  ⟨set_off (by omega) lx.f1, (let ⟨o, h2, d2⟩ := lx.f2; ⟨o, set_off (by omega) h2, d2⟩), set_off (by omega) lx.f3, (let ⟨o, t, h4, d4⟩ := lx.f4; ⟨o, t, set_off (by omega) h4, d4⟩), set_off (by omega) lx.f5, set_off (by omega) lx.f6, (let ⟨n, h7⟩ := lx.f7; ⟨n, set_off (by omega) h7⟩), fun _ _ _ _ => rfl, rfl⟩
theorem v_appendI {prog : Program} {q : Addr} {i k : Nat} {v : Value} {Q : Value → Shared → Prop} (z : Z h₀ L h m news) (hq : news[i]? = some (q, listOf vs.toArray k)) (hsz : vs.length < 2 ^ 20) (K : ∀ h', Z h₀ L h' m (news.set i (q, listOf (vs ++ [v]).toArray (k + 1))) → Q .none (St s h' tk)) :
    wpAny (model prog w) A (call (.builtin "list.append") [.ref q, v]) Q E (St s h tk) := by
  refine append_K (s := St s h tk) z.F z.N (upd_of z.nd hq) (fun h' F' N' => K h' ⟨F', ?_, by rw [keys_set hq]; exact z.nd⟩) (by rw [sizeLine_eq, List.size_toArray]; omega)
  have e : (vs ++ [v]).toArray = vs.toArray.push v := by simp
  rw [e]
  exact N'
end
/-- the tape's pieces -/
noncomputable def toksF : Nat → List Nat → List Str
  | 0, _ => []
  | _ + 1, [] => []
  | f + 1, c :: r => ⟨((c :: r).takeWhile fun d => decide (d ∈ wl) == decide (c ∈ wl)).toArray⟩ :: toksF f ((c :: r).dropWhile fun d => decide (d ∈ wl) == decide (c ∈ wl))
theorem drop_lt (c : Nat) (r : List Nat) : ((c :: r).dropWhile fun d => decide (d ∈ wl) == decide (c ∈ wl)).length ≤ r.length := by
  rw [List.dropWhile_cons_of_pos (by simp)]
  exact (List.dropWhile_sublist _).length_le
theorem toksF_fuel : ∀ (f g : Nat) (R : List Nat), R.length ≤ f → R.length ≤ g → toksF f R = toksF g R
  | 0, 0, [], _, _ => rfl
  | 0, g + 1, [], _, _ => rfl
  | f + 1, 0, [], _, _ => rfl
  | f + 1, g + 1, [], _, _ => rfl
  | 0, _, _ :: _, h, _ => absurd h (by simp)
  | _ + 1, 0, _ :: _, _, h => absurd h (by simp)
  | f + 1, g + 1, c :: r, h1, h2 => by
    unfold toksF
    have := drop_lt c r
    simp at h1 h2
    rw [toksF_fuel f g _ (by omega) (by omega)]
noncomputable def toks (R : List Nat) : List Str := toksF R.length R
theorem toks_cons (c : Nat) (r : List Nat) : toks (c :: r) = ⟨((c :: r).takeWhile fun d => decide (d ∈ wl) == decide (c ∈ wl)).toArray⟩ :: toks ((c :: r).dropWhile fun d => decide (d ∈ wl) == decide (c ∈ wl)) := by
  unfold toks
  show toksF (r.length + 1) (c :: r) = _
  unfold toksF
  rw [toksF_fuel r.length _ _ (drop_lt c r) (Nat.le_refl _)]
  cases h : ((c :: r).dropWhile fun d => decide (d ∈ wl) == decide (c ∈ wl)) with
  | nil => rfl
  | cons a b => rfl
theorem y_callK {M : Model} {A : Around} {E : Value → Shared → Prop} {s : Shared} {env : Env} {pos : Pos} {fn : Str} {fp : Pos} {args : List Expr} {kws : List Keyword} {Q : Value → Shared → Prop}
    (k : wpAny M A (eval (.Name fn fp) env) (fun f s₁ => wpAny M A (callWith pos f [] (backTo pos (starEach args env)) (backToKw pos (keywordEach kws env))) Q E s₁) E s)
    (he : eval (.Call (.Name fn fp) args kws pos) env = (do callWith pos (← eval (.Name fn fp) env) [] (backTo pos (starEach args env)) (backToKw pos (keywordEach kws env))) := by kernel_rfl) :
    wpAny M A (eval (.Call (.Name fn fp) args kws pos) env) Q E s := by
  rw [he]
  exact wpAny_bind (wpAny_mono k (fun _ _ h => h) fun _ _ x => x)
theorem y_cwK1 {w : World} {M : Model} {A A₀ : Around} {E : Value → Shared → Prop} {s : Shared} {env : Env} {pos : Pos} {f : Addr} {e : Expr} {rest : List Expr} {kn : Str} {kv : Expr} {kp : Pos} {Q : Value → Shared → Prop} {h₀ base : Heap} {outer : List Env} {mg mb : Str → Option Value} {mean : ExcName → Option Value}
    (fx : Fix (Mine.hd.heap_1 w.params) Mine.vw LO mean mg mb A₀ base outer h₀) (hk : keepIn (Mine.hd.heap_1 w.params) (.ref f) = true)
    (k : wpAny M A (spliced (backTo pos (starEach (e :: rest) env))) (fun vs s₁ => wpAny M A (eval kv env) (fun v s₂ => (Mine.hd.heap_1 w.params).In s₂.heap ∧ wpAny M A (call (.ref f) vs [(kn, v)]) Q E s₂) E s₁) E s)
    (he : starEach (e :: rest) env = (false, eval e env) :: starEach rest env := by kernel_rfl)
    (hplain : ((backTo pos (starEach (e :: rest) env)).any (·.1) || (backToKw pos (keywordEach [⟨some kn, kv, kp⟩] env)).any (·.1.isNone)) = false := by kernel_rfl) :
    wpAny M A (callWith pos (.ref f) [] (backTo pos (starEach (e :: rest) env)) (backToKw pos (keywordEach [⟨some kn, kv, kp⟩] env))) Q E s := by
  refine callWith_KW fx.X hk rfl (wpAny_mono k (fun vs s₁ h₁ => ?_) fun _ _ x => x) hplain he
  show wpAny M A (evalAll [do let v ← eval kv env; standAt pos; pure v]) _ E s₁
  refine evalAll_cons (wpAny_bind (wpAny_mono h₁ (fun v s₂ h₂ => wpAny_bind (wpAny_standAt (wpAny_pure (evalAll_nil ?_)))) fun _ _ x => x))
  exact h₂
theorem sub_of {news led : List (Addr × Obj)} {p : Addr × Obj} {j : Nat} (h1 : ∀ k, k < news.length → led[k]? = news[k]?) (h2 : led[news.length + j]? = some p) : (news ++ [p]).Sublist led := by
  have hlen : news.length + j < led.length := (List.getElem?_eq_some_iff.mp h2).1
  have e : led = led.take news.length ++ led.drop news.length := (List.take_append_drop _ _).symm
  have e1 : led.take news.length = news := by
    apply List.ext_getElem?
    intro i
    rw [List.getElem?_take]
    split
    · rename_i hi; exact h1 i hi
    · rename_i hi; rw [List.getElem?_eq_none (by omega)]
  rw [e, e1]
  refine List.Sublist.append (List.Sublist.refl _) (List.singleton_sublist.mpr ?_)
  refine List.mem_of_getElem? (i := j) ?_
  rw [List.getElem?_drop]
  exact h2
theorem remC0 (tape : Str) : remC tape 0 = tape.cps.toList := by unfold remC; simp
/-- where the lexer stands -/
structure TokSt (I : LIx) (news led : List (Addr × Obj)) (am0 sam0 : Str → Option Value) (tape : Str) (a : Addr) (dn : List Str) (R : List Nat) : Prop where
  ex : ∃ sv t p vs, Lex I led led am0 sam0 sv (.str (Str.ofString "") t) p vs ∧ Rem tape p vs R ∧ ((sv = .none ∧ R = []) ∨ ((∃ t', sv = .str (Str.ofString " ") t') ∧ R ≠ []))
  old : ∀ k, k < news.length → led[k]? = news[k]?
  b : I.b = news.length
  lst : ∃ vs k, led[news.length + 7]? = some (a, listOf vs.toArray k) ∧ StrsAre vs dn
  hc : ∀ c ∈ R, c ∈ wl ∨ c ∈ pl
theorem gt_c {w mean mg mb} {I : LIx} {news led : List (Addr × Obj)} {am0 sam0 : Str → Option Value} {tape : Str} {a : Addr} {dn : List Str} {R : List Nat} (ts : TokSt I news led am0 sam0 tape a dn R) (ao : AmOk I am0) (so : SamOk sam0 tape) :
    C w mean mg mb 725 4 12 [.ref I.x] led (fun r led' => (∃ t, r = .str ((toks R).headD (Str.ofString "")) t) ∧ ∃ R', TokSt I news led' am0 sam0 tape a dn R' ∧ toks R' = (toks R).tail ∧ R'.length ≤ R.length - 1) := by
  obtain ⟨⟨sv, t, p, vs, lx, hr, hsv⟩, hold, hb, ⟨lv, lk, hlst, hstr⟩, hc⟩ := ts
  rcases hsv with ⟨rfl, rfl⟩ | ⟨⟨t', rfl⟩, hne⟩
  · obtain ⟨hp, h | ⟨d, td, rfl, h⟩⟩ := hr
    · obtain ⟨rfl, hR⟩ := h
      have hpe : p = tape.length := by
        rcases Nat.lt_or_ge p tape.length with q | q
        · rw [remC_cons q] at hR; cases hR
        · omega
      intro dp un gd cn cs a' ccd cl outer A₀ base h₀ L m s h tk RR fx z hk hd hu hret
      refine getend_c lx ao so hpe dp un gd cn cs a' ccd cl outer A₀ base h₀ L m s h tk RR fx z hk hd hu ?_
      rintro r led' h' tk' ⟨⟨tr, rfl⟩, t2, lx2⟩ z'
      refine hret _ _ h' tk' ⟨⟨tr, rfl⟩, [], ⟨⟨_, _, _, _, lx2.re, ⟨hp, .inl ⟨rfl, hR⟩⟩, .inl ⟨rfl, rfl⟩⟩, fun k hk => (lx2.rest k (by omega) (by omega) (by omega)).trans (hold k hk), hb, ⟨lv, lk, (lx2.rest _ (by omega) (by omega) (by omega)).trans hlst, hstr⟩, fun _ h => (nomatch h)⟩, rfl, Nat.zero_le _⟩ z'
    · cases h
  · obtain ⟨c0, R0, rfl⟩ := List.exists_cons_of_ne_nil hne
    intro dp un gd cn cs a' ccd cl outer A₀ base h₀ L m s h tk RR fx z hk hd hu hret
    refine gettok_c lx ao so hr hc dp un gd cn cs a' ccd cl outer A₀ base h₀ L m s h tk RR fx z hk hd hu ?_
    rintro r led' h' tk' ⟨⟨tr, rfl⟩, sv2, t2, p2, vs2, lx2, hr2, hsv2⟩ z'
    refine hret _ _ h' tk' ⟨⟨tr, by rw [toks_cons]; rfl⟩, _, ⟨⟨_, _, _, _, lx2.re, hr2, hsv2⟩, fun k hk => (lx2.rest k (by omega) (by omega) (by omega)).trans (hold k hk), hb, ⟨lv, lk, (lx2.rest _ (by omega) (by omega) (by omega)).trans hlst, hstr⟩, fun c h => hc c ((List.dropWhile_sublist _).subset h)⟩, by rw [toks_cons]; rfl, ?_⟩ z'
    exact drop_lt c0 R0
theorem toksF_len : ∀ (f : Nat) (R : List Nat), R.length ≤ f → (toksF f R).length ≤ R.length
  | 0, _, _ => Nat.zero_le _
  | _ + 1, [], _ => Nat.zero_le _
  | f + 1, c :: r, h => by
    unfold toksF
    have h1 := drop_lt c r
    simp only [List.length_cons] at h ⊢
    have h2 := toksF_len f ((c :: r).dropWhile fun d => decide (d ∈ wl) == decide (c ∈ wl)) (by omega)
    omega
theorem toks_len (R : List Nat) : (toks R).length ≤ R.length := toksF_len _ _ (Nat.le_refl _)
theorem tok_len (R : List Nat) : ((toks R).headD (Str.ofString "")).length ≤ R.length := by
  cases R with
  | nil => exact Nat.zero_le _
  | cons c r =>
    rw [toks_cons]
    show (List.toArray _).size ≤ _
    rw [List.size_toArray]
    exact (List.takeWhile_sublist _).length_le
theorem tok_ne (c : Nat) (r : List Nat) : ((toks (c :: r)).headD (Str.ofString "")).length ≠ 0 := by
  rw [toks_cons]
  show (List.toArray _).size ≠ 0
  rw [List.size_toArray, List.takeWhile_cons_of_pos (by simp)]
  simp
theorem TokSt.len {I : LIx} {news led : List (Addr × Obj)} {am0 sam0 : Str → Option Value} {tape : Str} {a : Addr} {dn : List Str} {R : List Nat} (ts : TokSt I news led am0 sam0 tape a dn R) : R.length ≤ tape.length + 1 := by
  obtain ⟨_, _, _, _, _, hr, _⟩ := ts.ex
  exact rem_len hr
@[reducible] noncomputable def TokJ (tape : Str) (dn : List Str) (R : List Nat) (T : Str) (n : Nat) : Prop := T.length < 1002 ∧ ((T.length ≠ 0 ∧ n = R.length + 1 ∧ toks tape.cps.toList = dn ++ T :: toks R) ∨ (T = Str.ofString "" ∧ n = R.length ∧ toks tape.cps.toList = dn))
theorem tok_next {tape : Str} {dn : List Str} {R R' : List Nat} (hl : tape.length < 1000) (hR : R.length ≤ tape.length + 1) (hall : toks tape.cps.toList = dn ++ toks R) (h1 : toks R' = (toks R).tail) (h2 : R'.length ≤ R.length - 1) : ∃ n, n ≤ R.length ∧ TokJ tape dn R' ((toks R).headD (Str.ofString "")) n := by
  cases R with
  | nil =>
    refine ⟨R'.length, by simpa using h2, by decide, .inr ⟨rfl, rfl, by simpa [toks, toksF] using hall⟩⟩
  | cons c r =>
    refine ⟨R'.length + 1, by simp only [List.length_cons] at h2 ⊢; omega, ?_, .inl ⟨tok_ne c r, rfl, ?_⟩⟩
    · have := tok_len (c :: r)
      omega
    · rw [hall, h1, toks_cons]
      rfl
inductive TokW (I : LIx) (am0 sam0 : Str → Option Value) (tape : Str) (a : Addr) (news : List (Addr × Obj)) (n : Nat) (m₁ : Str → Option Value) (led : List (Addr × Obj)) : Prop
  | mk (dn : List Str) (R : List Nat) (T : Str) (tT : Tok) (q1 : m₁ (Str.ofString "lexer") = some (.ref I.x)) (q2 : m₁ (Str.ofString "tokens") = some (.ref a)) (q3 : m₁ (Str.ofString "token") = some (.str T tT)) (q4 : TokSt I news led am0 sam0 tape a dn R) (q5 : TokJ tape dn R T n) : TokW I am0 sam0 tape a news n m₁ led
theorem tokens_c {w mean mg mb} {tape : Str} {t : Tok} {news : List (Addr × Obj)} (hl : tape.length < 1000) (hne : tape.cps.toList ≠ []) (hc : ∀ c ∈ tape.cps.toList, c ∈ wl ∨ c ∈ pl) :
    C w mean mg mb 839 12 24 [.str tape t] news (fun r news' => ∃ a vs k, r = .ref a ∧ StrsAre vs (toks tape.cps.toList) ∧ news' = (a, listOf vs.toArray k) :: news) := by
  refine ctr_by [(Str.ofString "tape", .str tape t)] (by k_is) (by k_is) (fun _ _ => BindsTo.of_eq rfl) (locs rfl) (by kernel_rfl) rfl rfl rfl (by decide) ?_
  intro dp un gd outer A₀ base g L h₁ s tk m hm fx z hd hu
  have n1 := hm _ _ (.head _)
  clear hm
  repeat ktd_said "g1"
  refine y_callK ?_
  repeat ktd_said "g1"
  refine y_cwK1 fx (by k_is) ?_
  repeat ktd_said "g1"
  refine y_make fx z (by k_is) (by k_is) (by k_is) (fun x dx => init_c hl) rfl (by omega) (by omega) ?_
  rintro x dx news' h2 tk2 ⟨I, od, oy, am0, sam0, t3, t4, hIb, rfl, rfl, ao, so, lx⟩ z2
  refine y_args ?_
  refine y_list ?_
  refine y_args0 ?_
  refine y_newList z2 (by simp) fun a h3 z3 => ?_
  have ts : TokSt I news ((news ++ lexNews I.x dx I.sx I.sdx I.d0 I.d1 I.qp od oy) ++ [(a, listOf [].toArray 0)]) am0 sam0 tape a [] tape.cps.toList := by
    refine ⟨⟨_, _, 0, [], lx.app, ⟨Nat.zero_le _, .inl ⟨rfl, (remC0 tape).symm⟩⟩, .inr ⟨⟨_, rfl⟩, hne⟩⟩, ?_, hIb, ⟨[], 0, ?_, .nil⟩, hc⟩
    · intro k hk
      rw [List.append_assoc, List.getElem?_append_left hk]
    · rw [List.getElem?_append_right (by simp)]
      simp
  repeat ktd_said "g1"
  refine lx_meth fx (by assumption) lx.app (by k_is) (by k_is) (by k_is) (mset_ne (by decide) (mset_ne (by decide) ao.ngt)) ?_
  repeat ktd_said "g1"
  refine (gt_c ts ao so).use fx (by assumption) rfl (by omega) (by omega) ?_
  rintro r led2 h4 tk4 ⟨⟨tr, rfl⟩, R2, ts2, hR2, hlen2⟩ z4
  repeat ktd_said "g1"
  rename_i h5 z5
  obtain ⟨n0, -, hn0⟩ := tok_next (dn := []) hl ts.len rfl hR2 hlen2
  refine y_while (TokW I am0 sam0 tape a news)
    (n₀ := n0) z5 ⟨[], R2, _, tr, by ktd_said "nm", by ktd_said "nm", by ktd_said "nm", ts2, hn0⟩ ?_
  · rintro n m₁ led h6 tk6 z6 ⟨dn, R, T, tT, e1, e2, e3, ts6, hTl, hcase⟩
    repeat ktd_said "g1"
    rcases hcase with ⟨hT, rfl, hall⟩ | ⟨rfl, rfl, hall⟩
    · refine y_ifHT (by simpa using hT) ?_
      have ts6' := ts6
      obtain ⟨hex, hold, hb, ⟨lv, lk, hlst, hstr⟩, hcc⟩ := ts6'
      have hlv : lv.length < 1000 := by
        have h1 := hstr.length
        have h2 := toks_len tape.cps.toList
        rw [hall] at h2
        have h3 : tape.cps.toList.length = tape.length := by simp; rfl
        simp only [List.length_append, List.length_cons] at h2
        omega
      repeat ktd_said "g1"
      refine v_meth z6 (List.mem_of_getElem? hlst) PySem.F.slot_list_append PySem.F.type_list_append ?_
      repeat ktd_said "g1"
      refine v_appendI z6 hlst (by omega) fun h7 z7 => ?_
      have ts7 : TokSt I news (led.set (news.length + 7) (a, listOf (lv ++ [Value.str T tT]).toArray (lk + 1))) am0 sam0 tape a (dn ++ [T]) R := by
        obtain ⟨sv, t5, p5, vs5, lx5, hr5, hsv5⟩ := hex
        refine ⟨⟨sv, t5, p5, vs5, ?_, hr5, hsv5⟩, fun k hk => (set_off (by omega) rfl).trans (hold k hk), hb, ⟨_, _, set_at hlst, strs_snoc hstr⟩, hcc⟩
        rw [← hb]
        exact lx5.setO
      obtain ⟨sv, t5, p5, vs5, lx5, hr5, hsv5⟩ := ts7.ex
      repeat ktd_said "g1"
      refine lx_meth fx z7 lx5 (by k_is) (by k_is) (by k_is) (mset_ne (by decide) (mset_ne (by decide) ao.ngt)) ?_
      repeat ktd_said "g1"
      refine (gt_c ts7 ao so).use fx z7 rfl (by omega) (by omega) ?_
      rintro r led3 h8 tk8 ⟨⟨tr8, rfl⟩, R8, ts8, hR8, hlen8⟩ z8
      repeat ktd_said "g1"
      obtain ⟨n8, hn8, hj8⟩ := tok_next (dn := dn ++ [T]) hl ts7.len (by rw [hall]; simp) hR8 hlen8
      refine y_nil (loop_next (by assumption) (n' := n8) (by omega) ⟨_, R8, _, tr8, by ktd_said "nm", by ktd_said "nm", by ktd_said "nm", ts8, hj8⟩)
    · refine y_ifHF rfl ?_
      obtain ⟨hex, hold, hb, ⟨lv, lk, hlst, hstr⟩, hcc⟩ := ts6
      repeat ktd_said "g1"
      refine done_ret ((z6.sublist (sub_of hold hlst)).perm List.perm_append_comm) ⟨a, lv, lk, rfl, ?_, rfl⟩
      rw [hall]
      exact hstr
/-! text W0 -/
noncomputable def fmS (mode : Int) : Str := Txt.join (Str.ofString "") (fmAll mode)
noncomputable def lvls (n : Int) : List Int := (List.range 6).map fun (l : Nat) => levelOf n (l : Int)
noncomputable def rowsL (n : Int) : List Str := (lvls n).map fmS
noncomputable def nums (ns : List Int) : List Int := [14, 16, 8] ++ ((ns.drop 1).take 6).map (· % 24) ++ [6, 14, 23, 3]
noncomputable def sgns : List Str := [Str.ofString "<", Str.ofString ">", Str.ofString "<>", Str.ofString "><"]
noncomputable def dls : List Int := [1, -1, 0, 0]
noncomputable def deedOf (held number : Int) : Nat := if number % 4 = 1 ∧ held < 2 then 0 else (number % 4).toNat
noncomputable def pcStep (st : Int × List (Str × Int)) (number : Int) : Int × List (Str × Int) := (st.1 + dls.getD (deedOf st.1 number) 0, st.2 ++ [(sgns.getD (deedOf st.1 number) (Str.ofString ""), number / 4)])
noncomputable def pcSt (ns : List Int) : Int × List (Str × Int) := (nums ns).foldl pcStep (0, [])
noncomputable def pcsOf (ns : List Int) : List (Str × Int) := (pcSt ns).2 ++ [(Txt.mul (Str.ofString ">") (pcSt ns).1, 0)]
noncomputable def pcTxt (rows : List Str) (p : Str × Int) : Str := p.1 ++ (if Txt.contains p.1 (Str.ofString "<") = true then rows.getD p.2.toNat (Str.ofString "") else Str.ofString "")
noncomputable def tapeOf (n : Int) (ns : List Int) : Str := Txt.join (Str.ofString "") ((pcsOf ns).map (pcTxt (rowsL n)))
noncomputable def tokensOf (n : Int) (ns : List Int) : List Str := toks (tapeOf n ns).cps.toList ++ (rowsL n).take 1
/-- one turn of the law's last loop -/
structure Turn (n : Int) (run row : Str) (a b : List Int × List Int) : Prop where
  ex : ∃ (last : Str) (tl : List Str) (k j : Nat), ends4.filter (Txt.endswith run) = last :: tl ∧ run.length = k + last.length ∧ run.length < 1000 ∧ k ≤ a.1.length ∧ a.1.length < 100 ∧ (last = Str.ofString "><" → k < a.1.length) ∧
    (rowsL n)[j]? = some row ∧ (∀ i y, i < j → (rowsL n)[i]? = some y → (y == row) = false) ∧ b = ((goneF last k a.1 ((lvls n).getD j 0)).2, a.2 ++ (goneF last k a.1 ((lvls n).getD j 0)).1)
structure Plan (n : Int) (ns : List Int) : Prop where
  held : ∃ k : Nat, (pcSt ns).1 = (k : Int) ∧ k < 40
  pcs : ∀ p ∈ pcsOf ns, p.1.length < 50 ∧ p.1.cps.all (· < 128) = true
  lvl : ∀ p ∈ pcsOf ns, 0 ≤ p.2 ∧ p.2 < 6
  pcsL : (pcsOf ns).length < 50
  fmOk : ∀ mode : Int, (fmS mode).cps.all (· < 0x110000) = true
  tapeS : (((pcsOf ns).map (pcTxt (rowsL n))).map (·.length)).sum < 1000
  rowL : ∀ r ∈ rowsL n, r.length < 100
  tapeL : (tapeOf n ns).length < 1000
  tapeN : (tapeOf n ns).cps.toList ≠ []
  tapeC : ∀ c ∈ (tapeOf n ns).cps.toList, c ∈ wl ∨ c ∈ pl
  turns : ∃ (N : Nat) (st : Nat → List Int × List Int), (tokensOf n ns).length = 2 * N ∧ N < 500 ∧ st 0 = ([], []) ∧ (∀ j, j < N → ∃ run row, (tokensOf n ns)[2 * j]? = some run ∧ (tokensOf n ns)[2 * j + 1]? = some row ∧ Turn n run row (st j) (st (j + 1))) ∧
    (∀ j, j ≤ N → (st j).2.length < 1000) ∧ (st N).1 = [] ∧ (st N).2.map fmS = (tellAll (kindOf n).toNat (waitsOf n) (pcsOf ns)).2
/-! text W2 -/
theorem g_if {M : Model} {A : Around} {E : Value → Shared → Prop} {s : Shared} {env : Env} {a b c : Expr} {p : Pos} {Q : Value → Shared → Prop} (k : wpAny M A (eval (.IfExp a b c p) env) Q E s) : wpAny M A (eval (.IfExp a b c p) env) Q E s := k
theorem pcs_len : ∀ (l : List Int) (st : Int × List (Str × Int)), (l.foldl pcStep st).2.length = st.2.length + l.length
  | [], _ => rfl
  | x :: r, st => by
    rw [List.foldl_cons, pcs_len r]
    simp [pcStep]
    omega
theorem y_iaddI {prog : Program} {w : World} {A : Around} {E : Value → Shared → Prop} {s : Shared} {h : Heap} {tk : Nat} {a b : Int} {t u : Tok} {Q : Value → Shared → Prop} (k : Q (.int (a + b) tk) (St s h (tk + 1))) : wpAny (model prog w) A (inplaceOp .Add (.int a t) (.int b u)) Q E (St s h tk) := PyProof.Rows.iadd_int (s := St s h tk) k
theorem y_addS {prog : Program} {w : World} {A : Around} {E : Value → Shared → Prop} {s : Shared} {h : Heap} {tk : Nat} {x y : Str} {t u : Tok} {Q : Value → Shared → Prop} (hsz : x.length + y.length ≤ 100000) (kk : ∀ t' tk', Q (.str (x ++ y) t') (St s h tk')) : wpAny (model prog w) A (binaryOp .Add (.str x t) (.str y u)) Q E (St s h tk) := SB.add (s := St s h tk) (fun t' k => kk t' k) (by rw [sizeLine_eq]; omega)
theorem strs_append {a b : List Value} {x y : List Str} (h : StrsAre a x) (g : StrsAre b y) : StrsAre (a ++ b) (x ++ y) := by
  induction h with
  | nil => exact g
  | cons s t r ih => exact .cons s t ih
theorem strs_take1 {a : List Value} {x : List Str} (h : StrsAre a x) : StrsAre (a.take 1) (x.take 1) := by
  cases h with
  | nil => exact .nil
  | cons s t r => exact .cons s t .nil
theorem dl_get {d : Nat} (h : d < 4) (t1 t2 t3 t4 : Tok) : ∃ t, ([Value.int 1 t1, .int (-1) t2, .int 0 t3, .int 0 t4] : List Value)[d]? = some (.int (dls.getD d 0) t) := by
  match d, h with
  | 0, _ => exact ⟨_, rfl⟩
  | 1, _ => exact ⟨_, rfl⟩
  | 2, _ => exact ⟨_, rfl⟩
  | 3, _ => exact ⟨_, rfl⟩
theorem sg_get {d : Nat} (h : d < 4) (t1 t2 t3 t4 : Tok) : ∃ t, ([Value.str (Str.ofString "<") t1, .str (Str.ofString ">") t2, .str (Str.ofString "<>") t3, .str (Str.ofString "><") t4] : List Value)[d]? = some (.str (sgns.getD d (Str.ofString "")) t) := by
  match d, h with
  | 0, _ => exact ⟨_, rfl⟩
  | 1, _ => exact ⟨_, rfl⟩
  | 2, _ => exact ⟨_, rfl⟩
  | 3, _ => exact ⟨_, rfl⟩
theorem deed_lt (held number : Int) : deedOf held number < 4 := by
  unfold deedOf
  split <;> omega
theorem PcIn.snoc {news : List (Addr × Obj)} {vs : List Value} {ps : List (Str × Int)} (h : PcIn news vs ps) {a : Addr} {x : Str} {l : Int} {t u : Tok} : PcIn ((a, tupOf [.str x t, .int l u]) :: news) (vs ++ [.ref a]) (ps ++ [(x, l)]) := by
  induction h with
  | nil => exact .cons (.head _) .nil
  | cons ha r ih => exact .cons (.tail _ ha) ih
theorem y_un3 {prog : Program} {w : World} {A : Around} {s : Shared} {h₀ h : Heap} {L : Addr} {m : Str → Option Value} {news : List (Addr × Obj)} {E : Value → Shared → Prop} {tk : Nat} {env : Env} {pos : Pos} {t1 t2 t3 : Expr} {c : Nat} {v1 v2 v3 : Value} {T : Addr} {Q : Unit → Shared → Prop} (z : Z h₀ L h m news) (hT : h.IsTuple T #[v1, v2, v3]) (hh : A.handled = none)
    (kk : ∀ h', Z h₀ L h' m news → wpAny (model prog w) A (assign t1 env v1) (fun _ s₁ => wpAny (model prog w) A (assign t2 env v2) (fun _ s₂ => wpAny (model prog w) A (assign t3 env v3) Q E s₂) E s₁) E (St s h' tk))
    (he : assignEach [t1, t2, t3] env = [(false, assign t1 env), (false, assign t2 env), (false, assign t3 env)] := by kernel_rfl) :
    wpAny (model prog w) A (assign (.Tuple [t1, t2, t3] c pos) env (.ref T)) Q E (St s h tk) := by
  refine unpackN_ (s := St s h tk) z.F z.N hT hh (by rw [he]; rfl) (by rw [he]; rfl) fun h' F' N' => ?_
  rw [he]
  refine assignInOrder_cons (wpAny_mono (kk h' ⟨F', N', z.nd⟩) (fun _ s₁ h₁ => ?_) fun _ _ x => x)
  refine assignInOrder_cons (wpAny_mono h₁ (fun _ s₂ h₂ => ?_) fun _ _ x => x)
  exact assignInOrder_cons (wpAny_mono h₂ (fun _ s₃ h₃ => assignInOrder_nil h₃) fun _ _ x => x)
theorem Z.turn {h₀ h : Heap} {L : Addr} {m : Str → Option Value} {p x y a b c d e f : Addr × Obj} {tups its : List (Addr × Obj)} (z : Z h₀ L h m (p :: x :: y :: a :: b :: c :: d :: e :: f :: (tups ++ its))) : Z h₀ L h m ((a :: b :: c :: d :: e :: f :: (p :: tups)) ++ its) := by
  have z1 : Z h₀ L h m (p :: ([a, b, c, d, e, f] ++ (tups ++ its))) := z.sublist (.cons_cons _ (.cons _ (.cons _ (List.Sublist.refl _))))
  have z2 : Z h₀ L h m ([a, b, c, d, e, f] ++ p :: (tups ++ its)) := z1.perm List.perm_middle.symm
  exact z2
theorem Z.mid {h₀ h : Heap} {L : Addr} {m : Str → Option Value} {p x a b c d e : Addr × Obj} {tups : List (Addr × Obj)} (z : Z h₀ L h m (p :: x :: a :: b :: c :: d :: e :: tups)) : Z h₀ L h m (a :: b :: c :: d :: e :: p :: tups) := by
  have z1 : Z h₀ L h m (p :: ([a, b, c, d, e] ++ tups)) := z.sublist (.cons_cons _ (.cons _ (List.Sublist.refl _)))
  have z2 : Z h₀ L h m ([a, b, c, d, e] ++ p :: tups) := z1.perm List.perm_middle.symm
  exact z2
theorem head_int {vs : List Value} {ns : List Int} {u : Tok} (hi : IntsAre vs ns) : ∃ t, (vs ++ [Value.int 0 u])[0]? = some (.int (ns.headD 0) t) := by
  cases hi with
  | nil => exact ⟨_, rfl⟩
  | cons i t r => exact ⟨_, rfl⟩
theorem Z.isL {h₀ h : Heap} {L q : Addr} {m : Str → Option Value} {news : List (Addr × Obj)} {vs : List Value} {k : Nat} (z : Z h₀ L h m news) (hm : (q, listOf vs.toArray k) ∈ news) : h.IsList q vs.toArray := ⟨_, (z.N _ hm).1, rfl, k, rfl⟩
theorem Z.isL0 {h₀ h : Heap} {L q : Addr} {m : Str → Option Value} {news : List (Addr × Obj)} {vs : List Value} (z : Z h₀ L h m news) (hl : h₀.IsList q vs.toArray) : h.IsList q vs.toArray := by
  obtain ⟨o, ho, r⟩ := hl
  exact ⟨o, z.F.keep _ _ ho, r⟩
theorem PcIn.mono {news news' : List (Addr × Obj)} {vs : List Value} {ps : List (Str × Int)} (h : PcIn news vs ps) (hs : ∀ p ∈ news, p ∈ news') : PcIn news' vs ps := by
  induction h with
  | nil => exact .nil
  | cons ha r ih => exact .cons (hs _ ha) ih
inductive TailJ (n : Int) (tkk : Tok) (wa la pc tka qa ra L : Addr) (tv pvv rv lv wv : List Value) (pkk lk : Nat) (o2 : Obj) (TS : List (Addr × Obj)) (stt : Nat → List Int × List Int) (i : Nat) (m₂ : Str → Option Value) (news₂ : List (Addr × Obj)) : Prop
  | mk (gv : List Value) (gk : Nat) (o' : Obj) (ga' : Addr) (q1 : m₂ (Str.ofString "kind") = some (.int (kindOf n) tkk)) (q2 : m₂ (Str.ofString "waits") = some (.ref wa)) (q3 : m₂ (Str.ofString "levels") = some (.ref la)) (q4 : m₂ (Str.ofString "pieces") = some (.ref pc)) (q5 : m₂ (Str.ofString "tokens") = some (.ref tka)) (q6 : m₂ (Str.ofString "queue") = some (.ref qa)) (q7 : m₂ (Str.ofString "gone") = some (.ref ga')) (q8 : news₂ = (ga', listOf gv.toArray gk) :: (qa, o') :: (tka, listOf tv.toArray 0) :: (pc, listOf pvv.toArray pkk) :: (ra, lstO rv) :: (la, listOf lv.toArray lk) :: (wa, lstO wv) :: (L + 1, o2) :: TS) (q9 : IntsAre gv (stt i).2) (q10 : LI (stt i).1 o') : TailJ n tkk wa la pc tka qa ra L tv pvv rv lv wv pkk lk o2 TS stt i m₂ news₂
inductive LawQ (g : Heap) (s : Shared) (fl : Flow) (s' : Shared) : Prop
  | mk (e : fl = .ret (.bool true)) (h' : Heap) (tk' : Nat) (e2 : s' = St s h' tk') (keep : ∀ b o, g.get? b = some o → h'.get? b = some o) : LawQ g s fl s'
theorem law_tail {w mean mg mb} {n : Int} {ns : List Int} (P : Plan n ns)
    {name qual : Str} {params : Arguments} {body : List Stmt} {scope : Scope} {dV kV doc pm cdv ct oc : Value} {an od : Option Addr} {osl : Array (Option Value)}
    (ho : (Mine.hd.heap_1 w.params).lookup 849 = some ⟨oc, od, .func (fnOf name qual params body scope dV kV doc pm an cdv ct), osl⟩)
    {dp un : Nat} {gd : Option (List Code)} {outer : List Env} {A₀ : Around} {base g : Heap} {L : Addr} {h : Heap} {s : Shared} {tk : Nat} {m : Str → Option Value} {cdx : Value} {f : Addr} {o2 : Obj} (hd : dp ≤ 350) (hu : un ≤ 350)
    (fx : Fix (Mine.hd.heap_1 w.params) Mine.vw LO mean mg mb A₀ base outer g)
    {pc ra la wa tka qa ga : Addr} {pvv rv lv wv tv : List Value} {pkk lk : Nat} {tkk : Tok} {TS : List (Addr × Obj)}
    (l1 : ([(Str.ofString "rows", L + 1)] : List (Str × Addr)).lookup (Str.ofString "rows") = some (L + 1)) (d2 : o2.data = .cell (some (.ref ra)))
    (hpc2 : PcIn TS pvv (pcsOf ns)) (hpvv : pvv.length < 100) (hrv : StrsAre rv (rowsL n)) (hlv : IntsAre lv (lvls n)) (hwv : IntsAre wv (waitsOf n)) (htk : StrsAre tv (tokensOf n ns))
    (e1 : m (Str.ofString "kind") = some (.int (kindOf n) tkk)) (e2 : m (Str.ofString "waits") = some (.ref wa)) (e3 : m (Str.ofString "levels") = some (.ref la)) (e4 : m (Str.ofString "pieces") = some (.ref pc))
    (e5 : m (Str.ofString "tokens") = some (.ref tka)) (e6 : m (Str.ofString "queue") = some (.ref qa)) (e7 : m (Str.ofString "gone") = some (.ref ga))
    (z : Z g L h m ((ga, listOf #[] 0) :: (qa, listOf #[] 0) :: (tka, listOf tv.toArray 0) :: (pc, listOf pvv.toArray pkk) :: (ra, lstO rv) :: (la, listOf lv.toArray lk) :: (wa, lstO wv) :: (L + 1, o2) :: TS)) :
    wpAny (model PR w) (ktrTop dp un gd qual scope L f cdx [(Str.ofString "rows", L + 1)] outer) (execs (body.drop 8) (envX qual scope L f cdx [(Str.ofString "rows", L + 1)])) (LawQ g s) (fun _ _ => False) (St s h tk) := by
  rw [show (Mine.hd.heap_1 w.params).lookup 849 = some _ from by k_is] at ho
  cases ho
  simp only [List.drop]
  obtain ⟨N, stt, hN, hNl, hst0, hturn, hgl, hqN, htold⟩ := P.turns
  have hkl2 : tv.length = 2 * N := by rw [htk.length, hN]
  have hrl : (rowsL n).length = 6 := by simp [rowsL, lvls]
  refine y_forAt z ?_
  repeat ktd_said "w1"
  refine v_len z (by ktd_said "mem") (by omega) fun tl => ?_
  repeat ktd_said "w1"
  refine it_range2 (n := N) z (by omega) (by omega) rfl fun it5 h48 tk48 z48 S48 => ?_
  refine ⟨h48, _, _, _, _, _, _, (TailJ n tkk wa la pc tka qa ra L tv pvv rv lv wv pkk lk o2 TS stt), rfl, z48, S48 _,
    ⟨[], 0, _, ga, e1, e2, e3, e4, e5, e6, e7, rfl, by rw [hst0]; exact .nil, by rw [hst0]; exact ⟨[], 0, rfl, .nil⟩⟩, ?_, ?_, ?_⟩
  · rintro i m₂ news₂ _ p hp
    cases hp
  · rintro i v m₂ news₂ its h49 tk49 hi49 ⟨tv49, rfl⟩ ⟨gv, gk, o', ga', f1, f2, f3, f4, f5, f6, f7, rfl, hgv, hLI⟩ z49
    replace z49 : Z g L h49 m₂ ((ga', listOf gv.toArray gk) :: (qa, o') :: (tka, listOf tv.toArray 0) :: (pc, listOf pvv.toArray pkk) :: (ra, lstO rv) :: (la, listOf lv.toArray lk) :: (wa, lstO wv) :: (L + 1, o2) :: (TS ++ its)) := z49
    obtain ⟨run, row, hrun, hrow, ⟨last, tl', k, j, hlast, hkl', hrl', hkx, hxl, hrep, hj, hno, hb⟩⟩ := hturn i hi49
    obtain ⟨tr1, htr1⟩ := htk.get _ _ hrun
    obtain ⟨tr2, htr2⟩ := htk.get _ _ hrow
    repeat ktd_said "w1"
    refine v_item (by assumption) (by ktd_said "mem") (by omega) (by omega) (v := .str run tr1) (by rw [show (2 * (i : Int)).toNat = 2 * i by omega]; exact htr1) ?_
    repeat ktd_said "w1"
    rename_i h50 z50
    refine v_meth (by assumption) (by ktd_said "mem") PySem.F.slot_list_index PySem.F.type_list_index ?_
    repeat ktd_said "w1"
    refine v_item (by assumption) (by ktd_said "mem") (by omega) (by omega) (v := .str row tr2) (by rw [show (2 * (i : Int) + 1).toNat = 2 * i + 1 by omega]; exact htr2) ?_
    repeat ktd_said "w1"
    have hjl : j < (rowsL n).length := (List.getElem?_eq_some_iff.mp hj).1
    refine v_index (by assumption) (by ktd_said "mem") hrv hjl hj hno (by omega) fun tj => ?_
    repeat ktd_said "w1"
    have hll : (lvls n).length = 6 := by simp [lvls]
    obtain ⟨tm, htm⟩ := ints_get hlv (i := j) (by omega)
    refine v_item (by assumption) (by ktd_said "mem") (by omega) (by omega) (by rw [Int.toNat_natCast]; exact htm) ?_
    repeat ktd_said "w1"
    refine (gone_c hLI hrl' hlast hkl' hkx hxl hrep).use fx (z50.perm (List.Perm.swap _ _ _)) rfl (by omega) (by omega) ?_
    rintro r news' h51 tk51 ⟨gb, gw, gwk, o3, rfl, rfl, hgw, hLI3⟩ z51
    repeat ktd_said "w1"
    have hg1 := hgl (i + 1) hi49
    have hg2 : (stt (i + 1)).2 = (stt i).2 ++ (goneF last k (stt i).1 ((lvls n).getD j 0)).1 := by rw [hb]
    have hg3 : (stt (i + 1)).1 = (goneF last k (stt i).1 ((lvls n).getD j 0)).2 := by rw [hb]
    have hgwl : gv.length + gw.length < 1000 := by
      rw [hgv.length, hgw.length, ← List.length_append, ← hg2]; exact hg1
    refine v_add z51 (Z.isL z51 (by ktd_said "mem")) (Z.isL z51 (by ktd_said "mem")) (by omega) fun gc h52 z52 => ?_
    repeat ktd_said "w1"
    rename_i h53 z53
    have z54 := z53.sublist (news' := (gc, listOf (gv ++ gw).toArray 0) :: (qa, o3) :: (tka, listOf tv.toArray 0) :: (pc, listOf pvv.toArray pkk) :: (ra, lstO rv) :: (la, listOf lv.toArray lk) :: (wa, lstO wv) :: (L + 1, o2) :: (TS ++ its)) (by ktd_said "sub")
    refine y_nil (for_next (news := (gc, listOf (gv ++ gw).toArray 0) :: (qa, o3) :: (tka, listOf tv.toArray 0) :: (pc, listOf pvv.toArray pkk) :: (ra, lstO rv) :: (la, listOf lv.toArray lk) :: (wa, lstO wv) :: (L + 1, o2) :: TS) z54 ⟨_, _, _, _, by ktd_said "nm", by ktd_said "nm", by ktd_said "nm", by ktd_said "nm", by ktd_said "nm", by ktd_said "nm", by ktd_said "nm", rfl, by rw [hg2]; exact hgv.append hgw, by rw [hg3]; exact hLI3⟩)
  · rintro m₂ news₂ h49 tk49 z49 ⟨gv, gk, o', ga', f1, f2, f3, f4, f5, f6, f7, rfl, hgv, hLI⟩
    repeat ktd_said "w1"
    refine BoolOp_and ?_
    repeat ktd_said "w1"
    refine wpAny_Compare1 ?_ (by kernel_rfl)
    repeat ktd_said "w1"
    rename_i ea h52 z52
    obtain ⟨qv, qk, rfl, hqv⟩ := hLI
    have hqe : (stt N).1 = [] := hqN
    refine v_eqInts z52 (by ktd_said "mem") (by ktd_said "mem") hqv .nil (show un + 64 < 9900 by omega) ?_
    rw [hqe]
    repeat ktd_said "w1"
    refine BoolOp_one ?_
    refine wpAny_Compare1 ?_ (by kernel_rfl)
    refine y_comp (cl := []) z52 ?_
    repeat ktd_said "w1"
    refine it_list z52 (by ktd_said "mem") rfl fun it6 h53 z53 S53 => ?_
    refine ⟨h53, _, _, _, _, _, _, fun i ys => StrsAre ys (((stt N).2.map fmS).take i), rfl, z53, S53 _, ?_, by have := hgl N (Nat.le_refl _); have := hgv.length; omega, .nil, ?_, ?_⟩
    · intro p hp
      rw [List.mem_singleton.mp hp]
      ktd_said "mem"
    · rintro i v ys C oC mc its h54 tk54 hi54 hv54 hJ hC z54
      replace z54 : Z g L h54 _ ((C, oC) :: (ea, listOf #[] 0) :: (ga', listOf gv.toArray gk) :: (qa, listOf qv.toArray qk) :: (tka, listOf tv.toArray 0) :: (pc, listOf pvv.toArray pkk) :: (ra, lstO rv) :: (la, listOf lv.toArray lk) :: (wa, lstO wv) :: (L + 1, o2) :: (TS ++ its)) := z54
      obtain ⟨md, tmd, rfl, hmd⟩ := ints_at hgv hv54
      repeat ktd_said "w1"
      rename_i h55 oC55 hC55 z55
      refine (fmode_c).use fx z55 rfl (by omega) (by omega) ?_
      rintro r news' h56 tk56 ⟨⟨tr, rfl⟩, rfl⟩ z56
      refine c_end z56 hC55 ?_
      dsimp only
      rw [take_snoc (x := fmS md) (by rw [List.getElem?_map, hmd]; rfl)]
      exact strs_snoc hJ
    · intro fv fa C oC mc h54 tk54 hJ hC z54
      refine fin_v hC z54 fun h55 z55 => ?_
      have hfv : StrsAre fv ((stt N).2.map fmS) := by
        have e : ((stt N).2.map fmS).take gv.length = (stt N).2.map fmS := List.take_of_length_le (by rw [hgv.length, List.length_map]; exact Nat.le_refl _)
        rw [← e]; exact hJ
      clear hJ
      repeat ktd_said "w1"
      have hkd : kindOf n = ((kindOf n).toNat : Int) := by
        have : 0 ≤ kindOf n := by unfold kindOf; omega
        omega
      have hk16 : (kindOf n).toNat < 16 := by
        have : kindOf n < 16 := by unfold kindOf; omega
        omega
      rw [hkd]
      have hpc3 : PcIn ((fa, lstO fv) :: (ea, listOf #[] 0) :: (ga', listOf gv.toArray gk) :: (qa, listOf qv.toArray qk) :: (tka, listOf tv.toArray 0) :: (pc, listOf pvv.toArray pkk) :: (ra, lstO rv) :: (la, listOf lv.toArray lk) :: (wa, lstO wv) :: (L + 1, o2) :: TS) pvv (pcsOf ns) :=
        hpc2.mono fun p hp => .tail _ (.tail _ (.tail _ (.tail _ (.tail _ (.tail _ (.tail _ (.tail _ (.tail _ (.tail _ hp)))))))))
      refine (told_c hk16 (wk := wv.length) (by ktd_said "mem") hwv (by simp [waitsOf]) (by ktd_said "mem") hpc3 P.pcsL P.pcs).use fx z55 rfl (by omega) (by omega) ?_
      rintro r news' h56 tk56 ⟨xa, xv, xk, rfl, rfl, hxv⟩ z56
      have hok : ∀ x ∈ (stt N).2.map fmS, PyData.canLay0 (.str x) = true := by
        intro x hx
        obtain ⟨md, _, rfl⟩ := List.mem_map.mp hx
        have := P.fmOk md
        simpa [PyData.canLay0, PyData.strOk] using this
      refine v_eqStrs z56 (by ktd_said "mem") (by ktd_said "mem") hfv hxv hok (by rw [← htold]; exact hok) (show un + 64 < 9900 by omega) ?_
      rw [decide_eq_true htold]
      exact ⟨rfl, _, _, rfl, z56.F.keep⟩
/-! text W3 -/
theorem law_mid {w mean mg mb} {n : Int} {ns : List Int} (P : Plan n ns)
    {name qual : Str} {params : Arguments} {body : List Stmt} {scope : Scope} {dV kV doc pm cdv ct oc : Value} {an od : Option Addr} {osl : Array (Option Value)}
    (ho : (Mine.hd.heap_1 w.params).lookup 849 = some ⟨oc, od, .func (fnOf name qual params body scope dV kV doc pm an cdv ct), osl⟩)
    {dp un : Nat} {gd : Option (List Code)} {outer : List Env} {A₀ : Around} {base g : Heap} {L : Addr} {h : Heap} {s : Shared} {tk : Nat} {m : Str → Option Value} {cdx : Value} {f : Addr} {o2 : Obj} (hd : dp ≤ 350) (hu : un ≤ 350)
    (fx : Fix (Mine.hd.heap_1 w.params) Mine.vw LO mean mg mb A₀ base outer g)
    {pc ra la wa b4 : Addr} {pv rv lv wv nv : List Value} {pk lk : Nat} {tkk th : Tok} {tups : List (Addr × Obj)}
    (l1 : ([(Str.ofString "rows", L + 1)] : List (Str × Addr)).lookup (Str.ofString "rows") = some (L + 1)) (d2 : o2.data = .cell (some (.ref ra)))
    (hpc : PcIn tups pv (pcSt ns).2) (hpvl : pv.length < 50) (hrv : StrsAre rv (rowsL n)) (hlv : IntsAre lv (lvls n)) (hwv : IntsAre wv (waitsOf n))
    (e1 : m (Str.ofString "kind") = some (.int (kindOf n) tkk)) (e2 : m (Str.ofString "waits") = some (.ref wa)) (e3 : m (Str.ofString "levels") = some (.ref la)) (e4 : m (Str.ofString "pieces") = some (.ref pc)) (e5 : m (Str.ofString "held") = some (.int (pcSt ns).1 th))
    (z27 : Z g L h m ((b4, listOf nv.toArray 0) :: (pc, listOf pv.toArray pk) :: (ra, lstO rv) :: (la, listOf lv.toArray lk) :: (wa, lstO wv) :: (L + 1, o2) :: tups)) :
    wpAny (model PR w) (ktrTop dp un gd qual scope L f cdx [(Str.ofString "rows", L + 1)] outer) (execs (body.drop 4) (envX qual scope L f cdx [(Str.ofString "rows", L + 1)])) (LawQ g s) (fun _ _ => False) (St s h tk) := by
  rw [show (Mine.hd.heap_1 w.params).lookup 849 = some _ from by k_is] at ho
  cases ho
  simp only [List.drop]
  obtain ⟨kh, hkh, hkl⟩ := P.held
  repeat ktd_said "w1"
  refine y_mulS hkh (by kernel_rfl) (by omega) fun tm tkm => ?_
  repeat ktd_said "w1"
  refine y_newTupF (by assumption) (by simp) fun tp h30 z30 => ?_
  repeat ktd_said "w1"
  try dsimp only
  repeat ktd_said "w1"
  rename_i h31 z31
  have z32 := Z.mid z31
  obtain ⟨pvv, pkk, TS, hpc2, hpvv, z33⟩ : ∃ (pvv : List Value) (pkk : Nat) (TS : List (Addr × Obj)), PcIn TS pvv (pcsOf ns) ∧ pvv.length < 100 ∧ Z g L h31 m ((pc, listOf pvv.toArray pkk) :: (ra, lstO rv) :: (la, listOf lv.toArray lk) :: (wa, lstO wv) :: (L + 1, o2) :: TS) := by
    refine ⟨_, _, _, ?_, ?_, z32⟩
    · exact hpc.snoc
    · rw [List.length_append]
      simp only [List.length_singleton]
      omega
  clear z32 z31 z30 z27
  refine y_comp (cl := [(Str.ofString "rows", L + 1)]) z33 ?_
  repeat ktd_said "w1"
  refine it_list z33 (by ktd_said "mem") rfl fun it4 h34 z34 S34 => ?_
  refine ⟨h34, _, _, _, _, _, _, fun i ys => StrsAre ys (((pcsOf ns).map (pcTxt (rowsL n))).take i), rfl, z34, S34 _, ?_, by omega, .nil, ?_, ?_⟩
  · intro p hp
    rw [List.mem_singleton.mp hp]
    ktd_said "mem"
  · rintro i v ys C oC mc its h35 tk35 hi35 hv35 hJ hC z35
    replace z35 : Z g L h35 _ ((C, oC) :: (pc, listOf pvv.toArray pkk) :: (ra, lstO rv) :: (la, listOf lv.toArray lk) :: (wa, lstO wv) :: (L + 1, o2) :: (TS ++ its)) := z35
    obtain ⟨pa, px, pl, pt, pu, rfl, hpx, hma⟩ := hpc2.get hv35
    repeat ktd_said "w1"
    refine y_un2 z35 ⟨_, (z35.N _ (.tail _ (.tail _ (.tail _ (.tail _ (.tail _ (.tail _ (List.mem_append_left _ hma)))))))).1, rfl, 0, rfl⟩ rfl fun h36 z36 => ?_
    repeat ktd_said "w1"
    rename_i h37 oC37 hC37 z37
    have hpxi : ((pcsOf ns).map (pcTxt (rowsL n)))[i]? = some (pcTxt (rowsL n) (px, pl)) := by rw [List.getElem?_map, hpx]; rfl
    obtain ⟨hp0, hp6⟩ := P.lvl _ (List.mem_of_getElem? hpx)
    have hpl := (P.pcs _ (List.mem_of_getElem? hpx)).1
    replace hp0 : 0 ≤ pl := hp0
    replace hp6 : pl < 6 := hp6
    replace hpl : px.length < 50 := hpl
    refine y_splitB (fun c1 => ?_) (fun c1 => ?_)
    · repeat ktd_said "w1"
      have hrl : (rowsL n).length = 6 := by simp [rowsL, lvls]
      obtain ⟨row, hrow⟩ : ∃ row, (rowsL n)[pl.toNat]? = some row := ⟨_, List.getElem?_eq_getElem (by omega)⟩
      obtain ⟨tr, htr⟩ := hrv.get _ _ hrow
      have hrw := P.rowL row (List.mem_of_getElem? hrow)
      refine v_item z37 (by ktd_said "mem") hp0 (by omega) htr ?_
      refine y_addS (by omega) fun t40 tk40 => ?_
      refine c_end z37 hC37 ?_
      dsimp only
      have e : pcTxt (rowsL n) (px, pl) = px ++ row := by
        unfold pcTxt
        rw [if_pos (by simpa using c1), List.getD_eq_getElem?_getD, hrow]; rfl
      rw [take_snoc hpxi, e]
      exact strs_snoc hJ
    · repeat ktd_said "w1"
      refine y_addS (by show px.length + 0 ≤ _; omega) fun t40 tk40 => ?_
      refine c_end z37 hC37 ?_
      dsimp only
      have e : pcTxt (rowsL n) (px, pl) = px ++ Str.ofString "" := by
        unfold pcTxt
        rw [if_neg (by simpa using c1)]
      rw [take_snoc hpxi, e]
      exact strs_snoc hJ
  · intro tv ta' C oC mc h35 tk35 hJ hC z35
    refine fin_v hC z35 fun h36 z36 => ?_
    have htv : StrsAre tv ((pcsOf ns).map (pcTxt (rowsL n))) := by
      have e : ((pcsOf ns).map (pcTxt (rowsL n))).take pvv.length = (pcsOf ns).map (pcTxt (rowsL n)) := List.take_of_length_le (by rw [hpc2.len, List.length_map]; exact Nat.le_refl _)
      rw [← e]; exact hJ
    clear hJ
    repeat ktd_said "w1"
    refine v_join z36 (by ktd_said "mem") htv (by have := P.tapeS; simp only [show (Str.ofString "").length = 0 from rfl, Nat.mul_zero]; omega) fun tj tkj => ?_
    repeat ktd_said "w1"
    rename_i h37 z37
    refine (tokens_c P.tapeL P.tapeN P.tapeC).use fx z37 rfl (by omega) (by omega) ?_
    rintro r news' h38 tk38 ⟨ka, kv, kk, rfl, hkv, rfl⟩ z38
    repeat ktd_said "w1"
    refine v_slice1 z38 (Z.isL z38 (by ktd_said "mem")) (by rw [hrv.length]; simp [rowsL, lvls]) fun sa h39 z39 => ?_
    repeat ktd_said "w1"
    have hrl : (rowsL n).length = 6 := by simp [rowsL, lvls]
    have htk : StrsAre (kv ++ rv.take 1) (tokensOf n ns) := strs_append hkv (strs_take1 hrv)
    obtain ⟨N, stt, hN, hNl, hst0, hturn, hgl, hqN, htold⟩ := P.turns
    have hkl2 : (kv ++ rv.take 1).length = 2 * N := by rw [htk.length, hN]
    refine v_add z39 (Z.isL z39 (by ktd_said "mem")) (Z.isL z39 (by ktd_said "mem")) (by rw [← List.length_append]; omega) fun tka h40 z40 => ?_
    have z41 := z40.sublist (news' := (tka, listOf (kv ++ rv.take 1).toArray 0) :: (pc, listOf pvv.toArray pkk) :: (ra, lstO rv) :: (la, listOf lv.toArray lk) :: (wa, lstO wv) :: (L + 1, o2) :: TS) (by ktd_said "sub")
    clear z40 z39 z38 z37 z36
    repeat ktd_said "w1"
    rename_i qa h43 z43 ga h44 z44 h45 z45 h46 z46 h47 z47
    exact law_tail P (by k_is) hd hu fx l1 d2 hpc2 hpvv hrv hlv hwv htk (by ktd_said "nm") (by ktd_said "nm") (by ktd_said "nm") (by ktd_said "nm") (by ktd_said "nm") (by ktd_said "nm") (by ktd_said "nm") z47
/-! text W4 -/
inductive NumsJ (n : Int) (tkk : Tok) (ns : List Int) (wa la pc ra b4 L : Addr) (nv rv lv wv : List Value) (lk : Nat) (o2 : Obj) (i : Nat) (m₁ : Str → Option Value) (news₁ : List (Addr × Obj)) : Prop
  | mk (pv : List Value) (pk : Nat) (tups : List (Addr × Obj)) (th : Tok) (q1 : m₁ (Str.ofString "kind") = some (.int (kindOf n) tkk)) (q2 : m₁ (Str.ofString "waits") = some (.ref wa)) (q3 : m₁ (Str.ofString "levels") = some (.ref la)) (q4 : m₁ (Str.ofString "pieces") = some (.ref pc)) (q5 : m₁ (Str.ofString "held") = some (.int (((nums ns).take i).foldl pcStep (0, [])).1 th)) (q6 : news₁ = (b4, listOf nv.toArray 0) :: (pc, listOf pv.toArray pk) :: (ra, lstO rv) :: (la, listOf lv.toArray lk) :: (wa, lstO wv) :: (L + 1, o2) :: tups) (q7 : PcIn tups pv (((nums ns).take i).foldl pcStep (0, [])).2) : NumsJ n tkk ns wa la pc ra b4 L nv rv lv wv lk o2 i m₁ news₁
theorem law_nums {w mean mg mb} {n : Int} {ns : List Int} {vs : List Value} {l : Addr} (P : Plan n ns) (hi : IntsAre vs ns) (hvl : vs.length ≤ 63)
    {name qual : Str} {params : Arguments} {body : List Stmt} {scope : Scope} {dV kV doc pm cdv ct oc : Value} {an od : Option Addr} {osl : Array (Option Value)}
    (ho : (Mine.hd.heap_1 w.params).lookup 849 = some ⟨oc, od, .func (fnOf name qual params body scope dV kV doc pm an cdv ct), osl⟩)
    {stm : List Stmt} (hb : body.drop 3 = stm)
    {dp un : Nat} {gd : Option (List Code)} {outer : List Env} {A₀ : Around} {base g : Heap} {L : Addr} {h : Heap} {s : Shared} {tk : Nat} {m : Str → Option Value} {cdx : Value} {f : Addr} {o2 : Obj} (hd : dp ≤ 350) (hu : un ≤ 350)
    (fx : Fix (Mine.hd.heap_1 w.params) Mine.vw LO mean mg mb A₀ base outer g)
    {pc ra la wa : Addr} {rv lv wv : List Value} {lk : Nat} {tkk th0 : Tok}
    (l1 : ([(Str.ofString "rows", L + 1)] : List (Str × Addr)).lookup (Str.ofString "rows") = some (L + 1)) (d2 : o2.data = .cell (some (.ref ra)))
    (hrv : StrsAre rv (rowsL n)) (hlv : IntsAre lv (lvls n)) (hwv : IntsAre wv (waitsOf n)) (hl : g.IsList l vs.toArray)
    (q1 : m (Str.ofString "script") = some (.ref l)) (q2 : m (Str.ofString "kind") = some (.int (kindOf n) tkk)) (q3 : m (Str.ofString "waits") = some (.ref wa)) (q4 : m (Str.ofString "levels") = some (.ref la)) (q5 : m (Str.ofString "pieces") = some (.ref pc)) (q6 : m (Str.ofString "held") = some (.int 0 th0))
    (z16 : Z g L h m [(pc, listOf #[] 0), (ra, lstO rv), (la, listOf lv.toArray lk), (wa, lstO wv), (L + 1, o2)]) :
    wpAny (model PR w) (ktrTop dp un gd qual scope L f cdx [(Str.ofString "rows", L + 1)] outer) (execs stm (envX qual scope L f cdx [(Str.ofString "rows", L + 1)])) (LawQ g s) (fun _ _ => False) (St s h tk) := by
  rw [show (Mine.hd.heap_1 w.params).lookup 849 = some _ from by k_is] at ho
  cases ho
  simp only [List.drop] at hb
  subst hb
  refine y_forAt z16 ?_
  repeat ktd_said "g1"
  rename_i b1 h17 z17
  refine y_comp (cl := []) z17 ?_
  repeat ktd_said "g1"
  refine v_slice17 z17 (Z.isL0 z17 hl) (by omega) fun sl h18 z18 => ?_
  refine it_list z18 (by ktd_said "mem") rfl fun it2 h19 z19 S19 => ?_
  have hsl : IntsAre ((vs.drop 1).take 6) ((ns.drop 1).take 6) := (hi.drop 1).take 6
  have hsll : ((vs.drop 1).take 6).length ≤ 6 := by rw [List.length_take]; omega
  refine ⟨h19, _, _, _, _, _, _, fun i ys => IntsAre ys ((((ns.drop 1).take 6).map (· % 24)).take i), rfl, z19, S19 _, ?_, by omega, .nil, ?_, ?_⟩
  · intro p hp
    rw [List.mem_singleton.mp hp]
    ktd_said "mem"
  · rintro i v ys C oC mc its h10 tk10 hi10 hv10 hJ hC z20
    obtain ⟨ce, tce, rfl, hce⟩ := ints_at hsl hv10
    repeat ktd_said "g1"
    refine c_end (by assumption) (by assumption) ?_
    dsimp only
    rw [take_snoc (x := ce % 24) (by rw [List.getElem?_map, hce]; rfl)]
    exact ints_snoc hJ
  · intro cv ca C oC mc h20 tk20 hJ hC z20
    refine fin_v hC z20 fun h21 z21 => ?_
    have hcv : IntsAre cv (((ns.drop 1).take 6).map (· % 24)) := by
      have e : (((ns.drop 1).take 6).map (· % 24)).take ((vs.drop 1).take 6).length = ((ns.drop 1).take 6).map (· % 24) := List.take_of_length_le (Nat.le_of_eq (by rw [hsl.length, List.length_map]))
      rw [← e]; exact hJ
    have hcvl : cv.length ≤ 6 := by rw [hcv.length, List.length_map, ← hsl.length]; exact hsll
    clear hJ
    repeat ktd_said "g1"
    refine v_add z21 (Z.isL z21 (by ktd_said "mem")) (Z.isL z21 (by ktd_said "mem")) (by simp; omega) fun b2 h22 z22 => ?_
    repeat ktd_said "g1"
    rename_i b3 h23 z23
    refine v_add z23 (Z.isL z23 (by ktd_said "mem")) (Z.isL z23 (by ktd_said "mem")) (by simp; omega) fun b4 h24 z24 => ?_
    have hnums : ∀ a b c d e f' g', IntsAre (([Value.int 14 a, .int 16 b, .int 8 c] ++ cv) ++ [.int 6 d, .int 14 e, .int 23 f', .int 3 g']) (nums ns) := fun a b c d e f' g' =>
      ((IntsAre.cons 14 _ (.cons 16 _ (.cons 8 _ .nil))).append hcv).append (IntsAre.cons 6 _ (.cons 14 _ (.cons 23 _ (.cons 3 _ .nil))))
    obtain ⟨nv, hnv, z25⟩ : ∃ nv, IntsAre nv (nums ns) ∧ Z g L h24 _ [(b4, listOf nv.toArray 0), (pc, listOf #[] 0), (ra, lstO rv), (la, listOf lv.toArray lk), (wa, lstO wv), (L + 1, o2)] := by
      refine ⟨_, ?_, z24.sublist (by ktd_said "sub")⟩
      exact hnums _ _ _ _ _ _ _
    clear z24 z23 z22 z21 z20 z19 z18 z17 z16 hnums
    have hnvl : nv.length ≤ 13 := by
      rw [hnv.length]
      simp [nums]
      omega
    refine it_list z25 (by ktd_said "mem") rfl fun it3 h26 z26 S26 => ?_
    refine ⟨h26, _, _, _, _, _, _, (NumsJ n tkk ns wa la pc ra b4 L nv rv lv wv lk o2), rfl, z26, S26 _,
      ⟨[], 0, [], _, by ktd_said "nq", by ktd_said "nq", by ktd_said "nq", by ktd_said "nq", by ktd_said "nq", rfl, .nil⟩, ?_, ?_, ?_⟩
    · rintro i m₁ news₁ ⟨pv, pk, tups, th, e1, e2, e3, e4, e5, rfl, hpc⟩ p hp
      rw [List.mem_singleton.mp hp]
      exact .head _
    · rintro i v m₁ news₁ its h27 tk27 hi27 hv27 ⟨pv, pk, tups, th, e1, e2, e3, e4, e5, rfl, hpc⟩ z27
      replace z27 : Z g L h27 m₁ ((b4, listOf nv.toArray 0) :: (pc, listOf pv.toArray pk) :: (ra, lstO rv) :: (la, listOf lv.toArray lk) :: (wa, lstO wv) :: (L + 1, o2) :: (tups ++ its)) := z27
      obtain ⟨nb, tnb, rfl, hnb⟩ := ints_at hnv hv27
      have hft := foldl_take pcStep (0, []) (nums ns) hnb
      generalize hst : ((nums ns).take i).foldl pcStep (0, []) = st at *
      repeat ktd_said "v1"
      rename_i h28 z28
      refine wpAny_mono (Q := fun (v : Value) (s' : Shared) => ∃ (X : Int) (t : Tok) (tk' : Nat), v = .int X t ∧ X.toNat = deedOf st.1 nb ∧ 0 ≤ X ∧ X < 4 ∧ s' = St s h28 tk') (E := fun _ _ => False) ?_ ?_ (fun _ _ x => x)
      · repeat ktd_said "w1"
        refine y_splitB (fun c1 => ?_) (fun c1 => ?_)
        · repeat ktd_said "w1"
          refine y_split (fun c2 => ?_) (fun c2 => ?_)
          · have hX : (0 : Int).toNat = deedOf st.1 nb := by rw [deedOf, if_pos ⟨by simpa using c1, c2⟩]; rfl
            repeat ktd_said "w1"
            exact ⟨_, _, _, rfl, hX, by omega, by omega, rfl⟩
          · have hX : (nb % 4).toNat = deedOf st.1 nb := by rw [deedOf, if_neg (fun q => c2 q.2)]
            repeat ktd_said "w1"
            exact ⟨_, _, _, rfl, hX, by omega, by omega, rfl⟩
        · have hX : (nb % 4).toNat = deedOf st.1 nb := by rw [deedOf, if_neg (fun q => by simp [q.1] at c1)]
          repeat ktd_said "w1"
          exact ⟨_, _, _, rfl, hX, by omega, by omega, rfl⟩
      rintro _ _ ⟨X, tX, tkX, rfl, hX, hX0, hX4, rfl⟩
      repeat ktd_said "w1"
      refine v_item (by assumption) (by ktd_said "mem") hX0 (by omega) (by rw [hX]; exact (dl_get (deed_lt _ _) _ _ _ _).choose_spec) ?_
      repeat ktd_said "w1"
      refine v_item (by assumption) (by ktd_said "mem") hX0 (by omega) (by rw [hX]; exact (sg_get (deed_lt _ _) _ _ _ _).choose_spec) ?_
      repeat ktd_said "w1"
      refine y_newTupF (by assumption) (by simp) fun tp h30 z30 => ?_
      have hpvl : pv.length < 100 := by
        rw [hpc.len]
        have e1 := pcs_len ((nums ns).take i) (0, [])
        rw [hst] at e1
        have e2 : ((nums ns).take i).length ≤ 13 := by
          have := hnv.length
          rw [List.length_take]; omega
        simp only [List.length_nil] at e1
        omega
      repeat ktd_said "w1"
      rename_i h31 z31
      dsimp only
      refine y_nil (for_next (Z.turn z31) ⟨_, _, _, tkX + 1 + 1 + 1 + 1 + 1 + 1, by ktd_said "nq", by ktd_said "nq", by ktd_said "nq", by ktd_said "nq", ?_, rfl, ?_⟩)
      · rw [hft]
        show mset _ _ _ _ = some (.int (st.1 + dls.getD (deedOf st.1 nb) 0) _)
        ktd_said "nm"
      · rw [hft]
        exact hpc.snoc
    · rintro m₁ news₁ h27 tk27 z27 ⟨pv, pk, tups, th, e1, e2, e3, e4, e5, rfl, hpc⟩
      have eT : (nums ns).take nv.length = nums ns := List.take_of_length_le (by rw [hnv.length]; exact Nat.le_refl _)
      rw [eT] at e5 hpc
      have hpvl : pv.length < 50 := by
        rw [hpc.len, pcs_len, ← hnv.length]
        simp only [List.length_nil]
        omega
      refine y_nil_then ?_
      exact law_mid P (by k_is) hd hu fx l1 d2 hpc hpvl hrv hlv hwv e1 e2 e3 e4 e5 z27
/-! text W5 -/
theorem law_body {w mean mg mb} {ns : List Int} {vs : List Value} {l : Addr} (P : Plan (ns.headD 0) ns) (hi : IntsAre vs ns) (hlen : ns.length ≤ 63)
    {name qual : Str} {params : Arguments} {body : List Stmt} {scope : Scope} {dV kV doc pm cdv ct oc : Value} {an od : Option Addr} {osl : Array (Option Value)}
    (ho : (Mine.hd.heap_1 w.params).lookup 849 = some ⟨oc, od, .func (fnOf name qual params body scope dV kV doc pm an cdv ct), osl⟩)
    {dp un : Nat} {gd : Option (List Code)} {outer : List Env} {A₀ : Around} {base g : Heap} {L : Addr} {h₁ : Heap} {s : Shared} {tk : Nat} {m : Str → Option Value} {cdx : Value} {f : Addr} {o1 : Obj} (hd : dp ≤ 350) (hu : un ≤ 350)
    (fx : Fix (Mine.hd.heap_1 w.params) Mine.vw LO mean mg mb A₀ base outer g) (z : Z g L h₁ m [(L + 1, o1)]) (d1 : o1.data = .cell none) (n1 : m (Str.ofString "script") = some (.ref l)) (hl : g.IsList l vs.toArray) :
    wpAny (model PR w) (ktrTop dp un gd qual scope L f cdx [(Str.ofString "rows", L + 1)] outer) (execs body (envX qual scope L f cdx [(Str.ofString "rows", L + 1)])) (LawQ g s) (fun _ _ => False) (St s h₁ tk) := by
  rw [show (Mine.hd.heap_1 w.params).lookup 849 = some _ from by k_is] at ho
  cases ho
  have l1 : ([(Str.ofString "rows", L + 1)] : List (Str × Addr)).lookup (Str.ofString "rows") = some (L + 1) := by kernel_rfl
  have hvl : vs.length ≤ 63 := by rw [hi.length]; exact hlen
  generalize hn0 : ns.headD 0 = n at *
  repeat ktd_said "g1"
  refine v_add (by assumption) (Z.isL0 (by assumption) hl) (Z.isL (by assumption) (by ktd_said "mem")) (by simp; omega) fun a1 h2 z2 => ?_
  obtain ⟨th, hhd⟩ := head_int hi
  repeat ktd_said "g1"
  refine v_item z2 (by ktd_said "mem") (by decide) (by decide) hhd ?_
  rw [hn0]
  repeat ktd_said "g1"
  refine (chain_c).use fx z2 rfl (by omega) (by omega) ?_
  rintro r news' h3 tk3 ⟨ta, la, wa, lv, lk, wv, tkk, rfl, rfl, hwv, hlv⟩ z3
  replace hlv : IntsAre lv (lvls n) := hlv
  refine y_un3 z3 ⟨_, (z3.N _ (.head _)).1, rfl, 0, rfl⟩ rfl fun h4 z4 => ?_
  have z5 := z4.sublist (news' := [(la, listOf lv.toArray lk), (wa, lstO wv), (L + 1, o1)]) (by ktd_said "sub")
  clear z4
  repeat ktd_said "g1"
  rename_i h6 z6 h7 z7 h8 z8
  refine y_assign ?_
  refine y_comp (cl := []) z8 ?_
  repeat ktd_said "g1"
  refine it_list z8 (by ktd_said "mem") rfl fun it h9 z9 S9 => ?_
  have hlvl : lv.length = 6 := by rw [hlv.length]; rfl
  refine ⟨h9, _, _, _, _, _, _, fun i ys => StrsAre ys ((rowsL n).take i), rfl, z9, S9 _, ?_, by omega, .nil, ?_, ?_⟩
  · intro p hp
    rw [List.mem_singleton.mp hp]
    ktd_said "mem"
  · rintro i v ys C oC mc its h10 tk10 hi10 hv10 hJ hC z10
    replace z10 : Z g L h10 _ ((C, oC) :: (la, listOf lv.toArray lk) :: (wa, lstO wv) :: (L + 1, o1) :: ([] ++ its)) := z10
    obtain ⟨md, tmd, rfl, hmd⟩ := ints_at hlv hv10
    repeat ktd_said "g1"
    rename_i h11 oC11 hC11 z11
    refine (fmode_c).use fx z11 rfl (by omega) (by omega) ?_
    rintro r news' h12 tk12 ⟨⟨tr, rfl⟩, rfl⟩ z12
    refine c_end z12 hC11 ?_
    dsimp only
    rw [take_snoc (x := fmS md) (by rw [rowsL, List.getElem?_map, hmd]; rfl)]
    exact strs_snoc hJ
  · intro rv ra C oC mc h10 tk10 hJ hC z10
    refine fin_v hC z10 fun h11 z11 => ?_
    have hrv : StrsAre rv (rowsL n) := by
      have e : (rowsL n).take lv.length = rowsL n := List.take_of_length_le (by rw [hlvl]; simp [rowsL, lvls])
      rw [← e]; exact hJ
    clear hJ
    repeat ktd_said "g1"
    rename_i h12 o2 d2 z12 pc h13 z13 h14 z14 h15 z15 h16 z16
    exact law_nums P hi hvl (by k_is) (by rfl) hd hu fx l1 d2 hrv hlv hwv hl (by ktd_said "nm") (by ktd_said "nm") (by ktd_said "nm") (by ktd_said "nm") (by ktd_said "nm") (by ktd_said "nm") z16
end Mine
/-! text P1 -/
namespace Mine
open PySem PySem.Calls PySem.Spec PyProof.Rows
/-! the heap, as lists of ints -/
theorem gset_eq {xs : List Int} {i : Nat} {v : Int} (h : i < xs.length) : (xs.set i v).getD i 0 = v := by
  simp [List.getD_eq_getElem?_getD, h]
theorem gset_ne {xs : List Int} {i j : Nat} {v : Int} (h : i ≠ j) : (xs.set i v).getD j 0 = xs.getD j 0 := by
  simp [List.getD_eq_getElem?_getD, List.getElem?_set_ne h]
theorem set_perm {xs : List Int} {i j : Nat} {v : Int} (hi : i < xs.length) (hj : j < xs.length) (hij : i ≠ j) :
    ((xs.set i (xs.getD j 0)).set j v).Perm (xs.set i v) := by
  have e : xs.getD j 0 = xs[j] := by rw [List.getD_eq_getElem?_getD, List.getElem?_eq_getElem hj]; rfl
  rw [e, List.perm_iff_count]
  intro a
  have c1 : xs.count a ≥ if xs[i] == a then 1 else 0 := by
    split
    · rename_i h
      have : a ∈ xs := by rw [← eq_of_beq h]; exact List.getElem_mem hi
      exact List.count_pos_iff.mpr this
    · exact Nat.zero_le _
  have h1 : j < (xs.set i xs[j]).length := by rw [List.length_set]; exact hj
  rw [List.count_set h1, List.count_set hi, List.count_set hi, List.getElem_set_ne hij]
  omega
/-- all but what touches place p is in order; p's children are not below its parent -/
structure Hole (xs : List Int) (p : Nat) : Prop where
  lt : p < xs.length
  up : ∀ i, 0 < i → i < xs.length → i ≠ p → (i - 1) / 2 ≠ p → xs.getD ((i - 1) / 2) 0 ≤ xs.getD i 0
  gr : 0 < p → ∀ i, 0 < i → i < xs.length → (i - 1) / 2 = p → xs.getD ((p - 1) / 2) 0 ≤ xs.getD i 0
noncomputable def Heapy (xs : List Int) : Prop := ∀ i, 0 < i → i < xs.length → xs.getD ((i - 1) / 2) 0 ≤ xs.getD i 0
theorem sd_ok (ni : Int) : ∀ (n : Nat) (xs : List Int) (p : Nat), p < n → Hole xs p → (∀ i, 0 < i → i < xs.length → (i - 1) / 2 = p → ni ≤ xs.getD i 0) →
    Heapy ((sdLoop ni n xs p).1.set (sdLoop ni n xs p).2 ni) ∧ ((sdLoop ni n xs p).1.set (sdLoop ni n xs p).2 ni).Perm (xs.set p ni)
  | 0, _, _, h, _, _ => absurd h (Nat.not_lt_zero _)
  | n + 1, xs, p, hn, H, hc => by
    have stop : (p = 0 ∨ xs.getD ((p - 1) / 2) 0 ≤ ni) → Heapy (xs.set p ni) := by
      intro hs i h0 hl
      rw [List.length_set] at hl
      by_cases hip : i = p
      · subst hip
        rw [gset_eq hl, gset_ne (by omega)]
        rcases hs with hs | hs
        · omega
        · exact hs
      · by_cases hpp : (i - 1) / 2 = p
        · rw [gset_ne (fun e => hip e.symm), hpp, gset_eq H.lt]
          exact hc i h0 hl hpp
        · rw [gset_ne (fun e => hip e.symm), gset_ne (fun e => hpp e.symm)]
          exact H.up i h0 hl hip hpp
    rw [sdLoop_succ]
    by_cases hp : p = 0
    · rw [if_pos hp]
      exact ⟨stop (.inl hp), List.Perm.refl _⟩
    · rw [if_neg hp]
      by_cases hlt : ni < xs.getD ((p - 1) / 2) 0
      · rw [if_pos hlt]
        have hpl := H.lt
        have hq : (p - 1) / 2 < p := by omega
        have HH : Hole (xs.set p (xs.getD ((p - 1) / 2) 0)) ((p - 1) / 2) := by
          refine ⟨by rw [List.length_set]; omega, ?_, ?_⟩
          · intro i h0 hl h1 h2
            rw [List.length_set] at hl
            have hip : i ≠ p := by intro e; subst e; exact h2 rfl
            rw [gset_ne (fun e => hip e.symm)]
            by_cases hpp : (i - 1) / 2 = p
            · rw [hpp, gset_eq hpl]
              exact H.gr (by omega) i h0 hl hpp
            · rw [gset_ne (fun e => hpp e.symm)]
              exact H.up i h0 hl hip hpp
          · intro h0 i hi0 hl hpi
            rw [List.length_set] at hl
            have hgp : ((p - 1) / 2 - 1) / 2 ≠ p := by omega
            rw [gset_ne (fun e => hgp e.symm)]
            have h3 : xs.getD (((p - 1) / 2 - 1) / 2) 0 ≤ xs.getD ((p - 1) / 2) 0 := H.up _ h0 (by omega) (by omega) hgp
            by_cases hip : i = p
            · subst hip
              rw [gset_eq hl]
              exact h3
            · rw [gset_ne (fun e => hip e.symm)]
              have h4 : xs.getD ((i - 1) / 2) 0 ≤ xs.getD i 0 := H.up i hi0 hl hip (by omega)
              rw [hpi] at h4
              exact Int.le_trans h3 h4
        obtain ⟨a, b⟩ := sd_ok ni n _ _ (by omega) HH (by
          intro i hi0 hl hpi
          rw [List.length_set] at hl
          by_cases hip : i = p
          · subst hip
            rw [gset_eq hl]
            omega
          · rw [gset_ne (fun e => hip e.symm)]
            have h4 : xs.getD ((i - 1) / 2) 0 ≤ xs.getD i 0 := H.up i hi0 hl hip (by omega)
            rw [hpi] at h4
            omega)
        exact ⟨a, b.trans (set_perm hpl (by omega) (by omega))⟩
      · rw [if_neg hlt]
        exact ⟨stop (.inr (by omega)), List.Perm.refl _⟩
theorem siftdown_ok {xs : List Int} {p : Nat} (H : Hole xs p) (hc : ∀ i, 0 < i → i < xs.length → (i - 1) / 2 = p → xs.getD p 0 ≤ xs.getD i 0) : Heapy (siftdown xs p) ∧ (siftdown xs p).Perm xs := by
  obtain ⟨a, b⟩ := sd_ok (xs.getD p 0) (p + 1) xs p (Nat.lt_succ_self _) H hc
  refine ⟨a, b.trans ?_⟩
  have e : xs.getD p 0 = xs[p]'H.lt := by rw [List.getD_eq_getElem?_getD, List.getElem?_eq_getElem H.lt]; rfl
  rw [e, List.set_getElem_self]
theorem child_ok {n : Nat} {xs : List Int} {p : Nat} (h : 2 * p + 1 < n) : child n xs p < n ∧ (child n xs p - 1) / 2 = p ∧ p < child n xs p ∧ ∀ i, 0 < i → i < n → (i - 1) / 2 = p → xs.getD (child n xs p) 0 ≤ xs.getD i 0 := by
  unfold child
  split
  · rename_i hh
    refine ⟨by omega, by omega, by omega, fun i h0 h1 h2 => ?_⟩
    have : i = 2 * p + 1 ∨ i = 2 * p + 2 := by omega
    rcases this with e | e <;> subst e
    · have := hh.2; omega
    · exact Int.le_refl _
  · rename_i hh
    refine ⟨by omega, by omega, by omega, fun i h0 h1 h2 => ?_⟩
    have : i = 2 * p + 1 ∨ i = 2 * p + 2 := by omega
    rcases this with e | e <;> subst e
    · exact Int.le_refl _
    · have : xs.getD (2 * p + 1) 0 < xs.getD (2 * p + 2) 0 := by
        rcases Int.lt_or_le (xs.getD (2 * p + 1) 0) (xs.getD (2 * p + 2) 0) with q | q
        · exact q
        · exact absurd ⟨h1, by omega⟩ hh
      omega
theorem su_ok (n : Nat) (ni : Int) : ∀ (k : Nat) (xs : List Int) (p : Nat), xs.length = n → n ≤ p + k → Hole xs p →
    Hole (suLoop n k xs p).1 (suLoop n k xs p).2 ∧ n ≤ 2 * (suLoop n k xs p).2 + 1 ∧ (suLoop n k xs p).1.length = n ∧ ((suLoop n k xs p).1.set (suLoop n k xs p).2 ni).Perm (xs.set p ni)
  | 0, xs, p, hn, hk, H => by have := H.lt; omega
  | k + 1, xs, p, hn, hk, H => by
    rw [suLoop_succ]
    by_cases hlt : 2 * p + 1 < n
    · rw [if_pos hlt]
      obtain ⟨c1, c2, c3, c4⟩ := child_ok (xs := xs) hlt
      generalize child n xs p = c at *
      have hpl := H.lt
      have HH : Hole (xs.set p (xs.getD c 0)) c := by
        refine ⟨by rw [List.length_set]; omega, ?_, ?_⟩
        · intro i h0 hl h1 h2
          rw [List.length_set] at hl
          by_cases hip : i = p
          · subst hip
            rw [gset_eq hl, gset_ne (by omega)]
            exact H.gr h0 c (by omega) (by omega) c2
          · rw [gset_ne (fun e => hip e.symm)]
            by_cases hpp : (i - 1) / 2 = p
            · rw [hpp, gset_eq hpl]
              exact c4 i h0 (by omega) hpp
            · rw [gset_ne (fun e => hpp e.symm)]
              exact H.up i h0 hl hip hpp
        · intro h0 i hi0 hl hpi
          rw [List.length_set] at hl
          have hip : i ≠ p := by omega
          rw [gset_ne (fun e => hip e.symm), c2, gset_eq hpl]
          have h4 := H.up i hi0 hl hip (by omega)
          rw [hpi] at h4
          exact h4
      obtain ⟨a1, a2, a3, a4⟩ := su_ok n ni k _ _ (by rw [List.length_set]; exact hn) (by omega) HH
      exact ⟨a1, a2, a3, a4.trans (set_perm hpl (by omega) (by omega))⟩
    · rw [if_neg hlt]
      exact ⟨H, by omega, hn, List.Perm.refl _⟩
theorem siftup_ok {xs : List Int} (H : Hole xs 0) : Heapy (siftup xs) ∧ (siftup xs).Perm xs := by
  obtain ⟨a1, a2, a3, a4⟩ := su_ok xs.length (xs.getD 0 0) xs.length xs 0 rfl (by omega) H
  unfold siftup
  generalize suLoop xs.length xs.length xs 0 = r at *
  obtain ⟨ys, p⟩ := r
  dsimp only at *
  have hpl := a1.lt
  have HH : Hole (ys.set p (xs.getD 0 0)) p := by
    refine ⟨by rw [List.length_set]; exact hpl, ?_, ?_⟩
    · intro i h0 hl h1 h2
      rw [List.length_set] at hl
      rw [gset_ne (fun e => h1 e.symm), gset_ne (fun e => h2 e.symm)]
      exact a1.up i h0 hl h1 h2
    · intro h0 i hi0 hl hpi
      rw [List.length_set] at hl
      omega
  obtain ⟨b1, b2⟩ := siftdown_ok HH (by
    intro i hi0 hl hpi
    rw [List.length_set] at hl
    omega)
  refine ⟨b1, b2.trans (a4.trans ?_)⟩
  have h0 := H.lt
  have e : xs.getD 0 0 = xs[0]'h0 := by rw [List.getD_eq_getElem?_getD, List.getElem?_eq_getElem h0]; rfl
  rw [e, List.set_getElem_self]
theorem heapy_min {xs : List Int} (H : Heapy xs) : ∀ (i : Nat), i < xs.length → xs.getD 0 0 ≤ xs.getD i 0 := by
  intro i
  induction i using Nat.strongRecOn with
  | _ i ih =>
    intro hl
    by_cases h0 : i = 0
    · subst h0; exact Int.le_refl _
    · exact Int.le_trans (ih ((i - 1) / 2) (by omega) (by omega)) (H i (by omega) hl)
/-- a heap and what lies in it -/
structure HeapOf (xs S : List Int) : Prop where
  h : Heapy xs
  p : xs.Perm S
theorem HeapOf.top {xs S : List Int} {m : Int} (H : HeapOf xs (m :: S)) (hm : ∀ a ∈ S, m ≤ a) : xs.getD 0 0 = m := by
  have hl : 0 < xs.length := by rw [H.p.length_eq]; exact Nat.zero_lt_succ _
  have h1 : xs.getD 0 0 ∈ m :: S := by
    rw [← H.p.mem_iff, List.getD_eq_getElem?_getD, List.getElem?_eq_getElem hl]
    exact List.getElem_mem hl
  have h2 : m ∈ xs := H.p.mem_iff.mpr (.head _)
  obtain ⟨i, hi, e⟩ := List.getElem_of_mem h2
  have h3 := heapy_min H.h i hi
  have h4 : xs.getD i 0 = m := by rw [List.getD_eq_getElem?_getD, List.getElem?_eq_getElem hi]; exact e
  rw [h4] at h3
  rcases List.mem_cons.mp h1 with h | h
  · exact h
  · have := hm _ h; omega
theorem root_hole {xs : List Int} {v : Int} (H : Heapy xs) (hl : 0 < xs.length) : Hole (xs.set 0 v) 0 := by
  refine ⟨by rw [List.length_set]; exact hl, ?_, fun h => absurd h (Nat.lt_irrefl _)⟩
  intro i h0 hi h1 h2
  rw [List.length_set] at hi
  rw [gset_ne (fun e => h1 e.symm), gset_ne (fun e => h2 e.symm)]
  exact H i h0 hi
theorem set0_perm {xs S : List Int} {m v : Int} (hp : xs.Perm (m :: S)) (he : xs.getD 0 0 = m) : (xs.set 0 v).Perm (v :: S) := by
  cases xs with
  | nil => exact absurd hp.length_eq (by simp)
  | cons a r =>
    have : a = m := he
    subst this
    exact (List.Perm.cons_inv hp).cons v
theorem hrep_ok {xs S : List Int} {m x : Int} (H : HeapOf xs (m :: S)) (hm : ∀ a ∈ S, m ≤ a) : (hrep xs x).1 = m ∧ HeapOf (hrep xs x).2 (x :: S) := by
  have he := H.top hm
  have hl : 0 < xs.length := by rw [H.p.length_eq]; exact Nat.zero_lt_succ _
  obtain ⟨a, b⟩ := siftup_ok (root_hole (v := x) H.h hl)
  exact ⟨he, a, b.trans (set0_perm H.p he)⟩
theorem hpp_ok {xs S S' : List Int} {m x : Int} (H : HeapOf xs S) (hp : (x :: S).Perm (m :: S')) (hm : ∀ a ∈ S', m ≤ a) : (hpp xs x).1 = m ∧ HeapOf (hpp xs x).2 S' := by
  have hmx : m ≤ x := by
    rcases List.mem_cons.mp (hp.mem_iff.mp (.head _)) with h | h
    · omega
    · exact hm _ h
  unfold hpp
  split
  · rename_i hc
    obtain ⟨hne, hlt⟩ := hc
    have hl : 0 < xs.length := by
      cases xs with
      | nil => simp at hne
      | cons a r => exact Nat.zero_lt_succ _
    have hmin : ∀ a ∈ xs, xs.getD 0 0 ≤ a := by
      intro a ha
      obtain ⟨i, hi, e⟩ := List.getElem_of_mem ha
      have h3 := heapy_min H.h i hi
      have h4 : xs.getD i 0 = a := by rw [List.getD_eq_getElem?_getD, List.getElem?_eq_getElem hi]; exact e
      rwa [h4] at h3
    have hr : xs.getD 0 0 ∈ xs := by
      rw [List.getD_eq_getElem?_getD, List.getElem?_eq_getElem hl]
      exact List.getElem_mem hl
    have em : xs.getD 0 0 = m := by
      have h1 : m ≤ xs.getD 0 0 := by
        have : xs.getD 0 0 ∈ m :: S' := hp.mem_iff.mp (.tail _ (H.p.mem_iff.mp hr))
        rcases List.mem_cons.mp this with h | h
        · omega
        · exact hm _ h
      have h2 : xs.getD 0 0 ≤ m := by
        rcases List.mem_cons.mp (hp.mem_iff.mpr (.head _)) with h | h
        · omega
        · exact hmin _ (H.p.mem_iff.mpr h)
      omega
    have hx : (xs.set 0 x).Perm S' := by
      cases xs with
      | nil => exact absurd hl (Nat.lt_irrefl _)
      | cons a r =>
        have e : a = m := em
        subst e
        have h5 : (x :: a :: r).Perm (a :: S') := (H.p.cons x).trans hp
        exact List.Perm.cons_inv ((List.Perm.swap _ _ _).trans h5)
    obtain ⟨a, b⟩ := siftup_ok (root_hole (v := x) H.h hl)
    exact ⟨em, a, b.trans hx⟩
  · rename_i hc
    have em : x = m := by
      rcases List.mem_cons.mp (hp.mem_iff.mpr (.head _)) with h | h
      · exact h.symm
      · have hxs : m ∈ xs := H.p.mem_iff.mpr h
        have hne : (!xs.isEmpty) = true := by
          cases xs with
          | nil => cases hxs
          | cons a r => rfl
        have hge : ¬ xs.getD 0 0 < x := fun q => hc ⟨hne, q⟩
        obtain ⟨i, hi, e⟩ := List.getElem_of_mem hxs
        have h3 := heapy_min H.h i hi
        have h4 : xs.getD i 0 = m := by rw [List.getD_eq_getElem?_getD, List.getElem?_eq_getElem hi]; exact e
        rw [h4] at h3
        omega
    subst em
    exact ⟨rfl, H.h, H.p.trans (List.Perm.cons_inv hp)⟩
theorem hpush_ok {xs S : List Int} {x : Int} (H : HeapOf xs S) : HeapOf (hpush xs x) (x :: S) := by
  unfold hpush
  have HH : Hole (xs ++ [x]) xs.length := by
    refine ⟨by simp, ?_, ?_⟩
    · intro i h0 hl h1 h2
      simp only [List.length_append, List.length_singleton] at hl
      have e : ∀ j, j < xs.length → (xs ++ [x]).getD j 0 = xs.getD j 0 := by
        intro j hj
        rw [List.getD_eq_getElem?_getD, List.getD_eq_getElem?_getD, List.getElem?_append_left hj]
      rw [e _ (by omega), e _ (by omega)]
      exact H.h i h0 (by omega)
    · intro h0 i hi0 hl hpi
      simp only [List.length_append, List.length_singleton] at hl
      omega
  obtain ⟨a, b⟩ := siftdown_ok HH (by
    intro i hi0 hl hpi
    simp only [List.length_append, List.length_singleton] at hl
    omega)
  exact ⟨a, b.trans ((List.perm_append_comm (l₁ := xs) (l₂ := [x])).trans (H.p.cons x))⟩
theorem hpop_ok {xs S : List Int} {m : Int} (H : HeapOf xs (m :: S)) (hm : ∀ a ∈ S, m ≤ a) : (hpop xs).1 = m ∧ HeapOf (hpop xs).2 S := by
  have he := H.top hm
  have hl : 0 < xs.length := by rw [H.p.length_eq]; exact Nat.zero_lt_succ _
  unfold hpop
  split
  · rename_i hc
    match xs, hl, hc, he, H with
    | [a], _, _, he, H =>
      have e : a = m := he
      subst e
      refine ⟨rfl, ?_, ?_⟩
      · intro i _ h; exact absurd h (by simp)
      · have := H.p.length_eq
        simp only [List.length_cons, List.length_nil] at this
        have : S = [] := List.length_eq_zero_iff.mp (by omega)
        subst this
        exact List.Perm.refl _
    | a :: b :: r, _, hc, _, _ => simp at hc
  · rename_i hc
    have hne : xs ≠ [] := by intro e; subst e; exact absurd hl (Nat.lt_irrefl _)
    have hd : xs.dropLast ++ [xs.getLastD 0] = xs := by
      have := List.dropLast_concat_getLast hne
      rw [List.getLastD_eq_getLast?, List.getLast?_eq_some_getLast hne]
      exact this
    generalize xs.getLastD 0 = z at *
    have hl2 : 0 < xs.dropLast.length := by
      cases h : xs.dropLast with
      | nil => rw [h] at hc; simp at hc
      | cons a r => exact Nat.zero_lt_succ _
    generalize xs.dropLast = ys at *
    have e : ∀ j, j < ys.length → xs.getD j 0 = ys.getD j 0 := by
      intro j hj
      rw [← hd, List.getD_eq_getElem?_getD, List.getD_eq_getElem?_getD, List.getElem?_append_left hj]
    have hlen : xs.length = ys.length + 1 := by rw [← hd]; simp
    have Hy : Heapy ys := by
      intro i h0 hi
      rw [← e _ (by omega), ← e _ hi]
      exact H.h i h0 (by omega)
    obtain ⟨a, b⟩ := siftup_ok (root_hole (v := z) Hy hl2)
    refine ⟨he, a, b.trans ?_⟩
    cases ys with
    | nil => exact absurd hl2 (Nat.lt_irrefl _)
    | cons c r =>
      have ec : c = m := by rw [← he, e 0 hl2]; rfl
      subst ec
      have h5 : (c :: (r ++ [z])).Perm (c :: S) := by
        have := H.p
        rw [← hd] at this
        exact this
      show (z :: r).Perm S
      exact ((List.perm_append_comm (l₁ := [z]) (l₂ := r))).trans (List.Perm.cons_inv h5)
end Mine
/-! text P2 -/
namespace Mine
open PySem PySem.Calls PySem.Spec PyProof.Rows
/-! rows: filemode and _law_row tell the same text -/
theorem bitAnd_nat (a b : Nat) : Builtin.bitAnd (a : Int) (b : Int) = ((a &&& b : Nat) : Int) := by
  unfold Builtin.bitAnd
  rw [decide_eq_true (Int.natCast_nonneg a), decide_eq_true (Int.natCast_nonneg b)]
  rfl
noncomputable def bsum (p : Nat → Bool) : Nat → Nat
  | 0 => 0
  | k + 1 => 2 ^ k * (p k).toNat + bsum p k
theorem bsum_lt (p : Nat → Bool) : ∀ k, bsum p k < 2 ^ k
  | 0 => by show 0 < 1; decide
  | k + 1 => by
    have h := bsum_lt p k
    unfold bsum
    cases p k
    · simp only [Bool.toNat_false]; omega
    · simp only [Bool.toNat_true]; omega
theorem bsum_bit (p : Nat → Bool) : ∀ k i, (bsum p k).testBit i = (decide (i < k) && p i)
  | 0, i => by simp [bsum]
  | k + 1, i => by
    unfold bsum
    rw [Nat.testBit_two_pow_mul_add _ (bsum_lt p k)]
    by_cases h : i < k
    · rw [if_pos h, bsum_bit p k i, decide_eq_true h, decide_eq_true (Nat.lt_succ_of_lt h)]
    · rw [if_neg h]
      by_cases e : i = k
      · subst e
        rw [Nat.sub_self, decide_eq_true (Nat.lt_succ_self i)]
        cases p i <;> rfl
      · have h2 : ¬ i < k + 1 := by omega
        rw [decide_eq_false h2, Bool.false_and]
        obtain ⟨d, hd⟩ : ∃ d, i - k = d + 1 := ⟨i - k - 1, by omega⟩
        rw [hd]
        cases p k
        · simp
        · simp [Nat.testBit_succ]
theorem sum_bits (p : Nat → Bool) : ∀ k, (((List.range k).filter p).map fun (b : Nat) => (2 : Int) ^ b).sum = (bsum p k : Int)
  | 0 => rfl
  | k + 1 => by
    rw [List.range_succ, List.filter_append, List.map_append, List.sum_append, sum_bits p k]
    have e : bsum p (k + 1) = 2 ^ k * (p k).toNat + bsum p k := rfl
    rw [e]
    cases h : p k
    · simp [h]
    · simp [h]; omega
theorem and_pow (n i : Nat) : n &&& 2 ^ i = (n.testBit i).toNat * 2 ^ i := by
  apply Nat.eq_of_testBit_eq
  intro j
  rw [Nat.testBit_and, Nat.testBit_two_pow]
  by_cases h : i = j
  · subst h
    cases hn : n.testBit i
    · simp
    · simp [Nat.testBit_two_pow]
  · cases hn : n.testBit i
    · simp [h]
    · simp [h, Nat.testBit_two_pow]
theorem hi_and {k B : Nat} (hk : k < 16) (hB : B < 4096) : (4096 * k + B) &&& 61440 = 4096 * k := by
  apply Nat.eq_of_testBit_eq
  intro j
  rw [Nat.testBit_and, show 4096 = 2 ^ 12 from rfl, Nat.testBit_two_pow_mul_add _ hB, show (61440 : Nat) = 2 ^ 12 * 15 + 0 from rfl, Nat.testBit_two_pow_mul_add 15 (show 0 < 2 ^ 12 by decide), Nat.testBit_two_pow_mul]
  by_cases h : j < 12
  · have : ¬ j ≥ 12 := by omega
    simp [h, this]
  · have h2 : j ≥ 12 := by omega
    rw [if_neg h, if_neg h, ← Nat.testBit_and, show (15 : Nat) = 2 ^ 4 - 1 from rfl, Nat.and_two_pow_sub_one_eq_mod, Nat.mod_eq_of_lt (by omega : k < 2 ^ 4), decide_eq_true h2, Bool.true_and]
theorem lo_and {k B b : Nat} (hB : B < 4096) (hb : b < 4096) : (4096 * k + B) &&& b = B &&& b := by
  apply Nat.eq_of_testBit_eq
  intro j
  rw [Nat.testBit_and, Nat.testBit_and, show 4096 = 2 ^ 12 from rfl, Nat.testBit_two_pow_mul_add _ hB]
  by_cases h : j < 12
  · rw [if_pos h]
  · rw [if_neg h, Nat.testBit_lt_two_pow (x := b) (i := j) (Nat.lt_of_lt_of_le hb (Nat.pow_le_pow_right (show 0 < 2 by decide) (by omega : 12 ≤ j))), Bool.and_false, Bool.and_false]
/-- a mode of kind k with the rights p -/
noncomputable def modeOf (k : Nat) (p : Nat → Bool) : Int := ((4096 * k + bsum p 12 : Nat) : Int)
section
variable {k : Nat} {p : Nat → Bool}
theorem hit0 (hk : k < 16) (b : Int) : fmHit (modeOf k p) 0 b = ((4096 * k : Nat) == b : Bool) := by
  unfold fmHit modeOf
  rw [if_pos rfl, show (61440 : Int) = ((61440 : Nat) : Int) from rfl, bitAnd_nat, hi_and hk (bsum_lt p 12)]
theorem hit1 {i j : Nat} (hi : i ≠ 0) (hj : j < 12) {b : Int} (hb : b = ((2 ^ j : Nat) : Int)) : fmHit (modeOf k p) i b = p j := by
  subst hb
  unfold fmHit modeOf
  rw [if_neg hi, bitAnd_nat, lo_and (bsum_lt p 12) (Nat.pow_lt_pow_right (by decide) hj), and_pow, bsum_bit, decide_eq_true hj, Bool.true_and]
  have : 0 < 2 ^ j := Nat.two_pow_pos j
  cases p j
  · rw [Bool.toNat_false, Nat.zero_mul]
    apply beq_eq_false_iff_ne.mpr
    intro e
    have e2 : 0 = 2 ^ j := Int.ofNat_inj.mp e
    omega
  · rw [Bool.toNat_true, Nat.one_mul]
    exact beq_self_eq_true _
theorem hit2 {i j q : Nat} (hi : i ≠ 0) (hj : j < 12) (hq : q < 12) (hjq : j ≠ q) {b : Int} (hb : b = ((2 ^ j ||| 2 ^ q : Nat) : Int)) : fmHit (modeOf k p) i b = (p j && p q) := by
  subst hb
  unfold fmHit modeOf
  have hlt : 2 ^ j ||| 2 ^ q < 2 ^ 12 := Nat.or_lt_two_pow (Nat.pow_lt_pow_right (by decide) hj) (Nat.pow_lt_pow_right (by decide) hq)
  rw [if_neg hi, bitAnd_nat, lo_and (bsum_lt p 12) hlt, Nat.and_or_distrib_left, and_pow, and_pow, bsum_bit, bsum_bit, decide_eq_true hj, decide_eq_true hq, Bool.true_and, Bool.true_and]
  have bj : ∀ x y : Nat, (2 ^ x).testBit y = decide (x = y) := fun x y => Nat.testBit_two_pow
  cases hpj : p j <;> cases hpq : p q
  all_goals simp only [Bool.toNat_true, Bool.toNat_false, Nat.one_mul, Nat.zero_mul, Bool.and_true, Bool.and_false, Bool.true_and, Bool.false_and, Nat.zero_or, Nat.or_zero]
  · apply beq_eq_false_iff_ne.mpr
    intro e
    have e2 := congrArg (Nat.testBit · j) (Int.ofNat_inj.mp e)
    simp at e2
  · apply beq_eq_false_iff_ne.mpr
    intro e
    have e2 := congrArg (Nat.testBit · j) (Int.ofNat_inj.mp e)
    simp only [Nat.testBit_or, bj] at e2
    simp [Ne.symm hjq] at e2
  · apply beq_eq_false_iff_ne.mpr
    intro e
    have e2 := congrArg (Nat.testBit · q) (Int.ofNat_inj.mp e)
    simp only [Nat.testBit_or, bj] at e2
    simp [hjq] at e2
  · exact beq_self_eq_true _
theorem pick_congr {m m' : Int} {i : Nat} : ∀ {tb : List (Int × Str)}, (∀ b, fmHit m i b = fmHit m' i b) → fmPick m i tb = fmPick m' i tb
  | [], _ => rfl
  | (b, c) :: r, h => by
    unfold fmPick
    rw [h b, pick_congr h]
theorem pick0 (hk : k < 16) : fmPick (modeOf k p) 0 (fmTab.getD 0 []) = ⟨#[(Str.ofString "?pc?d?b?-?l?s???").cps.getD k 0]⟩ := by
  have e : fmPick (modeOf k p) 0 (fmTab.getD 0 []) = fmPick (modeOf k fun _ => false) 0 (fmTab.getD 0 []) := pick_congr fun b => by rw [hit0 hk, hit0 hk]
  rw [e]
  have key : ∀ k < 16, fmPick (modeOf k fun _ => false) 0 (fmTab.getD 0 []) = ⟨#[(Str.ofString "?pc?d?b?-?l?s???").cps.getD k 0]⟩ := by decide +kernel
  exact key k hk
end
noncomputable def bl (p : Nat → Bool) : List Int := (List.range 12).map fun i => if p i = true then 1 else 0
theorem bl_get (p : Nat → Bool) {i : Nat} (h : i < 12) : (bl p).getD i 0 = if p i = true then 1 else 0 := by
  unfold bl
  rw [List.getD_eq_getElem?_getD, List.getElem?_map, List.getElem?_range h]
  rfl
theorem pickA {k : Nat} {p : Nat → Bool} {g i : Nat} {b : Int} (hi : i ≠ 0) (hg : g < 3) (hb : b = ((2 ^ (3 * g + 2) : Nat) : Int)) : fmPick (modeOf k p) i [(b, Str.ofString "r")] = rowA (bl p) g := by
  simp only [fmPick, hit1 hi (show 3 * g + 2 < 12 by omega) hb, if_neg hi, rowA, bl_get p (show 3 * g + 2 < 12 by omega)]
  cases p (3 * g + 2) <;> rfl
theorem pickB {k : Nat} {p : Nat → Bool} {g i : Nat} {b : Int} (hi : i ≠ 0) (hg : g < 3) (hb : b = ((2 ^ (3 * g + 1) : Nat) : Int)) : fmPick (modeOf k p) i [(b, Str.ofString "w")] = rowB (bl p) g := by
  simp only [fmPick, hit1 hi (show 3 * g + 1 < 12 by omega) hb, if_neg hi, rowB, bl_get p (show 3 * g + 1 < 12 by omega)]
  cases p (3 * g + 1) <;> rfl
theorem pickC {k : Nat} {p : Nat → Bool} {g i : Nat} {b1 b2 b3 : Int} {x y z : Str} (hi : i ≠ 0) (hg : g < 3) (h1 : b1 = ((2 ^ (3 * g) ||| 2 ^ (9 + g) : Nat) : Int)) (h2 : b2 = ((2 ^ (9 + g) : Nat) : Int)) (h3 : b3 = ((2 ^ (3 * g) : Nat) : Int))
    (hE : ∀ u v : Bool, (⟨#[(rowE g).cps.getD ((if u = true then (1 : Int) else 0) + 2 * (if v = true then 1 else 0)).toNat 0]⟩ : Str) = if (u && v) = true then x else if v = true then y else if u = true then z else Str.ofString "-") :
    fmPick (modeOf k p) i [(b1, x), (b2, y), (b3, z)] = rowC (bl p) g := by
  simp only [fmPick, hit2 hi (show 3 * g < 12 by omega) (show 9 + g < 12 by omega) (by omega) h1, hit1 hi (show 9 + g < 12 by omega) h2, hit1 hi (show 3 * g < 12 by omega) h3, if_neg hi, rowC, bl_get p (show 3 * g < 12 by omega), bl_get p (show 9 + g < 12 by omega)]
  rw [hE]
theorem str_app (x y : Str) : x ++ y = ⟨x.cps ++ y.cps⟩ := rfl
theorem join10 (a b c d e f g h i j : Str) : Txt.join (Str.ofString "") [a, b, c, d, e, f, g, h, i, j] = (((((((((a ++ b) ++ c) ++ d) ++ e) ++ f) ++ g) ++ h) ++ i) ++ j) := by
  have e0 : (Str.ofString "").cps = #[] := by decide +kernel
  simp only [str_app]
  unfold Txt.join Builtin.Str.glued
  rw [e0]
  simp
theorem fm_row {k : Nat} {p : Nat → Bool} (hk : k < 16) : fmS (modeOf k p) = rowUp k (bl p) 3 := by
  have e : fmAll (modeOf k p) = [⟨#[(Str.ofString "?pc?d?b?-?l?s???").cps.getD k 0]⟩, rowA (bl p) 2, rowB (bl p) 2, rowC (bl p) 2, rowA (bl p) 1, rowB (bl p) 1, rowC (bl p) 1, rowA (bl p) 0, rowB (bl p) 0, rowC (bl p) 0] := by
    unfold fmAll
    rw [show List.range 10 = [0, 1, 2, 3, 4, 5, 6, 7, 8, 9] from rfl]
    simp only [List.map_cons, List.map_nil]
    rw [pick0 hk]
    congr 1
    congr 1
    · exact pickA (by decide) (by decide) (by decide)
    congr 1
    · exact pickB (by decide) (by decide) (by decide)
    congr 1
    · exact pickC (by decide) (by decide) (by decide) (by decide) (by decide) (by decide +kernel)
    congr 1
    · exact pickA (by decide) (by decide) (by decide)
    congr 1
    · exact pickB (by decide) (by decide) (by decide)
    congr 1
    · exact pickC (by decide) (by decide) (by decide) (by decide) (by decide) (by decide +kernel)
    congr 1
    · exact pickA (by decide) (by decide) (by decide)
    congr 1
    · exact pickB (by decide) (by decide) (by decide)
    congr 1
    · exact pickC (by decide) (by decide) (by decide) (by decide) (by decide) (by decide +kernel)
  unfold fmS
  rw [e, join10]
  rfl
theorem app_inj {a b c d : Str} (h : a ++ b = c ++ d) (hl : b.length = d.length) : a = c ∧ b = d := by
  have h1 : (a ++ b).cps.toList = (c ++ d).cps.toList := by rw [h]
  have h2 : a.cps.toList ++ b.cps.toList = c.cps.toList ++ d.cps.toList := by simpa [str_app] using h1
  have h3 : b.cps.toList.length = d.cps.toList.length := hl
  obtain ⟨e1, e2⟩ := List.append_inj' h2 h3
  cases a; cases b; cases c; cases d
  exact ⟨congrArg Str.mk (Array.toList_inj.mp e1), congrArg Str.mk (Array.toList_inj.mp e2)⟩
theorem rowC_len (xs : List Int) (g : Nat) : (rowC xs g).length = 1 := rfl
theorem row_inj {k : Nat} {p q : Nat → Bool} : ∀ i, i ≤ 3 → rowUp k (bl p) i = rowUp k (bl q) i → ∀ g, g < 3 → 2 < g + i → p (3 * g + 2) = q (3 * g + 2) ∧ p (3 * g + 1) = q (3 * g + 1) ∧ p (3 * g) = q (3 * g) ∧ p (9 + g) = q (9 + g)
  | 0, _, _, g, hg, hi => by omega
  | i + 1, h3, h, g, hg, hi => by
    unfold rowUp at h
    obtain ⟨h, eC⟩ := app_inj h (by rw [rowC_len, rowC_len])
    obtain ⟨h, eB⟩ := app_inj h (by rw [rowB_len, rowB_len])
    obtain ⟨h, eA⟩ := app_inj h (by rw [rowA_len, rowA_len])
    by_cases hgi : g = 2 - i
    · rw [← hgi] at eA eB eC
      refine ⟨?_, ?_, ?_⟩
      · unfold rowA at eA
        rw [bl_get p (by omega), bl_get q (by omega)] at eA
        cases h1 : p (3 * g + 2) <;> cases h2 : q (3 * g + 2) <;> first | rfl | (rw [h1, h2] at eA; exact absurd eA (by decide +kernel))
      · unfold rowB at eB
        rw [bl_get p (by omega), bl_get q (by omega)] at eB
        cases h1 : p (3 * g + 1) <;> cases h2 : q (3 * g + 1) <;> first | rfl | (rw [h1, h2] at eB; exact absurd eB (by decide +kernel))
      · unfold rowC at eC
        rw [bl_get p (show 3 * g < 12 by omega), bl_get q (show 3 * g < 12 by omega), bl_get p (show 9 + g < 12 by omega), bl_get q (show 9 + g < 12 by omega)] at eC
        have key : ∀ g < 3, ∀ a b c d : Bool, (⟨#[(rowE g).cps.getD ((if a = true then (1 : Int) else 0) + 2 * (if b = true then 1 else 0)).toNat 0]⟩ : Str) = ⟨#[(rowE g).cps.getD ((if c = true then (1 : Int) else 0) + 2 * (if d = true then 1 else 0)).toNat 0]⟩ → a = c ∧ b = d := by decide +kernel
        exact key g hg _ _ _ _ eC
    · exact row_inj i (by omega) h g hg (by omega)
theorem fm_inj {k : Nat} {p q : Nat → Bool} (hk : k < 16) (h : fmS (modeOf k p) = fmS (modeOf k q)) : modeOf k p = modeOf k q := by
  rw [fm_row hk, fm_row hk] at h
  have hpq : ∀ i, i < 12 → p i = q i := by
    intro i hi
    have h0 := row_inj 3 (Nat.le_refl _) h
    obtain ⟨g, hg, hc⟩ : ∃ g, g < 3 ∧ (i = 3 * g + 2 ∨ i = 3 * g + 1 ∨ i = 3 * g ∨ i = 9 + g) := by
      rcases Nat.lt_or_ge i 9 with h9 | h9
      · exact ⟨i / 3, by omega, by omega⟩
      · exact ⟨i - 9, by omega, by omega⟩
    obtain ⟨a, b, c, d⟩ := h0 g hg (by omega)
    rcases hc with e | e | e | e <;> subst e <;> assumption
  have hb : ∀ k, k ≤ 12 → bsum p k = bsum q k := by
    intro k
    induction k with
    | zero => intro _; rfl
    | succ k ih => intro hk; unfold bsum; rw [ih (by omega), hpq k (by omega)]
  unfold modeOf
  rw [hb 12 (Nat.le_refl _)]
end Mine
/-! text P3 -/
namespace Mine
open PySem PySem.Calls PySem.Spec PyProof.Rows
/-! the queue of levels, and what _law_told tells of it -/
noncomputable def ins (l : Int) : List Int → List Int
  | [] => [l]
  | a :: r => if l ≤ a then l :: a :: r else a :: ins l r
theorem ins_perm (l : Int) : ∀ q, (ins l q).Perm (l :: q)
  | [] => List.Perm.refl _
  | a :: r => by
    unfold ins
    split
    · exact List.Perm.refl _
    · exact ((ins_perm l r).cons a).trans (List.Perm.swap _ _ _)
theorem ins_len (l : Int) (q : List Int) : (ins l q).length = q.length + 1 := (ins_perm l q).length_eq
abbrev Srt (q : List Int) : Prop := q.Pairwise (· ≤ ·)
theorem ins_srt (l : Int) : ∀ q, Srt q → Srt (ins l q)
  | [], _ => List.pairwise_singleton _ _
  | a :: r, h => by
    unfold ins
    obtain ⟨h1, h2⟩ := List.pairwise_cons.mp h
    split
    · rename_i hl
      refine List.pairwise_cons.mpr ⟨?_, h⟩
      intro b hb
      rcases List.mem_cons.mp hb with e | hb
      · subst e; exact hl
      · exact Int.le_trans hl (h1 b hb)
    · rename_i hl
      refine List.pairwise_cons.mpr ⟨?_, ins_srt l r h2⟩
      intro b hb
      rcases List.mem_cons.mp ((ins_perm l r).mem_iff.mp hb) with e | hb
      · subst e; omega
      · exact h1 b hb
noncomputable def ab1 (l : Int) (st : List Int × List Int) (c : Nat) : List Int × List Int := if c = 60 then (ins l st.1, st.2) else (st.1.tail, st.2 ++ [st.1.headD 0])
noncomputable def lackOf (waits Q : List Int) : List Int := waits.map fun w => ((Q.countP fun a => decide (a ≤ w) : Nat) : Int)
noncomputable def bitsOf (waits : List Int) (l : Int) : List Int := waits.map fun w => if w < l then 1 else 0
theorem lackIn_of (waits Q : List Int) (l : Int) : lackIn waits l (lackOf waits Q) = lackOf waits (ins l Q) := by
  unfold lackIn lackOf
  rw [List.zipWith_map_left, List.zipWith_self]
  refine List.map_congr_left fun w _ => ?_
  rw [(ins_perm l Q).countP_eq, List.countP_cons]
  by_cases h : l ≤ w <;> simp [h]
theorem count_srt {h : Int} {r : List Int} (hs : Srt (h :: r)) (w : Int) (hw : w < h) : (h :: r).countP (fun a => decide (a ≤ w)) = 0 := by
  rw [List.countP_eq_zero]
  obtain ⟨h1, h2⟩ := List.pairwise_cons.mp hs
  intro a ha
  rcases List.mem_cons.mp ha with e | ha
  · subst e; simp; omega
  · have := h1 a ha
    simp; omega
theorem lackRow_of {h : Int} {r : List Int} (hs : Srt (h :: r)) (waits : List Int) : lackRow (lackOf waits (h :: r)) = bitsOf waits h := by
  unfold lackRow lackOf bitsOf
  rw [List.map_map]
  refine List.map_congr_left fun w _ => ?_
  show (if (((h :: r).countP (fun a => decide (a ≤ w)) : Nat) : Int) != 0 then (0 : Int) else 1) = _
  by_cases hw : w < h
  · rw [count_srt hs w hw, if_pos hw]; rfl
  · rw [List.countP_cons, decide_eq_true (show h ≤ w by omega), if_neg hw, if_pos]
    rw [bne_iff_ne]
    simp
    omega
theorem lackOut_of {h : Int} {r : List Int} (hs : Srt (h :: r)) (waits : List Int) : lackOut (lackOf waits (h :: r)) = lackOf waits r := by
  unfold lackOut lackOf
  rw [List.map_map]
  refine List.map_congr_left fun w _ => ?_
  show (if (((h :: r).countP (fun a => decide (a ≤ w)) : Nat) : Int) != 0 then (((h :: r).countP (fun a => decide (a ≤ w)) : Nat) : Int) - 1 else 0) = _
  by_cases hw : w < h
  · have h0 := count_srt hs w hw
    rw [h0]
    rw [List.countP_cons] at h0
    have : r.countP (fun a => decide (a ≤ w)) = 0 := by omega
    rw [this]; rfl
  · rw [List.countP_cons, decide_eq_true (show h ≤ w by omega), if_pos rfl, if_pos]
    · omega
    · rw [bne_iff_ne]
      omega
noncomputable def Fits : Nat → List Nat → Prop
  | _, [] => True
  | h, c :: r => (c = 60 ∧ Fits (h + 1) r) ∨ (c = 62 ∧ 0 < h ∧ Fits (h - 1) r)
theorem ab_srt {l : Int} {Q outs : List Int} {c : Nat} (hs : Srt Q) : Srt (ab1 l (Q, outs) c).1 := by
  unfold ab1
  split
  · exact ins_srt l Q hs
  · exact hs.sublist (List.tail_sublist _)
theorem told_fold {kind : Nat} {waits : List Int} {l : Int} : ∀ (cs : List Nat) (Q outs : List Int), Srt Q → Fits Q.length cs →
    cs.foldl (tell1 kind waits l) (lackOf waits Q, outs.map fun a => rowUp kind (bitsOf waits a) 3) = (lackOf waits (cs.foldl (ab1 l) (Q, outs)).1, (cs.foldl (ab1 l) (Q, outs)).2.map fun a => rowUp kind (bitsOf waits a) 3) ∧ Srt (cs.foldl (ab1 l) (Q, outs)).1
  | [], Q, outs, hs, _ => ⟨rfl, hs⟩
  | c :: r, Q, outs, hs, hf => by
    have key : tell1 kind waits l (lackOf waits Q, outs.map fun a => rowUp kind (bitsOf waits a) 3) c = (lackOf waits (ab1 l (Q, outs) c).1, (ab1 l (Q, outs) c).2.map fun a => rowUp kind (bitsOf waits a) 3) ∧ Fits (ab1 l (Q, outs) c).1.length r := by
      rcases hf with ⟨rfl, hf⟩ | ⟨rfl, h0, hf⟩
      · refine ⟨?_, ?_⟩
        · unfold tell1 ab1
          rw [if_pos (by decide +kernel), if_pos rfl, lackIn_of]
        · unfold ab1
          rw [if_pos rfl, ins_len]
          exact hf
      · cases Q with
        | nil => exact absurd h0 (Nat.lt_irrefl _)
        | cons a q =>
          refine ⟨?_, ?_⟩
          · unfold tell1 ab1
            rw [if_neg (by decide +kernel), if_neg (by decide), lackOut_of hs, lackRow_of hs, List.map_append]
            rfl
          · exact hf
    rw [List.foldl_cons, List.foldl_cons, key.1]
    exact told_fold r _ _ (ab_srt hs) key.2
noncomputable def abAll (ps : List (Str × Int)) (st : List Int × List Int) : List Int × List Int := ps.foldl (fun st p => p.1.cps.toList.foldl (ab1 p.2) st) st
/-- pieces that fit a queue of h -/
inductive Good : Nat → List (Str × Int) → Prop
  | last {h : Nat} : 1 ≤ h → h < 30 → Good h [(Txt.mul (Str.ofString ">") (h : Int), 0)]
  | inn {h : Nat} {l : Int} {ps : List (Str × Int)} : 0 ≤ l → l < 6 → Good (h + 1) ps → Good h ((Str.ofString "<", l) :: ps)
  | out {h : Nat} {l : Int} {ps : List (Str × Int)} : 0 ≤ l → l < 6 → Good h ps → Good (h + 1) ((Str.ofString ">", l) :: ps)
  | thru {h : Nat} {l : Int} {ps : List (Str × Int)} : 0 ≤ l → l < 6 → Good h ps → Good h ((Str.ofString "<>", l) :: ps)
  | swap {h : Nat} {l : Int} {ps : List (Str × Int)} : 0 ≤ l → l < 6 → Good (h + 1) ps → Good (h + 1) ((Str.ofString "><", l) :: ps)
theorem c_lt : (Str.ofString "<").cps.toList = [60] := by decide +kernel
theorem c_gt : (Str.ofString ">").cps.toList = [62] := by decide +kernel
theorem c_ltgt : (Str.ofString "<>").cps.toList = [60, 62] := by decide +kernel
theorem c_gtlt : (Str.ofString "><").cps.toList = [62, 60] := by decide +kernel
theorem c_mul : ∀ h : Nat, h < 30 → (Txt.mul (Str.ofString ">") (h : Int)).cps.toList = List.replicate h 62 := by decide +kernel
theorem fits_rep : ∀ h, Fits h (List.replicate h 62)
  | 0 => trivial
  | h + 1 => .inr ⟨rfl, Nat.zero_lt_succ _, fits_rep h⟩
theorem ab_rep {l : Int} : ∀ (Q outs : List Int), (List.replicate Q.length 62).foldl (ab1 l) (Q, outs) = ([], outs ++ Q)
  | [], outs => by simp
  | a :: q, outs => by
    show (List.replicate q.length 62).foldl (ab1 l) (ab1 l (a :: q, outs) 62) = _
    have e : ab1 l (a :: q, outs) 62 = (q, outs ++ [a]) := rfl
    rw [e, ab_rep q (outs ++ [a])]
    simp
theorem told_ok {kind : Nat} {waits : List Int} {h : Nat} {ps : List (Str × Int)} (G : Good h ps) : ∀ (Q outs : List Int), Srt Q → Q.length = h →
    (ps.foldl (tellP kind waits) (lackOf waits Q, outs.map fun a => rowUp kind (bitsOf waits a) 3)).2 = (abAll ps (Q, outs)).2.map fun a => rowUp kind (bitsOf waits a) 3 := by
  have step : ∀ (s : Str) (l : Int) (r : List (Str × Int)) (Q outs : List Int), Srt Q → Fits Q.length s.cps.toList →
      (((s, l) :: r).foldl (tellP kind waits) (lackOf waits Q, outs.map fun a => rowUp kind (bitsOf waits a) 3)) = r.foldl (tellP kind waits) (lackOf waits (s.cps.toList.foldl (ab1 l) (Q, outs)).1, (s.cps.toList.foldl (ab1 l) (Q, outs)).2.map fun a => rowUp kind (bitsOf waits a) 3) ∧ Srt (s.cps.toList.foldl (ab1 l) (Q, outs)).1 := by
    intro s l r Q outs hs hf
    obtain ⟨e, hs'⟩ := told_fold (kind := kind) (waits := waits) (l := l) s.cps.toList Q outs hs hf
    refine ⟨?_, hs'⟩
    rw [List.foldl_cons]
    unfold tellP at *
    rw [e]
  induction G with
  | last h1 h2 =>
    intro Q outs hs hl
    obtain ⟨e, _⟩ := step _ 0 [] Q outs hs (by rw [c_mul _ h2, hl]; exact fits_rep _)
    rw [e]
    rfl
  | @inn h l ps a b g ih =>
    intro Q outs hs hl
    obtain ⟨e, hs'⟩ := step (Str.ofString "<") l ps Q outs hs (by rw [c_lt]; exact .inl ⟨rfl, trivial⟩)
    rw [e]
    refine ih _ _ hs' ?_
    rw [c_lt]
    show (ins l Q).length = _
    rw [ins_len, hl]
  | @out h l ps a b g ih =>
    intro Q outs hs hl
    obtain ⟨e, hs'⟩ := step (Str.ofString ">") l ps Q outs hs (by rw [c_gt]; exact .inr ⟨rfl, by omega, trivial⟩)
    rw [e]
    refine ih _ _ hs' ?_
    rw [c_gt]
    show Q.tail.length = _
    rw [List.length_tail, hl]; rfl
  | @thru h l ps a b g ih =>
    intro Q outs hs hl
    obtain ⟨e, hs'⟩ := step (Str.ofString "<>") l ps Q outs hs (by rw [c_ltgt]; exact .inl ⟨rfl, .inr ⟨rfl, Nat.zero_lt_succ _, trivial⟩⟩)
    rw [e]
    refine ih _ _ hs' ?_
    rw [c_ltgt]
    show (ins l Q).tail.length = _
    rw [List.length_tail, ins_len, hl]; rfl
  | @swap h l ps a b g ih =>
    intro Q outs hs hl
    obtain ⟨e, hs'⟩ := step (Str.ofString "><") l ps Q outs hs (by rw [c_gtlt]; exact .inr ⟨rfl, by omega, .inl ⟨rfl, trivial⟩⟩)
    rw [e]
    refine ih _ _ hs' ?_
    rw [c_gtlt]
    show (ins l Q.tail).length = _
    rw [ins_len, List.length_tail, hl]; rfl
/-! levels and modes -/
noncomputable def pOf (n l : Int) (b : Nat) : Bool := decide ((waitsOf n).getD b 0 < l)
theorem kind_nat (n : Int) : kindOf n = ((kindOf n).toNat : Int) ∧ (kindOf n).toNat < 16 := by
  have h1 : 0 ≤ kindOf n := by unfold kindOf; omega
  have h2 : kindOf n < 16 := by unfold kindOf; omega
  omega
theorem lev_mode (n l : Int) : levelOf n l = modeOf (kindOf n).toNat (pOf n l) := by
  unfold levelOf modeOf
  have e := sum_bits (pOf n l) 12
  have e2 : (((List.range 12).filter fun (b : Nat) => decide ((waitsOf n).getD b 0 < l)).map fun (b : Nat) => (2 : Int) ^ b).sum = (bsum (pOf n l) 12 : Int) := e
  rw [e2]
  have := (kind_nat n).1
  omega
theorem bl_bits (n l : Int) : bl (pOf n l) = bitsOf (waitsOf n) l := by
  unfold bl bitsOf waitsOf
  rw [List.map_map]
  refine List.map_congr_left fun i hi => ?_
  have hi' := List.mem_range.mp hi
  have e : (waitsOf n).getD i 0 = (n % 10 ^ 12 / 6 ^ i - (i : Int)) % 6 := by
    unfold waitsOf
    rw [List.getD_eq_getElem?_getD, List.getElem?_map, List.getElem?_range hi']
    rfl
  show (if decide ((waitsOf n).getD i 0 < l) = true then (1 : Int) else 0) = if (n % 10 ^ 12 / 6 ^ i - (i : Int)) % 6 < l then 1 else 0
  rw [e]
  by_cases h : (n % 10 ^ 12 / 6 ^ i - (i : Int)) % 6 < l
  · rw [if_pos (by simpa using h), if_pos h]
  · rw [if_neg (by simpa using h), if_neg h]
theorem fm_lev (n l : Int) : fmS (levelOf n l) = rowUp (kindOf n).toNat (bitsOf (waitsOf n) l) 3 := by
  rw [lev_mode, fm_row (kind_nat n).2, bl_bits]
theorem lev_inj {n a b : Int} (h : fmS (levelOf n a) = fmS (levelOf n b)) : levelOf n a = levelOf n b := by
  rw [lev_mode, lev_mode] at h ⊢
  exact fm_inj (kind_nat n).2 h
theorem bsum_mono {p q : Nat → Bool} (h : ∀ i, p i = true → q i = true) : ∀ k, bsum p k ≤ bsum q k
  | 0 => Nat.le_refl _
  | k + 1 => by
    unfold bsum
    have := bsum_mono h k
    have h2 : (p k).toNat ≤ (q k).toNat := by
      cases hp : p k
      · exact Nat.zero_le _
      · rw [h k hp]; exact Nat.le_refl _
    have := Nat.mul_le_mul_left (2 ^ k) h2
    omega
theorem lev_mono {n a b : Int} (h : a ≤ b) : levelOf n a ≤ levelOf n b := by
  rw [lev_mode, lev_mode]
  have := bsum_mono (p := pOf n a) (q := pOf n b) (fun i hi => by unfold pOf at *; simp at hi ⊢; omega) 12
  unfold modeOf
  omega
end Mine
/-! text P4 -/
namespace Mine
open PySem PySem.Calls PySem.Spec PyProof.Rows
/-! the heap's turns -/
theorem map_srt {n : Int} {Q : List Int} (h : Srt Q) : Srt (Q.map (levelOf n)) := by
  unfold Srt at *
  rw [List.pairwise_map]
  exact h.imp fun h => lev_mono h
theorem pops_ok {n : Int} {xs Q : List Int} (H : HeapOf xs (Q.map (levelOf n))) (hs : Srt Q) : ∀ i, i ≤ Q.length → (popsQ i xs).1 = (Q.take i).map (levelOf n) ∧ HeapOf (popsQ i xs).2 ((Q.drop i).map (levelOf n))
  | 0, _ => ⟨rfl, H⟩
  | i + 1, hi => by
    obtain ⟨h1, h2⟩ := pops_ok H hs i (by omega)
    have hd : Q.drop i = Q[i]'hi :: Q.drop (i + 1) := List.drop_eq_getElem_cons hi
    have hsd : Srt (Q[i]'hi :: Q.drop (i + 1)) := by rw [← hd]; exact hs.sublist (List.drop_sublist _ _)
    rw [hd, List.map_cons] at h2
    have hm := (List.pairwise_cons.mp (map_srt (n := n) hsd)).1
    obtain ⟨h3, h4⟩ := hpop_ok h2 hm
    unfold popsQ
    refine ⟨?_, h4⟩
    rw [h1, h3, List.take_add_one, List.getElem?_eq_getElem hi, List.map_append]
    rfl
noncomputable def repS (k : Nat) : Str := ⟨(List.replicate k 62).toArray⟩
theorem ends_in : ∀ k : Nat, k < 20 → ends4.filter (Txt.endswith (repS k ++ Str.ofString "<>")) = Str.ofString "<>" :: [Str.ofString ""] := by decide +kernel
theorem ends_sw : ∀ k : Nat, k < 20 → ends4.filter (Txt.endswith (repS k ++ Str.ofString "><")) = Str.ofString "><" :: [Str.ofString "<", Str.ofString ""] := by decide +kernel
theorem ends_gl : ∀ k : Nat, k < 20 → ends4.filter (Txt.endswith (repS (k + 1) ++ Str.ofString "<")) = Str.ofString "><" :: [Str.ofString "<", Str.ofString ""] := by decide +kernel
theorem ends_l : ends4.filter (Txt.endswith (repS 0 ++ Str.ofString "<")) = Str.ofString "<" :: [Str.ofString ""] := by decide +kernel
theorem ends_g : ∀ k : Nat, k < 20 → ends4.filter (Txt.endswith (repS (k + 1))) = Str.ofString "" :: [] := by decide +kernel
theorem rep_len (k : Nat) : (repS k).length = k := by
  show (repS k).cps.size = k
  simp [repS]
theorem rows_at {n l : Int} (h0 : 0 ≤ l) (h6 : l < 6) : (rowsL n)[l.toNat]? = some (fmS (levelOf n l)) := by
  unfold rowsL lvls
  rw [List.getElem?_map, List.getElem?_map, List.getElem?_range (by omega)]
  show some (fmS (levelOf n ((l.toNat : Nat) : Int))) = _
  rw [Int.toNat_of_nonneg h0]
theorem rows_len (n : Int) : (rowsL n).length = 6 := by simp [rowsL, lvls]
/-- the first row like this one bears the same mode -/
theorem row_first {n l : Int} (h0 : 0 ≤ l) (h6 : l < 6) : ∃ j, (rowsL n)[j]? = some (fmS (levelOf n l)) ∧ (∀ i y, i < j → (rowsL n)[i]? = some y → (y == fmS (levelOf n l)) = false) ∧ (lvls n).getD j 0 = levelOf n l := by
  have hex : ∃ x ∈ rowsL n, (x == fmS (levelOf n l)) = true := ⟨_, List.mem_of_getElem? (rows_at h0 h6), beq_self_eq_true _⟩
  have hlt := List.findIdx_lt_length_of_exists hex
  have hat := List.findIdx_getElem (w := hlt)
  generalize hj : (rowsL n).findIdx (fun x => x == fmS (levelOf n l)) = j at *
  have e1 : (rowsL n)[j]? = some (fmS (levelOf n l)) := by
    rw [List.getElem?_eq_getElem hlt, eq_of_beq hat]
  refine ⟨j, e1, ?_, ?_⟩
  · intro i y hi hy
    have hno := List.not_of_lt_findIdx (p := fun x => x == fmS (levelOf n l)) (xs := rowsL n) (i := i) (by rw [hj]; exact hi)
    obtain ⟨hil, he⟩ := List.getElem?_eq_some_iff.mp hy
    rw [← he]
    simpa using hno
  · rw [rows_len] at hlt
    have e2 : (rowsL n)[j]? = some (fmS (levelOf n (j : Int))) := by
      have := rows_at (n := n) (l := (j : Int)) (Int.natCast_nonneg j) (by omega)
      rwa [Int.toNat_natCast] at this
    rw [e1] at e2
    have e3 := lev_inj (Option.some.inj e2)
    unfold lvls
    rw [List.getD_eq_getElem?_getD, List.getElem?_map, List.getElem?_range hlt]
    exact e3.symm
inductive Runs (n : Int) : List Str → List Int × List Int → List Int × List Int → Prop
  | nil {a : List Int × List Int} : Runs n [] a a
  | cons {run row : Str} {ts : List Str} {a b c : List Int × List Int} : Turn n run row a b → Runs n ts b c → Runs n (run :: row :: ts) a c
theorem Runs.plan {n : Int} {ts : List Str} {a c : List Int × List Int} (R : Runs n ts a c) : ∃ (N : Nat) (st : Nat → List Int × List Int), ts.length = 2 * N ∧ st 0 = a ∧ st N = c ∧ (∀ j, j < N → ∃ run row, ts[2 * j]? = some run ∧ ts[2 * j + 1]? = some row ∧ Turn n run row (st j) (st (j + 1))) ∧ (∀ j, j ≤ N → (st j).2.length ≤ c.2.length) := by
  induction R with
  | @nil a => exact ⟨0, fun _ => a, rfl, rfl, rfl, fun j h => absurd h (Nat.not_lt_zero _), fun j _ => Nat.le_refl _⟩
  | @cons run row ts a b c t r ih =>
    obtain ⟨N, st, h1, h2, h3, h4, h5⟩ := ih
    refine ⟨N + 1, fun j => match j with | 0 => a | j + 1 => st j, ?_, rfl, h3, ?_, ?_⟩
    · simp only [List.length_cons, h1]; omega
    · intro j hj
      cases j with
      | zero => exact ⟨run, row, rfl, rfl, by show Turn n run row a (st 0); rw [h2]; exact t⟩
      | succ j =>
        obtain ⟨run', row', e1, e2, e3⟩ := h4 j (by omega)
        refine ⟨run', row', ?_, ?_, e3⟩
        · rw [show 2 * (j + 1) = 2 * j + 1 + 1 by omega]; exact e1
        · rw [show 2 * (j + 1) + 1 = 2 * j + 1 + 1 + 1 by omega]; exact e2
    · intro j hj
      cases j with
      | zero =>
        obtain ⟨_, _, _, _, _, _, _, _, _, _, _, _, hb⟩ := t.ex
        have h0 := h5 0 (Nat.zero_le _)
        rw [h2, hb] at h0
        simp only [List.length_append] at h0
        show a.2.length ≤ _
        omega
      | succ j => exact h5 j (by omega)
noncomputable def grp (n : Int) : Nat → List (Str × Int) → List Str
  | k, [] => [repS k, fmS (levelOf n 0)]
  | k, (s, l) :: ps => if Txt.contains s (Str.ofString "<") = true then (repS k ++ s) :: fmS (levelOf n l) :: grp n 0 ps else grp n (k + s.length) ps
theorem k_lt : Txt.contains (Str.ofString "<") (Str.ofString "<") = true := by decide +kernel
theorem k_ltgt : Txt.contains (Str.ofString "<>") (Str.ofString "<") = true := by decide +kernel
theorem k_gtlt : Txt.contains (Str.ofString "><") (Str.ofString "<") = true := by decide +kernel
theorem k_gt : Txt.contains (Str.ofString ">") (Str.ofString "<") = false := by decide +kernel
theorem k_mul : ∀ h : Nat, h < 30 → Txt.contains (Txt.mul (Str.ofString ">") (h : Int)) (Str.ofString "<") = false := by decide +kernel
theorem l_mul : ∀ h : Nat, h < 30 → (Txt.mul (Str.ofString ">") (h : Int)).length = h := by decide +kernel
theorem HeapOf.perm {xs S S' : List Int} (H : HeapOf xs S) (hp : S.Perm S') : HeapOf xs S' := ⟨H.h, H.p.trans hp⟩
theorem HeapOf.len {xs S : List Int} (H : HeapOf xs S) : xs.length = S.length := H.p.length_eq
theorem turns_ok {n : Int} {h : Nat} {ps : List (Str × Int)} (G : Good h ps) : ∀ (k : Nat) (Q xs g outs : List Int), HeapOf xs (Q.map (levelOf n)) → Srt Q → Q.length = h + k → g = outs.map (levelOf n) → h + k + ps.length < 20 →
    Runs n (grp n k ps) (xs, g) ([], (abAll ps (Q.drop k, outs ++ Q.take k)).2.map (levelOf n)) := by
  induction G with
  | @last h h1 h2 =>
    intro k Q xs g outs H hs hl hg hb
    have e : grp n k [(Txt.mul (Str.ofString ">") (h : Int), 0)] = [repS (k + h), fmS (levelOf n 0)] := by
      unfold grp
      rw [k_mul h h2, if_neg (by decide), l_mul h h2]
      rfl
    have ea : abAll [(Txt.mul (Str.ofString ">") (h : Int), 0)] (Q.drop k, outs ++ Q.take k) = ([], outs ++ Q) := by
      show (Txt.mul (Str.ofString ">") (h : Int)).cps.toList.foldl (ab1 0) _ = _
      rw [c_mul h h2]
      have : h = (Q.drop k).length := by rw [List.length_drop]; omega
      rw [this, ab_rep, List.append_assoc, List.take_append_drop]
    rw [e, ea]
    obtain ⟨p1, p2⟩ := pops_ok H hs (k + h) (by omega)
    have hx := H.len
    rw [List.length_map] at hx
    obtain ⟨j, j1, j2, j3⟩ := row_first (n := n) (l := 0) (by decide) (by decide)
    obtain ⟨q, hq⟩ : ∃ q, k + h = q + 1 := ⟨k + h - 1, by omega⟩
    refine .cons (b := ([], (outs ++ Q).map (levelOf n))) ⟨Str.ofString "", [], k + h, j, ?_, ?_, ?_, ?_, ?_, ?_, j1, j2, ?_⟩ .nil
    · rw [hq]; exact ends_g q (by omega)
    · rw [rep_len]; rfl
    · rw [rep_len]; simp at hb; omega
    · show k + h ≤ xs.length; omega
    · show xs.length < 100; simp at hb; omega
    · intro e; exact absurd e (by decide +kernel)
    · have eg : goneF (Str.ofString "") (k + h) xs ((lvls n).getD j 0) = popsQ (k + h) xs := by
        unfold goneF
        rw [if_neg (by decide +kernel), if_neg (by decide +kernel), if_neg (by decide +kernel)]
      show ([], (outs ++ Q).map (levelOf n)) = ((goneF (Str.ofString "") (k + h) xs ((lvls n).getD j 0)).2, g ++ (goneF (Str.ofString "") (k + h) xs ((lvls n).getD j 0)).1)
      rw [eg, p1, List.take_of_length_le (by omega), hg, List.map_append]
      have : (popsQ (k + h) xs).2 = [] := by
        have := p2.len
        rw [List.length_map, List.length_drop] at this
        exact List.length_eq_zero_iff.mp (by omega)
      rw [this]
  | @inn h l ps a b g' ih =>
    intro k Q xs g outs H hs hl hg hb
    simp only [List.length_cons] at hb
    have e : grp n k ((Str.ofString "<", l) :: ps) = (repS k ++ Str.ofString "<") :: fmS (levelOf n l) :: grp n 0 ps := by
      show (if Txt.contains (Str.ofString "<") (Str.ofString "<") = true then _ else _) = _
      rw [k_lt, if_pos rfl]
    have ea : abAll ((Str.ofString "<", l) :: ps) (Q.drop k, outs ++ Q.take k) = abAll ps (ins l (Q.drop k), outs ++ Q.take k) := by
      show abAll ps ((Str.ofString "<").cps.toList.foldl (ab1 l) _) = _
      rw [c_lt]; rfl
    rw [e, ea]
    have hx := H.len
    rw [List.length_map] at hx
    obtain ⟨j, j1, j2, j3⟩ := row_first (n := n) a b
    have hsd : Srt (Q.drop k) := hs.sublist (List.drop_sublist _ _)
    cases k with
    | zero =>
      have hp : HeapOf (hpush xs (levelOf n l)) ((ins l Q).map (levelOf n)) := (hpush_ok H).perm ((ins_perm l Q).map (levelOf n)).symm
      refine .cons (b := (hpush xs (levelOf n l), g)) ⟨Str.ofString "<", _, 0, j, ends_l, ?_, ?_, ?_, ?_, ?_, j1, j2, ?_⟩ ?_
      · decide +kernel
      · decide +kernel
      · exact Nat.zero_le _
      · show xs.length < 100; omega
      · intro e; exact absurd e (by decide +kernel)
      · have eg : goneF (Str.ofString "<") 0 xs ((lvls n).getD j 0) = ([], hpush xs (levelOf n l)) := by
          unfold goneF
          rw [if_pos (by decide +kernel), j3]
          rfl
        show (hpush xs (levelOf n l), g) = ((goneF (Str.ofString "<") 0 xs ((lvls n).getD j 0)).2, g ++ (goneF (Str.ofString "<") 0 xs ((lvls n).getD j 0)).1)
        rw [eg, List.append_nil]
      · have := ih 0 (ins l Q) (hpush xs (levelOf n l)) g outs hp (ins_srt l Q hs) (by rw [ins_len]; omega) hg (by omega)
        simpa using this
    | succ k0 =>
      obtain ⟨p1, p2⟩ := pops_ok H hs k0 (by omega)
      have hk0 : k0 < Q.length := by omega
      have hd : Q.drop k0 = Q[k0] :: Q.drop (k0 + 1) := List.drop_eq_getElem_cons hk0
      have hsd0 : Srt (Q[k0] :: Q.drop (k0 + 1)) := by rw [← hd]; exact hs.sublist (List.drop_sublist _ _)
      rw [hd, List.map_cons] at p2
      obtain ⟨r1, r2⟩ := hrep_ok (x := levelOf n l) p2 (List.pairwise_cons.mp (map_srt (n := n) hsd0)).1
      have hp : HeapOf (hrep (popsQ k0 xs).2 (levelOf n l)).2 ((ins l (Q.drop (k0 + 1))).map (levelOf n)) := r2.perm ((ins_perm l (Q.drop (k0 + 1))).map (levelOf n)).symm
      have hrl : (repS (k0 + 1) ++ Str.ofString "<").length = k0 + (Str.ofString "><").length := by
        rw [len_app, rep_len]; rfl
      refine .cons (b := ((hrep (popsQ k0 xs).2 (levelOf n l)).2, g ++ (Q.take (k0 + 1)).map (levelOf n))) ⟨Str.ofString "><", _, k0, j, ends_gl k0 (by omega), hrl, ?_, ?_, ?_, ?_, j1, j2, ?_⟩ ?_
      · rw [hrl]; show k0 + 2 < 1000; omega
      · show k0 ≤ xs.length; omega
      · show xs.length < 100; omega
      · intro _; show k0 < xs.length; omega
      · have eg : goneF (Str.ofString "><") k0 xs ((lvls n).getD j 0) = ((popsQ k0 xs).1 ++ [(hrep (popsQ k0 xs).2 (levelOf n l)).1], (hrep (popsQ k0 xs).2 (levelOf n l)).2) := by
          unfold goneF
          rw [if_neg (by decide +kernel), if_neg (by decide +kernel), if_pos (by decide +kernel), j3]
        show ((hrep (popsQ k0 xs).2 (levelOf n l)).2, g ++ (Q.take (k0 + 1)).map (levelOf n)) = ((goneF (Str.ofString "><") k0 xs ((lvls n).getD j 0)).2, g ++ (goneF (Str.ofString "><") k0 xs ((lvls n).getD j 0)).1)
        rw [eg, r1, p1, List.take_add_one, List.getElem?_eq_getElem hk0, List.map_append]
        rfl
      · have := ih 0 (ins l (Q.drop (k0 + 1))) _ (g ++ (Q.take (k0 + 1)).map (levelOf n)) (outs ++ Q.take (k0 + 1)) hp (ins_srt l _ hsd) (by rw [ins_len, List.length_drop]; omega) (by rw [hg, List.map_append]) (by omega)
        simpa using this
  | @out h l ps a b g' ih =>
    intro k Q xs g outs H hs hl hg hb
    simp only [List.length_cons] at hb
    have e : grp n k ((Str.ofString ">", l) :: ps) = grp n (k + 1) ps := by
      show (if Txt.contains (Str.ofString ">") (Str.ofString "<") = true then _ else _) = _
      rw [k_gt, if_neg (by decide)]
      rfl
    have hk : k < Q.length := by omega
    have hd : Q.drop k = Q[k] :: Q.drop (k + 1) := List.drop_eq_getElem_cons hk
    have ea : abAll ((Str.ofString ">", l) :: ps) (Q.drop k, outs ++ Q.take k) = abAll ps (Q.drop (k + 1), outs ++ Q.take (k + 1)) := by
      show abAll ps ((Str.ofString ">").cps.toList.foldl (ab1 l) _) = _
      rw [c_gt, hd, List.take_add_one, List.getElem?_eq_getElem hk, ← List.append_assoc]
      rfl
    rw [e, ea]
    exact ih (k + 1) Q xs g outs H hs (by omega) hg (by omega)
  | @thru h l ps a b g' ih =>
    intro k Q xs g outs H hs hl hg hb
    simp only [List.length_cons] at hb
    have e : grp n k ((Str.ofString "<>", l) :: ps) = (repS k ++ Str.ofString "<>") :: fmS (levelOf n l) :: grp n 0 ps := by
      show (if Txt.contains (Str.ofString "<>") (Str.ofString "<") = true then _ else _) = _
      rw [k_ltgt, if_pos rfl]
    have hsd : Srt (Q.drop k) := hs.sublist (List.drop_sublist _ _)
    have hsi := ins_srt l _ hsd
    obtain ⟨m, S, hm⟩ : ∃ m S, ins l (Q.drop k) = m :: S := by
      cases hc : ins l (Q.drop k) with
      | nil => have := ins_len l (Q.drop k); rw [hc] at this; simp at this
      | cons m S => exact ⟨m, S, rfl⟩
    have hSl : S.length = (Q.drop k).length := by
      have := ins_len l (Q.drop k)
      rw [hm] at this
      simpa using this
    have ea : abAll ((Str.ofString "<>", l) :: ps) (Q.drop k, outs ++ Q.take k) = abAll ps (S, outs ++ Q.take k ++ [m]) := by
      show abAll ps ((Str.ofString "<>").cps.toList.foldl (ab1 l) _) = _
      rw [c_ltgt]
      show abAll ps ((ins l (Q.drop k)).tail, outs ++ Q.take k ++ [(ins l (Q.drop k)).headD 0]) = _
      rw [hm]
      rfl
    rw [e, ea]
    have hx := H.len
    rw [List.length_map] at hx
    obtain ⟨j, j1, j2, j3⟩ := row_first (n := n) a b
    obtain ⟨p1, p2⟩ := pops_ok H hs k (by omega)
    rw [hm] at hsi
    have hpm : (levelOf n l :: (Q.drop k).map (levelOf n)).Perm (levelOf n m :: S.map (levelOf n)) := by
      have := (ins_perm l (Q.drop k)).map (levelOf n)
      rw [hm, List.map_cons, List.map_cons] at this
      exact this.symm
    obtain ⟨r1, r2⟩ := hpp_ok p2 hpm (List.pairwise_cons.mp (map_srt (n := n) hsi)).1
    have hrl : (repS k ++ Str.ofString "<>").length = k + (Str.ofString "<>").length := by
      rw [len_app, rep_len]
    refine .cons (b := ((hpp (popsQ k xs).2 (levelOf n l)).2, g ++ (Q.take k ++ [m]).map (levelOf n))) ⟨Str.ofString "<>", _, k, j, ends_in k (by omega), hrl, ?_, ?_, ?_, ?_, j1, j2, ?_⟩ ?_
    · rw [hrl]; show k + 2 < 1000; omega
    · show k ≤ xs.length; omega
    · show xs.length < 100; omega
    · intro e; exact absurd e (by decide +kernel)
    · have eg : goneF (Str.ofString "<>") k xs ((lvls n).getD j 0) = ((popsQ k xs).1 ++ [(hpp (popsQ k xs).2 (levelOf n l)).1], (hpp (popsQ k xs).2 (levelOf n l)).2) := by
        unfold goneF
        rw [if_neg (by decide +kernel), if_pos (by decide +kernel), j3]
      show ((hpp (popsQ k xs).2 (levelOf n l)).2, g ++ (Q.take k ++ [m]).map (levelOf n)) = ((goneF (Str.ofString "<>") k xs ((lvls n).getD j 0)).2, g ++ (goneF (Str.ofString "<>") k xs ((lvls n).getD j 0)).1)
      rw [eg, r1, p1, List.map_append]
      rfl
    · have := ih 0 S _ (g ++ (Q.take k ++ [m]).map (levelOf n)) (outs ++ Q.take k ++ [m]) r2 (List.pairwise_cons.mp hsi).2 (by rw [hSl, List.length_drop]; omega) (by rw [hg]; simp) (by omega)
      simpa using this
  | @swap h l ps a b g' ih =>
    intro k Q xs g outs H hs hl hg hb
    simp only [List.length_cons] at hb
    have e : grp n k ((Str.ofString "><", l) :: ps) = (repS k ++ Str.ofString "><") :: fmS (levelOf n l) :: grp n 0 ps := by
      show (if Txt.contains (Str.ofString "><") (Str.ofString "<") = true then _ else _) = _
      rw [k_gtlt, if_pos rfl]
    have hk : k < Q.length := by omega
    have hd : Q.drop k = Q[k] :: Q.drop (k + 1) := List.drop_eq_getElem_cons hk
    have ea : abAll ((Str.ofString "><", l) :: ps) (Q.drop k, outs ++ Q.take k) = abAll ps (ins l (Q.drop (k + 1)), outs ++ Q.take (k + 1)) := by
      show abAll ps ((Str.ofString "><").cps.toList.foldl (ab1 l) _) = _
      rw [c_gtlt, hd, List.take_add_one, List.getElem?_eq_getElem hk, ← List.append_assoc]
      rfl
    rw [e, ea]
    have hx := H.len
    rw [List.length_map] at hx
    obtain ⟨j, j1, j2, j3⟩ := row_first (n := n) a b
    obtain ⟨p1, p2⟩ := pops_ok H hs k (by omega)
    have hsd0 : Srt (Q[k] :: Q.drop (k + 1)) := by rw [← hd]; exact hs.sublist (List.drop_sublist _ _)
    have hsd : Srt (Q.drop (k + 1)) := hs.sublist (List.drop_sublist _ _)
    rw [hd, List.map_cons] at p2
    obtain ⟨r1, r2⟩ := hrep_ok (x := levelOf n l) p2 (List.pairwise_cons.mp (map_srt (n := n) hsd0)).1
    have hp : HeapOf (hrep (popsQ k xs).2 (levelOf n l)).2 ((ins l (Q.drop (k + 1))).map (levelOf n)) := r2.perm ((ins_perm l (Q.drop (k + 1))).map (levelOf n)).symm
    have hrl : (repS k ++ Str.ofString "><").length = k + (Str.ofString "><").length := by
      rw [len_app, rep_len]
    refine .cons (b := ((hrep (popsQ k xs).2 (levelOf n l)).2, g ++ (Q.take (k + 1)).map (levelOf n))) ⟨Str.ofString "><", _, k, j, ends_sw k (by omega), hrl, ?_, ?_, ?_, ?_, j1, j2, ?_⟩ ?_
    · rw [hrl]; show k + 2 < 1000; omega
    · show k ≤ xs.length; omega
    · show xs.length < 100; omega
    · intro _; show k < xs.length; omega
    · have eg : goneF (Str.ofString "><") k xs ((lvls n).getD j 0) = ((popsQ k xs).1 ++ [(hrep (popsQ k xs).2 (levelOf n l)).1], (hrep (popsQ k xs).2 (levelOf n l)).2) := by
        unfold goneF
        rw [if_neg (by decide +kernel), if_neg (by decide +kernel), if_pos (by decide +kernel), j3]
      show ((hrep (popsQ k xs).2 (levelOf n l)).2, g ++ (Q.take (k + 1)).map (levelOf n)) = ((goneF (Str.ofString "><") k xs ((lvls n).getD j 0)).2, g ++ (goneF (Str.ofString "><") k xs ((lvls n).getD j 0)).1)
      rw [eg, r1, p1, List.take_add_one, List.getElem?_eq_getElem hk, List.map_append]
      rfl
    · have := ih 0 (ins l (Q.drop (k + 1))) _ (g ++ (Q.take (k + 1)).map (levelOf n)) (outs ++ Q.take (k + 1)) hp (ins_srt l _ hsd) (by rw [ins_len, List.length_drop]; omega) (by rw [hg, List.map_append]) (by omega)
      simpa using this
end Mine
/-! text P5 -/
namespace Mine
open PySem PySem.Calls PySem.Spec PyProof.Rows
/-! the tape and its pieces -/
theorem str_ext {x y : Str} (h : x.cps.toList = y.cps.toList) : x = y := by
  cases x; cases y
  exact congrArg Str.mk (Array.toList_inj.mp h)
theorem app_list (x y : Str) : (x ++ y).cps.toList = x.cps.toList ++ y.cps.toList := by simp [str_app]
theorem fold_list : ∀ (l : List Str) (acc : Array Nat), (l.foldl (fun acc p => acc ++ (#[] : Array Nat) ++ p.cps) acc).toList = acc.toList ++ (l.map (·.cps.toList)).flatten
  | [], acc => by simp
  | x :: r, acc => by
    rw [List.foldl_cons, fold_list r]
    simp
theorem join_list (l : List Str) : (Txt.join (Str.ofString "") l).cps.toList = (l.map (·.cps.toList)).flatten := by
  have e0 : (Str.ofString "").cps = #[] := by decide +kernel
  unfold Txt.join Builtin.Str.glued
  rw [e0]
  show (List.foldl (fun acc p => acc ++ (#[] : Array Nat) ++ p.cps) (l.headD Str.empty).cps (l.drop 1)).toList = _
  rw [fold_list]
  cases l with
  | nil => rfl
  | cons x r => simp
theorem len_list (x : Str) : x.length = x.cps.toList.length := by
  show x.cps.size = _
  simp
theorem flat_len : ∀ l : List Str, ((l.map (·.cps.toList)).flatten).length = (l.map (·.length)).sum
  | [] => rfl
  | x :: r => by
    rw [List.map_cons, List.flatten_cons, List.length_append, flat_len r, List.map_cons, List.sum_cons, len_list]
theorem fm_len (mode : Int) : (fmS mode).length = 10 := by
  rw [len_list]
  unfold fmS
  rw [join_list, flat_len, fmAll_len]
theorem fm_wl (mode : Int) : ∀ c ∈ (fmS mode).cps.toList, c ∈ wl := by
  intro c hc
  unfold fmS at hc
  rw [join_list] at hc
  obtain ⟨l, hl, hcl⟩ := List.mem_flatten.mp hc
  obtain ⟨x, hx, rfl⟩ := List.mem_map.mp hl
  have h := fmAll_ok mode x hx
  unfold sgOk at h
  rw [Bool.and_eq_true] at h
  have h2 := Array.all_eq_true'.mp h.2 c (Array.mem_toList_iff.mp hcl)
  exact List.contains_iff_mem.mp h2
theorem wl_small : ∀ c ∈ wl, c < 128 := by decide
theorem fm_ok (mode : Int) : (fmS mode).cps.all (· < 0x110000) = true := by
  rw [Array.all_eq_true']
  intro c hc
  have := wl_small c (fm_wl mode c (Array.mem_toList_iff.mpr hc))
  simp
  omega
theorem tw_app {p : Nat → Bool} : ∀ (A R : List Nat), (∀ a ∈ A, p a = true) → (∀ c r, R = c :: r → p c = false) → (A ++ R).takeWhile p = A ∧ (A ++ R).dropWhile p = R
  | [], [], _, _ => ⟨rfl, rfl⟩
  | [], c :: r, _, h => by
    have := h c r rfl
    simp [this]
  | a :: A, R, hA, hR => by
    have h1 := hA a (.head _)
    obtain ⟨h2, h3⟩ := tw_app A R (fun x hx => hA x (.tail _ hx)) hR
    rw [List.cons_append, List.takeWhile_cons_of_pos h1, List.dropWhile_cons_of_pos h1, h2, h3]
    exact ⟨rfl, rfl⟩
theorem toks_run {A R : List Nat} (b : Bool) (hn : A ≠ []) (hA : ∀ a ∈ A, decide (a ∈ wl) = b) (hR : ∀ c r, R = c :: r → decide (c ∈ wl) = !b) : toks (A ++ R) = ⟨A.toArray⟩ :: toks R := by
  cases A with
  | nil => exact absurd rfl hn
  | cons a A =>
    have ha := hA a (.head _)
    obtain ⟨h1, h2⟩ := tw_app (p := fun d => decide (d ∈ wl) == decide (a ∈ wl)) (a :: A) R (fun x hx => by rw [hA x hx, ha]; exact beq_self_eq_true _) (fun c r e => by rw [hR c r e, ha]; cases b <;> rfl)
    rw [List.cons_append] at h1 h2
    rw [List.cons_append, toks_cons, h1, h2]
noncomputable def tl (n : Int) (ps : List (Str × Int)) : List Nat := (ps.map fun p => (pcTxt (rowsL n) p).cps.toList).flatten
theorem tape_list (n : Int) (ns : List Int) : (tapeOf n ns).cps.toList = tl n (pcsOf ns) := by
  unfold tapeOf tl
  rw [join_list, List.map_map]
  rfl
theorem txt_in {n l : Int} {s : Str} (h0 : 0 ≤ l) (h6 : l < 6) (hc : Txt.contains s (Str.ofString "<") = true) : pcTxt (rowsL n) (s, l) = s ++ fmS (levelOf n l) := by
  unfold pcTxt
  rw [if_pos hc, List.getD_eq_getElem?_getD, rows_at h0 h6]
  rfl
theorem txt_out {n l : Int} {s : Str} (hc : Txt.contains s (Str.ofString "<") = false) : (pcTxt (rowsL n) (s, l)).cps.toList = s.cps.toList := by
  unfold pcTxt
  have hn : ¬ Txt.contains (s, l).1 (Str.ofString "<") = true := by rw [show (s, l).1 = s from rfl, hc]; decide
  rw [if_neg hn, app_list]
  have e0 : (Str.ofString "").cps.toList = [] := by decide +kernel
  rw [e0, List.append_nil]
theorem tl_in {n l : Int} {s : Str} {ps : List (Str × Int)} (h0 : 0 ≤ l) (h6 : l < 6) (hc : Txt.contains s (Str.ofString "<") = true) : tl n ((s, l) :: ps) = s.cps.toList ++ ((fmS (levelOf n l)).cps.toList ++ tl n ps) := by
  unfold tl
  rw [List.map_cons, List.flatten_cons, txt_in h0 h6 hc, app_list, List.append_assoc]
theorem tl_out {n l : Int} {s : Str} {ps : List (Str × Int)} (hc : Txt.contains s (Str.ofString "<") = false) : tl n ((s, l) :: ps) = s.cps.toList ++ tl n ps := by
  unfold tl
  rw [List.map_cons, List.flatten_cons, txt_out hc]
theorem rep_pos {h : Nat} (h1 : 1 ≤ h) : ∃ r, List.replicate h 62 = 62 :: r := by
  cases h with
  | zero => omega
  | succ h => exact ⟨_, rfl⟩
theorem tl_head {n : Int} {h : Nat} {ps : List (Str × Int)} (G : Good h ps) : ∃ c r, tl n ps = c :: r ∧ decide (c ∈ wl) = false := by
  cases G with
  | last h1 h2 =>
    obtain ⟨r, hr⟩ := rep_pos h1
    exact ⟨62, r ++ tl n [], by rw [tl_out (k_mul _ h2), c_mul _ h2, hr]; rfl, by decide⟩
  | inn a b g => exact ⟨60, _, by rw [tl_in a b k_lt, c_lt]; rfl, by decide⟩
  | out a b g => exact ⟨62, _, by rw [tl_out k_gt, c_gt]; rfl, by decide⟩
  | thru a b g => exact ⟨60, _, by rw [tl_in a b k_ltgt, c_ltgt]; rfl, by decide⟩
  | swap a b g => exact ⟨62, _, by rw [tl_in a b k_gtlt, c_gtlt]; rfl, by decide⟩
theorem grp_in {n l : Int} {s : Str} {h : Nat} {ps : List (Str × Int)} (h0 : 0 ≤ l) (h6 : l < 6) (hc : Txt.contains s (Str.ofString "<") = true) (hs : ∀ c ∈ s.cps.toList, decide (c ∈ wl) = false) (hne : s.cps.toList ≠ [])
    (G : Good h ps) (ih : ∀ k, toks (List.replicate k 62 ++ tl n ps) ++ [fmS (levelOf n 0)] = grp n k ps) (k : Nat) : toks (List.replicate k 62 ++ tl n ((s, l) :: ps)) ++ [fmS (levelOf n 0)] = grp n k ((s, l) :: ps) := by
  have e : grp n k ((s, l) :: ps) = (repS k ++ s) :: fmS (levelOf n l) :: grp n 0 ps := by
    show (if Txt.contains s (Str.ofString "<") = true then _ else _) = _
    rw [hc, if_pos rfl]
  rw [e, tl_in h0 h6 hc, ← List.append_assoc]
  have hrow : ∃ a r, (fmS (levelOf n l)).cps.toList = a :: r := by
    have := fm_len (levelOf n l)
    rw [len_list] at this
    cases hx : (fmS (levelOf n l)).cps.toList with
    | nil => rw [hx] at this; simp at this
    | cons a r => exact ⟨a, r, rfl⟩
  rw [toks_run false (A := List.replicate k 62 ++ s.cps.toList) (by simp [hne]) ?_ ?_, toks_run true (A := (fmS (levelOf n l)).cps.toList) ?_ ?_ ?_]
  · have h1 := ih 0
    have h2 : List.replicate 0 62 ++ tl n ps = tl n ps := rfl
    rw [h2] at h1
    rw [List.cons_append, List.cons_append, h1]
    congr 1
    exact str_ext (by rw [app_list]; simp [repS])
  · obtain ⟨a, r, hr⟩ := hrow
    rw [hr]; exact List.cons_ne_nil _ _
  · intro c hc'
    exact decide_eq_true (fm_wl _ c hc')
  · intro c r hr
    obtain ⟨c', r', hr', hd⟩ := tl_head (n := n) G
    rw [hr'] at hr
    rw [← (List.cons.inj hr).1]
    exact hd
  · intro c hc'
    rcases List.mem_append.mp hc' with h | h
    · rw [(List.mem_replicate.mp h).2]; decide
    · exact hs c h
  · intro c r hr
    obtain ⟨a, r', hr'⟩ := hrow
    rw [hr'] at hr
    have : c = a := (List.cons.inj hr).1.symm
    subst this
    exact decide_eq_true (fm_wl (levelOf n l) c (by rw [hr']; exact .head _))
theorem grp_ok {n : Int} {h : Nat} {ps : List (Str × Int)} (G : Good h ps) : ∀ k, toks (List.replicate k 62 ++ tl n ps) ++ [fmS (levelOf n 0)] = grp n k ps := by
  induction G with
  | @last h h1 h2 =>
    intro k
    have e : grp n k [(Txt.mul (Str.ofString ">") (h : Int), 0)] = [repS (k + h), fmS (levelOf n 0)] := by
      unfold grp
      rw [k_mul h h2, if_neg (by decide), l_mul h h2]
      rfl
    have et : tl n [(Txt.mul (Str.ofString ">") (h : Int), 0)] = List.replicate h 62 := by
      rw [tl_out (k_mul h h2), c_mul h h2]
      exact List.append_nil _
    rw [e, et, List.replicate_append_replicate]
    have := toks_run (A := List.replicate (k + h) 62) (R := []) false (by intro e; have := congrArg List.length e; simp at this; omega) (by intro c hc; rw [(List.mem_replicate.mp hc).2]; decide) (by intro c r e; cases e)
    rw [List.append_nil] at this
    rw [this]
    rfl
  | @inn h l ps a b g ih => exact grp_in a b k_lt (by rw [c_lt]; decide) (by rw [c_lt]; decide) g ih
  | @out h l ps a b g ih =>
    intro k
    have e : grp n k ((Str.ofString ">", l) :: ps) = grp n (k + 1) ps := by
      show (if Txt.contains (Str.ofString ">") (Str.ofString "<") = true then _ else _) = _
      rw [k_gt, if_neg (by decide)]
      rfl
    rw [e, tl_out k_gt, c_gt, ← ih (k + 1), List.replicate_succ']
    simp
  | @thru h l ps a b g ih => exact grp_in a b k_ltgt (by rw [c_ltgt]; decide) (by rw [c_ltgt]; decide) g ih
  | @swap h l ps a b g ih => exact grp_in a b k_gtlt (by rw [c_gtlt]; decide) (by rw [c_gtlt]; decide) g ih
theorem tl_chars {n : Int} {h : Nat} {ps : List (Str × Int)} (G : Good h ps) : ∀ c ∈ tl n ps, c ∈ wl ∨ c ∈ pl := by
  have key : ∀ (s : Str) (l : Int) (ps : List (Str × Int)), 0 ≤ l → l < 6 → Txt.contains s (Str.ofString "<") = true → (∀ c ∈ s.cps.toList, c ∈ pl) → (∀ c ∈ tl n ps, c ∈ wl ∨ c ∈ pl) → ∀ c ∈ tl n ((s, l) :: ps), c ∈ wl ∨ c ∈ pl := by
    intro s l ps a b hc hs ih c hm
    rw [tl_in a b hc] at hm
    rcases List.mem_append.mp hm with h | h
    · exact .inr (hs c h)
    · rcases List.mem_append.mp h with h | h
      · exact .inl (fm_wl _ c h)
      · exact ih c h
  induction G with
  | last h1 h2 =>
    intro c hm
    rw [tl_out (k_mul _ h2), c_mul _ h2] at hm
    rcases List.mem_append.mp hm with h | h
    · rw [(List.mem_replicate.mp h).2]; exact .inr (by decide)
    · cases h
  | inn a b g ih => exact key _ _ _ a b k_lt (by rw [c_lt]; decide) ih
  | out a b g ih =>
    intro c hm
    rw [tl_out k_gt, c_gt] at hm
    rcases List.mem_append.mp hm with h | h
    · rw [List.mem_singleton.mp h]; exact .inr (by decide)
    · exact ih c h
  | thru a b g ih => exact key _ _ _ a b k_ltgt (by rw [c_ltgt]; decide) ih
  | swap a b g ih => exact key _ _ _ a b k_gtlt (by rw [c_gtlt]; decide) ih
theorem a_mul : ∀ h : Nat, h < 30 → (Txt.mul (Str.ofString ">") (h : Int)).cps.all (· < 128) = true := by decide +kernel
theorem good_pcs {n : Int} {h : Nat} {ps : List (Str × Int)} (G : Good h ps) : ∀ p ∈ ps, p.1.length < 50 ∧ p.1.cps.all (· < 128) = true ∧ 0 ≤ p.2 ∧ p.2 < 6 ∧ (pcTxt (rowsL n) p).length ≤ 40 := by
  have key : ∀ (s : Str) (l : Int) (ps : List (Str × Int)), 0 ≤ l → l < 6 → s.length ≤ 2 → s.cps.all (· < 128) = true → (∀ p ∈ ps, p.1.length < 50 ∧ p.1.cps.all (· < 128) = true ∧ 0 ≤ p.2 ∧ p.2 < 6 ∧ (pcTxt (rowsL n) p).length ≤ 40) →
      ∀ p ∈ (s, l) :: ps, p.1.length < 50 ∧ p.1.cps.all (· < 128) = true ∧ 0 ≤ p.2 ∧ p.2 < 6 ∧ (pcTxt (rowsL n) p).length ≤ 40 := by
    intro s l ps a b h2 h128 ih p hp
    rcases List.mem_cons.mp hp with e | hp
    · subst e
      refine ⟨Nat.lt_of_le_of_lt h2 (by decide), h128, a, b, ?_⟩
      cases hc : Txt.contains s (Str.ofString "<") with
      | true => rw [txt_in a b hc, len_app, fm_len]; omega
      | false => rw [len_list, txt_out hc, ← len_list]; omega
    · exact ih p hp
  induction G with
  | last h1 h2 =>
    intro p hp
    rw [List.mem_singleton.mp hp]
    refine ⟨by rw [l_mul _ h2]; omega, a_mul _ h2, Int.le_refl 0, show (0 : Int) < 6 by decide, ?_⟩
    rw [len_list, txt_out (k_mul _ h2), ← len_list, l_mul _ h2]
    omega
  | inn a b g ih => exact key _ _ _ a b (by decide +kernel) (by decide +kernel) ih
  | out a b g ih => exact key _ _ _ a b (by decide +kernel) (by decide +kernel) ih
  | thru a b g ih => exact key _ _ _ a b (by decide +kernel) (by decide +kernel) ih
  | swap a b g ih => exact key _ _ _ a b (by decide +kernel) (by decide +kernel) ih
/-! the numbers make good pieces -/
theorem pc_run : ∀ (nl : List Int) (h : Nat) (acc : List (Str × Int)), (∀ x ∈ nl, 0 ≤ x ∧ x < 24) → 1 ≤ h → ∃ (ps : List (Str × Int)) (h' : Nat), nl.foldl pcStep ((h : Int), acc) = ((h' : Int), acc ++ ps) ∧ 1 ≤ h' ∧ h' ≤ h + nl.length ∧ ps.length = nl.length ∧ ∀ t, Good h' t → Good h (ps ++ t)
  | [], h, acc, _, h1 => ⟨[], h, by simp, h1, Nat.le_refl _, rfl, fun t g => g⟩
  | x :: r, h, acc, hx, h1 => by
    obtain ⟨x0, x24⟩ := hx x (.head _)
    have hr := fun y hy => hx y (.tail _ hy)
    have l0 : 0 ≤ x / 4 := by omega
    have l6 : x / 4 < 6 := by omega
    rw [List.foldl_cons]
    have d4 : deedOf (h : Int) x = 0 ∨ (deedOf (h : Int) x = 1 ∧ 2 ≤ h) ∨ deedOf (h : Int) x = 2 ∨ deedOf (h : Int) x = 3 := by
      unfold deedOf
      split
      · exact .inl rfl
      · rename_i hh
        omega
    rcases d4 with d | ⟨d, h2⟩ | d | d
    · have e : pcStep ((h : Int), acc) x = (((h + 1 : Nat) : Int), acc ++ [(Str.ofString "<", x / 4)]) := by
        unfold pcStep
        dsimp only
        rw [d]
        rfl
      obtain ⟨ps, h', a1, a2, a3, a4, a5⟩ := pc_run r (h + 1) (acc ++ [(Str.ofString "<", x / 4)]) hr (by omega)
      rw [e, a1]
      exact ⟨(Str.ofString "<", x / 4) :: ps, h', by simp, a2, by simp only [List.length_cons]; omega, by simp [a4], fun t g => .inn l0 l6 (a5 t g)⟩
    · obtain ⟨q, rfl⟩ : ∃ q, h = q + 1 := ⟨h - 1, by omega⟩
      have e : pcStep (((q + 1 : Nat) : Int), acc) x = (((q : Nat) : Int), acc ++ [(Str.ofString ">", x / 4)]) := by
        unfold pcStep
        dsimp only
        rw [d]
        have : ((q + 1 : Nat) : Int) + dls.getD 1 0 = (q : Int) := by show ((q + 1 : Nat) : Int) + (-1) = _; omega
        rw [this]
        rfl
      obtain ⟨ps, h', a1, a2, a3, a4, a5⟩ := pc_run r q (acc ++ [(Str.ofString ">", x / 4)]) hr (by omega)
      rw [e, a1]
      exact ⟨(Str.ofString ">", x / 4) :: ps, h', by simp, a2, by simp only [List.length_cons]; omega, by simp [a4], fun t g => .out l0 l6 (a5 t g)⟩
    · have e : pcStep ((h : Int), acc) x = ((h : Int), acc ++ [(Str.ofString "<>", x / 4)]) := by
        unfold pcStep
        dsimp only
        rw [d]
        have : (h : Int) + dls.getD 2 0 = (h : Int) := by show (h : Int) + 0 = _; omega
        rw [this]
        rfl
      obtain ⟨ps, h', a1, a2, a3, a4, a5⟩ := pc_run r h (acc ++ [(Str.ofString "<>", x / 4)]) hr h1
      rw [e, a1]
      exact ⟨(Str.ofString "<>", x / 4) :: ps, h', by simp, a2, by simp only [List.length_cons]; omega, by simp [a4], fun t g => .thru l0 l6 (a5 t g)⟩
    · obtain ⟨q, rfl⟩ : ∃ q, h = q + 1 := ⟨h - 1, by omega⟩
      have e : pcStep (((q + 1 : Nat) : Int), acc) x = (((q + 1 : Nat) : Int), acc ++ [(Str.ofString "><", x / 4)]) := by
        unfold pcStep
        dsimp only
        rw [d]
        have : ((q + 1 : Nat) : Int) + dls.getD 3 0 = ((q + 1 : Nat) : Int) := by show ((q + 1 : Nat) : Int) + 0 = _; omega
        rw [this]
        rfl
      obtain ⟨ps, h', a1, a2, a3, a4, a5⟩ := pc_run r (q + 1) (acc ++ [(Str.ofString "><", x / 4)]) hr h1
      rw [e, a1]
      exact ⟨(Str.ofString "><", x / 4) :: ps, h', by simp, a2, by simp only [List.length_cons]; omega, by simp [a4], fun t g => .swap l0 l6 (a5 t g)⟩
theorem pc_start : [14, 16, 8].foldl pcStep (0, []) = (((2 : Nat) : Int), [(Str.ofString "<>", 3), (Str.ofString "<", 4), (Str.ofString "<", 2)]) := by decide +kernel
theorem pcs_good (ns : List Int) : ∃ h' : Nat, (pcSt ns).1 = (h' : Int) ∧ 1 ≤ h' ∧ h' < 30 ∧ Good 0 (pcsOf ns) ∧ (pcsOf ns).length < 15 := by
  have hl : (((ns.drop 1).take 6).map (· % 24) ++ [6, 14, 23, 3]).length ≤ 10 := by
    simp only [List.length_append, List.length_map, List.length_take, List.length_cons, List.length_nil]
    omega
  have hx : ∀ x ∈ ((ns.drop 1).take 6).map (· % 24) ++ [6, 14, 23, 3], 0 ≤ x ∧ x < 24 := by
    intro x hx
    rcases List.mem_append.mp hx with h | h
    · obtain ⟨y, _, rfl⟩ := List.mem_map.mp h
      show 0 ≤ y % 24 ∧ y % 24 < 24
      omega
    · simp only [List.mem_cons, List.not_mem_nil, or_false] at h
      omega
  obtain ⟨ps, h', a1, a2, a3, a4, a5⟩ := pc_run _ 2 [(Str.ofString "<>", 3), (Str.ofString "<", 4), (Str.ofString "<", 2)] hx (by decide)
  have e : pcSt ns = ((h' : Int), [(Str.ofString "<>", 3), (Str.ofString "<", 4), (Str.ofString "<", 2)] ++ ps) := by
    unfold pcSt nums
    rw [List.append_assoc, List.foldl_append, pc_start, a1]
  refine ⟨h', by rw [e], a2, by omega, ?_, ?_⟩
  · unfold pcsOf
    rw [e]
    show Good 0 (((Str.ofString "<>", 3) :: (Str.ofString "<", 4) :: (Str.ofString "<", 2) :: ps) ++ [(Txt.mul (Str.ofString ">") (h' : Int), 0)])
    exact .thru (by decide) (by decide) (.inn (by decide) (by decide) (.inn (by decide) (by decide) (a5 _ (.last a2 (by omega)))))
  · unfold pcsOf
    rw [e]
    simp only [List.length_append, List.length_cons, List.length_nil]
    omega
theorem sum_le {α : Type} (f : α → Nat) (B : Nat) : ∀ l : List α, (∀ x ∈ l, f x ≤ B) → (l.map f).sum ≤ B * l.length
  | [], _ => Nat.zero_le _
  | x :: r, h => by
    have h1 := sum_le f B r fun y hy => h y (.tail _ hy)
    have h2 := h x (.head _)
    rw [List.map_cons, List.sum_cons, List.length_cons, Nat.mul_succ]
    omega
theorem grp_len (n : Int) : ∀ (ps : List (Str × Int)) (k : Nat), (grp n k ps).length ≤ 2 * ps.length + 2
  | [], k => by simp [grp]
  | (s, l) :: ps, k => by
    show (if Txt.contains s (Str.ofString "<") = true then (repS k ++ s) :: fmS (levelOf n l) :: grp n 0 ps else grp n (k + s.length) ps).length ≤ _
    split
    · have := grp_len n ps 0
      simp only [List.length_cons]
      omega
    · have := grp_len n ps (k + s.length)
      simp only [List.length_cons]
      omega
theorem lack0 (waits : List Int) (h : waits.length = 12) : lackOf waits [] = List.replicate 12 0 := by
  unfold lackOf
  rw [List.eq_replicate_iff]
  refine ⟨by rw [List.length_map, h], fun b hb => ?_⟩
  obtain ⟨w, _, rfl⟩ := List.mem_map.mp hb
  rfl
theorem the_plan (n : Int) (ns : List Int) : Plan n ns := by
  obtain ⟨h', e1, e2, e3, G, hlen⟩ := pcs_good ns
  have gp := good_pcs (n := n) G
  have hsum : (((pcsOf ns).map (pcTxt (rowsL n))).map (·.length)).sum < 1000 := by
    rw [List.map_map]
    have := sum_le (fun p => (pcTxt (rowsL n) p).length) 40 (pcsOf ns) fun p hp => (gp p hp).2.2.2.2
    have e : ((·.length) ∘ pcTxt (rowsL n)) = fun p => (pcTxt (rowsL n) p).length := rfl
    rw [e]
    omega
  have hw : (waitsOf n).length = 12 := by simp [waitsOf]
  have htok : tokensOf n ns = grp n 0 (pcsOf ns) := by
    unfold tokensOf
    rw [tape_list]
    have h1 := grp_ok (n := n) G 0
    have h2 : List.replicate 0 62 ++ tl n (pcsOf ns) = tl n (pcsOf ns) := rfl
    rw [h2] at h1
    rw [← h1]
    rfl
  have hrun := turns_ok (n := n) G 0 [] [] [] [] ⟨fun i _ h => absurd h (Nat.not_lt_zero _), List.Perm.refl _⟩ List.Pairwise.nil rfl rfl (by omega)
  have htold : (tellAll (kindOf n).toNat (waitsOf n) (pcsOf ns)).2 = ((abAll (pcsOf ns) ([], [])).2.map (levelOf n)).map fmS := by
    unfold tellAll
    have h1 := told_ok (kind := (kindOf n).toNat) (waits := waitsOf n) G [] [] List.Pairwise.nil rfl
    rw [lack0 _ hw] at h1
    rw [List.map_map]
    have e : fmS ∘ levelOf n = fun a => rowUp (kindOf n).toNat (bitsOf (waitsOf n) a) 3 := funext fun a => fm_lev n a
    rw [e]
    exact h1
  obtain ⟨N, st, r1, r2, r3, r4, r5⟩ := hrun.plan
  have hN : N < 500 := by
    have := grp_len n (pcsOf ns) 0
    omega
  have hgl : (st N).2.length < 1000 := by
    have h1 := (tellP_len (kind := (kindOf n).toNat) hw (pcsOf ns) (List.replicate 12 0, []) (by simp) fun p hp => (gp p hp).1).2
    have h2 : (tellAll (kindOf n).toNat (waitsOf n) (pcsOf ns)).2.length ≤ 0 + 50 * (pcsOf ns).length := h1
    rw [htold, List.length_map] at h2
    rw [r3]
    show ((abAll (pcsOf ns) ([], [])).2.map (levelOf n)).length < 1000
    omega
  refine ⟨⟨h', e1, by omega⟩, fun p hp => ⟨(gp p hp).1, (gp p hp).2.1⟩, fun p hp => ⟨(gp p hp).2.2.1, (gp p hp).2.2.2.1⟩, by omega, fm_ok, hsum, ?_, ?_, ?_, ?_, ?_⟩
  · intro r hr
    obtain ⟨m, _, rfl⟩ := List.mem_map.mp hr
    rw [fm_len]; decide
  · rw [len_list]
    unfold tapeOf
    rw [join_list, flat_len]
    exact hsum
  · rw [tape_list]
    obtain ⟨c, r, hc, _⟩ := tl_head (n := n) G
    rw [hc]; exact List.cons_ne_nil _ _
  · rw [tape_list]; exact tl_chars G
  · refine ⟨N, st, by rw [htok]; exact r1, hN, r2, ?_, ?_, by rw [r3], ?_⟩
    · intro j hj
      rw [htok]
      exact r4 j hj
    · intro j hj
      have := r5 j hj
      rw [← r3] at this
      omega
    · rw [r3, htold]
      rfl
end Mine
namespace Mine
open PySem PySem.W PySem.Calls PySem.Spec PyProof.Rows
/-! the top -/
local macro_rules | `(tactic| k_qdec) => `(tactic| decide +kernel)
theorem top_holds : PySem.Challenge.rw_nq0274_01.Holds := Mine.hd (by
  k_go0
  rename_i hcond9 hc9 K9 hD9 h9 tk9 F9 o9 d9 N9 X9
  rename World => w9
  rename IntsAre _ _ => hI9
  rename Fr _ _ _ _ => F9
  rename Top _ _ _ _ _ _ => T9
  rename Frag.In _ _ => KX9
  rename Heap.IsList _ _ _ => hL9
  refine wpAny_mono (law_body (the_plan _ _) hI9 ?hlen (by k_is) (by decide) (by decide) ⟨K9, KX9, T9⟩ ⟨F9, N9, ?hnd⟩ ?d1 ?n1 hL9) ?hq ?he
  case hlen => omega
  case hnd => simp
  case d1 => rw [d9]; kernel_rfl
  case n1 => kernel_rfl
  case he => intro _ _ x; exact x.elim
  case hq =>
    rintro fl s' ⟨rfl, h', tk', rfl, keep⟩
    refine ⟨.inl ⟨.bool true, _, _, rfl, raisesW_false ?hr, .bool true, ?hp, unshared_nil⟩, keep, rfl, ?hg⟩
    case hr => wrow_none_raised
    case hp => wrow_post
    case hg => assumption)
end Mine
theorem PySem.Challenge.cw_nq0274_01_holds : PySem.Challenge.rw_nq0274_01.Holds :=
  Mine.top_holds
