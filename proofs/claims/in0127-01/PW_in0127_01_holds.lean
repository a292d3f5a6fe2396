import PyProof.Rows.All
import Wide.All
import OpenK.AllK
import Wide.FinOn
import KE.KBytesWalk
import OpenK.KCell
import KE.KTryDeep
import KE.LcTurns
import KE.KTurns
import KE.KPar
import PyProof.Rows.TupleGenD
import PyProof.StrLawsTight
import PyProof.StrLawsChain
import PyProof.StrLawsFirst
import PyProof.StrLawsOcc
import KE.KIntText
import Lean
import PySem.Challenge.RW_in0127_01
set_option Elab.async false
namespace Mine
local macro_rules | `(tactic| k_room) => `(tactic| ktr_room)
local macro_rules | `(tactic| walk_at $s:str) => `(tactic| k_extra $s)
section
open PySem PySem.W PyProof.Rows
set_option maxRecDepth 100000
set_option maxHeartbeats 8000000
/-- the run of the top over a tree of objects, told as one function of the step -/
noncomputable def runT (ok : Thread → Bool) (st : SharedT → Thread → Option (SharedT × Thread)) : Nat → SharedT → Thread → Option SharedT
  | 0, _, _ => none
  | n + 1, s, t => match through t with
    | true => some s
    | false => match ok t with
      | false => none
      | true => match st s t with
        | some (s', t') => runT ok st n s' t'
        | none => none
theorem runT_of {p : Program} {w : World} {n₀ : Nat} {ann : Option Value} : ∀ (n : Nat) (s s' : SharedT) (t : Thread),
    runT (stepOk n₀ ann) (stepT (denote treeTable) p w) n s t = some s' → topRun treeTable p w n₀ ann n s.abs t = some s'.abs
  | 0, _, _, _, h => by cases h
  | n + 1, s, s', t, h => by
    unfold runT at h
    unfold topRun
    cases ht : through t with
    | true => rw [ht] at h; cases h; rfl
    | false =>
      rw [ht] at h
      dsimp only at h ⊢
      cases hk : stepOk n₀ ann t with
      | false => rw [hk] at h; cases h
      | true =>
        rw [hk] at h
        dsimp only at h ⊢
        cases hs : stepT (denote treeTable) p w s t with
        | none => rw [hs] at h; cases h
        | some r =>
          obtain ⟨s₂, t₂⟩ := r
          rw [hs] at h
          rw [stepT_spec hs]
          exact runT_of n s₂ s' t₂ h
/-- a heap's objects laid into a tree -/
noncomputable def ofObjs : List Obj → BT → Nat → Option (BT × Nat)
  | [], t, n => some (t, n)
  | o :: r, t, n => match ((t.ins n o).get n).isSome with
    | true => ofObjs r (t.ins n o) (n + 1)
    | false => none
theorem ofObjs_spec (life : Life) : ∀ (l : List Obj) (t : BT) (n : Nat) (x : BT × Nat), ofObjs l t n = some x →
    absHeap x.1 x.2 life = ⟨(absHeap t n life).objs ++ l.toArray, life⟩
  | [], t, n, x, h => by
    cases h
    show absHeap t n life = ⟨(absHeap t n life).objs ++ #[], life⟩
    rw [Array.append_empty]; rfl
  | o :: r, t, n, x, h => by
    unfold ofObjs at h
    cases hg : ((t.ins n o).get n).isSome with
    | false => rw [hg] at h; cases h
    | true =>
      rw [hg] at h
      have ih := ofObjs_spec life r _ _ x h
      rw [ih, absHeap_ins hg]
      show Heap.mk ((absHeap t n life).objs.push o ++ r.toArray) life = _
      congr 1
      apply Array.ext'
      simp
noncomputable def toT (s : Shared) : Option SharedT :=
  match ofObjs s.heap.objs.toList .nil 0 with
  | some (t, n) => some ⟨t, n, s.heap.life, s.gens, s.drawn, s.toks, s.os⟩
  | none => none
theorem toT_abs {s : Shared} {x : SharedT} (h : toT s = some x) : x.abs = s := by
  unfold toT at h
  cases q : ofObjs s.heap.objs.toList .nil 0 with
  | none => rw [q] at h; cases h
  | some r =>
    obtain ⟨t, n⟩ := r
    rw [q] at h
    cases h
    have z := ofObjs_spec s.heap.life _ _ _ _ q
    obtain ⟨⟨objs, life⟩, gens, drawn, toks, os⟩ := s
    show Shared.mk (absHeap t n life) gens drawn toks os = _
    have e : absHeap BT.nil 0 life = ⟨#[], life⟩ := rfl
    rw [e] at z
    have z' : absHeap t n life = ⟨#[] ++ objs.toList.toArray, life⟩ := z
    rw [z', Array.empty_append, Array.toArray_toList]
noncomputable def topT (run : Nat → Option Value → SharedT → Option SharedT) (statics bound : Heap → Heap → Bool) (s₀ : Shared) : Option Shared :=
  match s₀.heap.isNs mainGlobals && s₀.gens.size == 0 with
  | true => match toT s₀ with
    | some x => match run s₀.heap.objs.size (s₀.heap.nsMap mainGlobals "__annotations__") x with
      | some y => match statics s₀.heap y.abs.heap && bound s₀.heap y.abs.heap && gensDone y.abs && laidKept s₀.heap y.abs.heap with
        | true => some y.abs
        | false => none
      | none => none
    | none => none
  | false => none
theorem topT_of {p : Program} {w : World} {N : Nat} {s₀ s₁ : Shared}
    (h : topT (fun n₀ ann x => runT (stepOk n₀ ann) (stepT (denote treeTable) p w) N x (topStub p)) (fun a b => staticsOk (importedModules p.main.body) a b) (fun _ b => namesBound p b) s₀ = some s₁) :
    topFrom treeTable p w N s₀ = some s₁ := by
  unfold topT at h
  unfold topFrom
  split at h
  · rename_i e; rw [e]; dsimp only
    cases hx : toT s₀ with
    | none => rw [hx] at h; cases h
    | some x =>
      rw [hx] at h
      dsimp only at h
      cases hy : runT (stepOk s₀.heap.objs.size (s₀.heap.nsMap mainGlobals "__annotations__")) (stepT (denote treeTable) p w) N x (topStub p) with
      | none => rw [hy] at h; cases h
      | some y =>
        rw [hy] at h
        have r := runT_of _ _ _ _ hy
        rw [toT_abs hx] at r
        rw [r]
        exact h
  · cases h
theorem leftO_of {p q : Program} {loose : List Str} {Xt : Shared → Bool} {α : Type} {Yf : Shared → α} {Ya : World → α} {N : Nat}
    (h : ∀ w, ((fencedOpening treeTable p w N).bind (topT (fun n₀ ann x => runT (stepOk n₀ ann) (stepT (denote treeTable) p w) N x (topStub p)) (fun a b => staticsOk (importedModules p.main.body) a b) (fun _ b => namesBound p b))).map
      (fun s => (openSeen q loose (importedModules p.main.body) Xt true s, Yf s)) = some (openGood q loose, Ya w)) : LeftO p q loose Xt Yf Ya N := fun w => by
  obtain ⟨s, hs, e⟩ := Option.map_eq_some_iff.mp (h w)
  obtain ⟨s₀, h0, h1⟩ := Option.bind_eq_some_iff.mp hs
  unfold openEnds
  rw [h0, Option.bind_some, topT_of h1]
  exact congrArg some e
theorem said0 : (sreFenced PySem.Challenge.pw_in0127_01.main) = true := by
  (try rw [PySem.W.Fast.te11788848310118352699]); (try rw [PySem.W.Fast.te2368527892694137696]); first | done | kernel_rfl
theorem said1 : (((moduleNames PySem.Challenge.pw_in0127_01.main.body).isEmpty || lookedIntoSs (moduleNames PySem.Challenge.pw_in0127_01.main.body) PySem.Challenge.pw_in0127_01.main.body)) = true := by
  (try rw [PySem.W.Fast.te9807087744658564304]); (try rw [PySem.W.Fast.te2368527892694137696]); (try rw [PySem.W.Fast.te12862048085361865435]); first | done | kernel_rfl
theorem said2 : (namesResolve PySem.Challenge.pw_in0127_01) = true := by
  (try rw [PySem.W.Fast.te8377067652309620493]); (try rw [PySem.W.Fast.te2368527892694137696]); first | done | kernel_rfl
theorem said4 : (noRoadLSs { strict := !(importedModules PySem.Challenge.pw_in0127_01.main.body).all cThrough.contains, foot := none, bare := (["vars", "dir", "locals"] : List Str).filter (readsOut PySem.Challenge.pw_in0127_01 PySem.Challenge.pw_in0127_01.main.body) } PySem.Challenge.pw_in0127_01.main.body) = true := by
  (try rw [PySem.W.Fast.te8326940854005059898]); (try rw [PySem.W.R.allR_eq]); (try rw [PySem.W.Fast.te5923862056798008813]); (try rw [PySem.W.Fast.te2368527892694137696]); (try rw [PySem.W.Fast.te3471404346716756564]); (try rw [PySem.W.Fast.sDec_eq]); (try rw [PySem.W.Fast.te17691160309236699985]); (try rw [PySem.W.R.filterR_eq]); (try rw [PySem.W.Fast.te13343964577679436407]); first | done | kernel_rfl
theorem said5 : (namesMeet PySem.Challenge.pw_in0127_01 PySem.Challenge.pw_in0127_01.main.body fun _ n => attrL n) = true := by
  (try rw [PySem.W.Fast.te17119622794617984870]); (try rw [PySem.W.Fast.te2368527892694137696]); (try rw [PySem.W.Fast.te17868728402115742887]); first | done | kernel_rfl
theorem said26 : (noRoadLSs { strict := true, foot := some PySem.Challenge.rw_in0127_01.bound', writes := PySem.Challenge.rw_in0127_01.writes, may := PySem.Challenge.rw_in0127_01.may } PySem.Challenge.rw_in0127_01.footing) = true := by
  (try rw [PySem.W.Fast.te8326940854005059898]); (try rw [PySem.W.Fast.te797321630700447069]); (try rw [PySem.W.Fast.te9572597257264208301]); first | done | kernel_rfl
theorem said37 : (namesMeet PySem.Challenge.rw_in0127_01.prog PySem.Challenge.rw_in0127_01.above fun _ n => !PySem.Challenge.rw_in0127_01.own.contains n) = true := by
  (try rw [PySem.W.Fast.te17119622794617984870]); (try rw [PySem.W.Fast.te3471404346716756564]); (try rw [PySem.W.Fast.sDec_eq]); (try rw [PySem.W.Fast.te10792542408131684335]); first | done | kernel_rfl
theorem said : OpenLaw.wellSaid PySem.Challenge.rw_in0127_01 = true := by
  unfold OpenLaw.wellSaid
  repeat' (first | with_reducible refine look_both ?_ ?_ | unfold OpenRow.wellSaid | unfold OpenRow.partSaid | unfold looksOpen)
  · exact said0
  · exact said1
  · exact said2
  · (try rw [PySem.W.R.allR_eq]); (try rw [PySem.W.Fast.te18344453789297297638]); (try rw [PySem.W.Fast.te2368527892694137696]); (try rw [PySem.W.Fast.te3471404346716756564]); (try rw [PySem.W.Fast.sDec_eq]); (try rw [PySem.W.Fast.te14412699480532031325]); first | done | kernel_rfl
  · exact said4
  · exact said5
  · (try rw [PySem.W.Fast.te2368527892694137696]); first | done | kernel_rfl
  · (try rw [PySem.W.Fast.te2368527892694137696]); first | done | kernel_rfl
  · (try rw [PySem.W.Fast.te2368527892694137696]); (try rw [PySem.W.R.allR_eq]); (try rw [PySem.W.Fast.te9706382859710513879]); first | done | kernel_rfl
  · (try rw [PySem.W.R.allR_eq]); (try rw [PySem.W.Fast.te2368527892694137696]); (try rw [PySem.W.Fast.te3471404346716756564]); (try rw [PySem.W.Fast.sDec_eq]); (try rw [PySem.W.Fast.te18344453789297297638]); (try rw [PySem.W.S.strDecS_eq]); (try rw [PySem.W.Fast.te2357444279172408678]); first | done | kernel_rfl
  · (try rw [PySem.W.R.mapR_eq]); (try rw [PySem.W.Fast.te2368527892694137696]); (try rw [PySem.W.Fast.sDec_eq]); first | done | kernel_rfl
  · (try rw [PySem.W.R.allR_eq]); (try rw [PySem.W.Fast.te2368527892694137696]); (try rw [PySem.W.Fast.te4857012375875476094]); (try rw [PySem.W.Fast.named_eq]); (try rw [PySem.W.Fast.te3471404346716756564]); (try rw [PySem.W.Fast.sDec_eq]); (try rw [PySem.W.Fast.te18344453789297297638]); first | done | kernel_rfl
  · (try rw [PySem.W.Fast.te13582783067957832011]); (try rw [PySem.W.Fast.te2368527892694137696]); first | done | kernel_rfl
  · (try rw [PySem.W.Fast.te5318747976498570220]); (try rw [PySem.W.Fast.te2368527892694137696]); first | done | kernel_rfl
  · (try rw [PySem.W.Fast.te5318747976498570220]); (try rw [PySem.W.Fast.te2368527892694137696]); first | done | kernel_rfl
  · (try rw [PySem.W.R.allR_eq]); (try rw [PySem.W.Fast.te2368527892694137696]); (try rw [PySem.W.Fast.te5318747976498570220]); first | done | kernel_rfl
  · (try rw [PySem.W.R.allR_eq]); (try rw [PySem.W.Fast.te2368527892694137696]); (try rw [PySem.W.Fast.te4579403493507170074]); (try rw [PySem.W.R.anyR_eq]); (try rw [PySem.W.Fast.te4274047373036748609]); first | done | kernel_rfl
  · (try rw [PySem.W.R.allR_eq]); (try rw [PySem.W.Fast.te2368527892694137696]); first | done | kernel_rfl
  · (try rw [PySem.W.Fast.te2368527892694137696]); first | done | kernel_rfl
  · (try rw [PySem.W.Fast.te3471404346716756564]); (try rw [PySem.W.Fast.sDec_eq]); (try rw [PySem.W.Fast.te18344453789297297638]); (try rw [PySem.W.Fast.te2368527892694137696]); first | done | kernel_rfl
  · (try rw [PySem.W.Fast.te3471404346716756564]); (try rw [PySem.W.Fast.sDec_eq]); (try rw [PySem.W.Fast.te12749700546528644094]); (try rw [PySem.W.Fast.te2368527892694137696]); first | done | kernel_rfl
  · first | done | kernel_rfl
  · (try rw [PySem.W.R.allR_eq]); (try rw [PySem.W.Fast.te10501279942588096481]); first | done | kernel_rfl
  · (try rw [PySem.W.Fast.te8179353310426384613]); first | done | kernel_rfl
  · first | done | kernel_rfl
  · first | done | kernel_rfl
  · exact said26
  · (try rw [PySem.W.Fast.te9558739934217749035]); first | done | kernel_rfl
  · (try rw [PySem.W.Fast.te16286561074155671207]); first | done | kernel_rfl
  · (try rw [PySem.W.R.allR_eq]); (try rw [PySem.W.Fast.sDec_eq]); first | done | kernel_rfl
  · (try rw [PySem.W.R.allR_eq]); (try rw [PySem.W.Fast.te797321630700447069]); (try rw [PySem.W.Fast.named_eq]); (try rw [PySem.W.Fast.sDec_eq]); (try rw [PySem.W.Fast.te6984425678791042302]); first | done | kernel_rfl
  · (try rw [PySem.W.R.allR_eq]); (try rw [PySem.W.Fast.te17095254045102204799]); (try rw [PySem.W.Fast.te12879404354523853263]); (try rw [PySem.W.Fast.te6984425678791042302]); first | done | kernel_rfl
  · (try rw [PySem.W.R.allR_eq]); (try rw [PySem.W.Fast.te17095254045102204799]); (try rw [PySem.W.Fast.te12879404354523853263]); (try rw [PySem.W.Fast.te6984425678791042302]); (try rw [PySem.W.Fast.te482687673346738481]); (try rw [PySem.W.Fast.sDec_eq]); first | done | kernel_rfl
  · (try rw [PySem.W.Fast.te17119622794617984870]); (try rw [PySem.W.Fast.te3471404346716756564]); (try rw [PySem.W.Fast.sDec_eq]); (try rw [PySem.W.Fast.te9572597257264208301]); first | done | kernel_rfl
  · (try rw [PySem.W.Fast.te3471404346716756564]); (try rw [PySem.W.Fast.sDec_eq]); (try rw [PySem.W.Fast.te10792542408131684335]); first | done | kernel_rfl
  · (try rw [PySem.W.Fast.te7723801398212525404]); (try rw [PySem.W.Fast.sDec_eq]); (try rw [PySem.W.Fast.te10792542408131684335]); first | done | kernel_rfl
  · (try rw [PySem.W.R.allR_eq]); (try rw [PySem.W.Fast.te10792542408131684335]); (try rw [PySem.W.Fast.named_eq]); first | done | kernel_rfl
  · exact said37
  · (try rw [PySem.W.Fast.te17119622794617984870]); (try rw [PySem.W.Fast.sDec_eq]); first | done | kernel_rfl
theorem lawHead (h : PySem.Challenge.rw_in0127_01.row.wellSaid = true → PySem.Challenge.rw_in0127_01.row.Holds) : PySem.Challenge.rw_in0127_01.Holds := holds_law said h
/-- a statement of the text by its path -/
noncomputable def stAt : List Stmt → List Nat → Option Stmt
  | _, [] => none
  | b, i :: r => match b[i]? with
    | none => none
    | some st => match r with
      | [] => some st
      | _ :: _ => match st with
        | .ClassDef _ _ _ b' _ _ _ _ _ _ _ => stAt b' r
        | _ => none
noncomputable def defBodyOf (p : Program) (path : List Nat) : List Stmt := match stAt p.main.body path with
  | some (.FunctionDef _ _ b _ _ _ _ _ _ _) => b
  | _ => []
noncomputable def defArgsOf (p : Program) (path : List Nat) : Arguments := match stAt p.main.body path with
  | some (.FunctionDef _ a _ _ _ _ _ _ _ _) => a
  | _ => { posonlyargs := [], args := [], vararg := none, kwonlyargs := [], kw_defaults := [], kwarg := none, defaults := [] }
noncomputable def defBody (path : List Nat) : List Stmt := defBodyOf PySem.Challenge.pw_in0127_01 path
noncomputable def defArgs (path : List Nat) : Arguments := defArgsOf PySem.Challenge.pw_in0127_01 path
/-- the objects behind the top that the law's call may meet -/
noncomputable def K (P : Params) : Frag :=
(nat_lit 2, ⟨.none, none, .dict #[⟨PyData.keyHash P "impo\x72t.loaded._sre", .str "impo\x72t.loaded._sre" 183, .bool true⟩, ⟨PyData.keyHash P "class._frozen_importlib.BuiltinImporter", .str "class._frozen_importlib.BuiltinImporter" 185, .ref 14⟩, ⟨PyData.keyHash P "watched.impo\x72t", .str "watched.impo\x72t" 206, .ref 18⟩, ⟨PyData.keyHash P "class._frozen_importlib.ModuleSpec", .str "class._frozen_importlib.ModuleSpec" 216, .ref 22⟩, ⟨PyData.keyHash P "sys.modules.booked-epoch", .str "sys.modules.booked-epoch" 245, .int 4 0⟩, ⟨PyData.keyHash P "impo\x72t.later-laid._sre", .str "impo\x72t.later-laid._sre" 270, .bool true⟩, ⟨PyData.keyHash P "watched.library", .str "watched.library" 272, .ref 27⟩, ⟨PyData.keyHash P "watched.library-objects", .str "watched.library-objects" 0, .str "\x0c\x1e" 0⟩, ⟨PyData.keyHash P "watched.library-deep._sre", .str "watched.library-deep._sre" 273, .str "\x04\x00\x00\x0b\x04\x00\x00\x0b\x04\x00\x00\x03\x04\x00\x00\x0b\x08\x04dict\x02" 0⟩, ⟨PyData.keyHash P "impo\x72t.loaded._collections", .str "impo\x72t.loaded._collections" 280, .bool true⟩, ⟨PyData.keyHash P "sys.modules.landed._collections", .str "sys.modules.landed._collections" 294, .bool true⟩, ⟨PyData.keyHash P "impo\x72t.later-laid._collections", .str "impo\x72t.later-laid._collections" 309, .bool true⟩, ⟨PyData.keyHash P "watched.library-deep._collections", .str "watched.library-deep._collections" 311, .str "\x04\x00\x00\x1d\x04\x00\x00\x1d\x04\x00\x00\x03\x04\x00\x00\x1d\x08\x04dict\x02" 0⟩, ⟨PyData.keyHash P "type.__subclasses__.OSError.0", .str "type.__subclasses__.OSError.0" 578, .int 179 0⟩, ⟨PyData.keyHash P "type.__subclasses__.OSError.n", .str "type.__subclasses__.OSError.n" 579, .int 1 0⟩] 15, #[]⟩) ::
  (nat_lit 3, ⟨.type "dict", none, .dict #[⟨PyData.keyHash P "__name__", .str "__name__" 165, .str "law_in0127_01" 1367⟩, ⟨PyData.keyHash P "__doc__", .str "__doc__" 166, .none⟩, ⟨PyData.keyHash P "__package__", .str "__package__" 167, .none⟩, ⟨PyData.keyHash P "__loader__", .str "__loader__" 168, .builtin "__main__.__loader__#opaque"⟩, ⟨PyData.keyHash P "__spec__", .str "__spec__" 169, .none⟩, ⟨PyData.keyHash P "__annotations__", .str "__annotations__" 170, .ref 6⟩, ⟨PyData.keyHash P "__builtins__", .str "__builtins__" 171, .ref 4⟩, ⟨PyData.keyHash P "__file__", .str "__file__" 173, .str "/claim/cut.py" 172⟩, ⟨PyData.keyHash P "__cached__", .str "__cached__" 174, .none⟩, ⟨PyData.keyHash P "_sre", .str "_sre" 275, .ref 12⟩, ⟨PyData.keyHash P "deque", .str "deque" 317, .type "collections.deque"⟩, ⟨PyData.keyHash P "_wall", .str "_wall" 330, .ref 44⟩, ⟨PyData.keyHash P "_MAX_LENGTH", .str "_MAX_LENGTH" 334, .int 80 333⟩, ⟨PyData.keyHash P "_PLACEHOLDER_LEN", .str "_PLACEHOLDER_LEN" 336, .int 12 335⟩, ⟨PyData.keyHash P "_MIN_BEGIN_LEN", .str "_MIN_BEGIN_LEN" 338, .int 5 337⟩, ⟨PyData.keyHash P "_MIN_END_LEN", .str "_MIN_END_LEN" 340, .int 5 339⟩, ⟨PyData.keyHash P "_MIN_COMMON_LEN", .str "_MIN_COMMON_LEN" 342, .int 5 341⟩, ⟨PyData.keyHash P "_MIN_DIFF_LEN", .str "_MIN_DIFF_LEN" 348, .int 41 347⟩, ⟨PyData.keyHash P "_shorten", .str "_shorten" 358, .ref 51⟩, ⟨PyData.keyHash P "_kind", .str "_kind" 369, .ref 58⟩, ⟨PyData.keyHash P "_fspath", .str "_fspath" 378, .ref 65⟩, ⟨PyData.keyHash P "_check_arg_types", .str "_check_arg_types" 388, .ref 72⟩, ⟨PyData.keyHash P "isabs", .str "isabs" 395, .ref 79⟩, ⟨PyData.keyHash P "join", .str "join" 406, .ref 815⟩, ⟨PyData.keyHash P "join_path", .str "join_path" 407, .ref 86⟩, ⟨PyData.keyHash P "dirname", .str "dirname" 417, .ref 93⟩, ⟨PyData.keyHash P "_prefix", .str "_prefix" 428, .ref 100⟩, ⟨PyData.keyHash P "commonprefix", .str "commonprefix" 434, .ref 105⟩, ⟨PyData.keyHash P "_common_shorten_repr", .str "_common_shorten_repr" 447, .ref 112⟩, ⟨PyData.keyHash P "safe_repr", .str "safe_repr" 456, .ref 120⟩, ⟨PyData.keyHash P "_buffer", .str "_buffer" 466, .ref 127⟩, ⟨PyData.keyHash P "_truth", .str "_truth" 474, .ref 134⟩, ⟨PyData.keyHash P "_B64", .str "_B64" 476, .bytes #[65, 66, 67, 68, 69, 70, 71, 72, 73, 74, 75, 76, 77, 78, 79, 80, 81, 82, 83, 84, 85, 86, 87, 88, 89, 90, 97, 98, 99, 100, 101, 102, 103, 104, 105, 106, 107, 108, 109, 110, 111, 112, 113, 114, 115, 116, 117, 118, 119, 120, 121, 122, 48, 49, 50, 51, 52, 53, 54, 55, 56, 57, 43, 47] 475⟩, ⟨PyData.keyHash P "b2a_base64", .str "b2a_base64" 490, .ref 142⟩, ⟨PyData.keyHash P "b64encode", .str "b64encode" 501, .ref 150⟩, ⟨PyData.keyHash P "_twin_re_1", .str "_twin_re_1" 541, .ref 155⟩, ⟨PyData.keyHash P "_whence", .str "_whence" 551, .ref 162⟩, ⟨PyData.keyHash P "_index", .str "_index" 559, .ref 169⟩, ⟨PyData.keyHash P "UnsupportedOperation", .str "UnsupportedOperation" 581, .ref 179⟩, ⟨PyData.keyHash P "IOBase", .str "IOBase" 613, .ref 199⟩, ⟨PyData.keyHash P "BufferedIOBase", .str "BufferedIOBase" 631, .ref 214⟩, ⟨PyData.keyHash P "TextIOBase", .str "TextIOBase" 649, .ref 226⟩, ⟨PyData.keyHash P "BytesIO", .str "BytesIO" 911, .ref 456⟩, ⟨PyData.keyHash P "StringIO", .str "StringIO" 1198, .ref 703⟩, ⟨PyData.keyHash P "shlex", .str "shlex" 1339, .ref 796⟩, ⟨PyData.keyHash P "split", .str "split" 1349, .ref 808⟩, ⟨PyData.keyHash P "join_shlex", .str "join_shlex" 1357, .ref 815⟩, ⟨PyData.keyHash P "_find_unsafe", .str "_find_unsafe" 1359, .ref 816⟩, ⟨PyData.keyHash P "quote", .str "quote" 1366, .ref 823⟩, ⟨PyData.keyHash P "_law_words", .str "_law_words" 1374, .ref 828⟩, ⟨PyData.keyHash P "_law_other", .str "_law_other" 1380, .ref 833⟩, ⟨PyData.keyHash P "_law_line", .str "_law_line" 1386, .ref 838⟩, ⟨PyData.keyHash P "_law_fits", .str "_law_fits" 1399, .ref 845⟩, ⟨PyData.keyHash P "_law_unlike", .str "_law_unlike" 1405, .ref 850⟩, ⟨PyData.keyHash P "law", .str "law" 1411, .ref 855⟩] 55, #[]⟩) ::
  (nat_lit 50, ⟨.type "code", none, .fields #[.str "_shorten" 349, .str "_shorten" 350, .str "/claim/cut.py" 351, .int 13 0, .int 3 0, .int 0 0, .int 0 0, .int 3 0, .ref 45, .bool true, .int 318 0, .ref 46, .none, .ref 47, .ref 48, .ref 49, .int 356 0, .int 13 0, .str "/claim/cut.py" 357], #[]⟩) ::
  (nat_lit 51, ⟨.type "function", none, .func ⟨"_shorten", "_shorten", defArgs [10], .stmts (defBody [10]), ⟨.function, [("s", .local), ("prefixlen", .local), ("suffixlen", .local), ("skip", .local), ("len", .globalImplicit), ("_PLACEHOLDER_LEN", .globalImplicit)], false, false, []⟩, 3, [], .none, .none, .none, .str "cpy313.unittest.util" 331, none, .ref 50, .none, 0⟩, #[]⟩) ::
  (nat_lit 57, ⟨.type "code", none, .fields #[.str "_kind" 361, .str "_kind" 362, .str "/claim/cut.py" 363, .int 19 0, .int 2 0, .int 0 0, .int 0 0, .int 3 0, .ref 52, .bool true, .int 318 0, .ref 53, .none, .ref 54, .ref 55, .ref 56, .int 367 0, .int 19 0, .str "/claim/cut.py" 368], #[]⟩) ::
  (nat_lit 58, ⟨.type "function", none, .func ⟨"_kind", "_kind", defArgs [12], .stmts (defBody [12]), ⟨.function, [("name", .local), ("x", .local), ("t", .local), ("type", .globalImplicit), ("str", .globalImplicit), ("bool", .globalImplicit), ("int", .globalImplicit), ("float", .globalImplicit), ("list", .globalImplicit), ("tuple", .globalImplicit), ("dict", .globalImplicit), ("set", .globalImplicit), ("_wall", .globalImplicit)], false, false, []⟩, 3, [], .none, .none, .none, .str "os.path" 359, none, .ref 57, .none, 0⟩, #[]⟩) ::
  (nat_lit 64, ⟨.type "code", none, .fields #[.str "_fspath" 370, .str "_fspath" 371, .str "/claim/cut.py" 372, .int 40 0, .int 2 0, .int 0 0, .int 0 0, .int 3 0, .ref 59, .bool true, .int 318 0, .ref 60, .none, .ref 61, .ref 62, .ref 63, .int 376 0, .int 40 0, .str "/claim/cut.py" 377], #[]⟩) ::
  (nat_lit 65, ⟨.type "function", none, .func ⟨"_fspath", "_fspath", defArgs [13], .stmts (defBody [13]), ⟨.function, [("name", .local), ("x", .local), ("k", .local), ("_kind", .globalImplicit), ("TypeError", .globalImplicit)], false, false, []⟩, 3, [], .none, .none, .none, .str "os.path" 359, none, .ref 64, .none, 0⟩, #[]⟩) ::
  (nat_lit 99, ⟨.type "code", none, .fields #[.str "_prefix" 418, .str "_prefix" 419, .str "/claim/cut.py" 420, .int 82 0, .int 1 0, .int 0 0, .int 0 0, .int 3 0, .ref 94, .bool true, .int 318 0, .ref 95, .none, .ref 96, .ref 97, .ref 98, .int 426 0, .int 82 0, .str "/claim/cut.py" 427], #[]⟩) ::
  (nat_lit 100, ⟨.type "function", none, .func ⟨"_prefix", "_prefix", defArgs [19], .stmts (defBody [19]), ⟨.function, [("m", .local), ("s1", .local), ("s2", .local), ("i", .local), ("c", .local), ("min", .globalImplicit), ("max", .globalImplicit), ("enumerate", .globalImplicit)], false, false, []⟩, 3, [], .none, .none, .none, .str "os.path" 359, none, .ref 99, .none, 0⟩, #[]⟩) ::
  (nat_lit 104, ⟨.type "code", none, .fields #[.str "commonprefix" 429, .str "commonprefix" 430, .str "/claim/cut.py" 431, .int 89 0, .int 1 0, .int 0 0, .int 0 0, .int 3 0, .ref 101, .bool true, .int 318 0, .ref 102, .none, .none, .none, .ref 103, .int 432 0, .int 89 0, .str "/claim/cut.py" 433], #[]⟩) ::
  (nat_lit 105, ⟨.type "function", none, .func ⟨"commonprefix", "commonprefix", defArgs [20], .stmts (defBody [20]), ⟨.function, [("m", .local), ("t", .local), ("x", .local), ("y", .local), ("type", .globalImplicit), ("list", .globalImplicit), ("tuple", .globalImplicit), ("_wall", .globalImplicit), ("str", .globalImplicit), ("_prefix", .globalImplicit), ("_kind", .globalImplicit)], false, false, [("fast", .str "m"), ("fast", .str "t"), ("fast", .str "x"), ("fast", .str "y")]⟩, 3, [], .none, .none, .none, .str "os.path" 359, none, .ref 104, .none, 0⟩, #[]⟩) ::
  (nat_lit 111, ⟨.type "code", none, .fields #[.str "_common_shorten_repr" 437, .str "_common_shorten_repr" 438, .str "/claim/cut.py" 439, .int 107 0, .int 0 0, .int 0 0, .int 0 0, .int 7 0, .ref 106, .bool true, .int 318 0, .ref 107, .none, .ref 108, .ref 109, .ref 110, .int 445 0, .int 107 0, .str "/claim/cut.py" 446], #[]⟩) ::
  (nat_lit 112, ⟨.type "function", none, .func ⟨"_common_shorten_repr", "_common_shorten_repr", defArgs [22], .stmts (defBody [22]), ⟨.function, [("args", .local), ("maxlen", .local), ("common_len", .local), ("prefix", .cell), ("prefixlen", .cell), ("tuple", .globalImplicit), ("map", .globalImplicit), ("safe_repr", .globalImplicit), ("max", .globalImplicit), ("len", .globalImplicit), ("_MAX_LENGTH", .globalImplicit), ("commonprefix", .globalImplicit), ("_MIN_BEGIN_LEN", .globalImplicit), ("_PLACEHOLDER_LEN", .globalImplicit), ("_MIN_COMMON_LEN", .globalImplicit), ("_shorten", .globalImplicit)], false, false, []⟩, 3, [], .none, .none, .none, .str "cpy313.unittest.util" 435, none, .ref 111, .none, 0⟩, #[]⟩) ::
  (nat_lit 113, ⟨.type "tuple", none, .seq #[.bool false] 0, #[]⟩) ::
  (nat_lit 119, ⟨.type "code", none, .fields #[.str "safe_repr" 448, .str "safe_repr" 449, .str "/claim/cut.py" 450, .int 121 0, .int 2 0, .int 0 0, .int 0 0, .int 3 0, .ref 114, .bool true, .int 318 0, .ref 115, .none, .ref 116, .ref 117, .ref 118, .int 454 0, .int 121 0, .str "/claim/cut.py" 455], #[]⟩) ::
  (nat_lit 120, ⟨.type "function", none, .func ⟨"safe_repr", "safe_repr", defArgs [23], .stmts (defBody [23]), ⟨.function, [("obj", .local), ("short", .local), ("result", .local), ("repr", .globalImplicit), ("Exception", .globalImplicit), ("object", .globalImplicit), ("len", .globalImplicit), ("_MAX_LENGTH", .globalImplicit)], false, false, []⟩, 3, [], .ref 113, .none, .none, .str "cpy313.unittest.util" 435, none, .ref 119, .none, 0⟩, #[]⟩) ::
  (nat_lit 126, ⟨.type "code", none, .fields #[.str "_buffer" 459, .str "_buffer" 460, .str "/claim/cut.py" 461, .int 130 0, .int 1 0, .int 0 0, .int 0 0, .int 3 0, .ref 121, .bool true, .int 318 0, .ref 122, .none, .ref 123, .ref 124, .ref 125, .int 464 0, .int 130 0, .str "/claim/cut.py" 465], #[]⟩) ::
  (nat_lit 127, ⟨.type "function", none, .func ⟨"_buffer", "_buffer", defArgs [25], .stmts (defBody [25]), ⟨.function, [("data", .local), ("t", .local), ("type", .globalImplicit), ("bytes", .globalImplicit), ("bytearray", .globalImplicit), ("_wall", .globalImplicit)], false, false, []⟩, 3, [], .none, .none, .none, .str "binascii" 457, none, .ref 126, .none, 0⟩, #[]⟩) ::
  (nat_lit 133, ⟨.type "code", none, .fields #[.str "_truth" 467, .str "_truth" 468, .str "/claim/cut.py" 469, .int 137 0, .int 1 0, .int 0 0, .int 0 0, .int 3 0, .ref 128, .bool true, .int 318 0, .ref 129, .none, .ref 130, .ref 131, .ref 132, .int 472 0, .int 137 0, .str "/claim/cut.py" 473], #[]⟩) ::
  (nat_lit 134, ⟨.type "function", none, .func ⟨"_truth", "_truth", defArgs [26], .stmts (defBody [26]), ⟨.function, [("x", .local), ("t", .local), ("type", .globalImplicit), ("bool", .globalImplicit), ("int", .globalImplicit), ("float", .globalImplicit), ("complex", .globalImplicit), ("str", .globalImplicit), ("bytes", .globalImplicit), ("bytearray", .globalImplicit), ("list", .globalImplicit), ("tuple", .globalImplicit), ("dict", .globalImplicit), ("set", .globalImplicit), ("frozenset", .globalImplicit), ("range", .globalImplicit), ("_wall", .globalImplicit)], false, false, []⟩, 3, [], .none, .none, .none, .str "binascii" 457, none, .ref 133, .none, 0⟩, #[]⟩) ::
  (nat_lit 135, ⟨.type "dict", none, .dict #[⟨PyData.keyHash P "newline", .str "newline" 477, .bool true⟩] 1, #[]⟩) ::
  (nat_lit 141, ⟨.type "code", none, .fields #[.str "b2a_base64" 478, .str "b2a_base64" 479, .str "/claim/cut.py" 480, .int 143 0, .int 1 0, .int 1 0, .int 1 0, .int 3 0, .ref 136, .bool true, .int 318 0, .ref 137, .none, .ref 138, .ref 139, .ref 140, .int 488 0, .int 143 0, .str "/claim/cut.py" 489], #[]⟩) ::
  (nat_lit 142, ⟨.type "function", none, .func ⟨"b2a_base64", "b2a_base64", defArgs [28], .stmts (defBody [28]), ⟨.function, [("data", .local), ("newline", .local), ("bin_data", .local), ("out", .local), ("leftbits", .local), ("leftchar", .local), ("b", .local), ("_buffer", .globalImplicit), ("_truth", .globalImplicit), ("_B64", .globalImplicit), ("bytes", .globalImplicit)], false, false, []⟩, 3, [], .none, .ref 135, .none, .str "binascii" 457, none, .ref 141, .none, 0⟩, #[]⟩) ::
  (nat_lit 143, ⟨.type "tuple", none, .seq #[.none] 0, #[]⟩) ::
  (nat_lit 149, ⟨.type "code", none, .fields #[.str "b64encode" 493, .str "b64encode" 494, .str "/claim/cut.py" 495, .int 166 0, .int 2 0, .int 0 0, .int 0 0, .int 3 0, .ref 144, .bool true, .int 318 0, .ref 145, .none, .ref 146, .ref 147, .ref 148, .int 499 0, .int 166 0, .str "/claim/cut.py" 500], #[]⟩) ::
  (nat_lit 150, ⟨.type "function", none, .func ⟨"b64encode", "b64encode", defArgs [30], .stmts (defBody [30]), ⟨.function, [("s", .local), ("altchars", .local), ("encoded", .local), ("b2a_base64", .globalImplicit), ("len", .globalImplicit), ("repr", .globalImplicit), ("bytes", .globalImplicit)], false, false, []⟩, 3, [], .ref 143, .none, .none, .str "cpy313.base64" 491, none, .ref 149, .none, 0⟩, #[]⟩) ::
  (nat_lit 154, ⟨.type "tuple", none, .seq #[.int 14 0, .int 17 0, .int 4 0, .int 1 0, .int 1 0, .int 21 0, .int 9 0, .int 0 0, .int 604043296 0, .int 1 0, .int 0 0, .int 0 0, .int 0 0, .int 0 0, .int 0 0, .int 8 0, .int 4 0, .int 0 0, .int 13 0, .int 14 0, .int 21 0, .int 9 0, .int 0 0, .int 604043296 0, .int 1 0, .int 0 0, .int 0 0, .int 0 0, .int 0 0, .int 0 0, .int 8 0, .int 4 0, .int 0 0, .int 1 0] 0, #[]⟩) ::
  (nat_lit 155, ⟨.type "re.Pattern", none, .fields #[.str "[^\\w@%+=:,./-]" 503, .int 256 540, .int 0 0, .none, .none, .ref 154, .int 0 0], #[]⟩) ::
  (nat_lit 168, ⟨.type "code", none, .fields #[.str "_index" 552, .str "_index" 553, .str "/claim/cut.py" 554, .int 179 0, .int 2 0, .int 0 0, .int 0 0, .int 3 0, .ref 163, .bool true, .int 318 0, .ref 164, .none, .ref 165, .ref 166, .ref 167, .int 557 0, .int 179 0, .str "/claim/cut.py" 558], #[]⟩) ::
  (nat_lit 169, ⟨.type "function", none, .func ⟨"_index", "_index", defArgs [34], .stmts (defBody [34]), ⟨.function, [("n", .local), ("what", .local), ("type", .globalImplicit), ("int", .globalImplicit), ("bool", .globalImplicit), ("_wall", .globalImplicit)], false, false, []⟩, 3, [], .none, .none, .none, .str "io" 542, none, .ref 168, .none, 0⟩, #[]⟩) ::
  (nat_lit 195, ⟨.type "code", none, .fields #[.str "__new__" 596, .str "IOBase.__new__" 597, .str "/claim/cut.py" 598, .int 191 0, .int 1 0, .int 1 0, .int 0 0, .int 15 0, .ref 190, .bool true, .int 318 0, .ref 191, .none, .ref 192, .ref 193, .ref 194, .int 602 0, .int 191 0, .str "/claim/cut.py" 603], #[]⟩) ::
  (nat_lit 196, ⟨.type "function", none, .func ⟨"__new__", "IOBase.__new__", defArgs [36, 1], .stmts (defBody [36, 1]), ⟨.function, [("cls", .local), ("args", .local), ("kwargs", .local), ("BytesIO", .globalImplicit), ("StringIO", .globalImplicit), ("_wall", .globalImplicit), ("object", .globalImplicit)], false, false, []⟩, 3, [], .none, .none, .none, .str "io" 542, none, .ref 195, .none, 0⟩, #[]⟩) ::
  (nat_lit 198, ⟨.type "dict", none, .dict #[⟨PyData.keyHash P "__module__", .str "__module__" 589, .str "io" 594⟩, ⟨PyData.keyHash P "__firstlineno__", .str "__firstlineno__" 593, .int 188 592⟩, ⟨PyData.keyHash P "__new__", .str "__new__" 604, .ref 200⟩, ⟨PyData.keyHash P "__static_attributes__", .str "__static_attributes__" 605, .ref 197⟩, ⟨PyData.keyHash P "__dict__", .str "__dict__" 608, .ref 201⟩, ⟨PyData.keyHash P "__weakref__", .str "__weakref__" 610, .ref 202⟩, ⟨PyData.keyHash P "__doc__", .str "__doc__" 611, .none⟩] 4, #[]⟩) ::
  (nat_lit 199, ⟨.type "type", none, .cls ⟨"IOBase", [.type "object"], [.ref 199, .type "object"], 198, "IOBase", true, [], [.ref 214, .ref 226], false, none, false⟩, #[none, none, some (.str "IOBase" 582), some (.str "IOBase" 590), some (.none), some (.bool true)]⟩) ::
  (nat_lit 200, ⟨.type "staticmethod", none, .fields #[.ref 196], #[]⟩) ::
  (nat_lit 225, ⟨.type "dict", none, .dict #[⟨PyData.keyHash P "__module__", .str "__module__" 639, .str "io" 644⟩, ⟨PyData.keyHash P "__firstlineno__", .str "__firstlineno__" 643, .int 197 642⟩, ⟨PyData.keyHash P "__static_attributes__", .str "__static_attributes__" 646, .ref 224⟩, ⟨PyData.keyHash P "__doc__", .str "__doc__" 647, .none⟩] 2, #[]⟩) ::
  (nat_lit 226, ⟨.type "type", none, .cls ⟨"TextIOBase", [.ref 199], [.ref 226, .ref 199, .type "object"], 225, "TextIOBase", true, [], [.ref 703], false, none, false⟩, #[some (.ref 217), none, some (.str "TextIOBase" 632), some (.str "TextIOBase" 640), some (.none), some (.bool true)]⟩) ::
  (nat_lit 456, ⟨.type "type", none, .cls ⟨"BytesIO", [.ref 214], [.ref 456, .ref 214, .ref 199, .type "object"], 455, "BytesIO", true, [], [], false, none, false⟩, #[some (.ref 229), none, some (.str "BytesIO" 650), some (.str "BytesIO" 658), some (.none), some (.bool true)]⟩) ::
  (nat_lit 466, ⟨.type "tuple", none, .seq #[.str "" 926, .str "\n" 927] 0, #[]⟩) ::
  (nat_lit 472, ⟨.type "code", none, .fields #[.str "__init__" 928, .str "StringIO.__init__" 929, .str "/claim/cut.py" 930, .int 372 0, .int 3 0, .int 0 0, .int 0 0, .int 3 0, .ref 467, .bool true, .int 318 0, .ref 468, .none, .ref 469, .ref 470, .ref 471, .int 934 0, .int 372 0, .str "/claim/cut.py" 935], #[]⟩) ::
  (nat_lit 473, ⟨.type "function", none, .func ⟨"__init__", "StringIO.__init__", defArgs [40, 1], .stmts (defBody [40, 1]), ⟨.function, [("self", .local), ("initial_value", .local), ("newline", .local), ("type", .globalImplicit), ("str", .globalImplicit), ("_wall", .globalImplicit), ("ValueError", .globalImplicit)], false, false, []⟩, 3, [], .ref 466, .none, .none, .str "io" 542, none, .ref 472, .none, 0⟩, #[]⟩) ::
  (nat_lit 479, ⟨.type "code", none, .fields #[.str "__translated" 937, .str "StringIO.__translated" 938, .str "/claim/cut.py" 939, .int 385 0, .int 2 0, .int 0 0, .int 0 0, .int 3 0, .ref 474, .bool true, .int 318 0, .ref 475, .none, .ref 476, .ref 477, .ref 478, .int 943 0, .int 385 0, .str "/claim/cut.py" 944], #[]⟩) ::
  (nat_lit 480, ⟨.type "function", none, .func ⟨"__translated", "StringIO.__translated", defArgs [40, 2], .stmts (defBody [40, 2]), ⟨.function, [("self", .local), ("s", .local), ("newline", .local)], false, false, []⟩, 3, [], .none, .none, .none, .str "io" 542, none, .ref 479, .none, 0⟩, #[]⟩) ::
  (nat_lit 486, ⟨.type "code", none, .fields #[.str "__check" 946, .str "StringIO.__check" 947, .str "/claim/cut.py" 948, .int 393 0, .int 1 0, .int 0 0, .int 0 0, .int 3 0, .ref 481, .bool true, .int 318 0, .ref 482, .none, .ref 483, .ref 484, .ref 485, .int 950 0, .int 393 0, .str "/claim/cut.py" 951], #[]⟩) ::
  (nat_lit 487, ⟨.type "function", none, .func ⟨"__check", "StringIO.__check", defArgs [40, 3], .stmts (defBody [40, 3]), ⟨.function, [("self", .local), ("ValueError", .globalImplicit)], false, false, []⟩, 3, [], .none, .none, .none, .str "io" 542, none, .ref 486, .none, 0⟩, #[]⟩) ::
  (nat_lit 642, ⟨.type "tuple", none, .seq #[.int (-1) 1119] 0, #[]⟩) ::
  (nat_lit 648, ⟨.type "code", none, .fields #[.str "read" 1120, .str "StringIO.read" 1121, .str "/claim/cut.py" 1122, .int 515 0, .int 2 0, .int 2 0, .int 0 0, .int 3 0, .ref 643, .bool true, .int 318 0, .ref 644, .none, .ref 645, .ref 646, .ref 647, .int 1127 0, .int 515 0, .str "/claim/cut.py" 1128], #[]⟩) ::
  (nat_lit 649, ⟨.type "function", none, .func ⟨"read", "StringIO.read", defArgs [40, 25], .stmts (defBody [40, 25]), ⟨.function, [("self", .local), ("size", .local), ("start", .local), ("stop", .local), ("_index", .globalImplicit), ("len", .globalImplicit)], false, false, []⟩, 3, [], .ref 642, .none, .none, .str "io" 542, none, .ref 648, .none, 0⟩, #[]⟩) ::
  (nat_lit 702, ⟨.type "dict", none, .dict #[⟨PyData.keyHash P "__module__", .str "__module__" 919, .str "_io" 924⟩, ⟨PyData.keyHash P "__firstlineno__", .str "__firstlineno__" 923, .int 369 922⟩, ⟨PyData.keyHash P "__init__", .str "__init__" 936, .ref 473⟩, ⟨PyData.keyHash P "_StringIO__translated", .str "_StringIO__translated" 945, .ref 480⟩, ⟨PyData.keyHash P "_StringIO__check", .str "_StringIO__check" 952, .ref 487⟩, ⟨PyData.keyHash P "_StringIO__check_dot", .str "_StringIO__check_dot" 959, .ref 494⟩, ⟨PyData.keyHash P "_StringIO__line", .str "_StringIO__line" 974, .ref 501⟩, ⟨PyData.keyHash P "closed", .str "closed" 982, .ref 509⟩, ⟨PyData.keyHash P "line_buffering", .str "line_buffering" 990, .ref 517⟩, ⟨PyData.keyHash P "newlines", .str "newlines" 998, .ref 525⟩, ⟨PyData.keyHash P "encoding", .str "encoding" 1006, .ref 533⟩, ⟨PyData.keyHash P "errors", .str "errors" 1014, .ref 541⟩, ⟨PyData.keyHash P "close", .str "close" 1021, .ref 548⟩, ⟨PyData.keyHash P "__enter__", .str "__enter__" 1028, .ref 555⟩, ⟨PyData.keyHash P "__exit__", .str "__exit__" 1036, .ref 562⟩, ⟨PyData.keyHash P "readable", .str "readable" 1043, .ref 569⟩, ⟨PyData.keyHash P "writable", .str "writable" 1050, .ref 576⟩, ⟨PyData.keyHash P "seekable", .str "seekable" 1057, .ref 583⟩, ⟨PyData.keyHash P "isatty", .str "isatty" 1064, .ref 590⟩, ⟨PyData.keyHash P "flush", .str "flush" 1071, .ref 597⟩, ⟨PyData.keyHash P "fileno", .str "fileno" 1078, .ref 604⟩, ⟨PyData.keyHash P "detach", .str "detach" 1085, .ref 611⟩, ⟨PyData.keyHash P "getvalue", .str "getvalue" 1092, .ref 618⟩, ⟨PyData.keyHash P "tell", .str "tell" 1099, .ref 625⟩, ⟨PyData.keyHash P "seek", .str "seek" 1109, .ref 633⟩, ⟨PyData.keyHash P "truncate", .str "truncate" 1117, .ref 641⟩, ⟨PyData.keyHash P "read", .str "read" 1129, .ref 649⟩, ⟨PyData.keyHash P "readline", .str "readline" 1139, .ref 657⟩, ⟨PyData.keyHash P "readlines", .str "readlines" 1149, .ref 665⟩, ⟨PyData.keyHash P "__iter__", .str "__iter__" 1156, .ref 672⟩, ⟨PyData.keyHash P "__next__", .str "__next__" 1164, .ref 679⟩, ⟨PyData.keyHash P "write", .str "write" 1176, .ref 686⟩, ⟨PyData.keyHash P "writelines", .str "writelines" 1184, .ref 693⟩, ⟨PyData.keyHash P "__repr__", .str "__repr__" 1191, .ref 700⟩, ⟨PyData.keyHash P "__static_attributes__", .str "__static_attributes__" 1195, .ref 701⟩, ⟨PyData.keyHash P "__doc__", .str "__doc__" 1196, .none⟩] 2, #[]⟩) ::
  (nat_lit 703, ⟨.type "type", none, .cls ⟨"StringIO", [.ref 226], [.ref 703, .ref 226, .ref 199, .type "object"], 702, "StringIO", true, [], [], false, none, false⟩, #[some (.ref 459), none, some (.str "StringIO" 912), some (.str "StringIO" 920), some (.none), some (.bool true)]⟩) ::
  (nat_lit 713, ⟨.type "tuple", none, .seq #[.none, .none, .bool false, .bool false] 0, #[]⟩) ::
  (nat_lit 719, ⟨.type "code", none, .fields #[.str "__init__" 1213, .str "shlex.__init__" 1214, .str "/claim/cut.py" 1215, .int 577 0, .int 5 0, .int 0 0, .int 0 0, .int 3 0, .ref 714, .bool true, .int 318 0, .ref 715, .none, .ref 716, .ref 717, .ref 718, .int 1222 0, .int 577 0, .str "/claim/cut.py" 1223], #[]⟩) ::
  (nat_lit 720, ⟨.type "function", none, .func ⟨"__init__", "shlex.__init__", defArgs [42, 0], .stmts (defBody [42, 0]), ⟨.function, [("self", .local), ("instream", .local), ("infile", .local), ("posix", .local), ("punctuation_chars", .local), ("t", .local), ("isinstance", .globalImplicit), ("str", .globalImplicit), ("StringIO", .globalImplicit), ("_wall", .globalImplicit), ("deque", .globalImplicit), ("dict", .globalImplicit)], false, false, []⟩, 3, [], .ref 713, .none, .none, .str "cpy313.shlex" 1199, none, .ref 719, .none, 0⟩, #[]⟩) ::
  (nat_lit 726, ⟨.type "code", none, .fields #[.str "punctuation_chars" 1225, .str "shlex.punctuation_chars" 1226, .str "/claim/cut.py" 1227, .int 618 0, .int 1 0, .int 0 0, .int 0 0, .int 3 0, .ref 721, .bool true, .int 318 0, .ref 722, .none, .ref 723, .ref 724, .ref 725, .int 1229 0, .int 618 0, .str "/claim/cut.py" 1230], #[]⟩) ::
  (nat_lit 727, ⟨.type "function", none, .func ⟨"punctuation_chars", "shlex.punctuation_chars", defArgs [42, 1], .stmts (defBody [42, 1]), ⟨.function, [("self", .local)], false, false, []⟩, 3, [], .none, .none, .none, .str "cpy313.shlex" 1199, none, .ref 726, .none, 0⟩, #[]⟩) ::
  (nat_lit 728, ⟨.type "property", none, .fields #[.ref 727, .none, .none, .none, .str "punctuation_chars" 1232, .bool false], #[]⟩) ::
  (nat_lit 756, ⟨.type "code", none, .fields #[.str "get_token" 1257, .str "shlex.get_token" 1258, .str "/claim/cut.py" 1259, .int 645 0, .int 1 0, .int 0 0, .int 0 0, .int 3 0, .ref 751, .bool true, .int 318 0, .ref 752, .none, .ref 753, .ref 754, .ref 755, .int 1266 0, .int 645 0, .str "/claim/cut.py" 1267], #[]⟩) ::
  (nat_lit 757, ⟨.type "function", none, .func ⟨"get_token", "shlex.get_token", defArgs [42, 5], .stmts (defBody [42, 5]), ⟨.function, [("self", .local), ("tok", .local), ("raw", .local), ("spec", .local), ("newfile", .local), ("newstream", .local), ("print", .globalImplicit), ("repr", .globalImplicit)], false, false, []⟩, 3, [], .none, .none, .none, .str "cpy313.shlex" 1199, none, .ref 756, .none, 0⟩, #[]⟩) ::
  (nat_lit 763, ⟨.type "code", none, .fields #[.str "read_token" 1269, .str "shlex.read_token" 1270, .str "/claim/cut.py" 1271, .int 672 0, .int 1 0, .int 0 0, .int 0 0, .int 3 0, .ref 758, .bool true, .int 318 0, .ref 759, .none, .ref 760, .ref 761, .ref 762, .int 1277 0, .int 672 0, .str "/claim/cut.py" 1278], #[]⟩) ::
  (nat_lit 764, ⟨.type "function", none, .func ⟨"read_token", "shlex.read_token", defArgs [42, 6], .stmts (defBody [42, 6]), ⟨.function, [("self", .local), ("quoted", .local), ("escapedstate", .local), ("nextchar", .local), ("result", .local), ("print", .globalImplicit), ("ValueError", .globalImplicit), ("repr", .globalImplicit)], false, false, []⟩, 3, [], .none, .none, .none, .str "cpy313.shlex" 1199, none, .ref 763, .none, 0⟩, #[]⟩) ::
  (nat_lit 785, ⟨.type "code", none, .fields #[.str "__iter__" 1297, .str "shlex.__iter__" 1298, .str "/claim/cut.py" 1299, .int 819 0, .int 1 0, .int 0 0, .int 0 0, .int 3 0, .ref 780, .bool true, .int 318 0, .ref 781, .none, .ref 782, .ref 783, .ref 784, .int 1301 0, .int 819 0, .str "/claim/cut.py" 1302], #[]⟩) ::
  (nat_lit 786, ⟨.type "function", none, .func ⟨"__iter__", "shlex.__iter__", defArgs [42, 9], .stmts (defBody [42, 9]), ⟨.function, [("self", .local)], false, false, []⟩, 3, [], .none, .none, .none, .str "cpy313.shlex" 1199, none, .ref 785, .none, 0⟩, #[]⟩) ::
  (nat_lit 792, ⟨.type "code", none, .fields #[.str "__next__" 1304, .str "shlex.__next__" 1305, .str "/claim/cut.py" 1306, .int 822 0, .int 1 0, .int 0 0, .int 0 0, .int 3 0, .ref 787, .bool true, .int 318 0, .ref 788, .none, .ref 789, .ref 790, .ref 791, .int 1309 0, .int 822 0, .str "/claim/cut.py" 1310], #[]⟩) ::
  (nat_lit 793, ⟨.type "function", none, .func ⟨"__next__", "shlex.__next__", defArgs [42, 10], .stmts (defBody [42, 10]), ⟨.function, [("self", .local), ("token", .local), ("StopIteration", .globalImplicit)], false, false, []⟩, 3, [], .none, .none, .none, .str "cpy313.shlex" 1199, none, .ref 792, .none, 0⟩, #[]⟩) ::
  (nat_lit 795, ⟨.type "dict", none, .dict #[⟨PyData.keyHash P "__module__", .str "__module__" 1208, .str "cpy313.shlex" 1199⟩, ⟨PyData.keyHash P "__firstlineno__", .str "__firstlineno__" 1212, .int 575 1211⟩, ⟨PyData.keyHash P "__init__", .str "__init__" 1224, .ref 720⟩, ⟨PyData.keyHash P "punctuation_chars", .str "punctuation_chars" 1232, .ref 728⟩, ⟨PyData.keyHash P "push_token", .str "push_token" 1240, .ref 735⟩, ⟨PyData.keyHash P "push_source", .str "push_source" 1249, .ref 743⟩, ⟨PyData.keyHash P "pop_source", .str "pop_source" 1256, .ref 750⟩, ⟨PyData.keyHash P "get_token", .str "get_token" 1268, .ref 757⟩, ⟨PyData.keyHash P "read_token", .str "read_token" 1279, .ref 764⟩, ⟨PyData.keyHash P "sourcehook", .str "sourcehook" 1287, .ref 771⟩, ⟨PyData.keyHash P "error_leader", .str "error_leader" 1296, .ref 779⟩, ⟨PyData.keyHash P "__iter__", .str "__iter__" 1303, .ref 786⟩, ⟨PyData.keyHash P "__next__", .str "__next__" 1311, .ref 793⟩, ⟨PyData.keyHash P "__static_attributes__", .str "__static_attributes__" 1332, .ref 794⟩, ⟨PyData.keyHash P "__dict__", .str "__dict__" 1334, .ref 797⟩, ⟨PyData.keyHash P "__weakref__", .str "__weakref__" 1336, .ref 798⟩, ⟨PyData.keyHash P "__doc__", .str "__doc__" 1337, .none⟩] 4, #[]⟩) ::
  (nat_lit 796, ⟨.type "type", none, .cls ⟨"shlex", [.type "object"], [.ref 796, .type "object"], 795, "shlex", true, [], [], false, none, false⟩, #[none, none, some (.str "shlex" 1201), some (.str "shlex" 1209), some (.builtin "object.__new__"), some (.bool true)]⟩) ::
  (nat_lit 801, ⟨.type "tuple", none, .seq #[.bool false, .bool true] 0, #[]⟩) ::
  (nat_lit 807, ⟨.type "code", none, .fields #[.str "split" 1340, .str "split" 1341, .str "/claim/cut.py" 1342, .int 827 0, .int 3 0, .int 0 0, .int 0 0, .int 3 0, .ref 802, .bool true, .int 318 0, .ref 803, .none, .ref 804, .ref 805, .ref 806, .int 1347 0, .int 827 0, .str "/claim/cut.py" 1348], #[]⟩) ::
  (nat_lit 808, ⟨.type "function", none, .func ⟨"split", "split", defArgs [43], .stmts (defBody [43]), ⟨.function, [("s", .local), ("comments", .local), ("posix", .local), ("lex", .local), ("ValueError", .globalImplicit), ("shlex", .globalImplicit), ("list", .globalImplicit)], false, false, []⟩, 3, [], .ref 801, .none, .none, .str "cpy313.shlex" 1199, none, .ref 807, .none, 0⟩, #[]⟩) ::
  (nat_lit 814, ⟨.type "code", none, .fields #[.str "join" 1350, .str "join" 1351, .str "/claim/cut.py" 1352, .int 835 0, .int 1 0, .int 0 0, .int 0 0, .int 3 0, .ref 809, .bool true, .int 318 0, .ref 810, .none, .ref 811, .ref 812, .ref 813, .int 1354 0, .int 835 0, .str "/claim/cut.py" 1355], #[]⟩) ::
  (nat_lit 815, ⟨.type "function", none, .func ⟨"join", "join", defArgs [44], .stmts (defBody [44]), ⟨.function, [("split_command", .local)], false, false, []⟩, 3, [], .none, .none, .none, .str "cpy313.shlex" 1199, none, .ref 814, .none, 0⟩, #[]⟩) ::
  (nat_lit 816, ⟨.type "builtin_function_or_method", none, .fields #[.builtin "re.Pattern.search", .ref 155], #[]⟩) ::
  (nat_lit 822, ⟨.type "code", none, .fields #[.str "quote" 1360, .str "quote" 1361, .str "/claim/cut.py" 1362, .int 839 0, .int 1 0, .int 0 0, .int 0 0, .int 3 0, .ref 817, .bool true, .int 318 0, .ref 818, .none, .ref 819, .ref 820, .ref 821, .int 1364 0, .int 839 0, .str "/claim/cut.py" 1365], #[]⟩) ::
  (nat_lit 823, ⟨.type "function", none, .func ⟨"quote", "quote", defArgs [47], .stmts (defBody [47]), ⟨.function, [("s", .local), ("_find_unsafe", .globalImplicit)], false, false, []⟩, 3, [], .none, .none, .none, .str "cpy313.shlex" 1199, none, .ref 822, .none, 0⟩, #[]⟩) ::
  (nat_lit 827, ⟨.type "code", none, .fields #[.str "_law_words" 1369, .str "_law_words" 1370, .str "/claim/cut.py" 1371, .int 846 0, .int 1 0, .int 0 0, .int 0 0, .int 3 0, .ref 824, .bool true, .int 318 0, .ref 825, .none, .none, .none, .ref 826, .int 1372 0, .int 846 0, .str "/claim/cut.py" 1373], #[]⟩) ::
  (nat_lit 828, ⟨.type "function", none, .func ⟨"_law_words", "_law_words", defArgs [49], .stmts (defBody [49]), ⟨.function, [("script", .local), ("numbers", .cell), ("range", .globalImplicit)], false, false, [("fast", .str "script"), ("fast", .str "numbers"), ("fast", .str "place"), ("fast", .str "k")]⟩, 3, [], .none, .none, .none, .str "law_in0127_01" 1367, none, .ref 827, .none, 0⟩, #[]⟩) ::
  (nat_lit 832, ⟨.type "code", none, .fields #[.str "_law_other" 1375, .str "_law_other" 1376, .str "/claim/cut.py" 1377, .int 849 0, .int 5 0, .int 0 0, .int 0 0, .int 3 0, .ref 829, .bool true, .int 318 0, .ref 830, .none, .none, .none, .ref 831, .int 1378 0, .int 849 0, .str "/claim/cut.py" 1379], #[]⟩) ::
  (nat_lit 833, ⟨.type "function", none, .func ⟨"_law_other", "_law_other", defArgs [50], .stmts (defBody [50]), ⟨.function, [("words", .local), ("word", .local), ("octet", .local), ("bits", .local), ("turned", .local), ("other", .local), ("k", .local), ("range", .globalImplicit)], false, false, [("fast", .str "words"), ("fast", .str "word"), ("fast", .str "octet"), ("fast", .str "bits"), ("fast", .str "turned"), ("fast", .str "one"), ("fast", .str "other"), ("fast", .str "k")]⟩, 3, [], .none, .none, .none, .str "law_in0127_01" 1367, none, .ref 832, .none, 0⟩, #[]⟩) ::
  (nat_lit 837, ⟨.type "code", none, .fields #[.str "_law_line" 1381, .str "_law_line" 1382, .str "/claim/cut.py" 1383, .int 856 0, .int 1 0, .int 0 0, .int 0 0, .int 3 0, .ref 834, .bool true, .int 318 0, .ref 835, .none, .none, .none, .ref 836, .int 1384 0, .int 856 0, .str "/claim/cut.py" 1385], #[]⟩) ::
  (nat_lit 838, ⟨.type "function", none, .func ⟨"_law_line", "_law_line", defArgs [51], .stmts (defBody [51]), ⟨.function, [("words", .local), ("join_shlex", .globalImplicit)], false, false, [("fast", .str "words"), ("fast", .str "word"), ("fast", .str "octet")]⟩, 3, [], .none, .none, .none, .str "law_in0127_01" 1367, none, .ref 837, .none, 0⟩, #[]⟩) ::
  (nat_lit 844, ⟨.type "code", none, .fields #[.str "_law_fits" 1387, .str "_law_fits" 1388, .str "/claim/cut.py" 1389, .int 858 0, .int 2 0, .int 0 0, .int 0 0, .int 3 0, .ref 839, .bool true, .int 318 0, .ref 840, .none, .ref 841, .ref 842, .ref 843, .int 1397 0, .int 858 0, .str "/claim/cut.py" 1398], #[]⟩) ::
  (nat_lit 845, ⟨.type "function", none, .func ⟨"_law_fits", "_law_fits", defArgs [52], .stmts (defBody [52]), ⟨.function, [("report", .local), ("whole", .local), ("place", .local), ("parts", .local), ("k", .local), ("part", .local), ("count", .local), ("range", .globalImplicit), ("len", .globalImplicit), ("int", .globalImplicit)], false, false, []⟩, 3, [], .none, .none, .none, .str "law_in0127_01" 1367, none, .ref 844, .none, 0⟩, #[]⟩) ::
  (nat_lit 849, ⟨.type "code", none, .fields #[.str "_law_unlike" 1400, .str "_law_unlike" 1401, .str "/claim/cut.py" 1402, .int 870 0, .int 3 0, .int 0 0, .int 0 0, .int 3 0, .ref 846, .bool true, .int 318 0, .ref 847, .none, .none, .none, .ref 848, .int 1403 0, .int 870 0, .str "/claim/cut.py" 1404], #[]⟩) ::
  (nat_lit 850, ⟨.type "function", none, .func ⟨"_law_unlike", "_law_unlike", defArgs [53], .stmts (defBody [53]), ⟨.function, [("first", .local), ("second", .local), ("line", .local), ("signs", .local), ("shown", .local), ("place", .local), ("mark", .local), ("word", .local), ("six", .cell), ("bit", .local), ("len", .globalImplicit), ("int", .globalImplicit), ("split", .globalImplicit), ("range", .globalImplicit)], false, false, [("fast", .str "first"), ("fast", .str "second"), ("fast", .str "line"), ("fast", .str "signs"), ("fast", .str "shown"), ("fast", .str "place"), ("fast", .str "mark"), ("fast", .str "word"), ("fast", .str "six"), ("fast", .str "k"), ("fast", .str "bit")]⟩, 3, [], .none, .none, .none, .str "law_in0127_01" 1367, none, .ref 849, .none, 0⟩, #[]⟩) ::
  (nat_lit 854, ⟨.type "code", none, .fields #[.str "law" 1406, .str "law" 1407, .str "/claim/cut.py" 1408, .int 883 0, .int 1 0, .int 0 0, .int 0 0, .int 3 0, .ref 851, .bool true, .int 318 0, .ref 852, .none, .none, .none, .ref 853, .int 1409 0, .int 883 0, .str "/claim/cut.py" 1410], #[]⟩) ::
  (nat_lit 855, ⟨.type "function", none, .func ⟨"law", "law", defArgs [54], .stmts (defBody [54]), ⟨.function, [("script", .local), ("words", .local), ("x", .local), ("bits", .cell), ("other", .local), ("lines", .cell), ("reports", .cell), ("_law_words", .globalImplicit), ("sum", .globalImplicit), ("_law_other", .globalImplicit), ("_law_line", .globalImplicit), ("_common_shorten_repr", .globalImplicit), ("range", .globalImplicit), ("_law_unlike", .globalImplicit)], false, false, [("fast", .str "script"), ("fast", .str "words"), ("fast", .str "x"), ("fast", .str "bits"), ("fast", .str "other"), ("fast", .str "lines"), ("fast", .str "reports"), ("fast", .str "k")]⟩, 3, [], .none, .none, .none, .str "law_in0127_01" 1367, none, .ref 854, .none, 0⟩, #[]⟩) :: []
noncomputable def addrs : List Nat := [2, 3, 50, 51, 57, 58, 64, 65, 99, 100, 104, 105, 111, 112, 113, 119, 120, 126, 127, 133, 134, 135, 141, 142, 143, 149, 150, 154, 155, 168, 169, 195, 196, 198, 199, 200, 225, 226, 456, 466, 472, 473, 479, 480, 486, 487, 642, 648, 649, 702, 703, 713, 719, 720, 726, 727, 728, 756, 757, 763, 764, 785, 786, 792, 793, 795, 796, 801, 807, 808, 814, 815, 816, 822, 823, 827, 828, 832, 833, 837, 838, 844, 845, 849, 850, 854, 855]
theorem addrs_eq : ∀ P, addrs = (K P).map (·.1) := fun _ => by kernel_rfl
/-- the tables of the two code objects whose generator expressions the law runs (they grow, so K does not hold them) -/
noncomputable def tabs : Frag := (nat_lit 107, ⟨.none, none, .fields #[], #[]⟩) :: (nat_lit 810, ⟨.none, none, .fields #[], #[]⟩) :: []
noncomputable def KA (P : Params) : Frag := K P ++ tabs
noncomputable def addrsA : List Nat := addrs ++ [107, 810]
theorem addrsA_eq : ∀ P, addrsA = (KA P).map (·.1) := fun _ => by kernel_rfl
noncomputable def keep : List Nat := [0, 1, 2, 4, 5, 6, 7, 8, 9, 10, 12, 13, 14, 15, 17, 18, 19, 20, 22, 25, 26, 27, 31, 33, 34, 35, 36, 37, 38, 39, 40, 42, 44, 45, 46, 47, 49, 50, 51, 52, 53, 54]
noncomputable def q : Program := view PySem.Challenge.pw_in0127_01 keep
noncomputable def loose : List Str := ["_MIN_DIFF_LEN", "join_path", "safe_repr", "b2a_base64", "b64encode", "_twin_re_1", "UnsupportedOperation", "IOBase", "BufferedIOBase", "TextIOBase", "BytesIO", "StringIO", "shlex", "split", "join_shlex", "_find_unsafe"]
noncomputable def lv : List (Str × WData) := [("_MIN_DIFF_LEN", .int 41)]
noncomputable abbrev pq : Program := PySem.Challenge.pw_in0127_01
noncomputable def Kof (p : Program) (P : Params) : Frag :=
(nat_lit 2, ⟨.none, none, .dict #[⟨PyData.keyHash P "impo\x72t.loaded._sre", .str "impo\x72t.loaded._sre" 183, .bool true⟩, ⟨PyData.keyHash P "class._frozen_importlib.BuiltinImporter", .str "class._frozen_importlib.BuiltinImporter" 185, .ref 14⟩, ⟨PyData.keyHash P "watched.impo\x72t", .str "watched.impo\x72t" 206, .ref 18⟩, ⟨PyData.keyHash P "class._frozen_importlib.ModuleSpec", .str "class._frozen_importlib.ModuleSpec" 216, .ref 22⟩, ⟨PyData.keyHash P "sys.modules.booked-epoch", .str "sys.modules.booked-epoch" 245, .int 4 0⟩, ⟨PyData.keyHash P "impo\x72t.later-laid._sre", .str "impo\x72t.later-laid._sre" 270, .bool true⟩, ⟨PyData.keyHash P "watched.library", .str "watched.library" 272, .ref 27⟩, ⟨PyData.keyHash P "watched.library-objects", .str "watched.library-objects" 0, .str "\x0c\x1e" 0⟩, ⟨PyData.keyHash P "watched.library-deep._sre", .str "watched.library-deep._sre" 273, .str "\x04\x00\x00\x0b\x04\x00\x00\x0b\x04\x00\x00\x03\x04\x00\x00\x0b\x08\x04dict\x02" 0⟩, ⟨PyData.keyHash P "impo\x72t.loaded._collections", .str "impo\x72t.loaded._collections" 280, .bool true⟩, ⟨PyData.keyHash P "sys.modules.landed._collections", .str "sys.modules.landed._collections" 294, .bool true⟩, ⟨PyData.keyHash P "impo\x72t.later-laid._collections", .str "impo\x72t.later-laid._collections" 309, .bool true⟩, ⟨PyData.keyHash P "watched.library-deep._collections", .str "watched.library-deep._collections" 311, .str "\x04\x00\x00\x1d\x04\x00\x00\x1d\x04\x00\x00\x03\x04\x00\x00\x1d\x08\x04dict\x02" 0⟩, ⟨PyData.keyHash P "type.__subclasses__.OSError.0", .str "type.__subclasses__.OSError.0" 578, .int 179 0⟩, ⟨PyData.keyHash P "type.__subclasses__.OSError.n", .str "type.__subclasses__.OSError.n" 579, .int 1 0⟩] 15, #[]⟩) ::
  (nat_lit 3, ⟨.type "dict", none, .dict #[⟨PyData.keyHash P "__name__", .str "__name__" 165, .str "law_in0127_01" 1367⟩, ⟨PyData.keyHash P "__doc__", .str "__doc__" 166, .none⟩, ⟨PyData.keyHash P "__package__", .str "__package__" 167, .none⟩, ⟨PyData.keyHash P "__loader__", .str "__loader__" 168, .builtin "__main__.__loader__#opaque"⟩, ⟨PyData.keyHash P "__spec__", .str "__spec__" 169, .none⟩, ⟨PyData.keyHash P "__annotations__", .str "__annotations__" 170, .ref 6⟩, ⟨PyData.keyHash P "__builtins__", .str "__builtins__" 171, .ref 4⟩, ⟨PyData.keyHash P "__file__", .str "__file__" 173, .str "/claim/cut.py" 172⟩, ⟨PyData.keyHash P "__cached__", .str "__cached__" 174, .none⟩, ⟨PyData.keyHash P "_sre", .str "_sre" 275, .ref 12⟩, ⟨PyData.keyHash P "deque", .str "deque" 317, .type "collections.deque"⟩, ⟨PyData.keyHash P "_wall", .str "_wall" 330, .ref 44⟩, ⟨PyData.keyHash P "_MAX_LENGTH", .str "_MAX_LENGTH" 334, .int 80 333⟩, ⟨PyData.keyHash P "_PLACEHOLDER_LEN", .str "_PLACEHOLDER_LEN" 336, .int 12 335⟩, ⟨PyData.keyHash P "_MIN_BEGIN_LEN", .str "_MIN_BEGIN_LEN" 338, .int 5 337⟩, ⟨PyData.keyHash P "_MIN_END_LEN", .str "_MIN_END_LEN" 340, .int 5 339⟩, ⟨PyData.keyHash P "_MIN_COMMON_LEN", .str "_MIN_COMMON_LEN" 342, .int 5 341⟩, ⟨PyData.keyHash P "_MIN_DIFF_LEN", .str "_MIN_DIFF_LEN" 348, .int 41 347⟩, ⟨PyData.keyHash P "_shorten", .str "_shorten" 358, .ref 51⟩, ⟨PyData.keyHash P "_kind", .str "_kind" 369, .ref 58⟩, ⟨PyData.keyHash P "_fspath", .str "_fspath" 378, .ref 65⟩, ⟨PyData.keyHash P "_check_arg_types", .str "_check_arg_types" 388, .ref 72⟩, ⟨PyData.keyHash P "isabs", .str "isabs" 395, .ref 79⟩, ⟨PyData.keyHash P "join", .str "join" 406, .ref 815⟩, ⟨PyData.keyHash P "join_path", .str "join_path" 407, .ref 86⟩, ⟨PyData.keyHash P "dirname", .str "dirname" 417, .ref 93⟩, ⟨PyData.keyHash P "_prefix", .str "_prefix" 428, .ref 100⟩, ⟨PyData.keyHash P "commonprefix", .str "commonprefix" 434, .ref 105⟩, ⟨PyData.keyHash P "_common_shorten_repr", .str "_common_shorten_repr" 447, .ref 112⟩, ⟨PyData.keyHash P "safe_repr", .str "safe_repr" 456, .ref 120⟩, ⟨PyData.keyHash P "_buffer", .str "_buffer" 466, .ref 127⟩, ⟨PyData.keyHash P "_truth", .str "_truth" 474, .ref 134⟩, ⟨PyData.keyHash P "_B64", .str "_B64" 476, .bytes #[65, 66, 67, 68, 69, 70, 71, 72, 73, 74, 75, 76, 77, 78, 79, 80, 81, 82, 83, 84, 85, 86, 87, 88, 89, 90, 97, 98, 99, 100, 101, 102, 103, 104, 105, 106, 107, 108, 109, 110, 111, 112, 113, 114, 115, 116, 117, 118, 119, 120, 121, 122, 48, 49, 50, 51, 52, 53, 54, 55, 56, 57, 43, 47] 475⟩, ⟨PyData.keyHash P "b2a_base64", .str "b2a_base64" 490, .ref 142⟩, ⟨PyData.keyHash P "b64encode", .str "b64encode" 501, .ref 150⟩, ⟨PyData.keyHash P "_twin_re_1", .str "_twin_re_1" 541, .ref 155⟩, ⟨PyData.keyHash P "_whence", .str "_whence" 551, .ref 162⟩, ⟨PyData.keyHash P "_index", .str "_index" 559, .ref 169⟩, ⟨PyData.keyHash P "UnsupportedOperation", .str "UnsupportedOperation" 581, .ref 179⟩, ⟨PyData.keyHash P "IOBase", .str "IOBase" 613, .ref 199⟩, ⟨PyData.keyHash P "BufferedIOBase", .str "BufferedIOBase" 631, .ref 214⟩, ⟨PyData.keyHash P "TextIOBase", .str "TextIOBase" 649, .ref 226⟩, ⟨PyData.keyHash P "BytesIO", .str "BytesIO" 911, .ref 456⟩, ⟨PyData.keyHash P "StringIO", .str "StringIO" 1198, .ref 703⟩, ⟨PyData.keyHash P "shlex", .str "shlex" 1339, .ref 796⟩, ⟨PyData.keyHash P "split", .str "split" 1349, .ref 808⟩, ⟨PyData.keyHash P "join_shlex", .str "join_shlex" 1357, .ref 815⟩, ⟨PyData.keyHash P "_find_unsafe", .str "_find_unsafe" 1359, .ref 816⟩, ⟨PyData.keyHash P "quote", .str "quote" 1366, .ref 823⟩, ⟨PyData.keyHash P "_law_words", .str "_law_words" 1374, .ref 828⟩, ⟨PyData.keyHash P "_law_other", .str "_law_other" 1380, .ref 833⟩, ⟨PyData.keyHash P "_law_line", .str "_law_line" 1386, .ref 838⟩, ⟨PyData.keyHash P "_law_fits", .str "_law_fits" 1399, .ref 845⟩, ⟨PyData.keyHash P "_law_unlike", .str "_law_unlike" 1405, .ref 850⟩, ⟨PyData.keyHash P "law", .str "law" 1411, .ref 855⟩] 55, #[]⟩) ::
  (nat_lit 50, ⟨.type "code", none, .fields #[.str "_shorten" 349, .str "_shorten" 350, .str "/claim/cut.py" 351, .int 13 0, .int 3 0, .int 0 0, .int 0 0, .int 3 0, .ref 45, .bool true, .int 318 0, .ref 46, .none, .ref 47, .ref 48, .ref 49, .int 356 0, .int 13 0, .str "/claim/cut.py" 357], #[]⟩) ::
  (nat_lit 51, ⟨.type "function", none, .func ⟨"_shorten", "_shorten", defArgsOf p [10], .stmts (defBodyOf p [10]), ⟨.function, [("s", .local), ("prefixlen", .local), ("suffixlen", .local), ("skip", .local), ("len", .globalImplicit), ("_PLACEHOLDER_LEN", .globalImplicit)], false, false, []⟩, 3, [], .none, .none, .none, .str "cpy313.unittest.util" 331, none, .ref 50, .none, 0⟩, #[]⟩) ::
  (nat_lit 57, ⟨.type "code", none, .fields #[.str "_kind" 361, .str "_kind" 362, .str "/claim/cut.py" 363, .int 19 0, .int 2 0, .int 0 0, .int 0 0, .int 3 0, .ref 52, .bool true, .int 318 0, .ref 53, .none, .ref 54, .ref 55, .ref 56, .int 367 0, .int 19 0, .str "/claim/cut.py" 368], #[]⟩) ::
  (nat_lit 58, ⟨.type "function", none, .func ⟨"_kind", "_kind", defArgsOf p [12], .stmts (defBodyOf p [12]), ⟨.function, [("name", .local), ("x", .local), ("t", .local), ("type", .globalImplicit), ("str", .globalImplicit), ("bool", .globalImplicit), ("int", .globalImplicit), ("float", .globalImplicit), ("list", .globalImplicit), ("tuple", .globalImplicit), ("dict", .globalImplicit), ("set", .globalImplicit), ("_wall", .globalImplicit)], false, false, []⟩, 3, [], .none, .none, .none, .str "os.path" 359, none, .ref 57, .none, 0⟩, #[]⟩) ::
  (nat_lit 64, ⟨.type "code", none, .fields #[.str "_fspath" 370, .str "_fspath" 371, .str "/claim/cut.py" 372, .int 40 0, .int 2 0, .int 0 0, .int 0 0, .int 3 0, .ref 59, .bool true, .int 318 0, .ref 60, .none, .ref 61, .ref 62, .ref 63, .int 376 0, .int 40 0, .str "/claim/cut.py" 377], #[]⟩) ::
  (nat_lit 65, ⟨.type "function", none, .func ⟨"_fspath", "_fspath", defArgsOf p [13], .stmts (defBodyOf p [13]), ⟨.function, [("name", .local), ("x", .local), ("k", .local), ("_kind", .globalImplicit), ("TypeError", .globalImplicit)], false, false, []⟩, 3, [], .none, .none, .none, .str "os.path" 359, none, .ref 64, .none, 0⟩, #[]⟩) ::
  (nat_lit 99, ⟨.type "code", none, .fields #[.str "_prefix" 418, .str "_prefix" 419, .str "/claim/cut.py" 420, .int 82 0, .int 1 0, .int 0 0, .int 0 0, .int 3 0, .ref 94, .bool true, .int 318 0, .ref 95, .none, .ref 96, .ref 97, .ref 98, .int 426 0, .int 82 0, .str "/claim/cut.py" 427], #[]⟩) ::
  (nat_lit 100, ⟨.type "function", none, .func ⟨"_prefix", "_prefix", defArgsOf p [19], .stmts (defBodyOf p [19]), ⟨.function, [("m", .local), ("s1", .local), ("s2", .local), ("i", .local), ("c", .local), ("min", .globalImplicit), ("max", .globalImplicit), ("enumerate", .globalImplicit)], false, false, []⟩, 3, [], .none, .none, .none, .str "os.path" 359, none, .ref 99, .none, 0⟩, #[]⟩) ::
  (nat_lit 104, ⟨.type "code", none, .fields #[.str "commonprefix" 429, .str "commonprefix" 430, .str "/claim/cut.py" 431, .int 89 0, .int 1 0, .int 0 0, .int 0 0, .int 3 0, .ref 101, .bool true, .int 318 0, .ref 102, .none, .none, .none, .ref 103, .int 432 0, .int 89 0, .str "/claim/cut.py" 433], #[]⟩) ::
  (nat_lit 105, ⟨.type "function", none, .func ⟨"commonprefix", "commonprefix", defArgsOf p [20], .stmts (defBodyOf p [20]), ⟨.function, [("m", .local), ("t", .local), ("x", .local), ("y", .local), ("type", .globalImplicit), ("list", .globalImplicit), ("tuple", .globalImplicit), ("_wall", .globalImplicit), ("str", .globalImplicit), ("_prefix", .globalImplicit), ("_kind", .globalImplicit)], false, false, [("fast", .str "m"), ("fast", .str "t"), ("fast", .str "x"), ("fast", .str "y")]⟩, 3, [], .none, .none, .none, .str "os.path" 359, none, .ref 104, .none, 0⟩, #[]⟩) ::
  (nat_lit 111, ⟨.type "code", none, .fields #[.str "_common_shorten_repr" 437, .str "_common_shorten_repr" 438, .str "/claim/cut.py" 439, .int 107 0, .int 0 0, .int 0 0, .int 0 0, .int 7 0, .ref 106, .bool true, .int 318 0, .ref 107, .none, .ref 108, .ref 109, .ref 110, .int 445 0, .int 107 0, .str "/claim/cut.py" 446], #[]⟩) ::
  (nat_lit 112, ⟨.type "function", none, .func ⟨"_common_shorten_repr", "_common_shorten_repr", defArgsOf p [22], .stmts (defBodyOf p [22]), ⟨.function, [("args", .local), ("maxlen", .local), ("common_len", .local), ("prefix", .cell), ("prefixlen", .cell), ("tuple", .globalImplicit), ("map", .globalImplicit), ("safe_repr", .globalImplicit), ("max", .globalImplicit), ("len", .globalImplicit), ("_MAX_LENGTH", .globalImplicit), ("commonprefix", .globalImplicit), ("_MIN_BEGIN_LEN", .globalImplicit), ("_PLACEHOLDER_LEN", .globalImplicit), ("_MIN_COMMON_LEN", .globalImplicit), ("_shorten", .globalImplicit)], false, false, []⟩, 3, [], .none, .none, .none, .str "cpy313.unittest.util" 435, none, .ref 111, .none, 0⟩, #[]⟩) ::
  (nat_lit 113, ⟨.type "tuple", none, .seq #[.bool false] 0, #[]⟩) ::
  (nat_lit 119, ⟨.type "code", none, .fields #[.str "safe_repr" 448, .str "safe_repr" 449, .str "/claim/cut.py" 450, .int 121 0, .int 2 0, .int 0 0, .int 0 0, .int 3 0, .ref 114, .bool true, .int 318 0, .ref 115, .none, .ref 116, .ref 117, .ref 118, .int 454 0, .int 121 0, .str "/claim/cut.py" 455], #[]⟩) ::
  (nat_lit 120, ⟨.type "function", none, .func ⟨"safe_repr", "safe_repr", defArgsOf p [23], .stmts (defBodyOf p [23]), ⟨.function, [("obj", .local), ("short", .local), ("result", .local), ("repr", .globalImplicit), ("Exception", .globalImplicit), ("object", .globalImplicit), ("len", .globalImplicit), ("_MAX_LENGTH", .globalImplicit)], false, false, []⟩, 3, [], .ref 113, .none, .none, .str "cpy313.unittest.util" 435, none, .ref 119, .none, 0⟩, #[]⟩) ::
  (nat_lit 126, ⟨.type "code", none, .fields #[.str "_buffer" 459, .str "_buffer" 460, .str "/claim/cut.py" 461, .int 130 0, .int 1 0, .int 0 0, .int 0 0, .int 3 0, .ref 121, .bool true, .int 318 0, .ref 122, .none, .ref 123, .ref 124, .ref 125, .int 464 0, .int 130 0, .str "/claim/cut.py" 465], #[]⟩) ::
  (nat_lit 127, ⟨.type "function", none, .func ⟨"_buffer", "_buffer", defArgsOf p [25], .stmts (defBodyOf p [25]), ⟨.function, [("data", .local), ("t", .local), ("type", .globalImplicit), ("bytes", .globalImplicit), ("bytearray", .globalImplicit), ("_wall", .globalImplicit)], false, false, []⟩, 3, [], .none, .none, .none, .str "binascii" 457, none, .ref 126, .none, 0⟩, #[]⟩) ::
  (nat_lit 133, ⟨.type "code", none, .fields #[.str "_truth" 467, .str "_truth" 468, .str "/claim/cut.py" 469, .int 137 0, .int 1 0, .int 0 0, .int 0 0, .int 3 0, .ref 128, .bool true, .int 318 0, .ref 129, .none, .ref 130, .ref 131, .ref 132, .int 472 0, .int 137 0, .str "/claim/cut.py" 473], #[]⟩) ::
  (nat_lit 134, ⟨.type "function", none, .func ⟨"_truth", "_truth", defArgsOf p [26], .stmts (defBodyOf p [26]), ⟨.function, [("x", .local), ("t", .local), ("type", .globalImplicit), ("bool", .globalImplicit), ("int", .globalImplicit), ("float", .globalImplicit), ("complex", .globalImplicit), ("str", .globalImplicit), ("bytes", .globalImplicit), ("bytearray", .globalImplicit), ("list", .globalImplicit), ("tuple", .globalImplicit), ("dict", .globalImplicit), ("set", .globalImplicit), ("frozenset", .globalImplicit), ("range", .globalImplicit), ("_wall", .globalImplicit)], false, false, []⟩, 3, [], .none, .none, .none, .str "binascii" 457, none, .ref 133, .none, 0⟩, #[]⟩) ::
  (nat_lit 135, ⟨.type "dict", none, .dict #[⟨PyData.keyHash P "newline", .str "newline" 477, .bool true⟩] 1, #[]⟩) ::
  (nat_lit 141, ⟨.type "code", none, .fields #[.str "b2a_base64" 478, .str "b2a_base64" 479, .str "/claim/cut.py" 480, .int 143 0, .int 1 0, .int 1 0, .int 1 0, .int 3 0, .ref 136, .bool true, .int 318 0, .ref 137, .none, .ref 138, .ref 139, .ref 140, .int 488 0, .int 143 0, .str "/claim/cut.py" 489], #[]⟩) ::
  (nat_lit 142, ⟨.type "function", none, .func ⟨"b2a_base64", "b2a_base64", defArgsOf p [28], .stmts (defBodyOf p [28]), ⟨.function, [("data", .local), ("newline", .local), ("bin_data", .local), ("out", .local), ("leftbits", .local), ("leftchar", .local), ("b", .local), ("_buffer", .globalImplicit), ("_truth", .globalImplicit), ("_B64", .globalImplicit), ("bytes", .globalImplicit)], false, false, []⟩, 3, [], .none, .ref 135, .none, .str "binascii" 457, none, .ref 141, .none, 0⟩, #[]⟩) ::
  (nat_lit 143, ⟨.type "tuple", none, .seq #[.none] 0, #[]⟩) ::
  (nat_lit 149, ⟨.type "code", none, .fields #[.str "b64encode" 493, .str "b64encode" 494, .str "/claim/cut.py" 495, .int 166 0, .int 2 0, .int 0 0, .int 0 0, .int 3 0, .ref 144, .bool true, .int 318 0, .ref 145, .none, .ref 146, .ref 147, .ref 148, .int 499 0, .int 166 0, .str "/claim/cut.py" 500], #[]⟩) ::
  (nat_lit 150, ⟨.type "function", none, .func ⟨"b64encode", "b64encode", defArgsOf p [30], .stmts (defBodyOf p [30]), ⟨.function, [("s", .local), ("altchars", .local), ("encoded", .local), ("b2a_base64", .globalImplicit), ("len", .globalImplicit), ("repr", .globalImplicit), ("bytes", .globalImplicit)], false, false, []⟩, 3, [], .ref 143, .none, .none, .str "cpy313.base64" 491, none, .ref 149, .none, 0⟩, #[]⟩) ::
  (nat_lit 154, ⟨.type "tuple", none, .seq #[.int 14 0, .int 17 0, .int 4 0, .int 1 0, .int 1 0, .int 21 0, .int 9 0, .int 0 0, .int 604043296 0, .int 1 0, .int 0 0, .int 0 0, .int 0 0, .int 0 0, .int 0 0, .int 8 0, .int 4 0, .int 0 0, .int 13 0, .int 14 0, .int 21 0, .int 9 0, .int 0 0, .int 604043296 0, .int 1 0, .int 0 0, .int 0 0, .int 0 0, .int 0 0, .int 0 0, .int 8 0, .int 4 0, .int 0 0, .int 1 0] 0, #[]⟩) ::
  (nat_lit 155, ⟨.type "re.Pattern", none, .fields #[.str "[^\\w@%+=:,./-]" 503, .int 256 540, .int 0 0, .none, .none, .ref 154, .int 0 0], #[]⟩) ::
  (nat_lit 168, ⟨.type "code", none, .fields #[.str "_index" 552, .str "_index" 553, .str "/claim/cut.py" 554, .int 179 0, .int 2 0, .int 0 0, .int 0 0, .int 3 0, .ref 163, .bool true, .int 318 0, .ref 164, .none, .ref 165, .ref 166, .ref 167, .int 557 0, .int 179 0, .str "/claim/cut.py" 558], #[]⟩) ::
  (nat_lit 169, ⟨.type "function", none, .func ⟨"_index", "_index", defArgsOf p [34], .stmts (defBodyOf p [34]), ⟨.function, [("n", .local), ("what", .local), ("type", .globalImplicit), ("int", .globalImplicit), ("bool", .globalImplicit), ("_wall", .globalImplicit)], false, false, []⟩, 3, [], .none, .none, .none, .str "io" 542, none, .ref 168, .none, 0⟩, #[]⟩) ::
  (nat_lit 195, ⟨.type "code", none, .fields #[.str "__new__" 596, .str "IOBase.__new__" 597, .str "/claim/cut.py" 598, .int 191 0, .int 1 0, .int 1 0, .int 0 0, .int 15 0, .ref 190, .bool true, .int 318 0, .ref 191, .none, .ref 192, .ref 193, .ref 194, .int 602 0, .int 191 0, .str "/claim/cut.py" 603], #[]⟩) ::
  (nat_lit 196, ⟨.type "function", none, .func ⟨"__new__", "IOBase.__new__", defArgsOf p [36, 1], .stmts (defBodyOf p [36, 1]), ⟨.function, [("cls", .local), ("args", .local), ("kwargs", .local), ("BytesIO", .globalImplicit), ("StringIO", .globalImplicit), ("_wall", .globalImplicit), ("object", .globalImplicit)], false, false, []⟩, 3, [], .none, .none, .none, .str "io" 542, none, .ref 195, .none, 0⟩, #[]⟩) ::
  (nat_lit 198, ⟨.type "dict", none, .dict #[⟨PyData.keyHash P "__module__", .str "__module__" 589, .str "io" 594⟩, ⟨PyData.keyHash P "__firstlineno__", .str "__firstlineno__" 593, .int 188 592⟩, ⟨PyData.keyHash P "__new__", .str "__new__" 604, .ref 200⟩, ⟨PyData.keyHash P "__static_attributes__", .str "__static_attributes__" 605, .ref 197⟩, ⟨PyData.keyHash P "__dict__", .str "__dict__" 608, .ref 201⟩, ⟨PyData.keyHash P "__weakref__", .str "__weakref__" 610, .ref 202⟩, ⟨PyData.keyHash P "__doc__", .str "__doc__" 611, .none⟩] 4, #[]⟩) ::
  (nat_lit 199, ⟨.type "type", none, .cls ⟨"IOBase", [.type "object"], [.ref 199, .type "object"], 198, "IOBase", true, [], [.ref 214, .ref 226], false, none, false⟩, #[none, none, some (.str "IOBase" 582), some (.str "IOBase" 590), some (.none), some (.bool true)]⟩) ::
  (nat_lit 200, ⟨.type "staticmethod", none, .fields #[.ref 196], #[]⟩) ::
  (nat_lit 225, ⟨.type "dict", none, .dict #[⟨PyData.keyHash P "__module__", .str "__module__" 639, .str "io" 644⟩, ⟨PyData.keyHash P "__firstlineno__", .str "__firstlineno__" 643, .int 197 642⟩, ⟨PyData.keyHash P "__static_attributes__", .str "__static_attributes__" 646, .ref 224⟩, ⟨PyData.keyHash P "__doc__", .str "__doc__" 647, .none⟩] 2, #[]⟩) ::
  (nat_lit 226, ⟨.type "type", none, .cls ⟨"TextIOBase", [.ref 199], [.ref 226, .ref 199, .type "object"], 225, "TextIOBase", true, [], [.ref 703], false, none, false⟩, #[some (.ref 217), none, some (.str "TextIOBase" 632), some (.str "TextIOBase" 640), some (.none), some (.bool true)]⟩) ::
  (nat_lit 456, ⟨.type "type", none, .cls ⟨"BytesIO", [.ref 214], [.ref 456, .ref 214, .ref 199, .type "object"], 455, "BytesIO", true, [], [], false, none, false⟩, #[some (.ref 229), none, some (.str "BytesIO" 650), some (.str "BytesIO" 658), some (.none), some (.bool true)]⟩) ::
  (nat_lit 466, ⟨.type "tuple", none, .seq #[.str "" 926, .str "\n" 927] 0, #[]⟩) ::
  (nat_lit 472, ⟨.type "code", none, .fields #[.str "__init__" 928, .str "StringIO.__init__" 929, .str "/claim/cut.py" 930, .int 372 0, .int 3 0, .int 0 0, .int 0 0, .int 3 0, .ref 467, .bool true, .int 318 0, .ref 468, .none, .ref 469, .ref 470, .ref 471, .int 934 0, .int 372 0, .str "/claim/cut.py" 935], #[]⟩) ::
  (nat_lit 473, ⟨.type "function", none, .func ⟨"__init__", "StringIO.__init__", defArgsOf p [40, 1], .stmts (defBodyOf p [40, 1]), ⟨.function, [("self", .local), ("initial_value", .local), ("newline", .local), ("type", .globalImplicit), ("str", .globalImplicit), ("_wall", .globalImplicit), ("ValueError", .globalImplicit)], false, false, []⟩, 3, [], .ref 466, .none, .none, .str "io" 542, none, .ref 472, .none, 0⟩, #[]⟩) ::
  (nat_lit 479, ⟨.type "code", none, .fields #[.str "__translated" 937, .str "StringIO.__translated" 938, .str "/claim/cut.py" 939, .int 385 0, .int 2 0, .int 0 0, .int 0 0, .int 3 0, .ref 474, .bool true, .int 318 0, .ref 475, .none, .ref 476, .ref 477, .ref 478, .int 943 0, .int 385 0, .str "/claim/cut.py" 944], #[]⟩) ::
  (nat_lit 480, ⟨.type "function", none, .func ⟨"__translated", "StringIO.__translated", defArgsOf p [40, 2], .stmts (defBodyOf p [40, 2]), ⟨.function, [("self", .local), ("s", .local), ("newline", .local)], false, false, []⟩, 3, [], .none, .none, .none, .str "io" 542, none, .ref 479, .none, 0⟩, #[]⟩) ::
  (nat_lit 486, ⟨.type "code", none, .fields #[.str "__check" 946, .str "StringIO.__check" 947, .str "/claim/cut.py" 948, .int 393 0, .int 1 0, .int 0 0, .int 0 0, .int 3 0, .ref 481, .bool true, .int 318 0, .ref 482, .none, .ref 483, .ref 484, .ref 485, .int 950 0, .int 393 0, .str "/claim/cut.py" 951], #[]⟩) ::
  (nat_lit 487, ⟨.type "function", none, .func ⟨"__check", "StringIO.__check", defArgsOf p [40, 3], .stmts (defBodyOf p [40, 3]), ⟨.function, [("self", .local), ("ValueError", .globalImplicit)], false, false, []⟩, 3, [], .none, .none, .none, .str "io" 542, none, .ref 486, .none, 0⟩, #[]⟩) ::
  (nat_lit 642, ⟨.type "tuple", none, .seq #[.int (-1) 1119] 0, #[]⟩) ::
  (nat_lit 648, ⟨.type "code", none, .fields #[.str "read" 1120, .str "StringIO.read" 1121, .str "/claim/cut.py" 1122, .int 515 0, .int 2 0, .int 2 0, .int 0 0, .int 3 0, .ref 643, .bool true, .int 318 0, .ref 644, .none, .ref 645, .ref 646, .ref 647, .int 1127 0, .int 515 0, .str "/claim/cut.py" 1128], #[]⟩) ::
  (nat_lit 649, ⟨.type "function", none, .func ⟨"read", "StringIO.read", defArgsOf p [40, 25], .stmts (defBodyOf p [40, 25]), ⟨.function, [("self", .local), ("size", .local), ("start", .local), ("stop", .local), ("_index", .globalImplicit), ("len", .globalImplicit)], false, false, []⟩, 3, [], .ref 642, .none, .none, .str "io" 542, none, .ref 648, .none, 0⟩, #[]⟩) ::
  (nat_lit 702, ⟨.type "dict", none, .dict #[⟨PyData.keyHash P "__module__", .str "__module__" 919, .str "_io" 924⟩, ⟨PyData.keyHash P "__firstlineno__", .str "__firstlineno__" 923, .int 369 922⟩, ⟨PyData.keyHash P "__init__", .str "__init__" 936, .ref 473⟩, ⟨PyData.keyHash P "_StringIO__translated", .str "_StringIO__translated" 945, .ref 480⟩, ⟨PyData.keyHash P "_StringIO__check", .str "_StringIO__check" 952, .ref 487⟩, ⟨PyData.keyHash P "_StringIO__check_dot", .str "_StringIO__check_dot" 959, .ref 494⟩, ⟨PyData.keyHash P "_StringIO__line", .str "_StringIO__line" 974, .ref 501⟩, ⟨PyData.keyHash P "closed", .str "closed" 982, .ref 509⟩, ⟨PyData.keyHash P "line_buffering", .str "line_buffering" 990, .ref 517⟩, ⟨PyData.keyHash P "newlines", .str "newlines" 998, .ref 525⟩, ⟨PyData.keyHash P "encoding", .str "encoding" 1006, .ref 533⟩, ⟨PyData.keyHash P "errors", .str "errors" 1014, .ref 541⟩, ⟨PyData.keyHash P "close", .str "close" 1021, .ref 548⟩, ⟨PyData.keyHash P "__enter__", .str "__enter__" 1028, .ref 555⟩, ⟨PyData.keyHash P "__exit__", .str "__exit__" 1036, .ref 562⟩, ⟨PyData.keyHash P "readable", .str "readable" 1043, .ref 569⟩, ⟨PyData.keyHash P "writable", .str "writable" 1050, .ref 576⟩, ⟨PyData.keyHash P "seekable", .str "seekable" 1057, .ref 583⟩, ⟨PyData.keyHash P "isatty", .str "isatty" 1064, .ref 590⟩, ⟨PyData.keyHash P "flush", .str "flush" 1071, .ref 597⟩, ⟨PyData.keyHash P "fileno", .str "fileno" 1078, .ref 604⟩, ⟨PyData.keyHash P "detach", .str "detach" 1085, .ref 611⟩, ⟨PyData.keyHash P "getvalue", .str "getvalue" 1092, .ref 618⟩, ⟨PyData.keyHash P "tell", .str "tell" 1099, .ref 625⟩, ⟨PyData.keyHash P "seek", .str "seek" 1109, .ref 633⟩, ⟨PyData.keyHash P "truncate", .str "truncate" 1117, .ref 641⟩, ⟨PyData.keyHash P "read", .str "read" 1129, .ref 649⟩, ⟨PyData.keyHash P "readline", .str "readline" 1139, .ref 657⟩, ⟨PyData.keyHash P "readlines", .str "readlines" 1149, .ref 665⟩, ⟨PyData.keyHash P "__iter__", .str "__iter__" 1156, .ref 672⟩, ⟨PyData.keyHash P "__next__", .str "__next__" 1164, .ref 679⟩, ⟨PyData.keyHash P "write", .str "write" 1176, .ref 686⟩, ⟨PyData.keyHash P "writelines", .str "writelines" 1184, .ref 693⟩, ⟨PyData.keyHash P "__repr__", .str "__repr__" 1191, .ref 700⟩, ⟨PyData.keyHash P "__static_attributes__", .str "__static_attributes__" 1195, .ref 701⟩, ⟨PyData.keyHash P "__doc__", .str "__doc__" 1196, .none⟩] 2, #[]⟩) ::
  (nat_lit 703, ⟨.type "type", none, .cls ⟨"StringIO", [.ref 226], [.ref 703, .ref 226, .ref 199, .type "object"], 702, "StringIO", true, [], [], false, none, false⟩, #[some (.ref 459), none, some (.str "StringIO" 912), some (.str "StringIO" 920), some (.none), some (.bool true)]⟩) ::
  (nat_lit 713, ⟨.type "tuple", none, .seq #[.none, .none, .bool false, .bool false] 0, #[]⟩) ::
  (nat_lit 719, ⟨.type "code", none, .fields #[.str "__init__" 1213, .str "shlex.__init__" 1214, .str "/claim/cut.py" 1215, .int 577 0, .int 5 0, .int 0 0, .int 0 0, .int 3 0, .ref 714, .bool true, .int 318 0, .ref 715, .none, .ref 716, .ref 717, .ref 718, .int 1222 0, .int 577 0, .str "/claim/cut.py" 1223], #[]⟩) ::
  (nat_lit 720, ⟨.type "function", none, .func ⟨"__init__", "shlex.__init__", defArgsOf p [42, 0], .stmts (defBodyOf p [42, 0]), ⟨.function, [("self", .local), ("instream", .local), ("infile", .local), ("posix", .local), ("punctuation_chars", .local), ("t", .local), ("isinstance", .globalImplicit), ("str", .globalImplicit), ("StringIO", .globalImplicit), ("_wall", .globalImplicit), ("deque", .globalImplicit), ("dict", .globalImplicit)], false, false, []⟩, 3, [], .ref 713, .none, .none, .str "cpy313.shlex" 1199, none, .ref 719, .none, 0⟩, #[]⟩) ::
  (nat_lit 726, ⟨.type "code", none, .fields #[.str "punctuation_chars" 1225, .str "shlex.punctuation_chars" 1226, .str "/claim/cut.py" 1227, .int 618 0, .int 1 0, .int 0 0, .int 0 0, .int 3 0, .ref 721, .bool true, .int 318 0, .ref 722, .none, .ref 723, .ref 724, .ref 725, .int 1229 0, .int 618 0, .str "/claim/cut.py" 1230], #[]⟩) ::
  (nat_lit 727, ⟨.type "function", none, .func ⟨"punctuation_chars", "shlex.punctuation_chars", defArgsOf p [42, 1], .stmts (defBodyOf p [42, 1]), ⟨.function, [("self", .local)], false, false, []⟩, 3, [], .none, .none, .none, .str "cpy313.shlex" 1199, none, .ref 726, .none, 0⟩, #[]⟩) ::
  (nat_lit 728, ⟨.type "property", none, .fields #[.ref 727, .none, .none, .none, .str "punctuation_chars" 1232, .bool false], #[]⟩) ::
  (nat_lit 756, ⟨.type "code", none, .fields #[.str "get_token" 1257, .str "shlex.get_token" 1258, .str "/claim/cut.py" 1259, .int 645 0, .int 1 0, .int 0 0, .int 0 0, .int 3 0, .ref 751, .bool true, .int 318 0, .ref 752, .none, .ref 753, .ref 754, .ref 755, .int 1266 0, .int 645 0, .str "/claim/cut.py" 1267], #[]⟩) ::
  (nat_lit 757, ⟨.type "function", none, .func ⟨"get_token", "shlex.get_token", defArgsOf p [42, 5], .stmts (defBodyOf p [42, 5]), ⟨.function, [("self", .local), ("tok", .local), ("raw", .local), ("spec", .local), ("newfile", .local), ("newstream", .local), ("print", .globalImplicit), ("repr", .globalImplicit)], false, false, []⟩, 3, [], .none, .none, .none, .str "cpy313.shlex" 1199, none, .ref 756, .none, 0⟩, #[]⟩) ::
  (nat_lit 763, ⟨.type "code", none, .fields #[.str "read_token" 1269, .str "shlex.read_token" 1270, .str "/claim/cut.py" 1271, .int 672 0, .int 1 0, .int 0 0, .int 0 0, .int 3 0, .ref 758, .bool true, .int 318 0, .ref 759, .none, .ref 760, .ref 761, .ref 762, .int 1277 0, .int 672 0, .str "/claim/cut.py" 1278], #[]⟩) ::
  (nat_lit 764, ⟨.type "function", none, .func ⟨"read_token", "shlex.read_token", defArgsOf p [42, 6], .stmts (defBodyOf p [42, 6]), ⟨.function, [("self", .local), ("quoted", .local), ("escapedstate", .local), ("nextchar", .local), ("result", .local), ("print", .globalImplicit), ("ValueError", .globalImplicit), ("repr", .globalImplicit)], false, false, []⟩, 3, [], .none, .none, .none, .str "cpy313.shlex" 1199, none, .ref 763, .none, 0⟩, #[]⟩) ::
  (nat_lit 785, ⟨.type "code", none, .fields #[.str "__iter__" 1297, .str "shlex.__iter__" 1298, .str "/claim/cut.py" 1299, .int 819 0, .int 1 0, .int 0 0, .int 0 0, .int 3 0, .ref 780, .bool true, .int 318 0, .ref 781, .none, .ref 782, .ref 783, .ref 784, .int 1301 0, .int 819 0, .str "/claim/cut.py" 1302], #[]⟩) ::
  (nat_lit 786, ⟨.type "function", none, .func ⟨"__iter__", "shlex.__iter__", defArgsOf p [42, 9], .stmts (defBodyOf p [42, 9]), ⟨.function, [("self", .local)], false, false, []⟩, 3, [], .none, .none, .none, .str "cpy313.shlex" 1199, none, .ref 785, .none, 0⟩, #[]⟩) ::
  (nat_lit 792, ⟨.type "code", none, .fields #[.str "__next__" 1304, .str "shlex.__next__" 1305, .str "/claim/cut.py" 1306, .int 822 0, .int 1 0, .int 0 0, .int 0 0, .int 3 0, .ref 787, .bool true, .int 318 0, .ref 788, .none, .ref 789, .ref 790, .ref 791, .int 1309 0, .int 822 0, .str "/claim/cut.py" 1310], #[]⟩) ::
  (nat_lit 793, ⟨.type "function", none, .func ⟨"__next__", "shlex.__next__", defArgsOf p [42, 10], .stmts (defBodyOf p [42, 10]), ⟨.function, [("self", .local), ("token", .local), ("StopIteration", .globalImplicit)], false, false, []⟩, 3, [], .none, .none, .none, .str "cpy313.shlex" 1199, none, .ref 792, .none, 0⟩, #[]⟩) ::
  (nat_lit 795, ⟨.type "dict", none, .dict #[⟨PyData.keyHash P "__module__", .str "__module__" 1208, .str "cpy313.shlex" 1199⟩, ⟨PyData.keyHash P "__firstlineno__", .str "__firstlineno__" 1212, .int 575 1211⟩, ⟨PyData.keyHash P "__init__", .str "__init__" 1224, .ref 720⟩, ⟨PyData.keyHash P "punctuation_chars", .str "punctuation_chars" 1232, .ref 728⟩, ⟨PyData.keyHash P "push_token", .str "push_token" 1240, .ref 735⟩, ⟨PyData.keyHash P "push_source", .str "push_source" 1249, .ref 743⟩, ⟨PyData.keyHash P "pop_source", .str "pop_source" 1256, .ref 750⟩, ⟨PyData.keyHash P "get_token", .str "get_token" 1268, .ref 757⟩, ⟨PyData.keyHash P "read_token", .str "read_token" 1279, .ref 764⟩, ⟨PyData.keyHash P "sourcehook", .str "sourcehook" 1287, .ref 771⟩, ⟨PyData.keyHash P "error_leader", .str "error_leader" 1296, .ref 779⟩, ⟨PyData.keyHash P "__iter__", .str "__iter__" 1303, .ref 786⟩, ⟨PyData.keyHash P "__next__", .str "__next__" 1311, .ref 793⟩, ⟨PyData.keyHash P "__static_attributes__", .str "__static_attributes__" 1332, .ref 794⟩, ⟨PyData.keyHash P "__dict__", .str "__dict__" 1334, .ref 797⟩, ⟨PyData.keyHash P "__weakref__", .str "__weakref__" 1336, .ref 798⟩, ⟨PyData.keyHash P "__doc__", .str "__doc__" 1337, .none⟩] 4, #[]⟩) ::
  (nat_lit 796, ⟨.type "type", none, .cls ⟨"shlex", [.type "object"], [.ref 796, .type "object"], 795, "shlex", true, [], [], false, none, false⟩, #[none, none, some (.str "shlex" 1201), some (.str "shlex" 1209), some (.builtin "object.__new__"), some (.bool true)]⟩) ::
  (nat_lit 801, ⟨.type "tuple", none, .seq #[.bool false, .bool true] 0, #[]⟩) ::
  (nat_lit 807, ⟨.type "code", none, .fields #[.str "split" 1340, .str "split" 1341, .str "/claim/cut.py" 1342, .int 827 0, .int 3 0, .int 0 0, .int 0 0, .int 3 0, .ref 802, .bool true, .int 318 0, .ref 803, .none, .ref 804, .ref 805, .ref 806, .int 1347 0, .int 827 0, .str "/claim/cut.py" 1348], #[]⟩) ::
  (nat_lit 808, ⟨.type "function", none, .func ⟨"split", "split", defArgsOf p [43], .stmts (defBodyOf p [43]), ⟨.function, [("s", .local), ("comments", .local), ("posix", .local), ("lex", .local), ("ValueError", .globalImplicit), ("shlex", .globalImplicit), ("list", .globalImplicit)], false, false, []⟩, 3, [], .ref 801, .none, .none, .str "cpy313.shlex" 1199, none, .ref 807, .none, 0⟩, #[]⟩) ::
  (nat_lit 814, ⟨.type "code", none, .fields #[.str "join" 1350, .str "join" 1351, .str "/claim/cut.py" 1352, .int 835 0, .int 1 0, .int 0 0, .int 0 0, .int 3 0, .ref 809, .bool true, .int 318 0, .ref 810, .none, .ref 811, .ref 812, .ref 813, .int 1354 0, .int 835 0, .str "/claim/cut.py" 1355], #[]⟩) ::
  (nat_lit 815, ⟨.type "function", none, .func ⟨"join", "join", defArgsOf p [44], .stmts (defBodyOf p [44]), ⟨.function, [("split_command", .local)], false, false, []⟩, 3, [], .none, .none, .none, .str "cpy313.shlex" 1199, none, .ref 814, .none, 0⟩, #[]⟩) ::
  (nat_lit 816, ⟨.type "builtin_function_or_method", none, .fields #[.builtin "re.Pattern.search", .ref 155], #[]⟩) ::
  (nat_lit 822, ⟨.type "code", none, .fields #[.str "quote" 1360, .str "quote" 1361, .str "/claim/cut.py" 1362, .int 839 0, .int 1 0, .int 0 0, .int 0 0, .int 3 0, .ref 817, .bool true, .int 318 0, .ref 818, .none, .ref 819, .ref 820, .ref 821, .int 1364 0, .int 839 0, .str "/claim/cut.py" 1365], #[]⟩) ::
  (nat_lit 823, ⟨.type "function", none, .func ⟨"quote", "quote", defArgsOf p [47], .stmts (defBodyOf p [47]), ⟨.function, [("s", .local), ("_find_unsafe", .globalImplicit)], false, false, []⟩, 3, [], .none, .none, .none, .str "cpy313.shlex" 1199, none, .ref 822, .none, 0⟩, #[]⟩) ::
  (nat_lit 827, ⟨.type "code", none, .fields #[.str "_law_words" 1369, .str "_law_words" 1370, .str "/claim/cut.py" 1371, .int 846 0, .int 1 0, .int 0 0, .int 0 0, .int 3 0, .ref 824, .bool true, .int 318 0, .ref 825, .none, .none, .none, .ref 826, .int 1372 0, .int 846 0, .str "/claim/cut.py" 1373], #[]⟩) ::
  (nat_lit 828, ⟨.type "function", none, .func ⟨"_law_words", "_law_words", defArgsOf p [49], .stmts (defBodyOf p [49]), ⟨.function, [("script", .local), ("numbers", .cell), ("range", .globalImplicit)], false, false, [("fast", .str "script"), ("fast", .str "numbers"), ("fast", .str "place"), ("fast", .str "k")]⟩, 3, [], .none, .none, .none, .str "law_in0127_01" 1367, none, .ref 827, .none, 0⟩, #[]⟩) ::
  (nat_lit 832, ⟨.type "code", none, .fields #[.str "_law_other" 1375, .str "_law_other" 1376, .str "/claim/cut.py" 1377, .int 849 0, .int 5 0, .int 0 0, .int 0 0, .int 3 0, .ref 829, .bool true, .int 318 0, .ref 830, .none, .none, .none, .ref 831, .int 1378 0, .int 849 0, .str "/claim/cut.py" 1379], #[]⟩) ::
  (nat_lit 833, ⟨.type "function", none, .func ⟨"_law_other", "_law_other", defArgsOf p [50], .stmts (defBodyOf p [50]), ⟨.function, [("words", .local), ("word", .local), ("octet", .local), ("bits", .local), ("turned", .local), ("other", .local), ("k", .local), ("range", .globalImplicit)], false, false, [("fast", .str "words"), ("fast", .str "word"), ("fast", .str "octet"), ("fast", .str "bits"), ("fast", .str "turned"), ("fast", .str "one"), ("fast", .str "other"), ("fast", .str "k")]⟩, 3, [], .none, .none, .none, .str "law_in0127_01" 1367, none, .ref 832, .none, 0⟩, #[]⟩) ::
  (nat_lit 837, ⟨.type "code", none, .fields #[.str "_law_line" 1381, .str "_law_line" 1382, .str "/claim/cut.py" 1383, .int 856 0, .int 1 0, .int 0 0, .int 0 0, .int 3 0, .ref 834, .bool true, .int 318 0, .ref 835, .none, .none, .none, .ref 836, .int 1384 0, .int 856 0, .str "/claim/cut.py" 1385], #[]⟩) ::
  (nat_lit 838, ⟨.type "function", none, .func ⟨"_law_line", "_law_line", defArgsOf p [51], .stmts (defBodyOf p [51]), ⟨.function, [("words", .local), ("join_shlex", .globalImplicit)], false, false, [("fast", .str "words"), ("fast", .str "word"), ("fast", .str "octet")]⟩, 3, [], .none, .none, .none, .str "law_in0127_01" 1367, none, .ref 837, .none, 0⟩, #[]⟩) ::
  (nat_lit 844, ⟨.type "code", none, .fields #[.str "_law_fits" 1387, .str "_law_fits" 1388, .str "/claim/cut.py" 1389, .int 858 0, .int 2 0, .int 0 0, .int 0 0, .int 3 0, .ref 839, .bool true, .int 318 0, .ref 840, .none, .ref 841, .ref 842, .ref 843, .int 1397 0, .int 858 0, .str "/claim/cut.py" 1398], #[]⟩) ::
  (nat_lit 845, ⟨.type "function", none, .func ⟨"_law_fits", "_law_fits", defArgsOf p [52], .stmts (defBodyOf p [52]), ⟨.function, [("report", .local), ("whole", .local), ("place", .local), ("parts", .local), ("k", .local), ("part", .local), ("count", .local), ("range", .globalImplicit), ("len", .globalImplicit), ("int", .globalImplicit)], false, false, []⟩, 3, [], .none, .none, .none, .str "law_in0127_01" 1367, none, .ref 844, .none, 0⟩, #[]⟩) ::
  (nat_lit 849, ⟨.type "code", none, .fields #[.str "_law_unlike" 1400, .str "_law_unlike" 1401, .str "/claim/cut.py" 1402, .int 870 0, .int 3 0, .int 0 0, .int 0 0, .int 3 0, .ref 846, .bool true, .int 318 0, .ref 847, .none, .none, .none, .ref 848, .int 1403 0, .int 870 0, .str "/claim/cut.py" 1404], #[]⟩) ::
  (nat_lit 850, ⟨.type "function", none, .func ⟨"_law_unlike", "_law_unlike", defArgsOf p [53], .stmts (defBodyOf p [53]), ⟨.function, [("first", .local), ("second", .local), ("line", .local), ("signs", .local), ("shown", .local), ("place", .local), ("mark", .local), ("word", .local), ("six", .cell), ("bit", .local), ("len", .globalImplicit), ("int", .globalImplicit), ("split", .globalImplicit), ("range", .globalImplicit)], false, false, [("fast", .str "first"), ("fast", .str "second"), ("fast", .str "line"), ("fast", .str "signs"), ("fast", .str "shown"), ("fast", .str "place"), ("fast", .str "mark"), ("fast", .str "word"), ("fast", .str "six"), ("fast", .str "k"), ("fast", .str "bit")]⟩, 3, [], .none, .none, .none, .str "law_in0127_01" 1367, none, .ref 849, .none, 0⟩, #[]⟩) ::
  (nat_lit 854, ⟨.type "code", none, .fields #[.str "law" 1406, .str "law" 1407, .str "/claim/cut.py" 1408, .int 883 0, .int 1 0, .int 0 0, .int 0 0, .int 3 0, .ref 851, .bool true, .int 318 0, .ref 852, .none, .none, .none, .ref 853, .int 1409 0, .int 883 0, .str "/claim/cut.py" 1410], #[]⟩) ::
  (nat_lit 855, ⟨.type "function", none, .func ⟨"law", "law", defArgsOf p [54], .stmts (defBodyOf p [54]), ⟨.function, [("script", .local), ("words", .local), ("x", .local), ("bits", .cell), ("other", .local), ("lines", .cell), ("reports", .cell), ("_law_words", .globalImplicit), ("sum", .globalImplicit), ("_law_other", .globalImplicit), ("_law_line", .globalImplicit), ("_common_shorten_repr", .globalImplicit), ("range", .globalImplicit), ("_law_unlike", .globalImplicit)], false, false, [("fast", .str "script"), ("fast", .str "words"), ("fast", .str "x"), ("fast", .str "bits"), ("fast", .str "other"), ("fast", .str "lines"), ("fast", .str "reports"), ("fast", .str "k")]⟩, 3, [], .none, .none, .none, .str "law_in0127_01" 1367, none, .ref 854, .none, 0⟩, #[]⟩) :: []
theorem K_of (P : Params) : K P = Kof PySem.Challenge.pw_in0127_01 P := rfl
theorem main : ∀ w : World, (((Fast.tw10274390034422433532 Fast.tw14364793385576792824 (opening pq) w 11128 (Fast.tw1435165496053646825 (opening pq)).1 (Fast.tw1435165496053646825 (opening pq)).2).bind (Fast.tw14289696077712309145 pq)).bind
   (topT (fun n₀ ann x => runT (Fast.tw6613529449190102663 n₀ ann) (Fast.tw10156331382660048174 (Fast.tw11892475500146522536 Fast.tw14364793385576792824) pq w) 11128 x (topStub pq)) (fun a b => staticsOk (Fast.tw5923862056798008813 pq.main.body) a b) (fun _ b => namesBound pq b))).map
      (fun s => (Fast.tw4187177175401517315 (view pq keep) loose (Fast.tw5923862056798008813 pq.main.body) (fun s => xlAt (view pq keep) lv s && recOk PySem.Challenge.rw_in0127_01.row.toRowW.records s) true s, addrsA.map s.heap.get?)) = some (openGood (view pq keep) loose, (Kof pq w.params ++ tabs).map fun p => some p.2) := by
  intro w
  kernel_rfl
end
section
open PySem PySem.W PyProof.Rows
set_option maxRecDepth 100000
set_option maxHeartbeats 8000000
theorem left : LeftO PySem.Challenge.rw_in0127_01.row.prog q loose (fun s => xlAt q lv s && recOk PySem.Challenge.rw_in0127_01.row.toRowW.records s) (kHook KA addrsA addrsA_eq).obs (kHook KA addrsA addrsA_eq).val 11128 := by
  refine leftO_of fun w => ?_
  have h := main w
  rw [← PySem.W.Fast.te10274390034422433532, ← PySem.W.Fast.te14364793385576792824, ← PySem.W.Fast.te1435165496053646825, ← PySem.W.Fast.te14289696077712309145, ← PySem.W.Fast.te6613529449190102663, ← PySem.W.Fast.te10156331382660048174, ← PySem.W.Fast.te11892475500146522536, ← PySem.W.Fast.te5923862056798008813, ← PySem.W.Fast.te4187177175401517315] at h
  exact h
noncomputable def lawScope : Scope := ⟨.function, [("script", .local), ("words", .local), ("x", .local), ("bits", .cell), ("other", .local), ("lines", .cell), ("reports", .cell), ("_law_words", .globalImplicit), ("sum", .globalImplicit), ("_law_other", .globalImplicit), ("_law_line", .globalImplicit), ("_common_shorten_repr", .globalImplicit), ("range", .globalImplicit), ("_law_unlike", .globalImplicit)], false, false, [("fast", .str "script"), ("fast", .str "words"), ("fast", .str "x"), ("fast", .str "bits"), ("fast", .str "other"), ("fast", .str "lines"), ("fast", .str "reports"), ("fast", .str "k")]⟩
noncomputable def lawRec : DefRec := { name := "law", params := defArgs [54], body := defBody [54], scope := lawScope, pos := ⟨883, 0, 892, 140⟩ }
theorem hd (walk : WalkO q loose (XL q lv) (kHook KA addrsA addrsA_eq).says PySem.Challenge.rw_in0127_01.row.toRowW lawRec [] fun f vs => PySem.call f vs) : PySem.Challenge.rw_in0127_01.Holds := by
  refine lawHead fun k1 => ?_
  refine PySem.W.holds_open (q := q) (loose := loose) (Xt := fun s => xlAt q lv s && recOk PySem.Challenge.rw_in0127_01.row.toRowW.records s) (XP := XL q lv) (Yf := (kHook KA addrsA addrsA_eq).obs) (Ya := (kHook KA addrsA addrsA_eq).val) (YP := (kHook KA addrsA addrsA_eq).says) (N := 11128) left (kHook KA addrsA addrsA_eq).of (kHook KA addrsA addrsA_eq).keeps (fun s e => xl_of s (Bool.and_eq_true_iff.mp e).1) XL.keeps (by kernel_rfl) (by kernel_rfl) (by kernel_rfl) (fun s e => recFacts_of (Bool.and_eq_true_iff.mp e).2) (by kernel_rfl) k1 (by decide +kernel) ⟨rfl, rfl, rfl, rfl, rfl, by decide +kernel⟩ ?hw walk
  w_witness2
end
section
open PySem PySem.W PyProof.Rows PySem.Spec PySem.Calls
set_option maxRecDepth 100000
set_option maxHeartbeats 8000000
noncomputable abbrev P0 : Program := PySem.Challenge.rw_in0127_01.row.prog
/-- the law's text with nothing in it: what the top says of its tables of generator expressions is not asked of it -/
noncomputable def q0 : Program := { q with main := { q.main with body := [] } }
theorem ns_hide {h : Heap} {a : Addr} {m : PySem.Str → Option PySem.Value} {hid : List Addr} (x : h.Ns a m) (n : a ∉ hid) : (hideAll h hid).Ns a m := by
  obtain ⟨o, es, ep, e, r⟩ := x
  exact ⟨o, es, ep, hideAll_get _ e n, r⟩
theorem top_hide {lo : List PySem.Str} {mean : ExcName → Option PySem.Value} {mg mb : PySem.Str → Option PySem.Value} {h : Heap} {hid : List Addr} (T : Top q lo mean mg mb h) (hs : importsNone q = true) (n1 : mainGlobals ∉ hid) (n2 : builtinsNs ∉ hid) (n3 : cStatics ∉ hid) (n4 : sysModules ∉ hid)
    (hb : ∀ a ∈ hid, ∀ o, h.get? a = some o → o.cls ≠ .type "module") : Top q0 (lo ++ (recsOf q).map (·.name) ++ (litsOf q).map (·.1) ++ (clssOf q lo).map (·.name)) mean mg mb (hideAll h hid) where
  g := ns_hide T.g n1
  b := ns_hide T.b n2
  nolimit := by obtain ⟨mc, a, b⟩ := T.nolimit; exact ⟨mc, ns_hide a n3, b⟩
  nodigits := by obtain ⟨mc, a, b⟩ := T.nodigits; exact ⟨mc, ns_hide a n3, b⟩
  fn := fun d hd => nomatch (show d ∈ [] from hd)
  own := fun d hd => nomatch (show d ∈ [] from hd)
  const := fun x d hd => nomatch (show none = some d from hd)
  free := fun x h1 h2 _ _ _ => by
    simp only [List.mem_append, not_or] at h2
    exact T.free x h1 h2.1.1.1 h2.1.1.2 h2.1.2 h2.2
  builtins := T.builtins
  tab := fun d hd => nomatch (show d ∈ [] from hd)
  bmain := by
    obtain ⟨bm, ob, e1, e2, e3, e4, e5, e6⟩ := T.bmain
    exact ⟨bm, ob, e1, e2, hideAll_get _ e3 (fun hm => hb bm hm ob e3 e4), e4, e5, e6⟩
  seer := fun _ => by
    have z := T.seer hs
    exact ⟨by obtain ⟨mc, a, b⟩ := z.statics; exact ⟨mc, ns_hide a n3, b⟩, by obtain ⟨mc, a, b⟩ := z.mods; exact ⟨mc, ns_hide a n4, b⟩, by obtain ⟨mc, a, b⟩ := z.imp; exact ⟨mc, ns_hide a n2, b⟩,
      by obtain ⟨g, bm, ob, a, b, c, d, e⟩ := z.main; exact ⟨g, bm, ob, ns_hide a n1, b, hideAll_get _ c (fun hm => hb bm hm ob c d), d, e⟩⟩
abbrev LM := PySem.Str → Option PySem.Value
abbrev Led := List (Addr × Obj)
abbrev PQ := PySem.Value → Shared → Prop
/-- where a def of the text's is called: a caller's frame, its ledger, room -/
inductive Cx (w : World) (base h₀ : Heap) (L : Addr) (m : LM) (news : Led) (h : Heap) (nd nu : Nat) : Around → Prop
  | mk (dp un : Nat) (gd : Option (List Code)) (cn : PySem.Str) (cs : Scope) (a : Addr) (ccd : PySem.Value) (cl : List (PySem.Str × Addr)) (outer : List Env) (A₀ : Around)
      (lo : List PySem.Str) (mean : ExcName → Option PySem.Value) (mg mb : LM)
      (B : Below A₀ base outer h₀) (F : Fr h₀ L h m) (X : (K w.params).In h₀) (N : News h₀ L h news) (T : Top q0 lo mean mg mb h₀) (hk : cs.kind = .function)
      (hd : dp + nd < recursionLimit) (hu : un + nu < cLine) : Cx w base h₀ L m news h nd nu (ktrTop dp un gd cn cs L a ccd cl outer)
/-- what a def hands back: the caller's frame as it was, a ledger, a value -/
abbrev Back (h₀ : Heap) (L : Addr) (m : LM) (news : Led) (s : Shared) (Q : PQ) (v : PySem.Value) : Prop :=
  ∀ h' tk', Fr h₀ L h' m → News h₀ L h' news → Q v { s with heap := h', toks := tk' }
section
variable {w : World} {A : Around} {E : PQ} {s : Shared} {Q : PQ}
theorem type_bytes {b : Array UInt8} {t : Tok} (h : Q (.type "bytes") s) : wpAny (model P0 w) A (call (.type "type") [.bytes b t]) Q E s :=
  call_type_of (Tx := "bytes") rfl (by decide +kernel) h
end
section
variable {w : World} {A A₀ : Around} {base h₀ : Heap} {outer : List Env} {env : Env} {L : Addr} {m mg mb : LM} {news : Led} {s : Shared} {lo : List PySem.Str} {mean : ExcName → Option PySem.Value}
  {R : Result → Shared → Prop} {name qual : PySem.Str} {params : Arguments} {body : List Stmt} {scope : Scope} {dV kV doc pm cdv ct oc : PySem.Value} {an od : Option Addr} {osl : Array (Option PySem.Value)} {f : Addr} {args : Args}
/-- a def is entered with a part of the caller's ledger to turn (own); the rest of it is kept as it lies -/
theorem enterP (binds : List (PySem.Str × PySem.Value)) (own rest : Led) (B : Below A₀ base outer h₀) (F : Fr h₀ L s.heap m) (X₀ : (K w.params).In h₀) (N : News h₀ L s.heap news) (T : Top q0 lo mean mg mb h₀)
    (hA : A.frames = some (env :: outer)) (hf : env.frame = some L) (hke : env.scope.kind = .function)
    (hown : ∀ p ∈ own, p ∈ news) (hrest : ∀ p ∈ rest, p ∈ news) (hoff : ∀ p ∈ rest, p.1 ∉ own.map (·.1))
    (ho : (K w.params).lookup f = some ⟨oc, od, .func (fnOf name qual params body scope dV kV doc pm an cdv ct), osl⟩) (hcd : codeIn (K w.params) cdv qual = true) (hroom : A.depth < recursionLimit)
    (hbind : BindsTo s (fnOf name qual params body scope dV kV doc pm an cdv ct) args binds) (hloc : ∀ y ∈ binds, scope.names.lookup y.1 = some .local)
    (hco : scope.isCoroutine = false) (hgen : scope.isGenerator = false) (hk : scope.kind = .function)
    (hcell : ∀ x ∈ scope.names, x.2 ≠ .cell)
    (h : ∀ g L' h₁, Fr h₀ L g m → Fr g L' h₁ (fun y => binds.reverse.lookup y) → News g L' h₁ own → Below A base (env :: outer) g → (K w.params).In g → Top q0 lo mean mg mb g → (∀ p ∈ rest, g.get? p.1 = some p.2) →
      wpAny (model P0 w) (A.deeper (envOf qual scope L' f cdv)) (execs body (envOf qual scope L' f cdv))
        (fun fl s' => LeaveK h₀ L m g (fun r s'' => News h₀ L s''.heap rest → R r s'') (match fl with | .ret v => v | _ => .none) s')
        (fun e s' => wpAny (model P0 w) (A.deeper (envOf qual scope L' f cdv)) (leaving (envOf qual scope L' f cdv) e) (fun _ s'' => R (.error e) s'') (fun e' s'' => R (.error e') s'') s')
        { s with heap := h₁, toks := s.toks + binds.length }) :
    codeAny (model P0 w) A (.call (.ref f) args) R s := by
  have No : News h₀ L s.heap own := fun p hp => N p (hown p hp)
  obtain ⟨FG, BG, st, lv⟩ := groundX (R := fun r s'' => News h₀ L s''.heap rest → R r s'') B F No hA hf hke
  have hr : ∀ p ∈ rest, (hideAll s.heap (own.map (·.1))).get? p.1 = some p.2 := fun p hp => hideAll_get _ (N p (hrest p hp)).1 (hoff p hp)
  have XH := X₀.keeps F.keep
  refine codeAny_call_def (fd := fnOf name qual params body scope dV kV doc pm an cdv ct) (body := body) (binds := binds) hroom (XH _ _ ho) rfl (T.nolimit.keeps F.keep) (codeRec_of XH hcd) rfl hbind hcell hloc (fun h₁ hns hk₁ => ?_) hco hgen hk
  refine wpAny_mono (h _ s.heap.objs.size h₁ FG ⟨hns, fun b o e => hk₁ b o (of_hideAll _ e), Nat.le_of_eq (hideAll_size _ _)⟩
    (fun p hp => ⟨hk₁ _ _ (No p hp).1, Nat.ne_of_lt (Heap.lt_size (No p hp).1), hideAll_none _ (List.mem_map_of_mem hp)⟩) BG (X₀.keeps st) (T.keeps st) hr) (fun fl s' hl => ?_) fun _ _ y => y
  refine lv _ _ hl ?_
  obtain ⟨L', m', news', F', N', k⟩ := hl
  exact fun p hp => ⟨F'.keep _ _ (hr p hp), (N p (hrest p hp)).2⟩
end
end
section
open PySem PySem.W PyProof.Rows PySem.Spec PySem.Calls
set_option maxRecDepth 100000
set_option maxHeartbeats 0
theorem fill : (∀ P : Params, K P = K P) ∧ PySem.Challenge.rw_in0127_01.name = PySem.Challenge.rw_in0127_01.name := by
  k_fill
  exact ⟨fun _ => rfl, rfl⟩
section
variable {w : World} {A : Around} {base h₀ : Heap} {L : Addr} {m : LM} {news : Led} {s : Shared} {Q E : PQ}
theorem rows1 : True := by
  k_with_none
  k_with "call type:type" => (((with_reducible show wpAny _ _ (call (Value.type "type") [Value.bytes _ _]) _ _ _); refine type_bytes ?_))
  exact trivial
theorem buffer_spec {b : Array UInt8} {tk : Tok} (c : Cx w base h₀ L m news s.heap 3 20 A) (hret : Back h₀ L m news s Q (.bytes b tk)) :
    wpAny (model P0 w) A (call (.ref 127) [.bytes b tk]) Q E s := by
  rcases c with ⟨dp, un, gd, cn, cs, a, ccd, cl, outer, A₀, lo, mean, mg, mb, B, F, X, N, T, hk, hd, hu⟩
  refine wpAny_call ?_
  k_dflt (refine' enterP [("data", .bytes b tk)] [] news ?k1 ?k2 ?k3 ?k4 ?k5 ?kA ?kF ?kK ?h1 ?h2 ?h3 ?k6 ?k7 ?k8 ?k9 ?kB ?c2 ?c3 ?c4 ?c5 ?kG)
  k_dflt ((case kA => exact rfl); (case kF => exact rfl); (case kK => first | exact rfl | assumption); (case k1 => k_asm); (case k2 => k_asm); (case k3 => k_asm); (case k4 => k_asm); (case k5 => k_asm); (case k6 => k_is); (case k7 => k_is); (case k8 => ktr_room); (case k9 => exact kp_binds (by k_in) (fun _ => by kernel_rfl)); (case kB => exact locs rfl); (case c2 => exact rfl); (case c3 => exact rfl); (case c4 => exact rfl); (case c5 => decide); (case h1 => exact fun _ h => nomatch h); (case h2 => exact fun _ h => h); (case h3 => exact fun _ _ h => nomatch h); (intro g' L' h' FG' F' N' B' X' T' R'); (try dsimp only [List.reverse_cons, List.reverse_nil, List.nil_append, List.cons_append] at F'); (try dsimp only); (try k_fold))
  k_steps
  exact hret _ _ (by k_asm) (by k_asm)
theorem kind_spec {nm x : PySem.Str} {tn tk : Tok} (c : Cx w base h₀ L m news s.heap 3 20 A) (hret : ∀ t, Back h₀ L m news s Q (.str (Str.ofString "") t)) :
    wpAny (model P0 w) A (call (.ref 58) [.str nm tn, .str x tk]) Q E s := by
  rcases c with ⟨dp, un, gd, cn, cs, a, ccd, cl, outer, A₀, lo, mean, mg, mb, B, F, X, N, T, hk, hd, hu⟩
  refine wpAny_call ?_
  k_dflt (refine' enterP [("name", .str nm tn), ("x", .str x tk)] [] news ?k1 ?k2 ?k3 ?k4 ?k5 ?kA ?kF ?kK ?h1 ?h2 ?h3 ?k6 ?k7 ?k8 ?k9 ?kB ?c2 ?c3 ?c4 ?c5 ?kG)
  k_dflt ((case kA => exact rfl); (case kF => exact rfl); (case kK => first | exact rfl | assumption); (case k1 => k_asm); (case k2 => k_asm); (case k3 => k_asm); (case k4 => k_asm); (case k5 => k_asm); (case k6 => k_is); (case k7 => k_is); (case k8 => ktr_room); (case k9 => exact kp_binds (by k_in) (fun _ => by kernel_rfl)); (case kB => exact locs rfl); (case c2 => exact rfl); (case c3 => exact rfl); (case c4 => exact rfl); (case c5 => decide); (case h1 => exact fun _ h => nomatch h); (case h2 => exact fun _ h => h); (case h3 => exact fun _ _ h => nomatch h); (intro g' L' h' FG' F' N' B' X' T' R'); (try dsimp only [List.reverse_cons, List.reverse_nil, List.nil_append, List.cons_append] at F'); (try dsimp only); (try k_fold))
  k_steps
  exact hret _ _ _ (by k_asm) (by k_asm)
theorem rows2 : True := by
  k_with_none
  k_with "call type:type" => (((with_reducible show wpAny _ _ (call (Value.type "type") [Value.bytes _ _]) _ _ _); refine type_bytes ?_))
  k_with "call ref" => (((with_reducible show wpAny _ _ (call (Value.ref 58) _ _) _ _ _); k_dflt (refine' kind_spec (Cx.mk _ _ _ _ _ _ _ _ _ _ _ _ _ _ ?b ?f ?x ?n ?t ?k ?d ?u) ?_; ((case b => k_asm); (case f => k_asm); (case x => k_asm); (case n => k_asm); (case t => k_asm); (case k => first | exact rfl | assumption); (case d => ktr_room); (case u => ktr_units)); (intro _ _ _ _ _))))
  exact trivial
theorem fspath_spec {nm x : PySem.Str} {tn tk : Tok} (c : Cx w base h₀ L m news s.heap 5 40 A) (hret : Back h₀ L m news s Q (.str x tk)) :
    wpAny (model P0 w) A (call (.ref 65) [.str nm tn, .str x tk]) Q E s := by
  rcases c with ⟨dp, un, gd, cn, cs, a, ccd, cl, outer, A₀, lo, mean, mg, mb, B, F, X, N, T, hk, hd, hu⟩
  refine wpAny_call ?_
  k_dflt (refine' enterP [("name", .str nm tn), ("x", .str x tk)] [] news ?k1 ?k2 ?k3 ?k4 ?k5 ?kA ?kF ?kK ?h1 ?h2 ?h3 ?k6 ?k7 ?k8 ?k9 ?kB ?c2 ?c3 ?c4 ?c5 ?kG)
  k_dflt ((case kA => exact rfl); (case kF => exact rfl); (case kK => first | exact rfl | assumption); (case k1 => k_asm); (case k2 => k_asm); (case k3 => k_asm); (case k4 => k_asm); (case k5 => k_asm); (case k6 => k_is); (case k7 => k_is); (case k8 => ktr_room); (case k9 => exact kp_binds (by k_in) (fun _ => by kernel_rfl)); (case kB => exact locs rfl); (case c2 => exact rfl); (case c3 => exact rfl); (case c4 => exact rfl); (case c5 => decide); (case h1 => exact fun _ h => nomatch h); (case h2 => exact fun _ h => h); (case h3 => exact fun _ _ h => nomatch h); (intro g' L' h' FG' F' N' B' X' T' R'); (try dsimp only [List.reverse_cons, List.reverse_nil, List.nil_append, List.cons_append] at F'); (try dsimp only); (try k_fold))
  k_steps
  exact hret _ _ (by k_asm) (by k_asm)
theorem index_spec {nm : PySem.Str} {t tn : Tok} (c : Cx w base h₀ L m news s.heap 4 30 A) (hret : ∀ t', Back h₀ L m news s Q (.int 1 t')) :
    wpAny (model P0 w) A (call (.ref 169) [.int 1 t, .str nm tn]) Q E s := by
  rcases c with ⟨dp, un, gd, cn, cs, a, ccd, cl, outer, A₀, lo, mean, mg, mb, B, F, X, N, T, hk, hd, hu⟩
  refine wpAny_call ?_
  k_dflt (refine' enterP [("n", .int 1 t), ("what", .str nm tn)] [] news ?k1 ?k2 ?k3 ?k4 ?k5 ?kA ?kF ?kK ?h1 ?h2 ?h3 ?k6 ?k7 ?k8 ?k9 ?kB ?c2 ?c3 ?c4 ?c5 ?kG)
  k_dflt ((case kA => exact rfl); (case kF => exact rfl); (case kK => first | exact rfl | assumption); (case k1 => k_asm); (case k2 => k_asm); (case k3 => k_asm); (case k4 => k_asm); (case k5 => k_asm); (case k6 => k_is); (case k7 => k_is); (case k8 => ktr_room); (case k9 => exact kp_binds (by k_in) (fun _ => by kernel_rfl)); (case kB => exact locs rfl); (case c2 => exact rfl); (case c3 => exact rfl); (case c4 => exact rfl); (case c5 => decide); (case h1 => exact fun _ h => nomatch h); (case h2 => exact fun _ h => h); (case h3 => exact fun _ _ h => nomatch h); (intro g' L' h' FG' F' N' B' X' T' R'); (try dsimp only [List.reverse_cons, List.reverse_nil, List.nil_append, List.cons_append] at F'); (try dsimp only); (try k_fold))
  k_steps
  exact hret _ _ _ (by k_asm) (by k_asm)
theorem truth_spec  (c : Cx w base h₀ L m news s.heap 4 30 A) (hret : Back h₀ L m news s Q (.bool false)) :
    wpAny (model P0 w) A (call (.ref 134) [.bool false]) Q E s := by
  rcases c with ⟨dp, un, gd, cn, cs, a, ccd, cl, outer, A₀, lo, mean, mg, mb, B, F, X, N, T, hk, hd, hu⟩
  refine wpAny_call ?_
  k_dflt (refine' enterP [("x", .bool false)] [] news ?k1 ?k2 ?k3 ?k4 ?k5 ?kA ?kF ?kK ?h1 ?h2 ?h3 ?k6 ?k7 ?k8 ?k9 ?kB ?c2 ?c3 ?c4 ?c5 ?kG)
  k_dflt ((case kA => exact rfl); (case kF => exact rfl); (case kK => first | exact rfl | assumption); (case k1 => k_asm); (case k2 => k_asm); (case k3 => k_asm); (case k4 => k_asm); (case k5 => k_asm); (case k6 => k_is); (case k7 => k_is); (case k8 => ktr_room); (case k9 => exact kp_binds (by k_in) (fun _ => by kernel_rfl)); (case kB => exact locs rfl); (case c2 => exact rfl); (case c3 => exact rfl); (case c4 => exact rfl); (case c5 => decide); (case h1 => exact fun _ h => nomatch h); (case h2 => exact fun _ h => h); (case h3 => exact fun _ _ h => nomatch h); (intro g' L' h' FG' F' N' B' X' T' R'); (try dsimp only [List.reverse_cons, List.reverse_nil, List.nil_append, List.cons_append] at F'); (try dsimp only); (try k_fold))
  k_steps
  exact hret _ _ (by k_asm) (by k_asm)
end
end
section
open PySem PySem.W PyProof.Rows PySem.Spec PySem.Calls
set_option maxRecDepth 100000
set_option maxHeartbeats 0
theorem fill2 : (∀ P : Params, K P = K P) ∧ PySem.Challenge.rw_in0127_01.name = PySem.Challenge.rw_in0127_01.name := by
  k_fill
  exact ⟨fun _ => rfl, rfl⟩
section
variable {w : World} {A : Around} {base h₀ : Heap} {L : Addr} {m : LM} {news : Led} {s : Shared} {Q E : PQ}
/-- the sixty-four signs, as numbers -/
def sigs : List Int := [65, 66, 67, 68, 69, 70, 71, 72, 73, 74, 75, 76, 77, 78, 79, 80, 81, 82, 83, 84, 85, 86, 87, 88, 89, 90, 97, 98, 99, 100, 101, 102, 103, 104, 105, 106, 107, 108, 109, 110, 111, 112, 113, 114, 115, 116, 117, 118, 119, 120, 121, 122, 48, 49, 50, 51, 52, 53, 54, 55, 56, 57, 43, 47]
def sgn (i : Int) : Int := sigs.getD i.toNat 0
theorem sgn_in (i : Int) : 0 ≤ sgn i ∧ sgn i < 256 := KBw.getD_in (by decide)
theorem b64_item {value slice : PySem.Expr} {t ui : Tok} {x : Int}
    (h : ∀ t' k, 0 ≤ sgn (x % 64) → sgn (x % 64) < 256 → Q (.int (sgn (x % 64)) t') { s with toks := k })
    (hs : subscripted slice false (.bytes #[65, 66, 67, 68, 69, 70, 71, 72, 73, 74, 75, 76, 77, 78, 79, 80, 81, 82, 83, 84, 85, 86, 87, 88, 89, 90, 97, 98, 99, 100, 101, 102, 103, 104, 105, 106, 107, 108, 109, 110, 111, 112, 113, 114, 115, 116, 117, 118, 119, 120, 121, 122, 48, 49, 50, 51, 52, 53, 54, 55, 56, 57, 43, 47] t) (.int (Builtin.bitAnd x 63) ui) = operate [.bytes #[65, 66, 67, 68, 69, 70, 71, 72, 73, 74, 75, 76, 77, 78, 79, 80, 81, 82, 83, 84, 85, 86, 87, 88, 89, 90, 97, 98, 99, 100, 101, 102, 103, 104, 105, 106, 107, 108, 109, 110, 111, 112, 113, 114, 115, 116, 117, 118, 119, 120, 121, 122, 48, 49, 50, 51, 52, 53, 54, 55, 56, 57, 43, 47] t, .int (Builtin.bitAnd x 63) ui] (getItem (.bytes #[65, 66, 67, 68, 69, 70, 71, 72, 73, 74, 75, 76, 77, 78, 79, 80, 81, 82, 83, 84, 85, 86, 87, 88, 89, 90, 97, 98, 99, 100, 101, 102, 103, 104, 105, 106, 107, 108, 109, 110, 111, 112, 113, 114, 115, 116, 117, 118, 119, 120, 121, 122, 48, 49, 50, 51, 52, 53, 54, 55, 56, 57, 43, 47] t) (.int (Builtin.bitAnd x 63) ui)) := by with_unfolding_all rfl)
    (ht : ∀ r, letTemporaryGo value (.bytes #[65, 66, 67, 68, 69, 70, 71, 72, 73, 74, 75, 76, 77, 78, 79, 80, 81, 82, 83, 84, 85, 86, 87, 88, 89, 90, 97, 98, 99, 100, 101, 102, 103, 104, 105, 106, 107, 108, 109, 110, 111, 112, 113, 114, 115, 116, 117, 118, 119, 120, 121, 122, 48, 49, 50, 51, 52, 53, 54, 55, 56, 57, 43, 47] t) r = pure () := by intro _; with_unfolding_all rfl) :
    wpAny (model P0 w) A (subscriptTail value slice (.bytes #[65, 66, 67, 68, 69, 70, 71, 72, 73, 74, 75, 76, 77, 78, 79, 80, 81, 82, 83, 84, 85, 86, 87, 88, 89, 90, 97, 98, 99, 100, 101, 102, 103, 104, 105, 106, 107, 108, 109, 110, 111, 112, 113, 114, 115, 116, 117, 118, 119, 120, 121, 122, 48, 49, 50, 51, 52, 53, 54, 55, 56, 57, 43, 47] t) (.int (Builtin.bitAnd x 63) ui)) Q E s := by
  refine KBw.item_K (ks := sigs) (by kernel_rfl) (by decide) ?_ ?_ (fun t' k h0 h1 => ?_) hs ht
  · rw [bitAnd_m6]; omega
  · rw [bitAnd_m6]; show x % 64 < 64; omega
  · rw [bitAnd_m6] at h0 h1 ⊢; exact h t' k h0 h1
theorem and_byte {x b : Int} (hx : 0 ≤ x) (h0 : 0 ≤ b) (h1 : b < 256) : Builtin.bitAnd (x * 256) b = 0 := by
  rw [bitAnd_pp (by omega) h0]
  have e : (x * 256).toNat = x.toNat * 2 ^ 8 := by omega
  rw [e]
  have hb : b.toNat < 2 ^ 8 := by omega
  have z : x.toNat * 2 ^ 8 &&& b.toNat = 0 := by
    apply Nat.eq_of_testBit_eq
    intro i
    rw [Nat.testBit_and, Nat.zero_testBit, Nat.testBit_mul_two_pow]
    by_cases q : 8 ≤ i
    · rw [Nat.testBit_lt_two_pow (Nat.lt_of_lt_of_le hb (Nat.pow_le_pow_right (by decide) q))]; simp
    · simp [q]
  rw [z]; rfl
theorem lc_shl {v : Int} {t u : Tok} (h0 : 0 ≤ v) (h1 : v < 65536) (h : ∀ t' k, Q (.int (v * 256) t') { s with toks := k }) : wpAny (model P0 w) A (binaryOp .LShift (.int v t) (.int 8 u)) Q E s := by
  refine lshift_int_small (by decide) (by decide) (by omega) ?_
  exact h _ _
theorem lc_or {x b : Int} {t u : Tok} (hx : 0 ≤ x) (h0 : 0 ≤ b) (h1 : b < 256) (h : ∀ t' k, Q (.int (x * 256 + b) t') { s with toks := k }) : wpAny (model P0 w) A (binaryOp .BitOr (.int (x * 256) t) (.int b u)) Q E s := by
  refine or_int ?_
  rw [bitOr_and, and_byte hx h0 h1, Int.sub_zero]
  exact h _ _
theorem lc_and {x : Int} {t u : Tok} (h : ∀ t' k, Q (.int (x % 65536) t') { s with toks := k }) : wpAny (model P0 w) A (binaryOp .BitAnd (.int x t) (.int 65535 u)) Q E s := by
  refine and_int ?_
  rw [bitAnd_m16]
  exact h _ _
theorem all_sgn (l : List Int) : ∀ n ∈ l.map sgn, 0 ≤ n ∧ n < 256 := fun n h => by
  obtain ⟨x, _, rfl⟩ := List.mem_map.mp h
  exact sgn_in x
theorem bytes_made {l : Addr} {xs : Array PySem.Value} {n : Nat} (is : List Int) (F : Fr h₀ L s.heap m) (N : News h₀ L s.heap news) (hm : (l, PySem.W.listOf xs n) ∈ news) (ha : IntsAre xs.toList (is.map sgn)) (hz : xs.size ≤ sizeLine) (hh : A.handled = none)
    (h : ∀ h' t k, Fr h₀ L h' m → News h₀ L h' news → Q (.bytes ((is.map sgn).map fun n => n.toNat.toUInt8).toArray t) { s with heap := h', toks := k }) : wpAny (model P0 w) A (call (.type "bytes") [.ref l]) Q E s := by
  refine bytes_K (vs := xs.toList) (ns := is.map sgn) F N ⟨_, (N _ hm).1, rfl, n, by rw [Array.toArray_toList]⟩ ha (all_sgn is) (by simpa using hz) hh fun h' t k F' N' _ => h h' t k F' N'
/-- the left-over bits' numbers, by the octets so far -/
def lc (l : List Int) : Int := l.foldl (fun a b => (a * 256 + b) % 65536) 0
/-- the eight six-bit numbers of six octets, as the loop reckons them -/
def sixes (a b c d e f : Int) : List Int := [(lc [a]).fdiv 4 % 64, (lc [a, b]).fdiv 16 % 64, (lc [a, b, c]).fdiv 64 % 64, (lc [a, b, c]).fdiv 1 % 64, (lc [a, b, c, d]).fdiv 4 % 64, (lc [a, b, c, d, e]).fdiv 16 % 64, (lc [a, b, c, d, e, f]).fdiv 64 % 64, (lc [a, b, c, d, e, f]).fdiv 1 % 64]
def b64bytes (a b c d e f : Int) : Array UInt8 := (((sixes a b c d e f).map sgn).map fun n => n.toNat.toUInt8).toArray
/-- the walk stops here -/
def Halt (p : Prop) : Prop := p
theorem Halt.of {p : Prop} (h : Halt p) : p := h
theorem ints_push {xs : Array PySem.Value} {ns : List Int} {n : Int} {t : Tok} (h : IntsAre xs.toList ns) : IntsAre (xs.push (.int n t)).toList (ns ++ [n]) := by
  have go : ∀ {vs : List PySem.Value} {ns : List Int}, IntsAre vs ns → IntsAre (vs ++ [.int n t]) (ns ++ [n]) := fun h => by
    induction h with
    | nil => exact .cons _ _ .nil
    | cons a u _ ih => exact .cons a u ih
  rw [Array.toList_push]
  exact go h
/-- one octet's turn: the numbers so far, the left-over bits' number, how many turns by three -/
def stp (σ : List Int × Int × Nat) (b : Int) : List Int × Int × Nat :=
  let x := (σ.2.1 * 256 + b) % 65536
  match σ.2.2 with
  | 0 => (σ.1 ++ [x.fdiv 4 % 64], x, 1)
  | 1 => (σ.1 ++ [x.fdiv 16 % 64], x, 2)
  | _ => (σ.1 ++ [x.fdiv 64 % 64] ++ [x.fdiv 1 % 64], x, 0)
theorem stp_all (a b c d e f : Int) : ([a, b, c, d, e, f].foldl stp ([], 0, 0)) = (sixes a b c d e f, lc [a, b, c, d, e, f], 0) := rfl
/-- the loop's state: what is written, the names, the ledger -/
inductive BK (fin : List Int × Int × Nat) (I : Addr) (m₀ : LM) (rem : List Int) (m : LM) (news : Led) : Prop
  | mk (O : Addr) (lO : LT.lt (α := Nat) O I) (hO : m₀ "out" = some (.ref O)) (hN : m₀ "newline" = some (.bool false)) (os : List Int) (x : Int) (r : Nat) (vb : Option PySem.Value) (t1 t2 : Tok) (xs : Array PySem.Value) (n : Nat) (go : rem.foldl stp (os, x, r) = fin)
      (nm : m = fun y => if y = PySem.Str.ofString "leftbits" then some (.int (2 * r) t1) else if y = PySem.Str.ofString "leftchar" then some (.int x t2) else if y = PySem.Str.ofString "b" then vb else m₀ y) (led : news = [(O, listOf xs n)]) (at_ : IntsAre xs.toList (os.map sgn)) (lo : 0 ≤ x) (hi : x < 65536) (r3 : r < 3) (sz : xs.size + 2 * rem.length ≤ 12) : BK fin I m₀ rem m news
theorem nm3 {m : LM} {a b c : PySem.Str} {va vb vc : Option PySem.Value} (ha : m a = va) (hb : m b = vb) (hc : m c = vc) : m = fun y => if y = a then va else if y = b then vb else if y = c then vc else m y := by
  funext y
  by_cases e1 : y = a
  · rw [if_pos e1, e1, ha]
  by_cases e2 : y = b
  · rw [if_neg e1, if_pos e2, e2, hb]
  by_cases e3 : y = c
  · rw [if_neg e1, if_neg e2, if_pos e3, e3, hc]
  · rw [if_neg e1, if_neg e2, if_neg e3]
theorem BK.start {m : LM} {O I : Addr} {t1 t2 : Tok} {a b c d e f : Int} (lO : LT.lt (α := Nat) O I) (hO : m "out" = some (.ref O)) (hN : m "newline" = some (.bool false)) (hb : m "leftbits" = some (.int 0 t1)) (hc : m "leftchar" = some (.int 0 t2)) : BK (sixes a b c d e f, lc [a, b, c, d, e, f], 0) I m [a, b, c, d, e, f] m [(O, listOf #[] 0)] :=
  ⟨O, lO, hO, hN, [], 0, 0, m "b", t1, t2, #[], 0, stp_all _ _ _ _ _ _, nm3 hb hc rfl, rfl, .nil, by decide, by decide, by decide, Nat.le_refl 12⟩
theorem nm_col {m M : LM} {a b c : PySem.Str} {va vb vc : Option PySem.Value} (ha : m a = va) (hb : m b = vb) (hc : m c = vc) (h : ∀ y, ¬ y = a → ¬ y = b → ¬ y = c → m y = M y) : m = fun y => if y = a then va else if y = b then vb else if y = c then vc else M y := by
  rw [nm3 ha hb hc]
  funext y
  by_cases e1 : y = a
  · rw [if_pos e1, if_pos e1]
  by_cases e2 : y = b
  · rw [if_neg e1, if_neg e1, if_pos e2, if_pos e2]
  by_cases e3 : y = c
  · rw [if_neg e1, if_neg e1, if_neg e2, if_neg e2, if_pos e3, if_pos e3]
  · rw [if_neg e1, if_neg e1, if_neg e2, if_neg e2, if_neg e3, if_neg e3]; exact h y e1 e2 e3
theorem BK.one {fin : List Int × Int × Nat} {I O : Addr} {m₀ m : LM} {rem os : List Int} {c x z : Int} {r r2 n : Nat} {vb : Option PySem.Value} {t t1 t2 : Tok} {xs : Array PySem.Value} (lO : LT.lt (α := Nat) O I) (hO : m₀ "out" = some (.ref O)) (hN : m₀ "newline" = some (.bool false)) (hgo : (c :: rem).foldl stp (os, x, r) = fin) (hat : IntsAre xs.toList (os.map sgn)) (hsz : xs.size + 2 * (c :: rem).length ≤ 12)
    (e : stp (os, x, r) c = (os ++ [z], (x * 256 + c) % 65536, r2)) (hr : r2 < 3) (ha : m "leftbits" = some (.int (2 * r2) t1)) (hb : m "leftchar" = some (.int ((x * 256 + c) % 65536) t2)) (hc : m "b" = vb) (h : ∀ y, ¬ y = PySem.Str.ofString "leftbits" → ¬ y = PySem.Str.ofString "leftchar" → ¬ y = PySem.Str.ofString "b" → m y = m₀ y) :
    BK fin I m₀ rem m [(O, listOf (xs.push (.int (sgn z) t)) n)] :=
  ⟨O, lO, hO, hN, os ++ [z], _, r2, vb, t1, t2, xs.push (.int (sgn z) t), n, by rw [← e]; exact hgo, nm_col ha hb hc h, rfl, by rw [List.map_append]; exact ints_push hat, Int.emod_nonneg _ (by decide), Int.emod_lt_of_pos _ (by decide), hr, by rw [List.length_cons] at hsz; rw [Array.size_push]; omega⟩
theorem BK.two {fin : List Int × Int × Nat} {I O : Addr} {m₀ m : LM} {rem os : List Int} {c x z z' : Int} {r r2 n : Nat} {vb : Option PySem.Value} {t t' t1 t2 : Tok} {xs : Array PySem.Value} (lO : LT.lt (α := Nat) O I) (hO : m₀ "out" = some (.ref O)) (hN : m₀ "newline" = some (.bool false)) (hgo : (c :: rem).foldl stp (os, x, r) = fin) (hat : IntsAre xs.toList (os.map sgn)) (hsz : xs.size + 2 * (c :: rem).length ≤ 12)
    (e : stp (os, x, r) c = (os ++ [z] ++ [z'], (x * 256 + c) % 65536, r2)) (hr : r2 < 3) (ha : m "leftbits" = some (.int (2 * r2) t1)) (hb : m "leftchar" = some (.int ((x * 256 + c) % 65536) t2)) (hc : m "b" = vb) (h : ∀ y, ¬ y = PySem.Str.ofString "leftbits" → ¬ y = PySem.Str.ofString "leftchar" → ¬ y = PySem.Str.ofString "b" → m y = m₀ y) :
    BK fin I m₀ rem m [(O, listOf ((xs.push (.int (sgn z) t)).push (.int (sgn z') t')) n)] :=
  ⟨O, lO, hO, hN, os ++ [z] ++ [z'], _, r2, vb, t1, t2, (xs.push (.int (sgn z) t)).push (.int (sgn z') t'), n, by rw [← e]; exact hgo, nm_col ha hb hc h, rfl, by rw [List.map_append, List.map_append]; exact ints_push (ints_push hat), Int.emod_nonneg _ (by decide), Int.emod_lt_of_pos _ (by decide), hr, by rw [List.length_cons] at hsz; rw [Array.size_push, Array.size_push]; omega⟩
theorem r3_of {r : Nat} (h : r < 3) : r = 0 ∨ r = 1 ∨ r = 2 := by omega
theorem BR_inv {env : Env} {x : PySem.Str} {body : List Stmt} {Q : Flow → Shared → Prop} {I : Addr} (J : List Int → LM → Led → Prop)
    (step : ∀ c r m news, J (c :: r) m news → 0 ≤ c → c < 256 → ∀ (u : Tok) (it : Obj) h tk, Fr h₀ env.locals h (fun y => if y = x then some (.int c u) else m y) → News h₀ env.locals h ((I, it) :: news) →
      ∀ Qz : Flow → Shared → Prop, (∀ h' tk' m' news', Fr h₀ env.locals h' m' → News h₀ env.locals h' ((I, it) :: news') → (∀ p ∈ news', p.1 ≠ I) → J r m' news' → Qz .next { s with heap := h', toks := tk' }) → wpAny (model P0 w) A (execs body env) Qz E { s with heap := h, toks := tk })
    (fin : ∀ m news, J [] m news → ∀ h tk, Fr h₀ env.locals h m → News h₀ env.locals h news → Q .next { s with heap := h, toks := tk }) :
    ∀ (l : List Int) (m : LM) (news : Led), J l m news → BytesRest P0 w A E h₀ env x body Q s I l m news
  | [], m, news, hJ => fun h tk F N => fin m news hJ h tk F N
  | c :: r, m, news, hJ => fun h0 h1 u it h tk F N => step c r m news hJ h0 h1 u it h tk F N _ fun h' tk' m' news' F' N' ho hJ' => ⟨h', tk', m', news', rfl, F', N', ho, BR_inv J step fin r m' news' hJ'⟩
theorem BR_from {env : Env} {x : PySem.Str} {body : List Stmt} {Q : Flow → Shared → Prop} {I L' : Addr} (hL : env.locals = L') (J : LM → List Int → LM → Led → Prop) {l : List Int} {m : LM} {news : Led} (h0 : J m l m news)
    (step : ∀ M c r m news, J M (c :: r) m news → 0 ≤ c → c < 256 → ∀ (u : Tok) (it : Obj) h tk, Fr h₀ L' h (fun y => if y = x then some (.int c u) else m y) → News h₀ L' h ((I, it) :: news) →
      ∀ Qz : Flow → Shared → Prop, (∀ h' tk' m' news', Fr h₀ L' h' m' → News h₀ L' h' ((I, it) :: news') → (∀ p ∈ news', p.1 ≠ I) → J M r m' news' → Qz .next { s with heap := h', toks := tk' }) → wpAny (model P0 w) A (execs body env) Qz E { s with heap := h, toks := tk })
    (fin : ∀ M m news, J M [] m news → ∀ h tk, Fr h₀ L' h m → News h₀ L' h news → Q .next { s with heap := h, toks := tk }) : BytesRest P0 w A E h₀ env x body Q s I l m news := by
  subst hL
  exact BR_inv (J m) (step m) (fin m) _ _ _ h0
theorem nameG_L' {x : PySem.Str} {pos : Pos} {v : PySem.Value} {env : Env} {Q : PQ} {C : Addr} (hn : s.heap.Ns C m) (hC : env.locals = C) (hv : m x = some v) (h : Q v s)
    (hk : env.scope.kind = .function) (hx : env.kindOf x = some .local) (hd : (x == ("__debug__" : PySem.Str)) = false) : wpAny (model P0 w) A (eval (.Name x pos) env) Q E s := wpAny_Name (wpAny_loadName_local hk hx (hC ▸ hn) hv h) hd
theorem rows3 : True := by
  k_with_none
  k_with "call type:type" => (((with_reducible show wpAny _ _ (call (Value.type "type") [Value.bytes _ _]) _ _ _); refine type_bytes ?_))
  k_with "call ref" => (((with_reducible show wpAny _ _ (call (Value.ref 127) _ _) _ _ _); k_dflt (refine' buffer_spec (Cx.mk _ _ _ _ _ _ _ _ _ _ _ _ _ _ ?b ?f ?x ?n ?t ?k ?d ?u) ?_; ((case b => k_asm); (case f => k_asm); (case x => k_asm); (case n => k_asm); (case t => k_asm); (case k => first | exact rfl | assumption); (case d => ktr_room); (case u => ktr_units)); (intro _ _ _ _))))
  k_with "call ref" => (((with_reducible show wpAny _ _ (call (Value.ref 134) _ _) _ _ _); k_dflt (refine' truth_spec (Cx.mk _ _ _ _ _ _ _ _ _ _ _ _ _ _ ?b ?f ?x ?n ?t ?k ?d ?u) ?_; ((case b => k_asm); (case f => k_asm); (case x => k_asm); (case n => k_asm); (case t => k_asm); (case k => first | exact rfl | assumption); (case d => ktr_room); (case u => ktr_units)); (intro _ _ _ _))))
  k_with "subscriptTail" => (((with_reducible show wpAny _ _ (subscriptTail _ _ (Value.bytes _ _) (Value.int (Builtin.bitAnd _ 63) _)) _ _ _); (refine b64_item ?_); intro _ _ _ _))
  k_with "binaryOp LShift int int" => (((with_reducible show wpAny _ _ (binaryOp _ (Value.int _ _) (Value.int 8 _)) _ _ _); (refine lc_shl (by omega) (by omega) ?_); intro _ _))
  k_with "binaryOp BitOr int int" => (((with_reducible show wpAny _ _ (binaryOp _ (Value.int (_ * 256) _) (Value.int _ _)) _ _ _); (refine lc_or (by omega) (by omega) (by omega) ?_); intro _ _))
  k_with "binaryOp BitAnd int int" => (((with_reducible show wpAny _ _ (binaryOp _ (Value.int _ _) (Value.int 65535 _)) _ _ _); (refine lc_and ?_); intro _ _))
  exact trivial
theorem b2a_spec {b0 b1 b2 b3 b4 b5 : UInt8} {tk : Tok} (c : Cx w base h₀ L m news s.heap 6 60 A) (hret : ∀ t, Back h₀ L m news s Q (.bytes (b64bytes b0.toNat b1.toNat b2.toNat b3.toNat b4.toNat b5.toNat) t)) :
    wpAny (model P0 w) A (call (.ref 142) [.bytes #[b0, b1, b2, b3, b4, b5] tk] [("newline", .bool false)]) Q E s := by
  rcases c with ⟨dp, un, gd, cn, cs, a, ccd, cl, outer, A₀, lo, mean, mg, mb, B, F, X, N, T, hk, hd, hu⟩
  refine wpAny_call ?_
  k_dflt (refine' enterP [("data", .bytes #[b0, b1, b2, b3, b4, b5] tk), ("newline", .bool false)] [] news ?k1 ?k2 ?k3 ?k4 ?k5 ?kA ?kF ?kK ?h1 ?h2 ?h3 ?k6 ?k7 ?k8 ?k9 ?kB ?c2 ?c3 ?c4 ?c5 ?kG)
  k_dflt ((case kA => exact rfl); (case kF => exact rfl); (case kK => first | exact rfl | assumption); (case k1 => k_asm); (case k2 => k_asm); (case k3 => k_asm); (case k4 => k_asm); (case k5 => k_asm); (case k6 => k_is); (case k7 => k_is); (case k8 => ktr_room); (case k9 => exact kp_binds (by k_in) (fun _ => by kernel_rfl)); (case kB => exact locs rfl); (case c2 => exact rfl); (case c3 => exact rfl); (case c4 => exact rfl); (case c5 => decide); (case h1 => exact fun _ h => nomatch h); (case h2 => exact fun _ h => h); (case h3 => exact fun _ _ h => nomatch h); (intro g' L' h' FG' F' N' B' X' T' R'); (try dsimp only [List.reverse_cons, List.reverse_nil, List.nil_append, List.cons_append] at F'); (try dsimp only); (try k_fold))
  k_with "pyIter bytes" => ((rename Fr _ _ _ _ => lF'); (rename News _ _ _ _ => lN'); (with_unfolding_all refine iter_bytesUnr (l := [(b0.toNat : Int), (b1.toNat : Int), (b2.toNat : Int), (b3.toNat : Int), (b4.toNat : Int), (b5.toNat : Int)]) (by rfl) lF' lN' (by rfl) ?_); clear lF' lN'; intro i' l1; (try k_lt l1); refine Halt.of ?_)
  k_steps
  unfold Halt
  refine BR_from rfl (BK (sixes b0.toNat b1.toNat b2.toNat b3.toNat b4.toNat b5.toNat, lc [(b0.toNat : Int), (b1.toNat : Int), (b2.toNat : Int), (b3.toNat : Int), (b4.toNat : Int), (b5.toNat : Int)], 0) i') ?h0 ?_ ?_
  case h0 => exact BK.start l1 rfl rfl rfl rfl
  · rintro M c r m1 news1 ⟨O, lO, hO, hN, os, x, r', vb, t1, t2, xs, n, hgo, rfl, rfl, hat, hlo, hhi, hr3, hsz⟩ h0 h1 u it h tk F1 N1 Qz hQz
    dsimp only at F1
    k_with "eval Name" => ((with_reducible show wpAny _ _ (eval (PySem.Expr.Name (PySem.Str.ofString "out") _) _) _ _ _); k_dflt (refine nameG_L' (Fr.ns (by assumption)) rfl (by repeat (first | exact hO | refine (if_neg (by decide)).trans ?_)) ?_ (by kernel_rfl) (by kernel_rfl) (by decide)))
    have hxs : xs.size ≤ 10 := by have := hsz; rw [List.length_cons] at this; omega
    rcases r3_of hr3 with rfl | rfl | rfl
    · rw [show (2 : Int) * ((0 : Nat) : Int) = 0 from rfl] at F1
      dsimp only
      k_steps
      rename Fr _ _ _ _ => F2
      rename News _ _ _ _ => N2
      refine hQz _ _ _ _ F2 N2 (fun p hp => by rw [List.mem_singleton.mp hp]; exact Nat.ne_of_lt lO) ?_
      refine' BK.one (r2 := 1) lO hO hN hgo hat hsz ?e (by decide) ?ha ?hb ?hc ?h
      case e => exact rfl
      case ha => exact rfl
      case hb => exact rfl
      case hc => exact rfl
      case h => exact fun y a b c => by simp only [if_neg a, if_neg b, if_neg c]
    · rw [show (2 : Int) * ((1 : Nat) : Int) = 2 from rfl] at F1
      dsimp only
      k_steps
      rename Fr _ _ _ _ => F2
      rename News _ _ _ _ => N2
      refine hQz _ _ _ _ F2 N2 (fun p hp => by rw [List.mem_singleton.mp hp]; exact Nat.ne_of_lt lO) ?_
      refine' BK.one (r2 := 2) lO hO hN hgo hat hsz ?e (by decide) ?ha ?hb ?hc ?h
      case e => exact rfl
      case ha => exact rfl
      case hb => exact rfl
      case hc => exact rfl
      case h => exact fun y a b c => by simp only [if_neg a, if_neg b, if_neg c]
    · rw [show (2 : Int) * ((2 : Nat) : Int) = 4 from rfl] at F1
      dsimp only
      k_steps
      rename Fr _ _ _ _ => F2
      rename News _ _ _ _ => N2
      refine hQz _ _ _ _ F2 N2 (fun p hp => by rw [List.mem_singleton.mp hp]; exact Nat.ne_of_lt lO) ?_
      refine' BK.two (r2 := 0) lO hO hN hgo hat hsz ?e (by decide) ?ha ?hb ?hc ?h
      case e => exact rfl
      case ha => exact rfl
      case hb => exact rfl
      case hc => exact rfl
      case h => exact fun y a b c => by simp only [if_neg a, if_neg b, if_neg c]
  · rintro M m1 news1 ⟨O, lO, hO, hN, os, x, r', vb, t1, t2, xs, n, hgo, rfl, rfl, hat, hlo, hhi, hr3, hsz⟩ h tk F1 N1
    obtain ⟨e1, e2, e3⟩ : os = sixes b0.toNat b1.toNat b2.toNat b3.toNat b4.toNat b5.toNat ∧ x = lc [(b0.toNat : Int), (b1.toNat : Int), (b2.toNat : Int), (b3.toNat : Int), (b4.toNat : Int), (b5.toNat : Int)] ∧ r' = 0 := by
      have := hgo
      rw [List.foldl_nil] at this
      injection this with p q
      injection q with q s
      exact ⟨p, q, s⟩
    subst e1 e3
    clear hgo hlo hhi hr3 e2
    have hxs : xs.size ≤ sizeLine := Nat.le_trans (Nat.le_of_add_right_le hsz) (Nat.le_of_ble_eq_true (by kernel_rfl))
    rw [show (2 : Int) * ((0 : Nat) : Int) = 0 from rfl] at F1
    dsimp only
    k_with_none
    k_with "eval Name" => (first | ((with_reducible show wpAny _ _ (eval (PySem.Expr.Name (PySem.Str.ofString "out") _) _) _ _ _); k_dflt (refine nameG_L' (Fr.ns (by assumption)) rfl (by repeat (first | exact hO | refine (if_neg (by decide)).trans ?_)) ?_ (by kernel_rfl) (by kernel_rfl) (by decide))) | ((with_reducible show wpAny _ _ (eval (PySem.Expr.Name (PySem.Str.ofString "newline") _) _) _ _ _); k_dflt (refine nameG_L' (Fr.ns (by assumption)) rfl (by repeat (first | exact hN | refine (if_neg (by decide)).trans ?_)) ?_ (by kernel_rfl) (by kernel_rfl) (by decide))))
    k_steps
    rename Fr _ _ _ _ => lF'
    rename News _ _ _ _ => lN'
    refine bytes_made (sixes b0.toNat b1.toNat b2.toNat b3.toNat b4.toNat b5.toNat) lF' lN' (List.mem_singleton.mpr rfl) hat hxs (by rfl) ?_
    intro h' t' k' F' N'
    k_steps
    exact hret _ _ _ (by k_asm) (by k_asm)
end
end
section
open PySem PySem.W PyProof.Rows PySem.Spec PySem.Calls
set_option maxRecDepth 100000
set_option maxHeartbeats 4000000
/-- the pattern's words: what must not stand in a word that is left unquoted -/
def reCode : Array Nat := #[14, 17, 4, 1, 1, 21, 9, 0, 604043296, 1, 0, 0, 0, 0, 0, 8, 4, 0, 13, 14, 21, 9, 0, 604043296, 1, 0, 0, 0, 0, 0, 8, 4, 0, 1]
def okCp (c : Nat) : Bool := (decide (c < 256) && (reCode.getD (6 + (1 + c / 32)) 0).testBit (c % 32)) || Sre.isWord c
theorem inSet_ok {c : Nat} (h : okCp c = true) (seen : Sre.Seen) : ∃ seen', Sre.inSet reCode c 34 5 true seen = .ok (false, seen') := by
  have e1 : Sre.inSet reCode c 34 5 true seen = Sre.inSet reCode c 33 6 false (seen.add 21) := by kernel_rfl
  have e2 : ∀ sn, Sre.inSet reCode c 33 6 false sn = if (decide (c < 256) && (reCode.getD (6 + (1 + c / 32)) 0).testBit (c % 32)) = true then .ok (false, sn.add 9) else Sre.inSet reCode c 32 15 false (sn.add 9) := fun _ => by kernel_rfl
  have e3 : ∀ sn, Sre.inSet reCode c 32 15 false sn = ((Sre.category 4 c).bind fun b => if b = true then Except.ok (false, (sn.add 8).add 59) else Sre.inSet reCode c 31 17 false ((sn.add 8).add 59)) := fun _ => by kernel_rfl
  have e4 : Sre.category 4 c = .ok (Sre.isWord c != false) := by kernel_rfl
  rw [e1, e2]
  by_cases q : (decide (c < 256) && (reCode.getD (6 + (1 + c / 32)) 0).testBit (c % 32)) = true
  · rw [if_pos q]; exact ⟨_, rfl⟩
  · rw [if_neg q, e3, e4]
    have hw : Sre.isWord c = true := by
      unfold okCp at h
      rw [Bool.or_eq_true] at h
      exact h.resolve_left q
    rw [hw]
    exact ⟨_, rfl⟩
theorem admitted_none {m : Sre.M} (hc : m.code = reCode) (hok : ∀ i, i < m.lim → okCp (m.text.getD i 0) = true) : ∀ (fuel s : Nat) (seen : Sre.Seen), ∃ seen', Sre.M.admitted m fuel s seen = .ok (none, seen')
  | 0, _, seen => ⟨seen, rfl⟩
  | fuel + 1, s, seen => by
    unfold Sre.M.admitted
    by_cases q : s ≥ m.lim
    · rw [if_pos q]; exact ⟨_, rfl⟩
    · rw [if_neg q]
      obtain ⟨s1, e⟩ := inSet_ok (hok s (by omega)) seen
      have : Sre.inSet m.code (m.text.getD s 0) m.code.size 5 true seen = .ok (false, s1) := by rw [hc]; exact e
      rw [this]
      exact admitted_none hc hok fuel (s + 1) s1
/-- a machine that has said no, with nothing to come back to -/
def Said (m : Sre.M) : Prop := m.answer = some false ∧ m.frames = [] ∧ m.outcome = none
theorem first_set {m : Sre.M} (e : m.code = reCode) : m.hasFirstSet = true := by unfold Sre.M.hasFirstSet; rw [e]; decide +kernel
theorem from_no {m : Sre.M} (hc : m.code = reCode) (hok : ∀ i, i < m.lim → okCp (m.text.getD i 0) = true) (hf : m.frames = []) (ho : m.outcome = none) : Said (m.attemptFrom 0 true) := by
  unfold Sre.M.attemptFrom
  rw [first_set hc, if_neg (by decide)]
  obtain ⟨sn, e⟩ := admitted_none hc hok (m.lim + 1 - 0) 0 m.seen
  rw [e]
  exact ⟨rfl, hf, ho⟩
theorem search_no {text : Array Nat} {lim : Nat} (hl : 1 ≤ lim) (hok : ∀ i, i < lim → okCp (text.getD i 0) = true) : Said (Sre.forSearch reCode text 0 0 lim false) := by
  have h1 : Sre.header reCode = (1, 18) := by decide +kernel
  unfold Sre.forSearch
  rw [h1]
  dsimp only
  rw [if_neg (by simp; omega)]
  exact from_no rfl hok rfl rfl
theorem run_no {m : Sre.M} (h : Said m) : m.runFor 4 = { m with outcome := some .failed } := by
  obtain ⟨h1, h2, h3⟩ := h
  have e : m.step = { m with outcome := some .failed } := by
    unfold Sre.M.step
    rw [h3, h1, h2]
    rfl
  have z : ∀ n, Sre.M.runFor n { m with outcome := some .failed } = { m with outcome := some .failed } := fun n => by
    cases n <;> rfl
  show (if m.outcome.isSome then m else Sre.M.runFor 3 m.step) = _
  rw [h3, e]
  exact z 3
theorem drive_no {m : Sre.M} (h : Said m) : ∀ n, n ≠ 0 → Builtin.Re.reDrive n m = pure { m with outcome := some .failed }
  | 0, h => absurd rfl h
  | n + 1, _ => by
    show (if (m.runFor 4).outcome.isSome then pure (m.runFor 4) else do rule "sre.turn"; Builtin.Re.reDrive n (m.runFor 4)) = _
    rw [run_no h]
    rfl
section
variable {M : Model} {A : Around} {E : PQ} {s : Shared}
theorem rules_pass {α : Type} (l : List α) (f : α → Bool) (g : α → String) {Q : PUnit → Shared → Prop} (h : Q ⟨⟩ s) : wpAny M A (forIn l PUnit.unit fun i _ => do
    if f i then rule (g i)
    pure (ForInStep.yield PUnit.unit)) Q E s := by
  refine wpAny_forIn_list _ (fun _ _ s' => s' = s) _ ?_ (fun b s' e => by subst e; exact h) l _ rfl
  rintro x rest b s' rfl
  dsimp only
  cases f x
  · exact wpAny_pure rfl
  · exact wpAny_bind (wpAny_rule (wpAny_pure rfl))
theorem toEnd_no {m : Sre.M} (h : Said m) {Q : Option Sre.M → Shared → Prop} (hq : Q none s) : wpAny M A (Builtin.Re.reRunToEnd m) Q E s := by
  unfold Builtin.Re.reRunToEnd
  rw [drive_no h _ (by decide)]
  refine wpAny_bind (wpAny_pure ?_)
  refine wpAny_bind ?_
  exact rules_pass _ _ _ (wpAny_pure hq)
end
end
section
open PySem PySem.W PyProof.Rows PySem.Spec PySem.Calls
set_option maxRecDepth 100000
set_option maxHeartbeats 4000000
theorem entry_search : entryFor table "re.Pattern.search" = some Builtin.«re.Pattern.search» := entryFor_of_tree (by kernel_rfl)
theorem den_eq {w : World} (c : Code) : (model P0 w).den c = denote table c := rfl
theorem den_builtin {w : World} {id : String} {b : Builtin} (h : entryFor table id = some b) (args : Args) : (model P0 w).den (.builtin id args) = b args := by
  rw [den_eq]
  unfold denote
  dsimp only
  rw [h]
theorem look_search {w : World} {x : PySem.Str} {t : Tok} (S : Setting) : peek (K w.params) S (denote table (.call (.ref 816) ⟨[.str x t], []⟩)) = some (Fin.again (.builtin "re.Pattern.search" ⟨[.ref 155, .str x t], []⟩)) := by
  rw [PySem.W.Fast.te11892475500146522536]; kernel_rfl
theorem look_target {w : World} {x : PySem.Str} {t : Tok} (S : Setting) : peek (K w.params) S (Builtin.Re.reTarget "re.Pattern.search" "search" ⟨[.ref 155, .str x t], []⟩) = some (⟨.ref 155, .str x t, reCode, x.cps, 0, 0, min (0 : Int).toNat x.cps.size, min (2 ^ 63 - 1 : Int).toNat x.cps.size⟩ : Builtin.Re.ReTarget) := by kernel_rfl
section
variable {w : World} {A : Around} {E : PQ} {s : Shared} {Q : PQ}
theorem search_spec {x : PySem.Str} {t : Tok} (X : (K w.params).In s.heap) (h0 : 1 ≤ x.cps.size) (h1 : x.cps.size ≤ 1000) (hok : ∀ i, i < x.cps.size → okCp (x.cps.getD i 0) = true)
    (hq : Q .none s) : wpAny (model P0 w) A (call (.ref 816) [.str x t]) Q E s := by
  refine wpAny_call (codeAny_of_tree ?_)
  refine (Looks.of_peek (M := model P0 w) (K := K w.params) X (look_search _)).here ?_
  refine ⟨plainId_quiet (by decide +kernel) _, codeAny_of_tree ?_⟩
  rw [den_builtin entry_search]
  unfold Builtin.«re.Pattern.search»
  refine wpAny_bind ?_
  refine (Looks.of_peek (M := model P0 w) (K := K w.params) X (look_target _)).here ?_
  have e1 : min (0 : Int).toNat x.cps.size = 0 := by simp
  have e2 : min (2 ^ 63 - 1 : Int).toNat x.cps.size = x.cps.size := Nat.min_eq_right (by omega)
  rw [e1, e2]
  unfold Builtin.Re.reAnswer
  refine wpAny_bind (toEnd_no (search_no h0 hok) ?_)
  exact wpAny_pure hq
theorem callWith_m {env : Env} {pos : Pos} {f : PySem.Value} {first : List PySem.Value} {e : PySem.Expr} {rest : List PySem.Expr} (hk : ∀ S, peek (K w.params) S (keeperOf f) = some Keeper.machine)
    (h : wpAny (model P0 w) A (spliced (backTo pos (starEach (e :: rest) env))) (fun vs s₁ => (K w.params).In s₁.heap ∧ wpAny (model P0 w) A (call f (first ++ vs)) Q E s₁) E s)
    (he : starEach (e :: rest) env = (false, eval e env) :: starEach rest env := by rfl) (hplain : (backTo pos (starEach rest env)).any (·.1) = false := by rfl) :
    wpAny (model P0 w) A (callWith pos f first (backTo pos (starEach (e :: rest) env)) []) Q E s := by
  rw [he] at h ⊢
  exact callWith_of (P := fun h => (K w.params).In h) (by show ((false || (backTo pos (starEach rest env)).any (·.1)) || false) = false; rw [hplain]; rfl)
    (fun h X => ⟨.machine, .inr (.inl rfl), Looks.of_peek (M := model P0 w) X (hk _)⟩) (evalArgs_plain h)
end
end
section
open PySem PySem.W PyProof.Rows PySem.Spec PySem.Calls
set_option maxRecDepth 100000
set_option maxHeartbeats 0
section
variable {w : World} {A : Around} {base h₀ : Heap} {L : Addr} {m : LM} {news : Led} {s : Shared} {Q E : PQ}
theorem rows4 : True := by
  k_with_none
  k_with "call type:type" => (((with_reducible show wpAny _ _ (call (Value.type "type") [Value.bytes _ _]) _ _ _); refine type_bytes ?_))
  k_with "call ref" => (((with_reducible show wpAny _ _ (call (Value.ref 142) _ _) _ _ _); k_dflt (refine' b2a_spec (Cx.mk _ _ _ _ _ _ _ _ _ _ _ _ _ _ ?b ?f ?x ?n ?t ?k ?d ?u) ?_; ((case b => k_asm); (case f => k_asm); (case x => k_asm); (case n => k_asm); (case t => k_asm); (case k => first | exact rfl | assumption); (case d => ktr_room); (case u => ktr_units)); (intro _ _ _ _ _))))
  k_with "truthy str" => (((with_reducible show wpAny _ _ (PySem.truthy (Value.str _ _)) _ _ _); (refine KXt.truthy_pos (K := 1000) (by assumption) (by assumption) (by decide) ?_); intro _))
  k_with "call ref" => (((with_reducible show wpAny _ _ (call (Value.ref 816) _ _) _ _ _); (refine search_spec (by k_in) (by assumption) (by assumption) (by assumption) ?_)))
  k_with "callWith ref" => (((with_reducible show wpAny _ _ (callWith _ (Value.ref 816) _ _ _) _ _ _); k_dflt (refine callWith_m (fun _ => by kernel_rfl) ?_)))
  exact trivial
theorem b64_spec {b0 b1 b2 b3 b4 b5 : UInt8} {tk : Tok} (c : Cx w base h₀ L m news s.heap 8 80 A) (hret : ∀ t, Back h₀ L m news s Q (.bytes (b64bytes b0.toNat b1.toNat b2.toNat b3.toNat b4.toNat b5.toNat) t)) :
    wpAny (model P0 w) A (call (.ref 150) [.bytes #[b0, b1, b2, b3, b4, b5] tk]) Q E s := by
  rcases c with ⟨dp, un, gd, cn, cs, a, ccd, cl, outer, A₀, lo, mean, mg, mb, B, F, X, N, T, hk, hd, hu⟩
  refine wpAny_call ?_
  k_dflt (refine' enterP [("s", .bytes #[b0, b1, b2, b3, b4, b5] tk), ("altchars", .none)] [] news ?k1 ?k2 ?k3 ?k4 ?k5 ?kA ?kF ?kK ?h1 ?h2 ?h3 ?k6 ?k7 ?k8 ?k9 ?kB ?c2 ?c3 ?c4 ?c5 ?kG)
  k_dflt ((case kA => exact rfl); (case kF => exact rfl); (case kK => first | exact rfl | assumption); (case k1 => k_asm); (case k2 => k_asm); (case k3 => k_asm); (case k4 => k_asm); (case k5 => k_asm); (case k6 => k_is); (case k7 => k_is); (case k8 => ktr_room); (case k9 => exact kp_binds (by k_in) (fun _ => by kernel_rfl)); (case kB => exact locs rfl); (case c2 => exact rfl); (case c3 => exact rfl); (case c4 => exact rfl); (case c5 => decide); (case h1 => exact fun _ h => nomatch h); (case h2 => exact fun _ h => h); (case h3 => exact fun _ _ h => nomatch h); (intro g' L' h' FG' F' N' B' X' T' R'); (try dsimp only [List.reverse_cons, List.reverse_nil, List.nil_append, List.cons_append] at F'); (try dsimp only); (try k_fold))
  k_steps
  exact hret _ _ _ (by k_asm) (by k_asm)
theorem quote_spec {x : PySem.Str} {tk : Tok} (c : Cx w base h₀ L m news s.heap 8 80 A) (h0 : 1 ≤ x.length) (h1 : x.length ≤ 1000) (hok : ∀ i, i < x.cps.size → okCp (x.cps.getD i 0) = true) (hret : Back h₀ L m news s Q (.str x tk)) :
    wpAny (model P0 w) A (call (.ref 823) [.str x tk]) Q E s := by
  rcases c with ⟨dp, un, gd, cn, cs, a, ccd, cl, outer, A₀, lo, mean, mg, mb, B, F, X, N, T, hk, hd, hu⟩
  refine wpAny_call ?_
  k_dflt (refine' enterP [("s", .str x tk)] [] news ?k1 ?k2 ?k3 ?k4 ?k5 ?kA ?kF ?kK ?h1 ?h2 ?h3 ?k6 ?k7 ?k8 ?k9 ?kB ?c2 ?c3 ?c4 ?c5 ?kG)
  k_dflt ((case kA => exact rfl); (case kF => exact rfl); (case kK => first | exact rfl | assumption); (case k1 => k_asm); (case k2 => k_asm); (case k3 => k_asm); (case k4 => k_asm); (case k5 => k_asm); (case k6 => k_is); (case k7 => k_is); (case k8 => ktr_room); (case k9 => exact kp_binds (by k_in) (fun _ => by kernel_rfl)); (case kB => exact locs rfl); (case c2 => exact rfl); (case c3 => exact rfl); (case c4 => exact rfl); (case c5 => decide); (case h1 => exact fun _ h => nomatch h); (case h2 => exact fun _ h => h); (case h3 => exact fun _ _ h => nomatch h); (intro g' L' h' FG' F' N' B' X' T' R'); (try dsimp only [List.reverse_cons, List.reverse_nil, List.nil_append, List.cons_append] at F'); (try dsimp only); (try k_fold))
  k_steps
  exact hret _ _ (by k_asm) (by k_asm)
end
end
section
open PySem PySem.W PyProof.Rows PySem.Spec PySem.Calls
set_option maxRecDepth 100000
set_option maxHeartbeats 0
open Builtin Builtin.Str
/-- the shortened text -/
abbrev chars (x y : PySem.Str) (n : Int) : PySem.Str := x ++ ⟨#[91]⟩ ++ PySem.Str.ofString (toString n) ++ ⟨#[32, 99, 104, 97, 114, 115, 93]⟩ ++ y
def short (x : PySem.Str) (p q : Int) : PySem.Str := if 12 < (x.length : Int) - p - q then chars (Txt.slice x none (some p)) (Txt.slice x (some ((x.length : Int) - q)) none) ((x.length : Int) - p - q) else x
theorem fmt_chars {x y : PySem.Str} {n : Int} {ta tb tn t : Tok} {b : Addr} (hx : x.length ≤ 1000) (hy : y.length ≤ 1000) (h0 : 0 ≤ n) (h1 : n ≤ 1000) :
    Meets («str.__mod__» ⟨[.str ⟨#[37, 115, 91, 37, 100, 32, 99, 104, 97, 114, 115, 93, 37, 115]⟩ t, .ref b], []⟩) (fun _ R s => IsTup s.heap b #[.str x ta, .int n tn, .str y tb] ∧ ∀ t' k, R (.ok (.ret (.str (chars x y n) t'))) { s with toks := k }) := by
  kpt_run
section
variable {w : World} {A : Around} {base h₀ : Heap} {L : Addr} {m : LM} {news : Led} {s : Shared} {Q E : PQ}
theorem rows5 : True := by
  k_with_none
  k_with "call type:type" => (((with_reducible show wpAny _ _ (call (Value.type "type") [Value.bytes _ _]) _ _ _); refine type_bytes ?_))
  k_with "binaryOp Mod str ref" => (((with_reducible show wpAny _ _ (binaryOp Operator.Mod (Value.str _ _) (Value.ref _)) _ _ _); k_dflt (refine' KPt.mod_tuple ?kptN ?kptb ?kptF (fmt_chars ?ha ?hb ?hc ?hd) ?_; (case kptN => k_asm); (case kptb => k_mem); (case kptF => kpt_eq); (case ha => omega); (case hb => omega); (case hc => omega); (case hd => omega)); intro _ _))
  exact trivial
theorem shorten_spec {x : PySem.Str} {tk : Tok} {p q : Int} {tp tq : Tok} (c : Cx w base h₀ L m news s.heap 8 80 A) (h1 : x.length ≤ 200) (hp0 : 0 ≤ p) (hp1 : p ≤ 200) (hq0 : 0 ≤ q) (hq1 : q ≤ 200) (hret : ∀ t, Back h₀ L m news s Q (.str (short x p q) t)) :
    wpAny (model P0 w) A (call (.ref 51) [.str x tk, .int p tp, .int q tq]) Q E s := by
  rcases c with ⟨dp, un, gd, cn, cs, a, ccd, cl, outer, A₀, lo, mean, mg, mb, B, F, X, N, T, hk, hd, hu⟩
  refine wpAny_call ?_
  k_dflt (refine' enterP [("s", .str x tk), ("prefixlen", .int p tp), ("suffixlen", .int q tq)] [] news ?k1 ?k2 ?k3 ?k4 ?k5 ?kA ?kF ?kK ?h1 ?h2 ?h3 ?k6 ?k7 ?k8 ?k9 ?kB ?c2 ?c3 ?c4 ?c5 ?kG)
  k_dflt ((case kA => exact rfl); (case kF => exact rfl); (case kK => first | exact rfl | assumption); (case k1 => k_asm); (case k2 => k_asm); (case k3 => k_asm); (case k4 => k_asm); (case k5 => k_asm); (case k6 => k_is); (case k7 => k_is); (case k8 => ktr_room); (case k9 => exact kp_binds (by k_in) (fun _ => by kernel_rfl)); (case kB => exact locs rfl); (case c2 => exact rfl); (case c3 => exact rfl); (case c4 => exact rfl); (case c5 => decide); (case h1 => exact fun _ h => nomatch h); (case h2 => exact fun _ h => h); (case h3 => exact fun _ _ h => nomatch h); (intro g' L' h' FG' F' N' B' X' T' R'); (try dsimp only [List.reverse_cons, List.reverse_nil, List.nil_append, List.cons_append] at F'); (try dsimp only); (try k_fold))
  have e1 : 12 < (x.length : Int) - p - q → ∀ t, Back h₀ L m news s Q (.str (chars (Txt.slice x none (some p)) (Txt.slice x (some ((x.length : Int) - q)) none) ((x.length : Int) - p - q)) t) := fun h t => by
    have e := hret t
    rwa [short, if_pos h] at e
  have e2 : ¬ 12 < (x.length : Int) - p - q → ∀ t, Back h₀ L m news s Q (.str x t) := fun h t => by
    have e := hret t
    rwa [short, if_neg h] at e
  k_steps
  · exact e1 (by assumption) _ _ _ (by k_asm) (by k_asm)
  · exact e2 (by omega) _ _ _ (by k_asm) (by k_asm)
end
end
section
open PySem PySem.W PyProof.Rows PySem.Spec PySem.Calls
set_option maxRecDepth 100000
set_option maxHeartbeats 0
section
variable {w : World} {A : Around} {base h₀ : Heap} {L : Addr} {m : LM} {news : Led} {s : Shared} {Q E : PQ}
theorem rows6 : True := by
  k_with_none
  k_with "call type:type" => (((with_reducible show wpAny _ _ (call (Value.type "type") [Value.bytes _ _]) _ _ _); refine type_bytes ?_))
  k_with "call ref" => (((with_reducible show wpAny _ _ (call (Value.ref 51) _ _) _ _ _); k_dflt (refine' shorten_spec (Cx.mk _ _ _ _ _ _ _ _ _ _ _ _ _ _ ?b ?f ?x ?n ?t ?k ?d ?u) _ _ _ _ _ ?_; ((case b => k_asm); (case f => k_asm); (case x => k_asm); (case n => k_asm); (case t => k_asm); (case k => first | exact rfl | assumption); (case d => ktr_room); (case u => ktr_units)); (intro _ _ _ _ _))))
  k_with "call builtin:repr" => (((with_reducible show wpAny _ _ (call (Value.builtin "repr") [Value.str _ _]) _ _ _); refine PySem.P.repr_of_str ?_ (by assumption)))
  exact trivial
theorem srepr_spec {x : PySem.Str} {tk : Tok}  (c : Cx w base h₀ L m news s.heap 8 80 A) (hr : (PySem.reprText x).length ≤ sizeLine) (hret : ∀ t, Back h₀ L m news s Q (.str (PySem.reprText x) t)) :
    wpAny (model P0 w) A (call (.ref 120) [.str x tk]) Q E s := by
  rcases c with ⟨dp, un, gd, cn, cs, a, ccd, cl, outer, A₀, lo, mean, mg, mb, B, F, X, N, T, hk, hd, hu⟩
  refine wpAny_call ?_
  k_dflt (refine' enterP [("obj", .str x tk), ("short", .bool false)] [] news ?k1 ?k2 ?k3 ?k4 ?k5 ?kA ?kF ?kK ?h1 ?h2 ?h3 ?k6 ?k7 ?k8 ?k9 ?kB ?c2 ?c3 ?c4 ?c5 ?kG)
  k_dflt ((case kA => exact rfl); (case kF => exact rfl); (case kK => first | exact rfl | assumption); (case k1 => k_asm); (case k2 => k_asm); (case k3 => k_asm); (case k4 => k_asm); (case k5 => k_asm); (case k6 => k_is); (case k7 => k_is); (case k8 => ktr_room); (case k9 => exact kp_binds (by k_in) (fun _ => by kernel_rfl)); (case kB => exact locs rfl); (case c2 => exact rfl); (case c3 => exact rfl); (case c4 => exact rfl); (case c5 => decide); (case h1 => exact fun _ h => nomatch h); (case h2 => exact fun _ h => h); (case h3 => exact fun _ _ h => nomatch h); (intro g' L' h' FG' F' N' B' X' T' R'); (try dsimp only [List.reverse_cons, List.reverse_nil, List.nil_append, List.cons_append] at F'); (try dsimp only); (try k_fold))
  k_steps
  exact hret _ _ _ (by k_asm) (by k_asm)
end
end
section
open PySem PySem.W PyProof.Rows PySem.Spec PySem.Calls
set_option maxRecDepth 100000
set_option maxHeartbeats 0
theorem News.app {h₀ h : Heap} {L : Addr} {a b : Led} (x : News h₀ L h a) (y : News h₀ L h b) : News h₀ L h (a ++ b) := fun p hp => (List.mem_append.mp hp).elim (x p) (y p)
section
variable {w : World} {A : Around} {base h₀ : Heap} {L : Addr} {m : LM} {news : Led} {s : Shared} {Q E : PQ}
theorem rows7 : True := by
  k_with_none
  k_with "call type:type" => (((with_reducible show wpAny _ _ (call (Value.type "type") [Value.bytes _ _]) _ _ _); refine type_bytes ?_))
  exact trivial
theorem io_trans {y : PySem.Str} {tk : Tok} {v2 v3 : PySem.Value} {n1 n2 n3 t1 : Tok} {rest : Led} {x d : Addr} (c : Cx w base h₀ L m ([(x, instObj 703 d), (d, dictOf [⟨PyData.keyHash w.params (PySem.Str.ofString "_StringIO__newline"), .str (PySem.Str.ofString "_StringIO__newline") n1, .str (PySem.Str.ofString "\n") t1⟩, ⟨PyData.keyHash w.params (PySem.Str.ofString "_StringIO__buf"), .str (PySem.Str.ofString "_StringIO__buf") n2, v2⟩, ⟨PyData.keyHash w.params (PySem.Str.ofString "_StringIO__pos"), .str (PySem.Str.ofString "_StringIO__pos") n3, v3⟩] 3)] ++ rest) s.heap 4 30 A) (hdx : LT.lt (α := Nat) d x) (hoff : ∀ p ∈ rest, p.1 ∉ ([(x, instObj 703 d), (d, dictOf [⟨PyData.keyHash w.params (PySem.Str.ofString "_StringIO__newline"), .str (PySem.Str.ofString "_StringIO__newline") n1, .str (PySem.Str.ofString "\n") t1⟩, ⟨PyData.keyHash w.params (PySem.Str.ofString "_StringIO__buf"), .str (PySem.Str.ofString "_StringIO__buf") n2, v2⟩, ⟨PyData.keyHash w.params (PySem.Str.ofString "_StringIO__pos"), .str (PySem.Str.ofString "_StringIO__pos") n3, v3⟩] 3)] : Led).map (·.1)) (hret : Back h₀ L m ([(x, instObj 703 d), (d, dictOf [⟨PyData.keyHash w.params (PySem.Str.ofString "_StringIO__newline"), .str (PySem.Str.ofString "_StringIO__newline") n1, .str (PySem.Str.ofString "\n") t1⟩, ⟨PyData.keyHash w.params (PySem.Str.ofString "_StringIO__buf"), .str (PySem.Str.ofString "_StringIO__buf") n2, v2⟩, ⟨PyData.keyHash w.params (PySem.Str.ofString "_StringIO__pos"), .str (PySem.Str.ofString "_StringIO__pos") n3, v3⟩] 3)] ++ rest) s Q (.str y tk)) :
    wpAny (model P0 w) A (call (.ref 480) [.ref x, .str y tk]) Q E s := by
  rcases c with ⟨dp, un, gd, cn, cs, a, ccd, cl, outer, A₀, lo, mean, mg, mb, B, F, X, N, T, hk, hd, hu⟩
  refine wpAny_call ?_
  k_dflt (refine' enterP [("self", .ref x), ("s", .str y tk)] [(x, instObj 703 d), (d, dictOf [⟨PyData.keyHash w.params (PySem.Str.ofString "_StringIO__newline"), .str (PySem.Str.ofString "_StringIO__newline") n1, .str (PySem.Str.ofString "\n") t1⟩, ⟨PyData.keyHash w.params (PySem.Str.ofString "_StringIO__buf"), .str (PySem.Str.ofString "_StringIO__buf") n2, v2⟩, ⟨PyData.keyHash w.params (PySem.Str.ofString "_StringIO__pos"), .str (PySem.Str.ofString "_StringIO__pos") n3, v3⟩] 3)] rest ?k1 ?k2 ?k3 ?k4 ?k5 ?kA ?kF ?kK ?h1 ?h2 ?h3 ?k6 ?k7 ?k8 ?k9 ?kB ?c2 ?c3 ?c4 ?c5 ?kG)
  k_dflt ((case kA => exact rfl); (case kF => exact rfl); (case kK => first | exact rfl | assumption); (case k1 => k_asm); (case k2 => k_asm); (case k3 => k_asm); (case k4 => k_asm); (case k5 => k_asm); (case k6 => k_is); (case k7 => k_is); (case k8 => ktr_room); (case k9 => exact kp_binds (by k_in) (fun _ => by kernel_rfl)); (case kB => exact locs rfl); (case c2 => exact rfl); (case c3 => exact rfl); (case c4 => exact rfl); (case c5 => decide); (case h1 => exact fun _ h => List.mem_append_left _ h); (case h2 => exact fun _ h => List.mem_append_right _ h); (case h3 => assumption); (intro g' L' h' FG' F' N' B' X' T' R'); (try dsimp only [List.reverse_cons, List.reverse_nil, List.nil_append, List.cons_append] at F'); (try dsimp only); (try k_fold))
  k_steps
  exact hret _ _ (by k_asm) (News.app (by assumption) (by assumption))
theorem rows8 : True := by
  k_with_none
  k_with "call type:type" => (((with_reducible show wpAny _ _ (call (Value.type "type") [Value.bytes _ _]) _ _ _); refine type_bytes ?_))
  k_with "call ref" => (((with_reducible show wpAny _ _ (call (Value.ref 480) _ _) _ _ _); k_dflt (refine' io_trans (rest := []) (Cx.mk _ _ _ _ _ _ _ _ _ _ _ _ _ _ ?b ?f ?x ?n ?t ?k ?d ?u) (by assumption) (fun _ zrh => nomatch zrh) ?_; ((case b => k_asm); (case f => k_asm); (case x => k_asm); (case n => k_asm); (case t => k_asm); (case k => first | exact rfl | assumption); (case d => ktr_room); (case u => ktr_units)); (intro _ _ _ zrN'; (try dsimp only [List.cons_append, List.nil_append] at zrN')))))
  exact trivial
theorem io_init {y : PySem.Str} {tk : Tok} {rest : Led} {x d : Addr} (c : Cx w base h₀ L m ([(x, instObj 703 d), (d, dictOf [] 0)] ++ rest) s.heap 8 80 A) (hdx : LT.lt (α := Nat) d x) (hoff : ∀ p ∈ rest, p.1 ∉ ([(x, instObj 703 d), (d, dictOf [] 0)] : Led).map (·.1)) (hret : ∀ n1 n2 n3 t1 t3, Back h₀ L m ([(x, instObj 703 d), (d, dictOf [⟨PyData.keyHash w.params (PySem.Str.ofString "_StringIO__newline"), .str (PySem.Str.ofString "_StringIO__newline") n1, .str (PySem.Str.ofString "\n") t1⟩, ⟨PyData.keyHash w.params (PySem.Str.ofString "_StringIO__buf"), .str (PySem.Str.ofString "_StringIO__buf") n2, .str y tk⟩, ⟨PyData.keyHash w.params (PySem.Str.ofString "_StringIO__pos"), .str (PySem.Str.ofString "_StringIO__pos") n3, .int 0 t3⟩] 3)] ++ rest) s Q .none) :
    wpAny (model P0 w) A (call (.ref 473) [.ref x, .str y tk]) Q E s := by
  rcases c with ⟨dp, un, gd, cn, cs, a, ccd, cl, outer, A₀, lo, mean, mg, mb, B, F, X, N, T, hk, hd, hu⟩
  refine wpAny_call ?_
  k_dflt (refine' enterP [("self", .ref x), ("initial_value", .str y tk), ("newline", .str "\n" 927)] [(x, instObj 703 d), (d, dictOf [] 0)] rest ?k1 ?k2 ?k3 ?k4 ?k5 ?kA ?kF ?kK ?h1 ?h2 ?h3 ?k6 ?k7 ?k8 ?k9 ?kB ?c2 ?c3 ?c4 ?c5 ?kG)
  k_dflt ((case kA => exact rfl); (case kF => exact rfl); (case kK => first | exact rfl | assumption); (case k1 => k_asm); (case k2 => k_asm); (case k3 => k_asm); (case k4 => k_asm); (case k5 => k_asm); (case k6 => k_is); (case k7 => k_is); (case k8 => ktr_room); (case k9 => exact kp_binds (by k_in) (fun _ => by kernel_rfl)); (case kB => exact locs rfl); (case c2 => exact rfl); (case c3 => exact rfl); (case c4 => exact rfl); (case c5 => decide); (case h1 => exact fun _ h => List.mem_append_left _ h); (case h2 => exact fun _ h => List.mem_append_right _ h); (case h3 => assumption); (intro g' L' h' FG' F' N' B' X' T' R'); (try dsimp only [List.reverse_cons, List.reverse_nil, List.nil_append, List.cons_append] at F'); (try dsimp only); (try k_fold))
  k_steps
  exact hret _ _ _ _ _ _ _ (by k_asm) (News.app (by assumption) (by assumption))
theorem io_check {y : PySem.Str} {t2 : Tok} {v3 : PySem.Value} {n1 n2 n3 t1 : Tok} {rest : Led} {x d : Addr} (c : Cx w base h₀ L m ([(x, instObj 703 d), (d, dictOf [⟨PyData.keyHash w.params (PySem.Str.ofString "_StringIO__newline"), .str (PySem.Str.ofString "_StringIO__newline") n1, .str (PySem.Str.ofString "\n") t1⟩, ⟨PyData.keyHash w.params (PySem.Str.ofString "_StringIO__buf"), .str (PySem.Str.ofString "_StringIO__buf") n2, .str y t2⟩, ⟨PyData.keyHash w.params (PySem.Str.ofString "_StringIO__pos"), .str (PySem.Str.ofString "_StringIO__pos") n3, v3⟩] 3)] ++ rest) s.heap 4 30 A) (hdx : LT.lt (α := Nat) d x) (hoff : ∀ p ∈ rest, p.1 ∉ ([(x, instObj 703 d), (d, dictOf [⟨PyData.keyHash w.params (PySem.Str.ofString "_StringIO__newline"), .str (PySem.Str.ofString "_StringIO__newline") n1, .str (PySem.Str.ofString "\n") t1⟩, ⟨PyData.keyHash w.params (PySem.Str.ofString "_StringIO__buf"), .str (PySem.Str.ofString "_StringIO__buf") n2, .str y t2⟩, ⟨PyData.keyHash w.params (PySem.Str.ofString "_StringIO__pos"), .str (PySem.Str.ofString "_StringIO__pos") n3, v3⟩] 3)] : Led).map (·.1)) (hret : Back h₀ L m ([(x, instObj 703 d), (d, dictOf [⟨PyData.keyHash w.params (PySem.Str.ofString "_StringIO__newline"), .str (PySem.Str.ofString "_StringIO__newline") n1, .str (PySem.Str.ofString "\n") t1⟩, ⟨PyData.keyHash w.params (PySem.Str.ofString "_StringIO__buf"), .str (PySem.Str.ofString "_StringIO__buf") n2, .str y t2⟩, ⟨PyData.keyHash w.params (PySem.Str.ofString "_StringIO__pos"), .str (PySem.Str.ofString "_StringIO__pos") n3, v3⟩] 3)] ++ rest) s Q .none) :
    wpAny (model P0 w) A (call (.ref 487) [.ref x]) Q E s := by
  rcases c with ⟨dp, un, gd, cn, cs, a, ccd, cl, outer, A₀, lo, mean, mg, mb, B, F, X, N, T, hk, hd, hu⟩
  refine wpAny_call ?_
  k_dflt (refine' enterP [("self", .ref x)] [(x, instObj 703 d), (d, dictOf [⟨PyData.keyHash w.params (PySem.Str.ofString "_StringIO__newline"), .str (PySem.Str.ofString "_StringIO__newline") n1, .str (PySem.Str.ofString "\n") t1⟩, ⟨PyData.keyHash w.params (PySem.Str.ofString "_StringIO__buf"), .str (PySem.Str.ofString "_StringIO__buf") n2, .str y t2⟩, ⟨PyData.keyHash w.params (PySem.Str.ofString "_StringIO__pos"), .str (PySem.Str.ofString "_StringIO__pos") n3, v3⟩] 3)] rest ?k1 ?k2 ?k3 ?k4 ?k5 ?kA ?kF ?kK ?h1 ?h2 ?h3 ?k6 ?k7 ?k8 ?k9 ?kB ?c2 ?c3 ?c4 ?c5 ?kG)
  k_dflt ((case kA => exact rfl); (case kF => exact rfl); (case kK => first | exact rfl | assumption); (case k1 => k_asm); (case k2 => k_asm); (case k3 => k_asm); (case k4 => k_asm); (case k5 => k_asm); (case k6 => k_is); (case k7 => k_is); (case k8 => ktr_room); (case k9 => exact kp_binds (by k_in) (fun _ => by kernel_rfl)); (case kB => exact locs rfl); (case c2 => exact rfl); (case c3 => exact rfl); (case c4 => exact rfl); (case c5 => decide); (case h1 => exact fun _ h => List.mem_append_left _ h); (case h2 => exact fun _ h => List.mem_append_right _ h); (case h3 => assumption); (intro g' L' h' FG' F' N' B' X' T' R'); (try dsimp only [List.reverse_cons, List.reverse_nil, List.nil_append, List.cons_append] at F'); (try dsimp only); (try k_fold))
  k_steps
  exact hret _ _ (by k_asm) (News.app (by assumption) (by assumption))
theorem rows9 : True := by
  k_with_none
  k_with "call type:type" => (((with_reducible show wpAny _ _ (call (Value.type "type") [Value.bytes _ _]) _ _ _); refine type_bytes ?_))
  k_with "call ref" => (((with_reducible show wpAny _ _ (call (Value.ref 480) _ _) _ _ _); k_dflt (refine' io_trans (rest := []) (Cx.mk _ _ _ _ _ _ _ _ _ _ _ _ _ _ ?b ?f ?x ?n ?t ?k ?d ?u) (by assumption) (fun _ zrh => nomatch zrh) ?_; ((case b => k_asm); (case f => k_asm); (case x => k_asm); (case n => k_asm); (case t => k_asm); (case k => first | exact rfl | assumption); (case d => ktr_room); (case u => ktr_units)); (intro _ _ _ zrN'; (try dsimp only [List.cons_append, List.nil_append] at zrN')))))
  k_with "call ref" => (((with_reducible show wpAny _ _ (call (Value.ref 487) _ _) _ _ _); k_dflt (refine' io_check (rest := []) (Cx.mk _ _ _ _ _ _ _ _ _ _ _ _ _ _ ?b ?f ?x ?n ?t ?k ?d ?u) (by assumption) (fun _ zrh => nomatch zrh) ?_; ((case b => k_asm); (case f => k_asm); (case x => k_asm); (case n => k_asm); (case t => k_asm); (case k => first | exact rfl | assumption); (case d => ktr_room); (case u => ktr_units)); (intro _ _ _ zrN'; (try dsimp only [List.cons_append, List.nil_append] at zrN')))))
  k_with "call ref" => (((with_reducible show wpAny _ _ (call (Value.ref 169) _ _) _ _ _); k_dflt (refine' index_spec (Cx.mk _ _ _ _ _ _ _ _ _ _ _ _ _ _ ?b ?f ?x ?n ?t ?k ?d ?u) ?_; ((case b => k_asm); (case f => k_asm); (case x => k_asm); (case n => k_asm); (case t => k_asm); (case k => first | exact rfl | assumption); (case d => ktr_room); (case u => ktr_units)); (intro _ _ _ _ _))))
  exact trivial
theorem io_read {y : PySem.Str} {t2 t3 tk : Tok} {z : Int} {n1 n2 n3 t1 : Tok} {rest : Led} {x d : Addr} (c : Cx w base h₀ L m ([(x, instObj 703 d), (d, dictOf [⟨PyData.keyHash w.params (PySem.Str.ofString "_StringIO__newline"), .str (PySem.Str.ofString "_StringIO__newline") n1, .str (PySem.Str.ofString "\n") t1⟩, ⟨PyData.keyHash w.params (PySem.Str.ofString "_StringIO__buf"), .str (PySem.Str.ofString "_StringIO__buf") n2, .str y t2⟩, ⟨PyData.keyHash w.params (PySem.Str.ofString "_StringIO__pos"), .str (PySem.Str.ofString "_StringIO__pos") n3, .int z t3⟩] 3)] ++ rest) s.heap 8 80 A) (hdx : LT.lt (α := Nat) d x) (hoff : ∀ p ∈ rest, p.1 ∉ ([(x, instObj 703 d), (d, dictOf [⟨PyData.keyHash w.params (PySem.Str.ofString "_StringIO__newline"), .str (PySem.Str.ofString "_StringIO__newline") n1, .str (PySem.Str.ofString "\n") t1⟩, ⟨PyData.keyHash w.params (PySem.Str.ofString "_StringIO__buf"), .str (PySem.Str.ofString "_StringIO__buf") n2, .str y t2⟩, ⟨PyData.keyHash w.params (PySem.Str.ofString "_StringIO__pos"), .str (PySem.Str.ofString "_StringIO__pos") n3, .int z t3⟩] 3)] : Led).map (·.1)) (hp : 0 ≤ z) (hq : z ≤ y.length) (hy : y.length ≤ 200) (hret0 : (y.length : Int) ≤ z → ∀ t, Back h₀ L m ([(x, instObj 703 d), (d, dictOf [⟨PyData.keyHash w.params (PySem.Str.ofString "_StringIO__newline"), .str (PySem.Str.ofString "_StringIO__newline") n1, .str (PySem.Str.ofString "\n") t1⟩, ⟨PyData.keyHash w.params (PySem.Str.ofString "_StringIO__buf"), .str (PySem.Str.ofString "_StringIO__buf") n2, .str y t2⟩, ⟨PyData.keyHash w.params (PySem.Str.ofString "_StringIO__pos"), .str (PySem.Str.ofString "_StringIO__pos") n3, .int z t3⟩] 3)] ++ rest) s Q (.str (PySem.Str.ofString "") t)) (hret1 : z < (y.length : Int) → ∀ e, e = z + 1 → ∀ t t3', Back h₀ L m ([(x, instObj 703 d), (d, dictOf [⟨PyData.keyHash w.params (PySem.Str.ofString "_StringIO__newline"), .str (PySem.Str.ofString "_StringIO__newline") n1, .str (PySem.Str.ofString "\n") t1⟩, ⟨PyData.keyHash w.params (PySem.Str.ofString "_StringIO__buf"), .str (PySem.Str.ofString "_StringIO__buf") n2, .str y t2⟩, ⟨PyData.keyHash w.params (PySem.Str.ofString "_StringIO__pos"), .str (PySem.Str.ofString "_StringIO__pos") n3, .int e t3'⟩] 3)] ++ rest) s Q (.str (Txt.slice (Txt.slice y (some z) (some e) ++ PySem.Str.ofString " ") none (some (-1))) t)) :
    wpAny (model P0 w) A (call (.ref 649) [.ref x, .int 1 tk]) Q E s := by
  rcases c with ⟨dp, un, gd, cn, cs, a, ccd, cl, outer, A₀, lo, mean, mg, mb, B, F, X, N, T, hk, hd, hu⟩
  refine wpAny_call ?_
  k_dflt (refine' enterP [("self", .ref x), ("size", .int 1 tk)] [(x, instObj 703 d), (d, dictOf [⟨PyData.keyHash w.params (PySem.Str.ofString "_StringIO__newline"), .str (PySem.Str.ofString "_StringIO__newline") n1, .str (PySem.Str.ofString "\n") t1⟩, ⟨PyData.keyHash w.params (PySem.Str.ofString "_StringIO__buf"), .str (PySem.Str.ofString "_StringIO__buf") n2, .str y t2⟩, ⟨PyData.keyHash w.params (PySem.Str.ofString "_StringIO__pos"), .str (PySem.Str.ofString "_StringIO__pos") n3, .int z t3⟩] 3)] rest ?k1 ?k2 ?k3 ?k4 ?k5 ?kA ?kF ?kK ?h1 ?h2 ?h3 ?k6 ?k7 ?k8 ?k9 ?kB ?c2 ?c3 ?c4 ?c5 ?kG)
  k_dflt ((case kA => exact rfl); (case kF => exact rfl); (case kK => first | exact rfl | assumption); (case k1 => k_asm); (case k2 => k_asm); (case k3 => k_asm); (case k4 => k_asm); (case k5 => k_asm); (case k6 => k_is); (case k7 => k_is); (case k8 => ktr_room); (case k9 => exact kp_binds (by k_in) (fun _ => by kernel_rfl)); (case kB => exact locs rfl); (case c2 => exact rfl); (case c3 => exact rfl); (case c4 => exact rfl); (case c5 => decide); (case h1 => exact fun _ h => List.mem_append_left _ h); (case h2 => exact fun _ h => List.mem_append_right _ h); (case h3 => assumption); (intro g' L' h' FG' F' N' B' X' T' R'); (try dsimp only [List.reverse_cons, List.reverse_nil, List.nil_append, List.cons_append] at F'); (try dsimp only); (try k_fold))
  k_steps
  · exact hret0 (by omega) _ _ _ (by k_asm) (News.app (by assumption) (by assumption))
  · exact hret1 (by omega) _ (by omega) _ _ _ _ (by k_asm) (News.app (by assumption) (by assumption))
  · exact hret1 (by omega) _ (by omega) _ _ _ _ (by k_asm) (News.app (by assumption) (by assumption))
end
end
section
open PySem PySem.W PyProof.Rows PySem.Spec PySem.Calls
set_option maxRecDepth 100000
set_option maxHeartbeats 4000000
abbrev dqObj : Obj := { cls := .type "collections.deque", data := .fields #[.none, .int 0 0] }
theorem slot_dq_len : Slot "collections.deque" "__len__" "collections.deque.__len__" :=
  .of (owner := "collections.deque") (n := "__len__") (by rw [typeLookup_type, builtinLookup_eq_fast]; kernel_rfl) (by decide +kernel) (by decide +kernel) (by decide +kernel)
    (by first | exact .inl (by decide +kernel) | exact .inr (by decide +kernel)) (by rw [isSubtype_type]; kernel_rfl)
theorem entry_dq_len : entryFor table "collections.deque.__len__" = some Builtin.«collections.deque.__len__» := entryFor_of_tree (by kernel_rfl)
theorem args_dq_len (a : Value) : argsOk "collections.deque.__len__" ⟨[a], []⟩ := by unfold argsOk; kernel_rfl
theorem noBool_dq : typeLookup (.type "collections.deque") "__bool__" = pure none := by rw [typeLookup_type, builtinLookup_eq_fast]; kernel_rfl
section
variable {w : World} {A : Around} {E : Value → Shared → Prop} {s : Shared}
theorem truthy_dq {a : Addr} {Q : Bool → Shared → Prop} (ho : s.heap.get? a = some dqObj) (h : ∀ k, Q false { s with toks := k }) : wpAny (model P0 w) A (truthy (.ref a)) Q E s := by
  have hT : s.TypeIs (.ref a) "collections.deque" := ⟨_, ho, rfl⟩
  have body : ∀ A' : Around, wpAny (model P0 w) A' (Builtin.«len» ⟨[.ref a], []⟩) (fun fin s' => ∃ r, fin = .done (.ret r) ∧ r = .int 0 (s.toks + 1) ∧ Q false s') E s := by
    intro A'
    unfold Builtin.«len»
    refine wpAny_bind (m := oneArg "len" _) (wpAny_pure ?_)
    refine wpAny_bind (m := callSpecial? (.ref a) (Str.ofString "__len__")) (wpAny_callSpecial?_slot (name := Str.ofString "__len__") hT slot_dq_len
      (wpAny_call_entry slot_dq_len hT entry_dq_len ?_ (args_dq_len _)))
    unfold Builtin.«collections.deque.__len__»
    refine wpAny_bind (wpAny_pure ?_)
    refine wpAny_bind (wpAny_bind (wpAny_fieldsOf ho rfl (wpAny_pure ?_)))
    refine wpAny_bind (wpAny_mkInt (wpAny_pure ⟨_, rfl, ?_⟩))
    refine wpAny_bind (wpAny_holding (wpAny_pure ?_))
    refine wpAny_bind (wpAny_letGo ?_)
    show wpAny _ _ (if ((0 : Nat) : Int) < 0 then _ else _) _ _ _
    rw [if_neg (by decide)]
    show wpAny _ _ (if ((0 : Nat) : Int) ≥ 2 ^ 63 then _ else _) _ _ _
    rw [if_neg (by decide)]
    exact wpAny_bind (wpAny_mkInt (wpAny_pure ⟨_, rfl, rfl, h _⟩))
  have key : wpAny (model P0 w) A (runValue (.builtin "len" ⟨[.ref a], []⟩)) (fun r s' => r = .int 0 (s.toks + 1) ∧ Q false s') E s := by
    refine wpAny_runValue (codeAny_builtin entry_len ?_)
    rw [Around.under_plainId plain_len _]
    exact wpAny_mono (body _) (fun fin s' h' => by obtain ⟨r, rfl, hq⟩ := h'; exact hq) fun _ _ e => e
  unfold truthy
  first
    | refine wpAny_bind (wpAny_callSpecial?_none (name := Str.ofString "__bool__") hT noBool_dq ?_)
    | refine wpAny_bind (wpAny_pure (wpAny_bind (wpAny_callSpecial?_none (name := Str.ofString "__bool__") hT noBool_dq ?_)))
  first
    | refine wpAny_bind (wpAny_specialOf (name := Str.ofString "__len__") hT slot_dq_len.lookup ?_)
    | refine wpAny_bind (wpAny_pure (wpAny_bind (wpAny_specialOf (name := Str.ofString "__len__") hT slot_dq_len.lookup ?_)))
  first
    | exact wpAny_bind (wpAny_mono key (fun r s' h' => by obtain ⟨rfl, hq⟩ := h'; exact wpAny_pure hq) fun _ _ e => e)
    | exact wpAny_bind (wpAny_pure (wpAny_bind (wpAny_mono key (fun r s' h' => by obtain ⟨rfl, hq⟩ := h'; exact wpAny_pure hq) fun _ _ e => e)))
end
end
section
open PySem PySem.W PyProof.Rows PySem.Spec PySem.Calls
set_option maxRecDepth 100000
set_option maxHeartbeats 0
/-- the addresses that the lexer's objects have, in the order in which they were made -/
structure Ords (d x e yy pb fs : Nat) : Prop where
  dx : d < x
  xe : x < e
  ey : e < yy
  yp : yy < pb
  pf : pb < fs
theorem News.fwd {h₀ h : Heap} {L : Addr} {a b c d e f : Addr × Obj} (N : News h₀ L h [a, b, c, d, e, f]) : News h₀ L h ([c, d] ++ [a, b, e, f]) := fun p hp => N p (by simp only [List.cons_append, List.nil_append, List.mem_cons, List.not_mem_nil, or_false] at hp ⊢; rcases hp with h | h | h | h | h | h <;> simp [h])
theorem News.bwd {h₀ h : Heap} {L : Addr} {a b c d e f : Addr × Obj} (N : News h₀ L h ([c, d] ++ [a, b, e, f])) : News h₀ L h [a, b, c, d, e, f] := fun p hp => N p (by simp only [List.cons_append, List.nil_append, List.mem_cons, List.not_mem_nil, or_false] at hp ⊢; rcases hp with h | h | h | h | h | h <;> simp [h])
theorem off2 {c d : Addr} {oc od : Obj} {a b e f : Addr × Obj} (h1 : a.1 ≠ c) (h2 : a.1 ≠ d) (h3 : b.1 ≠ c) (h4 : b.1 ≠ d) (h5 : e.1 ≠ c) (h6 : e.1 ≠ d) (h7 : f.1 ≠ c) (h8 : f.1 ≠ d) : ∀ p ∈ [a, b, e, f], p.1 ∉ ([(c, oc), (d, od)] : Led).map (·.1) := by
  intro p hp
  simp only [List.mem_cons, List.not_mem_nil, or_false] at hp
  simp only [List.map_cons, List.map_nil, List.mem_cons, List.not_mem_nil, or_false, not_or]
  rcases hp with h | h | h | h <;> subst h <;> constructor <;> assumption
theorem Ords.off {d x e yy pb fs : Addr} (o : Ords d x e yy pb fs) {o1 o2 o3 o4 o5 o6 : Obj} : ∀ p ∈ ([(x, o1), (d, o2), (pb, o5), (fs, o6)] : Led), p.1 ∉ ([(yy, o3), (e, o4)] : Led).map (·.1) := by
  have h1 := o.dx; have h2 := o.xe; have h3 := o.ey; have h4 := o.yp; have h5 := o.pf
  refine off2 ?_ ?_ ?_ ?_ ?_ ?_ ?_ ?_ <;> (show (_ : Nat) ≠ _; first | lia | omega)
section
variable {w : World} {A : Around} {base h₀ : Heap} {L : Addr} {m : LM} {news : Led} {s : Shared} {Q E : PQ}
theorem rows10 : True := by
  k_with_none
  k_with "call type:type" => (((with_reducible show wpAny _ _ (call (Value.type "type") [Value.bytes _ _]) _ _ _); refine type_bytes ?_))
  exact trivial
theorem punct_get {y : PySem.Str} {z : Int} {t2 t3 : Tok} {n1 n2 n3 t1 : Tok} {nk vt : Nat → Tok} {x d yy e pb fs : Addr} {sv tv : PySem.Value} {ex : Bool} (c : Cx w base h₀ L m [(x, instObj 796 d), (d, dictOf [⟨PyData.keyHash w.params (PySem.Str.ofString "instream"), .str (PySem.Str.ofString "instream") (nk 0), .ref yy⟩, ⟨PyData.keyHash w.params (PySem.Str.ofString "infile"), .str (PySem.Str.ofString "infile") (nk 1), .none⟩, ⟨PyData.keyHash w.params (PySem.Str.ofString "posix"), .str (PySem.Str.ofString "posix") (nk 2), .bool true⟩, ⟨PyData.keyHash w.params (PySem.Str.ofString "eof"), .str (PySem.Str.ofString "eof") (nk 3), .none⟩, ⟨PyData.keyHash w.params (PySem.Str.ofString "commenters"), .str (PySem.Str.ofString "commenters") (nk 4), .str (PySem.Str.ofString "") (vt 4)⟩, ⟨PyData.keyHash w.params (PySem.Str.ofString "wordchars"), .str (PySem.Str.ofString "wordchars") (nk 5), .str (PySem.Str.ofString "abcdfeghijklmnopqrstuvwxyzABCDEFGHIJKLMNOPQRSTUVWXYZ0123456789_ßàáâãäåæçèéêëìíîïðñòóôõöøùúûüýþÿÀÁÂÃÄÅÆÇÈÉÊËÌÍÎÏÐÑÒÓÔÕÖØÙÚÛÜÝÞ") (vt 5)⟩, ⟨PyData.keyHash w.params (PySem.Str.ofString "whitespace"), .str (PySem.Str.ofString "whitespace") (nk 6), .str (PySem.Str.ofString " \t\r\n") (vt 6)⟩, ⟨PyData.keyHash w.params (PySem.Str.ofString "whitespace_split"), .str (PySem.Str.ofString "whitespace_split") (nk 7), .bool true⟩, ⟨PyData.keyHash w.params (PySem.Str.ofString "quotes"), .str (PySem.Str.ofString "quotes") (nk 8), .str (PySem.Str.ofString "'\"") (vt 8)⟩, ⟨PyData.keyHash w.params (PySem.Str.ofString "escape"), .str (PySem.Str.ofString "escape") (nk 9), .str (PySem.Str.ofString "\\") (vt 9)⟩, ⟨PyData.keyHash w.params (PySem.Str.ofString "escapedquotes"), .str (PySem.Str.ofString "escapedquotes") (nk 10), .str (PySem.Str.ofString "\"") (vt 10)⟩, ⟨PyData.keyHash w.params (PySem.Str.ofString "state"), .str (PySem.Str.ofString "state") (nk 11), sv⟩, ⟨PyData.keyHash w.params (PySem.Str.ofString "pushback"), .str (PySem.Str.ofString "pushback") (nk 12), .ref pb⟩, ⟨PyData.keyHash w.params (PySem.Str.ofString "lineno"), .str (PySem.Str.ofString "lineno") (nk 13), .int 1 (vt 13)⟩, ⟨PyData.keyHash w.params (PySem.Str.ofString "debug"), .str (PySem.Str.ofString "debug") (nk 14), .int 0 (vt 14)⟩, ⟨PyData.keyHash w.params (PySem.Str.ofString "token"), .str (PySem.Str.ofString "token") (nk 15), tv⟩, ⟨PyData.keyHash w.params (PySem.Str.ofString "filestack"), .str (PySem.Str.ofString "filestack") (nk 16), .ref fs⟩, ⟨PyData.keyHash w.params (PySem.Str.ofString "source"), .str (PySem.Str.ofString "source") (nk 17), .none⟩, ⟨PyData.keyHash w.params (PySem.Str.ofString "_punctuation_chars"), .str (PySem.Str.ofString "_punctuation_chars") (nk 18), .str (PySem.Str.ofString "") (vt 18)⟩] 19), (yy, instObj 703 e), (e, dictOf [⟨PyData.keyHash w.params (PySem.Str.ofString "_StringIO__newline"), .str (PySem.Str.ofString "_StringIO__newline") n1, .str (PySem.Str.ofString "\n") t1⟩, ⟨PyData.keyHash w.params (PySem.Str.ofString "_StringIO__buf"), .str (PySem.Str.ofString "_StringIO__buf") n2, .str y t2⟩, ⟨PyData.keyHash w.params (PySem.Str.ofString "_StringIO__pos"), .str (PySem.Str.ofString "_StringIO__pos") n3, .int z t3⟩] 3), (pb, dqObj), (fs, dqObj)] s.heap 8 80 A) (hret : ∀ t, Back h₀ L m [(x, instObj 796 d), (d, dictOf [⟨PyData.keyHash w.params (PySem.Str.ofString "instream"), .str (PySem.Str.ofString "instream") (nk 0), .ref yy⟩, ⟨PyData.keyHash w.params (PySem.Str.ofString "infile"), .str (PySem.Str.ofString "infile") (nk 1), .none⟩, ⟨PyData.keyHash w.params (PySem.Str.ofString "posix"), .str (PySem.Str.ofString "posix") (nk 2), .bool true⟩, ⟨PyData.keyHash w.params (PySem.Str.ofString "eof"), .str (PySem.Str.ofString "eof") (nk 3), .none⟩, ⟨PyData.keyHash w.params (PySem.Str.ofString "commenters"), .str (PySem.Str.ofString "commenters") (nk 4), .str (PySem.Str.ofString "") (vt 4)⟩, ⟨PyData.keyHash w.params (PySem.Str.ofString "wordchars"), .str (PySem.Str.ofString "wordchars") (nk 5), .str (PySem.Str.ofString "abcdfeghijklmnopqrstuvwxyzABCDEFGHIJKLMNOPQRSTUVWXYZ0123456789_ßàáâãäåæçèéêëìíîïðñòóôõöøùúûüýþÿÀÁÂÃÄÅÆÇÈÉÊËÌÍÎÏÐÑÒÓÔÕÖØÙÚÛÜÝÞ") (vt 5)⟩, ⟨PyData.keyHash w.params (PySem.Str.ofString "whitespace"), .str (PySem.Str.ofString "whitespace") (nk 6), .str (PySem.Str.ofString " \t\r\n") (vt 6)⟩, ⟨PyData.keyHash w.params (PySem.Str.ofString "whitespace_split"), .str (PySem.Str.ofString "whitespace_split") (nk 7), .bool true⟩, ⟨PyData.keyHash w.params (PySem.Str.ofString "quotes"), .str (PySem.Str.ofString "quotes") (nk 8), .str (PySem.Str.ofString "'\"") (vt 8)⟩, ⟨PyData.keyHash w.params (PySem.Str.ofString "escape"), .str (PySem.Str.ofString "escape") (nk 9), .str (PySem.Str.ofString "\\") (vt 9)⟩, ⟨PyData.keyHash w.params (PySem.Str.ofString "escapedquotes"), .str (PySem.Str.ofString "escapedquotes") (nk 10), .str (PySem.Str.ofString "\"") (vt 10)⟩, ⟨PyData.keyHash w.params (PySem.Str.ofString "state"), .str (PySem.Str.ofString "state") (nk 11), sv⟩, ⟨PyData.keyHash w.params (PySem.Str.ofString "pushback"), .str (PySem.Str.ofString "pushback") (nk 12), .ref pb⟩, ⟨PyData.keyHash w.params (PySem.Str.ofString "lineno"), .str (PySem.Str.ofString "lineno") (nk 13), .int 1 (vt 13)⟩, ⟨PyData.keyHash w.params (PySem.Str.ofString "debug"), .str (PySem.Str.ofString "debug") (nk 14), .int 0 (vt 14)⟩, ⟨PyData.keyHash w.params (PySem.Str.ofString "token"), .str (PySem.Str.ofString "token") (nk 15), tv⟩, ⟨PyData.keyHash w.params (PySem.Str.ofString "filestack"), .str (PySem.Str.ofString "filestack") (nk 16), .ref fs⟩, ⟨PyData.keyHash w.params (PySem.Str.ofString "source"), .str (PySem.Str.ofString "source") (nk 17), .none⟩, ⟨PyData.keyHash w.params (PySem.Str.ofString "_punctuation_chars"), .str (PySem.Str.ofString "_punctuation_chars") (nk 18), .str (PySem.Str.ofString "") (vt 18)⟩] 19), (yy, instObj 703 e), (e, dictOf [⟨PyData.keyHash w.params (PySem.Str.ofString "_StringIO__newline"), .str (PySem.Str.ofString "_StringIO__newline") n1, .str (PySem.Str.ofString "\n") t1⟩, ⟨PyData.keyHash w.params (PySem.Str.ofString "_StringIO__buf"), .str (PySem.Str.ofString "_StringIO__buf") n2, .str y t2⟩, ⟨PyData.keyHash w.params (PySem.Str.ofString "_StringIO__pos"), .str (PySem.Str.ofString "_StringIO__pos") n3, .int z t3⟩] 3), (pb, dqObj), (fs, dqObj)] s Q (.str (PySem.Str.ofString "") t)) :
    wpAny (model P0 w) A (getAttr (.ref x) (PySem.Str.ofString "punctuation_chars") ex) Q E s := by
  rcases c with ⟨dp, un, gd, cn, cs, a, ccd, cl, outer, A₀, lo, mean, mg, mb, B, F, X, N, T, hk, hd, hu⟩
  k_dflt (refine' get_prop ?k1 ?k2 ?k3 ?k4 ?k5 ?k6 ?k7 ?k8 ?k9 ?_; (case k1 => k_asm); (case k2 => k_asm); (case k3 => k_inst); (case k4 => k_is); (case k5 => k_is); (case k6 => k_is); (case k7 => k_is); (case k8 => k_is); (case k9 => k_is))
  k_dflt (refine' enterP [("self", .ref x)] [(x, instObj 796 d), (d, dictOf [⟨PyData.keyHash w.params (PySem.Str.ofString "instream"), .str (PySem.Str.ofString "instream") (nk 0), .ref yy⟩, ⟨PyData.keyHash w.params (PySem.Str.ofString "infile"), .str (PySem.Str.ofString "infile") (nk 1), .none⟩, ⟨PyData.keyHash w.params (PySem.Str.ofString "posix"), .str (PySem.Str.ofString "posix") (nk 2), .bool true⟩, ⟨PyData.keyHash w.params (PySem.Str.ofString "eof"), .str (PySem.Str.ofString "eof") (nk 3), .none⟩, ⟨PyData.keyHash w.params (PySem.Str.ofString "commenters"), .str (PySem.Str.ofString "commenters") (nk 4), .str (PySem.Str.ofString "") (vt 4)⟩, ⟨PyData.keyHash w.params (PySem.Str.ofString "wordchars"), .str (PySem.Str.ofString "wordchars") (nk 5), .str (PySem.Str.ofString "abcdfeghijklmnopqrstuvwxyzABCDEFGHIJKLMNOPQRSTUVWXYZ0123456789_ßàáâãäåæçèéêëìíîïðñòóôõöøùúûüýþÿÀÁÂÃÄÅÆÇÈÉÊËÌÍÎÏÐÑÒÓÔÕÖØÙÚÛÜÝÞ") (vt 5)⟩, ⟨PyData.keyHash w.params (PySem.Str.ofString "whitespace"), .str (PySem.Str.ofString "whitespace") (nk 6), .str (PySem.Str.ofString " \t\r\n") (vt 6)⟩, ⟨PyData.keyHash w.params (PySem.Str.ofString "whitespace_split"), .str (PySem.Str.ofString "whitespace_split") (nk 7), .bool true⟩, ⟨PyData.keyHash w.params (PySem.Str.ofString "quotes"), .str (PySem.Str.ofString "quotes") (nk 8), .str (PySem.Str.ofString "'\"") (vt 8)⟩, ⟨PyData.keyHash w.params (PySem.Str.ofString "escape"), .str (PySem.Str.ofString "escape") (nk 9), .str (PySem.Str.ofString "\\") (vt 9)⟩, ⟨PyData.keyHash w.params (PySem.Str.ofString "escapedquotes"), .str (PySem.Str.ofString "escapedquotes") (nk 10), .str (PySem.Str.ofString "\"") (vt 10)⟩, ⟨PyData.keyHash w.params (PySem.Str.ofString "state"), .str (PySem.Str.ofString "state") (nk 11), sv⟩, ⟨PyData.keyHash w.params (PySem.Str.ofString "pushback"), .str (PySem.Str.ofString "pushback") (nk 12), .ref pb⟩, ⟨PyData.keyHash w.params (PySem.Str.ofString "lineno"), .str (PySem.Str.ofString "lineno") (nk 13), .int 1 (vt 13)⟩, ⟨PyData.keyHash w.params (PySem.Str.ofString "debug"), .str (PySem.Str.ofString "debug") (nk 14), .int 0 (vt 14)⟩, ⟨PyData.keyHash w.params (PySem.Str.ofString "token"), .str (PySem.Str.ofString "token") (nk 15), tv⟩, ⟨PyData.keyHash w.params (PySem.Str.ofString "filestack"), .str (PySem.Str.ofString "filestack") (nk 16), .ref fs⟩, ⟨PyData.keyHash w.params (PySem.Str.ofString "source"), .str (PySem.Str.ofString "source") (nk 17), .none⟩, ⟨PyData.keyHash w.params (PySem.Str.ofString "_punctuation_chars"), .str (PySem.Str.ofString "_punctuation_chars") (nk 18), .str (PySem.Str.ofString "") (vt 18)⟩] 19), (yy, instObj 703 e), (e, dictOf [⟨PyData.keyHash w.params (PySem.Str.ofString "_StringIO__newline"), .str (PySem.Str.ofString "_StringIO__newline") n1, .str (PySem.Str.ofString "\n") t1⟩, ⟨PyData.keyHash w.params (PySem.Str.ofString "_StringIO__buf"), .str (PySem.Str.ofString "_StringIO__buf") n2, .str y t2⟩, ⟨PyData.keyHash w.params (PySem.Str.ofString "_StringIO__pos"), .str (PySem.Str.ofString "_StringIO__pos") n3, .int z t3⟩] 3), (pb, dqObj), (fs, dqObj)] [] ?k1 ?k2 ?k3 ?k4 ?k5 ?kA ?kF ?kK ?h1 ?h2 ?h3 ?k6 ?k7 ?k8 ?k9 ?kB ?c2 ?c3 ?c4 ?c5 ?kG)
  k_dflt ((case kA => exact rfl); (case kF => exact rfl); (case kK => first | exact rfl | assumption); (case k1 => k_asm); (case k2 => k_asm); (case k3 => k_asm); (case k4 => k_asm); (case k5 => k_asm); (case k6 => k_is); (case k7 => k_is); (case k8 => ktr_room); (case k9 => exact kp_binds (by k_in) (fun _ => by kernel_rfl)); (case kB => exact locs rfl); (case c2 => exact rfl); (case c3 => exact rfl); (case c4 => exact rfl); (case c5 => decide); (case h1 => exact fun _ h => h); (case h2 => exact fun _ h => nomatch h); (case h3 => exact fun _ h => nomatch h); (intro g' L' h' FG' F' N' B' X' T' R'); (try dsimp only [List.reverse_cons, List.reverse_nil, List.nil_append, List.cons_append] at F'); (try dsimp only); (try k_fold))
  k_steps
  exact wpAny_pure (hret _ _ _ (by k_asm) (by k_asm))
theorem lex_read {y : PySem.Str} {z : Int} {t2 t3 : Tok} {n1 n2 n3 t1 : Tok} {nk vt : Nat → Tok} {x d yy e pb fs : Addr} {sv tv : PySem.Value} {tk : Tok} (c : Cx w base h₀ L m [(x, instObj 796 d), (d, dictOf [⟨PyData.keyHash w.params (PySem.Str.ofString "instream"), .str (PySem.Str.ofString "instream") (nk 0), .ref yy⟩, ⟨PyData.keyHash w.params (PySem.Str.ofString "infile"), .str (PySem.Str.ofString "infile") (nk 1), .none⟩, ⟨PyData.keyHash w.params (PySem.Str.ofString "posix"), .str (PySem.Str.ofString "posix") (nk 2), .bool true⟩, ⟨PyData.keyHash w.params (PySem.Str.ofString "eof"), .str (PySem.Str.ofString "eof") (nk 3), .none⟩, ⟨PyData.keyHash w.params (PySem.Str.ofString "commenters"), .str (PySem.Str.ofString "commenters") (nk 4), .str (PySem.Str.ofString "") (vt 4)⟩, ⟨PyData.keyHash w.params (PySem.Str.ofString "wordchars"), .str (PySem.Str.ofString "wordchars") (nk 5), .str (PySem.Str.ofString "abcdfeghijklmnopqrstuvwxyzABCDEFGHIJKLMNOPQRSTUVWXYZ0123456789_ßàáâãäåæçèéêëìíîïðñòóôõöøùúûüýþÿÀÁÂÃÄÅÆÇÈÉÊËÌÍÎÏÐÑÒÓÔÕÖØÙÚÛÜÝÞ") (vt 5)⟩, ⟨PyData.keyHash w.params (PySem.Str.ofString "whitespace"), .str (PySem.Str.ofString "whitespace") (nk 6), .str (PySem.Str.ofString " \t\r\n") (vt 6)⟩, ⟨PyData.keyHash w.params (PySem.Str.ofString "whitespace_split"), .str (PySem.Str.ofString "whitespace_split") (nk 7), .bool true⟩, ⟨PyData.keyHash w.params (PySem.Str.ofString "quotes"), .str (PySem.Str.ofString "quotes") (nk 8), .str (PySem.Str.ofString "'\"") (vt 8)⟩, ⟨PyData.keyHash w.params (PySem.Str.ofString "escape"), .str (PySem.Str.ofString "escape") (nk 9), .str (PySem.Str.ofString "\\") (vt 9)⟩, ⟨PyData.keyHash w.params (PySem.Str.ofString "escapedquotes"), .str (PySem.Str.ofString "escapedquotes") (nk 10), .str (PySem.Str.ofString "\"") (vt 10)⟩, ⟨PyData.keyHash w.params (PySem.Str.ofString "state"), .str (PySem.Str.ofString "state") (nk 11), sv⟩, ⟨PyData.keyHash w.params (PySem.Str.ofString "pushback"), .str (PySem.Str.ofString "pushback") (nk 12), .ref pb⟩, ⟨PyData.keyHash w.params (PySem.Str.ofString "lineno"), .str (PySem.Str.ofString "lineno") (nk 13), .int 1 (vt 13)⟩, ⟨PyData.keyHash w.params (PySem.Str.ofString "debug"), .str (PySem.Str.ofString "debug") (nk 14), .int 0 (vt 14)⟩, ⟨PyData.keyHash w.params (PySem.Str.ofString "token"), .str (PySem.Str.ofString "token") (nk 15), tv⟩, ⟨PyData.keyHash w.params (PySem.Str.ofString "filestack"), .str (PySem.Str.ofString "filestack") (nk 16), .ref fs⟩, ⟨PyData.keyHash w.params (PySem.Str.ofString "source"), .str (PySem.Str.ofString "source") (nk 17), .none⟩, ⟨PyData.keyHash w.params (PySem.Str.ofString "_punctuation_chars"), .str (PySem.Str.ofString "_punctuation_chars") (nk 18), .str (PySem.Str.ofString "") (vt 18)⟩] 19), (yy, instObj 703 e), (e, dictOf [⟨PyData.keyHash w.params (PySem.Str.ofString "_StringIO__newline"), .str (PySem.Str.ofString "_StringIO__newline") n1, .str (PySem.Str.ofString "\n") t1⟩, ⟨PyData.keyHash w.params (PySem.Str.ofString "_StringIO__buf"), .str (PySem.Str.ofString "_StringIO__buf") n2, .str y t2⟩, ⟨PyData.keyHash w.params (PySem.Str.ofString "_StringIO__pos"), .str (PySem.Str.ofString "_StringIO__pos") n3, .int z t3⟩] 3), (pb, dqObj), (fs, dqObj)] s.heap 16 160 A) (o : Ords d x e yy pb fs) (hp : 0 ≤ z) (hq : z ≤ y.length) (hy : y.length ≤ 200) (hret0 : (y.length : Int) ≤ z → ∀ t, Back h₀ L m [(x, instObj 796 d), (d, dictOf [⟨PyData.keyHash w.params (PySem.Str.ofString "instream"), .str (PySem.Str.ofString "instream") (nk 0), .ref yy⟩, ⟨PyData.keyHash w.params (PySem.Str.ofString "infile"), .str (PySem.Str.ofString "infile") (nk 1), .none⟩, ⟨PyData.keyHash w.params (PySem.Str.ofString "posix"), .str (PySem.Str.ofString "posix") (nk 2), .bool true⟩, ⟨PyData.keyHash w.params (PySem.Str.ofString "eof"), .str (PySem.Str.ofString "eof") (nk 3), .none⟩, ⟨PyData.keyHash w.params (PySem.Str.ofString "commenters"), .str (PySem.Str.ofString "commenters") (nk 4), .str (PySem.Str.ofString "") (vt 4)⟩, ⟨PyData.keyHash w.params (PySem.Str.ofString "wordchars"), .str (PySem.Str.ofString "wordchars") (nk 5), .str (PySem.Str.ofString "abcdfeghijklmnopqrstuvwxyzABCDEFGHIJKLMNOPQRSTUVWXYZ0123456789_ßàáâãäåæçèéêëìíîïðñòóôõöøùúûüýþÿÀÁÂÃÄÅÆÇÈÉÊËÌÍÎÏÐÑÒÓÔÕÖØÙÚÛÜÝÞ") (vt 5)⟩, ⟨PyData.keyHash w.params (PySem.Str.ofString "whitespace"), .str (PySem.Str.ofString "whitespace") (nk 6), .str (PySem.Str.ofString " \t\r\n") (vt 6)⟩, ⟨PyData.keyHash w.params (PySem.Str.ofString "whitespace_split"), .str (PySem.Str.ofString "whitespace_split") (nk 7), .bool true⟩, ⟨PyData.keyHash w.params (PySem.Str.ofString "quotes"), .str (PySem.Str.ofString "quotes") (nk 8), .str (PySem.Str.ofString "'\"") (vt 8)⟩, ⟨PyData.keyHash w.params (PySem.Str.ofString "escape"), .str (PySem.Str.ofString "escape") (nk 9), .str (PySem.Str.ofString "\\") (vt 9)⟩, ⟨PyData.keyHash w.params (PySem.Str.ofString "escapedquotes"), .str (PySem.Str.ofString "escapedquotes") (nk 10), .str (PySem.Str.ofString "\"") (vt 10)⟩, ⟨PyData.keyHash w.params (PySem.Str.ofString "state"), .str (PySem.Str.ofString "state") (nk 11), sv⟩, ⟨PyData.keyHash w.params (PySem.Str.ofString "pushback"), .str (PySem.Str.ofString "pushback") (nk 12), .ref pb⟩, ⟨PyData.keyHash w.params (PySem.Str.ofString "lineno"), .str (PySem.Str.ofString "lineno") (nk 13), .int 1 (vt 13)⟩, ⟨PyData.keyHash w.params (PySem.Str.ofString "debug"), .str (PySem.Str.ofString "debug") (nk 14), .int 0 (vt 14)⟩, ⟨PyData.keyHash w.params (PySem.Str.ofString "token"), .str (PySem.Str.ofString "token") (nk 15), tv⟩, ⟨PyData.keyHash w.params (PySem.Str.ofString "filestack"), .str (PySem.Str.ofString "filestack") (nk 16), .ref fs⟩, ⟨PyData.keyHash w.params (PySem.Str.ofString "source"), .str (PySem.Str.ofString "source") (nk 17), .none⟩, ⟨PyData.keyHash w.params (PySem.Str.ofString "_punctuation_chars"), .str (PySem.Str.ofString "_punctuation_chars") (nk 18), .str (PySem.Str.ofString "") (vt 18)⟩] 19), (yy, instObj 703 e), (e, dictOf [⟨PyData.keyHash w.params (PySem.Str.ofString "_StringIO__newline"), .str (PySem.Str.ofString "_StringIO__newline") n1, .str (PySem.Str.ofString "\n") t1⟩, ⟨PyData.keyHash w.params (PySem.Str.ofString "_StringIO__buf"), .str (PySem.Str.ofString "_StringIO__buf") n2, .str y t2⟩, ⟨PyData.keyHash w.params (PySem.Str.ofString "_StringIO__pos"), .str (PySem.Str.ofString "_StringIO__pos") n3, .int z t3⟩] 3), (pb, dqObj), (fs, dqObj)] s Q (.str (PySem.Str.ofString "") t)) (hret1 : z < (y.length : Int) → ∀ e1, e1 = z + 1 → ∀ t t3', Back h₀ L m [(x, instObj 796 d), (d, dictOf [⟨PyData.keyHash w.params (PySem.Str.ofString "instream"), .str (PySem.Str.ofString "instream") (nk 0), .ref yy⟩, ⟨PyData.keyHash w.params (PySem.Str.ofString "infile"), .str (PySem.Str.ofString "infile") (nk 1), .none⟩, ⟨PyData.keyHash w.params (PySem.Str.ofString "posix"), .str (PySem.Str.ofString "posix") (nk 2), .bool true⟩, ⟨PyData.keyHash w.params (PySem.Str.ofString "eof"), .str (PySem.Str.ofString "eof") (nk 3), .none⟩, ⟨PyData.keyHash w.params (PySem.Str.ofString "commenters"), .str (PySem.Str.ofString "commenters") (nk 4), .str (PySem.Str.ofString "") (vt 4)⟩, ⟨PyData.keyHash w.params (PySem.Str.ofString "wordchars"), .str (PySem.Str.ofString "wordchars") (nk 5), .str (PySem.Str.ofString "abcdfeghijklmnopqrstuvwxyzABCDEFGHIJKLMNOPQRSTUVWXYZ0123456789_ßàáâãäåæçèéêëìíîïðñòóôõöøùúûüýþÿÀÁÂÃÄÅÆÇÈÉÊËÌÍÎÏÐÑÒÓÔÕÖØÙÚÛÜÝÞ") (vt 5)⟩, ⟨PyData.keyHash w.params (PySem.Str.ofString "whitespace"), .str (PySem.Str.ofString "whitespace") (nk 6), .str (PySem.Str.ofString " \t\r\n") (vt 6)⟩, ⟨PyData.keyHash w.params (PySem.Str.ofString "whitespace_split"), .str (PySem.Str.ofString "whitespace_split") (nk 7), .bool true⟩, ⟨PyData.keyHash w.params (PySem.Str.ofString "quotes"), .str (PySem.Str.ofString "quotes") (nk 8), .str (PySem.Str.ofString "'\"") (vt 8)⟩, ⟨PyData.keyHash w.params (PySem.Str.ofString "escape"), .str (PySem.Str.ofString "escape") (nk 9), .str (PySem.Str.ofString "\\") (vt 9)⟩, ⟨PyData.keyHash w.params (PySem.Str.ofString "escapedquotes"), .str (PySem.Str.ofString "escapedquotes") (nk 10), .str (PySem.Str.ofString "\"") (vt 10)⟩, ⟨PyData.keyHash w.params (PySem.Str.ofString "state"), .str (PySem.Str.ofString "state") (nk 11), sv⟩, ⟨PyData.keyHash w.params (PySem.Str.ofString "pushback"), .str (PySem.Str.ofString "pushback") (nk 12), .ref pb⟩, ⟨PyData.keyHash w.params (PySem.Str.ofString "lineno"), .str (PySem.Str.ofString "lineno") (nk 13), .int 1 (vt 13)⟩, ⟨PyData.keyHash w.params (PySem.Str.ofString "debug"), .str (PySem.Str.ofString "debug") (nk 14), .int 0 (vt 14)⟩, ⟨PyData.keyHash w.params (PySem.Str.ofString "token"), .str (PySem.Str.ofString "token") (nk 15), tv⟩, ⟨PyData.keyHash w.params (PySem.Str.ofString "filestack"), .str (PySem.Str.ofString "filestack") (nk 16), .ref fs⟩, ⟨PyData.keyHash w.params (PySem.Str.ofString "source"), .str (PySem.Str.ofString "source") (nk 17), .none⟩, ⟨PyData.keyHash w.params (PySem.Str.ofString "_punctuation_chars"), .str (PySem.Str.ofString "_punctuation_chars") (nk 18), .str (PySem.Str.ofString "") (vt 18)⟩] 19), (yy, instObj 703 e), (e, dictOf [⟨PyData.keyHash w.params (PySem.Str.ofString "_StringIO__newline"), .str (PySem.Str.ofString "_StringIO__newline") n1, .str (PySem.Str.ofString "\n") t1⟩, ⟨PyData.keyHash w.params (PySem.Str.ofString "_StringIO__buf"), .str (PySem.Str.ofString "_StringIO__buf") n2, .str y t2⟩, ⟨PyData.keyHash w.params (PySem.Str.ofString "_StringIO__pos"), .str (PySem.Str.ofString "_StringIO__pos") n3, .int e1 t3'⟩] 3), (pb, dqObj), (fs, dqObj)] s Q (.str (Txt.slice (Txt.slice y (some z) (some e1) ++ PySem.Str.ofString " ") none (some (-1))) t)) :
    wpAny (model P0 w) A (call (.ref 649) [.ref yy, .int 1 tk]) Q E s := by
  rcases c with ⟨dp, un, gd, cn, cs, a, ccd, cl, outer, A₀, lo, mean, mg, mb, B, F, X, N, T, hk, hd, hu⟩
  refine io_read (Cx.mk dp un gd cn cs a ccd cl outer A₀ lo mean mg mb B F X (News.fwd N) T hk (by omega) (by omega)) o.ey o.off hp hq hy (fun h t h' tk' F' N' => hret0 h t h' tk' F' (News.bwd N')) (fun h e1 he t t3' h' tk' F' N' => hret1 h e1 he t t3' h' tk' F' (News.bwd N'))
end
end
section
open PySem PySem.W PyProof.Rows PySem.Spec PySem.Calls
set_option maxRecDepth 100000
set_option maxHeartbeats 0
abbrev rtScope : Scope := ⟨.function, [("self", .local), ("quoted", .local), ("escapedstate", .local), ("nextchar", .local), ("result", .local), ("print", .globalImplicit), ("ValueError", .globalImplicit), ("repr", .globalImplicit)], false, false, []⟩
def whileBody : List Stmt → List Stmt
  | .While _ b _ _ :: _ => b
  | _ :: r => whileBody r
  | [] => []
noncomputable def rtBody : List Stmt := whileBody (defBody [42, 6])
/-- read_token's names at a turn's start -/
abbrev rtM (x : Addr) (te : Tok) (nv : Option PySem.Value) : LM := fun z => if z = "nextchar" then nv else if z = "escapedstate" then some (.str (PySem.Str.ofString " ") te) else if z = "quoted" then some (.bool false) else List.lookup z [("self", .ref x)]
theorem rt_next {h₀ h : Heap} {L x : Addr} {te : Tok} {nv : Option PySem.Value} {v : PySem.Value} (F : Fr h₀ L h (fun y => if y = PySem.Str.ofString "nextchar" then some v else rtM x te nv y)) : Fr h₀ L h (rtM x te (some v)) := by
  have e : (fun y => if y = PySem.Str.ofString "nextchar" then some v else rtM x te nv y) = rtM x te (some v) := by
    funext y
    unfold rtM
    by_cases hy : y = PySem.Str.ofString "nextchar"
    · simp [hy]
    · simp [hy]
  exact e ▸ F
theorem one_char {y : PySem.Str} {z e1 : Int} {c : Nat} (hz : 0 ≤ z) (hc : y.cps[z.toNat]? = some c) (he : e1 = z + 1) : Txt.slice (Txt.slice y (some z) (some e1) ++ PySem.Str.ofString " ") none (some (-1)) = ⟨#[c]⟩ := by
  subst he
  obtain ⟨h1, h2⟩ := Array.getElem?_eq_some_iff.mp hc
  have e := eq_of_beq (slice_closes (x := y) (i := z) (j := z + 1) ⟨hz, by omega, by rw [Array.length_toList]; omega⟩)
  have e2 : (y.cps.toList.drop z.toNat).take (z + 1 - z).toNat = [c] := by
    rw [show (z + 1 - z).toNat = 1 by omega, List.drop_eq_getElem_cons (by rw [Array.length_toList]; exact h1)]
    simp [h2]
  rw [e, e2]
  have e3 := eq_of_beq (slice_closes_to_neg (x := (⟨#[c]⟩ ++ PySem.Str.ofString " " : PySem.Str)) (j := -1) (k := 1) (by decide) (by show -((2 : Nat) : Int) ≤ -1; decide) rfl)
  rw [e3]
  rfl
theorem News.tl {h₀ h : Heap} {L : Addr} {a : Addr × Obj} {l : Led} (N : News h₀ L h (a :: l)) : News h₀ L h l := fun p hp => N p (List.mem_cons_of_mem _ hp)
abbrev has (x y : PySem.Str) : Bool := !(Builtin.Str.occurrences x y 0 x.length 1).isEmpty
section
variable {w : World} {A : Around} {s : Shared} {E : PQ} {x y : PySem.Str} {t u : Tok} {b : Bool} {Q : PQ}
theorem in_is (e : has x y = b) (h : Q (.bool b) s) : wpAny (model P0 w) A (compareOp .In (.str y u) (.str x t)) Q E s := PyProof.Rows.in_str (by rw [show (!(Builtin.Str.occurrences x y 0 x.length 1).isEmpty) = b from e]; exact h)
theorem notIn_is (e : has x y = b) (h : Q (.bool !b) s) : wpAny (model P0 w) A (compareOp .NotIn (.str y u) (.str x t)) Q E s := PyProof.Rows.notIn_str (by subst e; simpa only [has, Bool.not_not] using h)
theorem eq_is (e : (x == y) = b) (h : Q (.bool b) s) : wpAny (model P0 w) A (compareOp .Eq (.str x t) (.str y u)) Q E s := PyProof.Rows.eq_str (by rw [e]; exact h)
theorem ne_is (e : (x == y) = b) (h : Q (.bool !b) s) : wpAny (model P0 w) A (compareOp .NotEq (.str x t) (.str y u)) Q E s := PyProof.Rows.ne_str (by subst e; simpa only [bne] using h)
end
end
section
open PySem PySem.W PyProof.Rows PySem.Spec PySem.Calls
set_option maxRecDepth 100000
set_option maxHeartbeats 0
section
variable {w : World} {A : Around} {base h₀ : Heap} {L : Addr} {m : LM} {news : Led} {s : Shared} {Q E : PQ}
theorem rows11 : True := by
  k_with_none
  k_with "call type:type" => (((with_reducible show wpAny _ _ (call (Value.type "type") [Value.bytes _ _]) _ _ _); refine type_bytes ?_))
  k_with "compareOp In str str" => ((k_dflt (first | refine in_is (b := false) (by assumption) ?_ | refine in_is (b := true) (by assumption) ?_ | refine in_is (b := false) (by decide +kernel) ?_ | refine in_is (b := true) (by decide +kernel) ?_)))
  k_with "compareOp NotIn str str" => ((k_dflt (first | refine notIn_is (b := false) (by assumption) ?_ | refine notIn_is (b := true) (by assumption) ?_ | refine notIn_is (b := false) (by decide +kernel) ?_ | refine notIn_is (b := true) (by decide +kernel) ?_)))
  k_with "compareOp Eq str str" => ((k_dflt (first | refine eq_is (b := false) (by assumption) ?_ | refine eq_is (b := true) (by assumption) ?_ | refine eq_is (b := false) (by decide +kernel) ?_ | refine eq_is (b := true) (by decide +kernel) ?_)))
  k_with "truthy str" => (((with_reducible show wpAny _ _ (PySem.truthy (Value.str _ _)) _ _ _); k_dflt (first | refine KXt.truthy (b := true) (by assumption) (by size_fits) ?_ | refine KXt.truthy (b := false) (by assumption) (by size_fits) ?_ | refine KXt.truthy (b := false) (by decide +kernel) (by decide) ?_ | refine KXt.truthy (b := true) (by decide +kernel) (by decide) ?_); intro _))
  k_with "getAttr ref" => (((with_reducible show wpAny _ _ (getAttr _ (PySem.Str.ofString "punctuation_chars") _) _ _ _); k_dflt (refine' punct_get (Cx.mk _ _ _ _ _ _ _ _ _ _ _ _ _ _ ?b ?f ?x ?n ?t ?k ?d ?u) ?_; ((case b => k_asm); (case f => k_asm); (case x => k_asm); (case n => first | k_asm | exact News.tl (by k_asm)); (case t => k_asm); (case k => first | exact rfl | assumption); (case d => ktr_room); (case u => ktr_units)); (intro _ _ _ _ _))))
  k_with "call ref" => (((with_reducible show wpAny _ _ (call (Value.ref 649) _ _) _ _ _); k_dflt (refine' lex_read (Cx.mk _ _ _ _ _ _ _ _ _ _ _ _ _ _ ?b ?f ?x ?n ?t ?k ?d ?u) ?o1 ?o2 ?o3 ?o4 ?r0 ?_; ((case b => k_asm); (case f => k_asm); (case x => k_asm); (case n => first | k_asm | exact News.tl (by k_asm)); (case t => k_asm); (case k => first | exact rfl | assumption); (case d => ktr_room); (case u => ktr_units)); (case o1 => assumption); (case o2 => omega); (case o3 => omega); (case o4 => omega); (case r0 => exact fun zrhr => absurd zrhr (by omega)); (intro _ _ zrhe _ _ _ _ _ _; rw [one_char (by assumption) (by assumption) zrhe]; subst zrhe))))
  k_with "exec Expr" => (k_fold)
  k_with "exec AugAssign" => (k_fold)
  k_with "exec Assign" => (k_fold)
  k_with "exec If" => (k_fold)
  exact trivial
theorem turn_a_char {y : PySem.Str} {z : Int} {t2 t3 : Tok} {n1 n2 n3 t1 : Tok} {nk vt : Nat → Tok} {x d yy e pb fs : Addr} {c : Nat} {tok : PySem.Str} {ss tt : Tok} {te : Tok} {nv : Option PySem.Value} {dp un : Nat} {gd : Option (List Code)} {outer : List Env} {A₀ : Around} {lo : List PySem.Str} {mean : ExcName → Option PySem.Value} {mg mb : LM} {QF : Flow → Shared → Prop}
    (B : Below A₀ base outer h₀) (F : Fr h₀ L s.heap (rtM x te nv)) (X : (K w.params).In h₀) (N : News h₀ L s.heap [(x, instObj 796 d), (d, dictOf [⟨PyData.keyHash w.params (PySem.Str.ofString "instream"), .str (PySem.Str.ofString "instream") (nk 0), .ref yy⟩, ⟨PyData.keyHash w.params (PySem.Str.ofString "infile"), .str (PySem.Str.ofString "infile") (nk 1), .none⟩, ⟨PyData.keyHash w.params (PySem.Str.ofString "posix"), .str (PySem.Str.ofString "posix") (nk 2), .bool true⟩, ⟨PyData.keyHash w.params (PySem.Str.ofString "eof"), .str (PySem.Str.ofString "eof") (nk 3), .none⟩, ⟨PyData.keyHash w.params (PySem.Str.ofString "commenters"), .str (PySem.Str.ofString "commenters") (nk 4), .str (PySem.Str.ofString "") (vt 4)⟩, ⟨PyData.keyHash w.params (PySem.Str.ofString "wordchars"), .str (PySem.Str.ofString "wordchars") (nk 5), .str (PySem.Str.ofString "abcdfeghijklmnopqrstuvwxyzABCDEFGHIJKLMNOPQRSTUVWXYZ0123456789_ßàáâãäåæçèéêëìíîïðñòóôõöøùúûüýþÿÀÁÂÃÄÅÆÇÈÉÊËÌÍÎÏÐÑÒÓÔÕÖØÙÚÛÜÝÞ") (vt 5)⟩, ⟨PyData.keyHash w.params (PySem.Str.ofString "whitespace"), .str (PySem.Str.ofString "whitespace") (nk 6), .str (PySem.Str.ofString " \t\r\n") (vt 6)⟩, ⟨PyData.keyHash w.params (PySem.Str.ofString "whitespace_split"), .str (PySem.Str.ofString "whitespace_split") (nk 7), .bool true⟩, ⟨PyData.keyHash w.params (PySem.Str.ofString "quotes"), .str (PySem.Str.ofString "quotes") (nk 8), .str (PySem.Str.ofString "'\"") (vt 8)⟩, ⟨PyData.keyHash w.params (PySem.Str.ofString "escape"), .str (PySem.Str.ofString "escape") (nk 9), .str (PySem.Str.ofString "\\") (vt 9)⟩, ⟨PyData.keyHash w.params (PySem.Str.ofString "escapedquotes"), .str (PySem.Str.ofString "escapedquotes") (nk 10), .str (PySem.Str.ofString "\"") (vt 10)⟩, ⟨PyData.keyHash w.params (PySem.Str.ofString "state"), .str (PySem.Str.ofString "state") (nk 11), .str (PySem.Str.ofString "a") ss⟩, ⟨PyData.keyHash w.params (PySem.Str.ofString "pushback"), .str (PySem.Str.ofString "pushback") (nk 12), .ref pb⟩, ⟨PyData.keyHash w.params (PySem.Str.ofString "lineno"), .str (PySem.Str.ofString "lineno") (nk 13), .int 1 (vt 13)⟩, ⟨PyData.keyHash w.params (PySem.Str.ofString "debug"), .str (PySem.Str.ofString "debug") (nk 14), .int 0 (vt 14)⟩, ⟨PyData.keyHash w.params (PySem.Str.ofString "token"), .str (PySem.Str.ofString "token") (nk 15), .str tok tt⟩, ⟨PyData.keyHash w.params (PySem.Str.ofString "filestack"), .str (PySem.Str.ofString "filestack") (nk 16), .ref fs⟩, ⟨PyData.keyHash w.params (PySem.Str.ofString "source"), .str (PySem.Str.ofString "source") (nk 17), .none⟩, ⟨PyData.keyHash w.params (PySem.Str.ofString "_punctuation_chars"), .str (PySem.Str.ofString "_punctuation_chars") (nk 18), .str (PySem.Str.ofString "") (vt 18)⟩] 19), (yy, instObj 703 e), (e, dictOf [⟨PyData.keyHash w.params (PySem.Str.ofString "_StringIO__newline"), .str (PySem.Str.ofString "_StringIO__newline") n1, .str (PySem.Str.ofString "\n") t1⟩, ⟨PyData.keyHash w.params (PySem.Str.ofString "_StringIO__buf"), .str (PySem.Str.ofString "_StringIO__buf") n2, .str y t2⟩, ⟨PyData.keyHash w.params (PySem.Str.ofString "_StringIO__pos"), .str (PySem.Str.ofString "_StringIO__pos") n3, .int z t3⟩] 3), (pb, dqObj), (fs, dqObj)]) (T : Top q0 lo mean mg mb h₀) (hd : dp + 30 < recursionLimit) (hu : un + 300 < cLine) (o : Ords d x e yy pb fs) 
    (hp : 0 ≤ z) (hy : y.length ≤ 200) (hq : z < y.length) (hc : y.cps[z.toNat]? = some c) (hn : (⟨#[c]⟩ == PySem.Str.ofString "\n") = false) (hl : (((⟨#[c]⟩ : PySem.Str).length : Int) != 0) = true) (hws : has (PySem.Str.ofString " \t\r\n") ⟨#[c]⟩ = false) (hcm : has (PySem.Str.ofString "") ⟨#[c]⟩ = false) (hqu : has (PySem.Str.ofString "'\"") ⟨#[c]⟩ = false) (hes : has (PySem.Str.ofString "\\") ⟨#[c]⟩ = false) (htl : tok.length ≤ 200) 
    (hret : ∀ v t3' tt2 ss2 h' tk', Fr h₀ L h' (rtM x te (some v)) → News h₀ L h' [(x, instObj 796 d), (d, dictOf [⟨PyData.keyHash w.params (PySem.Str.ofString "instream"), .str (PySem.Str.ofString "instream") (nk 0), .ref yy⟩, ⟨PyData.keyHash w.params (PySem.Str.ofString "infile"), .str (PySem.Str.ofString "infile") (nk 1), .none⟩, ⟨PyData.keyHash w.params (PySem.Str.ofString "posix"), .str (PySem.Str.ofString "posix") (nk 2), .bool true⟩, ⟨PyData.keyHash w.params (PySem.Str.ofString "eof"), .str (PySem.Str.ofString "eof") (nk 3), .none⟩, ⟨PyData.keyHash w.params (PySem.Str.ofString "commenters"), .str (PySem.Str.ofString "commenters") (nk 4), .str (PySem.Str.ofString "") (vt 4)⟩, ⟨PyData.keyHash w.params (PySem.Str.ofString "wordchars"), .str (PySem.Str.ofString "wordchars") (nk 5), .str (PySem.Str.ofString "abcdfeghijklmnopqrstuvwxyzABCDEFGHIJKLMNOPQRSTUVWXYZ0123456789_ßàáâãäåæçèéêëìíîïðñòóôõöøùúûüýþÿÀÁÂÃÄÅÆÇÈÉÊËÌÍÎÏÐÑÒÓÔÕÖØÙÚÛÜÝÞ") (vt 5)⟩, ⟨PyData.keyHash w.params (PySem.Str.ofString "whitespace"), .str (PySem.Str.ofString "whitespace") (nk 6), .str (PySem.Str.ofString " \t\r\n") (vt 6)⟩, ⟨PyData.keyHash w.params (PySem.Str.ofString "whitespace_split"), .str (PySem.Str.ofString "whitespace_split") (nk 7), .bool true⟩, ⟨PyData.keyHash w.params (PySem.Str.ofString "quotes"), .str (PySem.Str.ofString "quotes") (nk 8), .str (PySem.Str.ofString "'\"") (vt 8)⟩, ⟨PyData.keyHash w.params (PySem.Str.ofString "escape"), .str (PySem.Str.ofString "escape") (nk 9), .str (PySem.Str.ofString "\\") (vt 9)⟩, ⟨PyData.keyHash w.params (PySem.Str.ofString "escapedquotes"), .str (PySem.Str.ofString "escapedquotes") (nk 10), .str (PySem.Str.ofString "\"") (vt 10)⟩, ⟨PyData.keyHash w.params (PySem.Str.ofString "state"), .str (PySem.Str.ofString "state") (nk 11), .str (PySem.Str.ofString "a") ss2⟩, ⟨PyData.keyHash w.params (PySem.Str.ofString "pushback"), .str (PySem.Str.ofString "pushback") (nk 12), .ref pb⟩, ⟨PyData.keyHash w.params (PySem.Str.ofString "lineno"), .str (PySem.Str.ofString "lineno") (nk 13), .int 1 (vt 13)⟩, ⟨PyData.keyHash w.params (PySem.Str.ofString "debug"), .str (PySem.Str.ofString "debug") (nk 14), .int 0 (vt 14)⟩, ⟨PyData.keyHash w.params (PySem.Str.ofString "token"), .str (PySem.Str.ofString "token") (nk 15), .str (tok ++ ⟨#[c]⟩) tt2⟩, ⟨PyData.keyHash w.params (PySem.Str.ofString "filestack"), .str (PySem.Str.ofString "filestack") (nk 16), .ref fs⟩, ⟨PyData.keyHash w.params (PySem.Str.ofString "source"), .str (PySem.Str.ofString "source") (nk 17), .none⟩, ⟨PyData.keyHash w.params (PySem.Str.ofString "_punctuation_chars"), .str (PySem.Str.ofString "_punctuation_chars") (nk 18), .str (PySem.Str.ofString "") (vt 18)⟩] 19), (yy, instObj 703 e), (e, dictOf [⟨PyData.keyHash w.params (PySem.Str.ofString "_StringIO__newline"), .str (PySem.Str.ofString "_StringIO__newline") n1, .str (PySem.Str.ofString "\n") t1⟩, ⟨PyData.keyHash w.params (PySem.Str.ofString "_StringIO__buf"), .str (PySem.Str.ofString "_StringIO__buf") n2, .str y t2⟩, ⟨PyData.keyHash w.params (PySem.Str.ofString "_StringIO__pos"), .str (PySem.Str.ofString "_StringIO__pos") n3, .int (z + 1) t3'⟩] 3), (pb, dqObj), (fs, dqObj)] → QF .next { s with heap := h', toks := tk' }) :
    wpAny (model P0 w) (ktrTop dp un gd (PySem.Str.ofString "shlex.read_token") rtScope L 764 (.ref 763) [] outer) (execs rtBody (envX (PySem.Str.ofString "shlex.read_token") rtScope L 764 (.ref 763) [])) QF E s := by
  obtain ⟨o1, o2, o3, o4, o5⟩ := id o
  k_steps
  all_goals first | exact hret _ _ _ _ _ _ (rt_next (by k_asm)) (by k_asm) | exact hret _ _ _ _ _ _ (rt_next (by k_asm)) (News.tl (by k_asm))
theorem turn_a_blank {y : PySem.Str} {z : Int} {t2 t3 : Tok} {n1 n2 n3 t1 : Tok} {nk vt : Nat → Tok} {x d yy e pb fs : Addr} {c : Nat} {tok : PySem.Str} {ss tt : Tok} {te : Tok} {nv : Option PySem.Value} {dp un : Nat} {gd : Option (List Code)} {outer : List Env} {A₀ : Around} {lo : List PySem.Str} {mean : ExcName → Option PySem.Value} {mg mb : LM} {QF : Flow → Shared → Prop}
    (B : Below A₀ base outer h₀) (F : Fr h₀ L s.heap (rtM x te nv)) (X : (K w.params).In h₀) (N : News h₀ L s.heap [(x, instObj 796 d), (d, dictOf [⟨PyData.keyHash w.params (PySem.Str.ofString "instream"), .str (PySem.Str.ofString "instream") (nk 0), .ref yy⟩, ⟨PyData.keyHash w.params (PySem.Str.ofString "infile"), .str (PySem.Str.ofString "infile") (nk 1), .none⟩, ⟨PyData.keyHash w.params (PySem.Str.ofString "posix"), .str (PySem.Str.ofString "posix") (nk 2), .bool true⟩, ⟨PyData.keyHash w.params (PySem.Str.ofString "eof"), .str (PySem.Str.ofString "eof") (nk 3), .none⟩, ⟨PyData.keyHash w.params (PySem.Str.ofString "commenters"), .str (PySem.Str.ofString "commenters") (nk 4), .str (PySem.Str.ofString "") (vt 4)⟩, ⟨PyData.keyHash w.params (PySem.Str.ofString "wordchars"), .str (PySem.Str.ofString "wordchars") (nk 5), .str (PySem.Str.ofString "abcdfeghijklmnopqrstuvwxyzABCDEFGHIJKLMNOPQRSTUVWXYZ0123456789_ßàáâãäåæçèéêëìíîïðñòóôõöøùúûüýþÿÀÁÂÃÄÅÆÇÈÉÊËÌÍÎÏÐÑÒÓÔÕÖØÙÚÛÜÝÞ") (vt 5)⟩, ⟨PyData.keyHash w.params (PySem.Str.ofString "whitespace"), .str (PySem.Str.ofString "whitespace") (nk 6), .str (PySem.Str.ofString " \t\r\n") (vt 6)⟩, ⟨PyData.keyHash w.params (PySem.Str.ofString "whitespace_split"), .str (PySem.Str.ofString "whitespace_split") (nk 7), .bool true⟩, ⟨PyData.keyHash w.params (PySem.Str.ofString "quotes"), .str (PySem.Str.ofString "quotes") (nk 8), .str (PySem.Str.ofString "'\"") (vt 8)⟩, ⟨PyData.keyHash w.params (PySem.Str.ofString "escape"), .str (PySem.Str.ofString "escape") (nk 9), .str (PySem.Str.ofString "\\") (vt 9)⟩, ⟨PyData.keyHash w.params (PySem.Str.ofString "escapedquotes"), .str (PySem.Str.ofString "escapedquotes") (nk 10), .str (PySem.Str.ofString "\"") (vt 10)⟩, ⟨PyData.keyHash w.params (PySem.Str.ofString "state"), .str (PySem.Str.ofString "state") (nk 11), .str (PySem.Str.ofString "a") ss⟩, ⟨PyData.keyHash w.params (PySem.Str.ofString "pushback"), .str (PySem.Str.ofString "pushback") (nk 12), .ref pb⟩, ⟨PyData.keyHash w.params (PySem.Str.ofString "lineno"), .str (PySem.Str.ofString "lineno") (nk 13), .int 1 (vt 13)⟩, ⟨PyData.keyHash w.params (PySem.Str.ofString "debug"), .str (PySem.Str.ofString "debug") (nk 14), .int 0 (vt 14)⟩, ⟨PyData.keyHash w.params (PySem.Str.ofString "token"), .str (PySem.Str.ofString "token") (nk 15), .str tok tt⟩, ⟨PyData.keyHash w.params (PySem.Str.ofString "filestack"), .str (PySem.Str.ofString "filestack") (nk 16), .ref fs⟩, ⟨PyData.keyHash w.params (PySem.Str.ofString "source"), .str (PySem.Str.ofString "source") (nk 17), .none⟩, ⟨PyData.keyHash w.params (PySem.Str.ofString "_punctuation_chars"), .str (PySem.Str.ofString "_punctuation_chars") (nk 18), .str (PySem.Str.ofString "") (vt 18)⟩] 19), (yy, instObj 703 e), (e, dictOf [⟨PyData.keyHash w.params (PySem.Str.ofString "_StringIO__newline"), .str (PySem.Str.ofString "_StringIO__newline") n1, .str (PySem.Str.ofString "\n") t1⟩, ⟨PyData.keyHash w.params (PySem.Str.ofString "_StringIO__buf"), .str (PySem.Str.ofString "_StringIO__buf") n2, .str y t2⟩, ⟨PyData.keyHash w.params (PySem.Str.ofString "_StringIO__pos"), .str (PySem.Str.ofString "_StringIO__pos") n3, .int z t3⟩] 3), (pb, dqObj), (fs, dqObj)]) (T : Top q0 lo mean mg mb h₀) (hd : dp + 30 < recursionLimit) (hu : un + 300 < cLine) (o : Ords d x e yy pb fs) 
    (hp : 0 ≤ z) (hy : y.length ≤ 200) (hq : z < y.length) (hc : y.cps[z.toNat]? = some c) (hn : (⟨#[c]⟩ == PySem.Str.ofString "\n") = false) (hl : (((⟨#[c]⟩ : PySem.Str).length : Int) != 0) = true) (hws : has (PySem.Str.ofString " \t\r\n") ⟨#[c]⟩ = true) (htl : tok.length ≤ 200) (ht : ((tok.length : Int) != 0) = true) 
    (hret : ∀ v t3' ss2 h' tk', Fr h₀ L h' (rtM x te (some v)) → News h₀ L h' [(x, instObj 796 d), (d, dictOf [⟨PyData.keyHash w.params (PySem.Str.ofString "instream"), .str (PySem.Str.ofString "instream") (nk 0), .ref yy⟩, ⟨PyData.keyHash w.params (PySem.Str.ofString "infile"), .str (PySem.Str.ofString "infile") (nk 1), .none⟩, ⟨PyData.keyHash w.params (PySem.Str.ofString "posix"), .str (PySem.Str.ofString "posix") (nk 2), .bool true⟩, ⟨PyData.keyHash w.params (PySem.Str.ofString "eof"), .str (PySem.Str.ofString "eof") (nk 3), .none⟩, ⟨PyData.keyHash w.params (PySem.Str.ofString "commenters"), .str (PySem.Str.ofString "commenters") (nk 4), .str (PySem.Str.ofString "") (vt 4)⟩, ⟨PyData.keyHash w.params (PySem.Str.ofString "wordchars"), .str (PySem.Str.ofString "wordchars") (nk 5), .str (PySem.Str.ofString "abcdfeghijklmnopqrstuvwxyzABCDEFGHIJKLMNOPQRSTUVWXYZ0123456789_ßàáâãäåæçèéêëìíîïðñòóôõöøùúûüýþÿÀÁÂÃÄÅÆÇÈÉÊËÌÍÎÏÐÑÒÓÔÕÖØÙÚÛÜÝÞ") (vt 5)⟩, ⟨PyData.keyHash w.params (PySem.Str.ofString "whitespace"), .str (PySem.Str.ofString "whitespace") (nk 6), .str (PySem.Str.ofString " \t\r\n") (vt 6)⟩, ⟨PyData.keyHash w.params (PySem.Str.ofString "whitespace_split"), .str (PySem.Str.ofString "whitespace_split") (nk 7), .bool true⟩, ⟨PyData.keyHash w.params (PySem.Str.ofString "quotes"), .str (PySem.Str.ofString "quotes") (nk 8), .str (PySem.Str.ofString "'\"") (vt 8)⟩, ⟨PyData.keyHash w.params (PySem.Str.ofString "escape"), .str (PySem.Str.ofString "escape") (nk 9), .str (PySem.Str.ofString "\\") (vt 9)⟩, ⟨PyData.keyHash w.params (PySem.Str.ofString "escapedquotes"), .str (PySem.Str.ofString "escapedquotes") (nk 10), .str (PySem.Str.ofString "\"") (vt 10)⟩, ⟨PyData.keyHash w.params (PySem.Str.ofString "state"), .str (PySem.Str.ofString "state") (nk 11), .str (PySem.Str.ofString " ") ss2⟩, ⟨PyData.keyHash w.params (PySem.Str.ofString "pushback"), .str (PySem.Str.ofString "pushback") (nk 12), .ref pb⟩, ⟨PyData.keyHash w.params (PySem.Str.ofString "lineno"), .str (PySem.Str.ofString "lineno") (nk 13), .int 1 (vt 13)⟩, ⟨PyData.keyHash w.params (PySem.Str.ofString "debug"), .str (PySem.Str.ofString "debug") (nk 14), .int 0 (vt 14)⟩, ⟨PyData.keyHash w.params (PySem.Str.ofString "token"), .str (PySem.Str.ofString "token") (nk 15), .str tok tt⟩, ⟨PyData.keyHash w.params (PySem.Str.ofString "filestack"), .str (PySem.Str.ofString "filestack") (nk 16), .ref fs⟩, ⟨PyData.keyHash w.params (PySem.Str.ofString "source"), .str (PySem.Str.ofString "source") (nk 17), .none⟩, ⟨PyData.keyHash w.params (PySem.Str.ofString "_punctuation_chars"), .str (PySem.Str.ofString "_punctuation_chars") (nk 18), .str (PySem.Str.ofString "") (vt 18)⟩] 19), (yy, instObj 703 e), (e, dictOf [⟨PyData.keyHash w.params (PySem.Str.ofString "_StringIO__newline"), .str (PySem.Str.ofString "_StringIO__newline") n1, .str (PySem.Str.ofString "\n") t1⟩, ⟨PyData.keyHash w.params (PySem.Str.ofString "_StringIO__buf"), .str (PySem.Str.ofString "_StringIO__buf") n2, .str y t2⟩, ⟨PyData.keyHash w.params (PySem.Str.ofString "_StringIO__pos"), .str (PySem.Str.ofString "_StringIO__pos") n3, .int (z + 1) t3'⟩] 3), (pb, dqObj), (fs, dqObj)] → QF .brk { s with heap := h', toks := tk' }) :
    wpAny (model P0 w) (ktrTop dp un gd (PySem.Str.ofString "shlex.read_token") rtScope L 764 (.ref 763) [] outer) (execs rtBody (envX (PySem.Str.ofString "shlex.read_token") rtScope L 764 (.ref 763) [])) QF E s := by
  obtain ⟨o1, o2, o3, o4, o5⟩ := id o
  k_steps
  all_goals first | exact hret _ _ _ _ _ (rt_next (by k_asm)) (by k_asm) | exact hret _ _ _ _ _ (rt_next (by k_asm)) (News.tl (by k_asm))
theorem turn_s_char {y : PySem.Str} {z : Int} {t2 t3 : Tok} {n1 n2 n3 t1 : Tok} {nk vt : Nat → Tok} {x d yy e pb fs : Addr} {c : Nat} {tok : PySem.Str} {ss tt : Tok} {te : Tok} {nv : Option PySem.Value} {dp un : Nat} {gd : Option (List Code)} {outer : List Env} {A₀ : Around} {lo : List PySem.Str} {mean : ExcName → Option PySem.Value} {mg mb : LM} {QF : Flow → Shared → Prop}
    (B : Below A₀ base outer h₀) (F : Fr h₀ L s.heap (rtM x te nv)) (X : (K w.params).In h₀) (N : News h₀ L s.heap [(x, instObj 796 d), (d, dictOf [⟨PyData.keyHash w.params (PySem.Str.ofString "instream"), .str (PySem.Str.ofString "instream") (nk 0), .ref yy⟩, ⟨PyData.keyHash w.params (PySem.Str.ofString "infile"), .str (PySem.Str.ofString "infile") (nk 1), .none⟩, ⟨PyData.keyHash w.params (PySem.Str.ofString "posix"), .str (PySem.Str.ofString "posix") (nk 2), .bool true⟩, ⟨PyData.keyHash w.params (PySem.Str.ofString "eof"), .str (PySem.Str.ofString "eof") (nk 3), .none⟩, ⟨PyData.keyHash w.params (PySem.Str.ofString "commenters"), .str (PySem.Str.ofString "commenters") (nk 4), .str (PySem.Str.ofString "") (vt 4)⟩, ⟨PyData.keyHash w.params (PySem.Str.ofString "wordchars"), .str (PySem.Str.ofString "wordchars") (nk 5), .str (PySem.Str.ofString "abcdfeghijklmnopqrstuvwxyzABCDEFGHIJKLMNOPQRSTUVWXYZ0123456789_ßàáâãäåæçèéêëìíîïðñòóôõöøùúûüýþÿÀÁÂÃÄÅÆÇÈÉÊËÌÍÎÏÐÑÒÓÔÕÖØÙÚÛÜÝÞ") (vt 5)⟩, ⟨PyData.keyHash w.params (PySem.Str.ofString "whitespace"), .str (PySem.Str.ofString "whitespace") (nk 6), .str (PySem.Str.ofString " \t\r\n") (vt 6)⟩, ⟨PyData.keyHash w.params (PySem.Str.ofString "whitespace_split"), .str (PySem.Str.ofString "whitespace_split") (nk 7), .bool true⟩, ⟨PyData.keyHash w.params (PySem.Str.ofString "quotes"), .str (PySem.Str.ofString "quotes") (nk 8), .str (PySem.Str.ofString "'\"") (vt 8)⟩, ⟨PyData.keyHash w.params (PySem.Str.ofString "escape"), .str (PySem.Str.ofString "escape") (nk 9), .str (PySem.Str.ofString "\\") (vt 9)⟩, ⟨PyData.keyHash w.params (PySem.Str.ofString "escapedquotes"), .str (PySem.Str.ofString "escapedquotes") (nk 10), .str (PySem.Str.ofString "\"") (vt 10)⟩, ⟨PyData.keyHash w.params (PySem.Str.ofString "state"), .str (PySem.Str.ofString "state") (nk 11), .str (PySem.Str.ofString " ") ss⟩, ⟨PyData.keyHash w.params (PySem.Str.ofString "pushback"), .str (PySem.Str.ofString "pushback") (nk 12), .ref pb⟩, ⟨PyData.keyHash w.params (PySem.Str.ofString "lineno"), .str (PySem.Str.ofString "lineno") (nk 13), .int 1 (vt 13)⟩, ⟨PyData.keyHash w.params (PySem.Str.ofString "debug"), .str (PySem.Str.ofString "debug") (nk 14), .int 0 (vt 14)⟩, ⟨PyData.keyHash w.params (PySem.Str.ofString "token"), .str (PySem.Str.ofString "token") (nk 15), .str tok tt⟩, ⟨PyData.keyHash w.params (PySem.Str.ofString "filestack"), .str (PySem.Str.ofString "filestack") (nk 16), .ref fs⟩, ⟨PyData.keyHash w.params (PySem.Str.ofString "source"), .str (PySem.Str.ofString "source") (nk 17), .none⟩, ⟨PyData.keyHash w.params (PySem.Str.ofString "_punctuation_chars"), .str (PySem.Str.ofString "_punctuation_chars") (nk 18), .str (PySem.Str.ofString "") (vt 18)⟩] 19), (yy, instObj 703 e), (e, dictOf [⟨PyData.keyHash w.params (PySem.Str.ofString "_StringIO__newline"), .str (PySem.Str.ofString "_StringIO__newline") n1, .str (PySem.Str.ofString "\n") t1⟩, ⟨PyData.keyHash w.params (PySem.Str.ofString "_StringIO__buf"), .str (PySem.Str.ofString "_StringIO__buf") n2, .str y t2⟩, ⟨PyData.keyHash w.params (PySem.Str.ofString "_StringIO__pos"), .str (PySem.Str.ofString "_StringIO__pos") n3, .int z t3⟩] 3), (pb, dqObj), (fs, dqObj)]) (T : Top q0 lo mean mg mb h₀) (hd : dp + 30 < recursionLimit) (hu : un + 300 < cLine) (o : Ords d x e yy pb fs) 
    (hp : 0 ≤ z) (hy : y.length ≤ 200) (hq : z < y.length) (hc : y.cps[z.toNat]? = some c) (hn : (⟨#[c]⟩ == PySem.Str.ofString "\n") = false) (hl : (((⟨#[c]⟩ : PySem.Str).length : Int) != 0) = true) (hws : has (PySem.Str.ofString " \t\r\n") ⟨#[c]⟩ = false) (hcm : has (PySem.Str.ofString "") ⟨#[c]⟩ = false) (hqu : has (PySem.Str.ofString "'\"") ⟨#[c]⟩ = false) (hes : has (PySem.Str.ofString "\\") ⟨#[c]⟩ = false) 
    (hret : ∀ v t3' tt2 ss2 h' tk', Fr h₀ L h' (rtM x te (some v)) → News h₀ L h' [(x, instObj 796 d), (d, dictOf [⟨PyData.keyHash w.params (PySem.Str.ofString "instream"), .str (PySem.Str.ofString "instream") (nk 0), .ref yy⟩, ⟨PyData.keyHash w.params (PySem.Str.ofString "infile"), .str (PySem.Str.ofString "infile") (nk 1), .none⟩, ⟨PyData.keyHash w.params (PySem.Str.ofString "posix"), .str (PySem.Str.ofString "posix") (nk 2), .bool true⟩, ⟨PyData.keyHash w.params (PySem.Str.ofString "eof"), .str (PySem.Str.ofString "eof") (nk 3), .none⟩, ⟨PyData.keyHash w.params (PySem.Str.ofString "commenters"), .str (PySem.Str.ofString "commenters") (nk 4), .str (PySem.Str.ofString "") (vt 4)⟩, ⟨PyData.keyHash w.params (PySem.Str.ofString "wordchars"), .str (PySem.Str.ofString "wordchars") (nk 5), .str (PySem.Str.ofString "abcdfeghijklmnopqrstuvwxyzABCDEFGHIJKLMNOPQRSTUVWXYZ0123456789_ßàáâãäåæçèéêëìíîïðñòóôõöøùúûüýþÿÀÁÂÃÄÅÆÇÈÉÊËÌÍÎÏÐÑÒÓÔÕÖØÙÚÛÜÝÞ") (vt 5)⟩, ⟨PyData.keyHash w.params (PySem.Str.ofString "whitespace"), .str (PySem.Str.ofString "whitespace") (nk 6), .str (PySem.Str.ofString " \t\r\n") (vt 6)⟩, ⟨PyData.keyHash w.params (PySem.Str.ofString "whitespace_split"), .str (PySem.Str.ofString "whitespace_split") (nk 7), .bool true⟩, ⟨PyData.keyHash w.params (PySem.Str.ofString "quotes"), .str (PySem.Str.ofString "quotes") (nk 8), .str (PySem.Str.ofString "'\"") (vt 8)⟩, ⟨PyData.keyHash w.params (PySem.Str.ofString "escape"), .str (PySem.Str.ofString "escape") (nk 9), .str (PySem.Str.ofString "\\") (vt 9)⟩, ⟨PyData.keyHash w.params (PySem.Str.ofString "escapedquotes"), .str (PySem.Str.ofString "escapedquotes") (nk 10), .str (PySem.Str.ofString "\"") (vt 10)⟩, ⟨PyData.keyHash w.params (PySem.Str.ofString "state"), .str (PySem.Str.ofString "state") (nk 11), .str (PySem.Str.ofString "a") ss2⟩, ⟨PyData.keyHash w.params (PySem.Str.ofString "pushback"), .str (PySem.Str.ofString "pushback") (nk 12), .ref pb⟩, ⟨PyData.keyHash w.params (PySem.Str.ofString "lineno"), .str (PySem.Str.ofString "lineno") (nk 13), .int 1 (vt 13)⟩, ⟨PyData.keyHash w.params (PySem.Str.ofString "debug"), .str (PySem.Str.ofString "debug") (nk 14), .int 0 (vt 14)⟩, ⟨PyData.keyHash w.params (PySem.Str.ofString "token"), .str (PySem.Str.ofString "token") (nk 15), .str ⟨#[c]⟩ tt2⟩, ⟨PyData.keyHash w.params (PySem.Str.ofString "filestack"), .str (PySem.Str.ofString "filestack") (nk 16), .ref fs⟩, ⟨PyData.keyHash w.params (PySem.Str.ofString "source"), .str (PySem.Str.ofString "source") (nk 17), .none⟩, ⟨PyData.keyHash w.params (PySem.Str.ofString "_punctuation_chars"), .str (PySem.Str.ofString "_punctuation_chars") (nk 18), .str (PySem.Str.ofString "") (vt 18)⟩] 19), (yy, instObj 703 e), (e, dictOf [⟨PyData.keyHash w.params (PySem.Str.ofString "_StringIO__newline"), .str (PySem.Str.ofString "_StringIO__newline") n1, .str (PySem.Str.ofString "\n") t1⟩, ⟨PyData.keyHash w.params (PySem.Str.ofString "_StringIO__buf"), .str (PySem.Str.ofString "_StringIO__buf") n2, .str y t2⟩, ⟨PyData.keyHash w.params (PySem.Str.ofString "_StringIO__pos"), .str (PySem.Str.ofString "_StringIO__pos") n3, .int (z + 1) t3'⟩] 3), (pb, dqObj), (fs, dqObj)] → QF .next { s with heap := h', toks := tk' }) :
    wpAny (model P0 w) (ktrTop dp un gd (PySem.Str.ofString "shlex.read_token") rtScope L 764 (.ref 763) [] outer) (execs rtBody (envX (PySem.Str.ofString "shlex.read_token") rtScope L 764 (.ref 763) [])) QF E s := by
  obtain ⟨o1, o2, o3, o4, o5⟩ := id o
  k_steps
  all_goals first | exact hret _ _ _ _ _ _ (rt_next (by k_asm)) (by k_asm) | exact hret _ _ _ _ _ _ (rt_next (by k_asm)) (News.tl (by k_asm))
end
section
variable {w : World} {A : Around} {base h₀ : Heap} {L : Addr} {m : LM} {news : Led} {s : Shared} {Q E : PQ}
theorem rows12 : True := by
  k_with_none
  k_with "call type:type" => (((with_reducible show wpAny _ _ (call (Value.type "type") [Value.bytes _ _]) _ _ _); refine type_bytes ?_))
  k_with "compareOp In str str" => ((k_dflt (first | refine in_is (b := false) (by assumption) ?_ | refine in_is (b := true) (by assumption) ?_ | refine in_is (b := false) (by decide +kernel) ?_ | refine in_is (b := true) (by decide +kernel) ?_)))
  k_with "compareOp NotIn str str" => ((k_dflt (first | refine notIn_is (b := false) (by assumption) ?_ | refine notIn_is (b := true) (by assumption) ?_ | refine notIn_is (b := false) (by decide +kernel) ?_ | refine notIn_is (b := true) (by decide +kernel) ?_)))
  k_with "compareOp Eq str str" => ((k_dflt (first | refine eq_is (b := false) (by assumption) ?_ | refine eq_is (b := true) (by assumption) ?_ | refine eq_is (b := false) (by decide +kernel) ?_ | refine eq_is (b := true) (by decide +kernel) ?_)))
  k_with "truthy str" => (((with_reducible show wpAny _ _ (PySem.truthy (Value.str _ _)) _ _ _); k_dflt (first | refine KXt.truthy (b := true) (by assumption) (by size_fits) ?_ | refine KXt.truthy (b := false) (by assumption) (by size_fits) ?_ | refine KXt.truthy (b := false) (by decide +kernel) (by decide) ?_ | refine KXt.truthy (b := true) (by decide +kernel) (by decide) ?_); intro _))
  k_with "getAttr ref" => (((with_reducible show wpAny _ _ (getAttr _ (PySem.Str.ofString "punctuation_chars") _) _ _ _); k_dflt (refine' punct_get (Cx.mk _ _ _ _ _ _ _ _ _ _ _ _ _ _ ?b ?f ?x ?n ?t ?k ?d ?u) ?_; ((case b => k_asm); (case f => k_asm); (case x => k_asm); (case n => first | k_asm | exact News.tl (by k_asm)); (case t => k_asm); (case k => first | exact rfl | assumption); (case d => ktr_room); (case u => ktr_units)); (intro _ _ _ _ _))))
  k_with "call ref" => (((with_reducible show wpAny _ _ (call (Value.ref 649) _ _) _ _ _); k_dflt (refine' lex_read (Cx.mk _ _ _ _ _ _ _ _ _ _ _ _ _ _ ?b ?f ?x ?n ?t ?k ?d ?u) ?o1 ?o2 ?o3 ?o4 ?r0 ?_; ((case b => k_asm); (case f => k_asm); (case x => k_asm); (case n => first | k_asm | exact News.tl (by k_asm)); (case t => k_asm); (case k => first | exact rfl | assumption); (case d => ktr_room); (case u => ktr_units)); (case o1 => assumption); (case o2 => omega); (case o3 => omega); (case o4 => omega); (case r0 => exact fun zrhr => absurd zrhr (by omega)); (intro _ _ zrhe _ _ _ _ _ _; rw [one_char (by assumption) (by assumption) zrhe]; subst zrhe))))
  k_with "exec Expr" => (k_fold)
  k_with "exec AugAssign" => (k_fold)
  k_with "exec Assign" => (k_fold)
  k_with "exec If" => (k_fold)
  k_with "call ref" => (((with_reducible show wpAny _ _ (call (Value.ref 649) _ _) _ _ _); k_dflt (refine' lex_read (Cx.mk _ _ _ _ _ _ _ _ _ _ _ _ _ _ ?b ?f ?x ?n ?t ?k ?d ?u) ?o1 ?o2 ?o3 ?o4 ?_ ?r1; ((case b => k_asm); (case f => k_asm); (case x => k_asm); (case n => first | k_asm | exact News.tl (by k_asm)); (case t => k_asm); (case k => first | exact rfl | assumption); (case d => ktr_room); (case u => ktr_units)); (case o1 => assumption); (case o2 => omega); (case o3 => omega); (case o4 => omega); (case r1 => exact fun zrhr => absurd zrhr (by omega)); (intro _ _ _ _ _ _))))
  exact trivial
theorem turn_a_eof {y : PySem.Str} {z : Int} {t2 t3 : Tok} {n1 n2 n3 t1 : Tok} {nk vt : Nat → Tok} {x d yy e pb fs : Addr} {tok : PySem.Str} {ss tt : Tok} {te : Tok} {nv : Option PySem.Value} {dp un : Nat} {gd : Option (List Code)} {outer : List Env} {A₀ : Around} {lo : List PySem.Str} {mean : ExcName → Option PySem.Value} {mg mb : LM} {QF : Flow → Shared → Prop}
    (B : Below A₀ base outer h₀) (F : Fr h₀ L s.heap (rtM x te nv)) (X : (K w.params).In h₀) (N : News h₀ L s.heap [(x, instObj 796 d), (d, dictOf [⟨PyData.keyHash w.params (PySem.Str.ofString "instream"), .str (PySem.Str.ofString "instream") (nk 0), .ref yy⟩, ⟨PyData.keyHash w.params (PySem.Str.ofString "infile"), .str (PySem.Str.ofString "infile") (nk 1), .none⟩, ⟨PyData.keyHash w.params (PySem.Str.ofString "posix"), .str (PySem.Str.ofString "posix") (nk 2), .bool true⟩, ⟨PyData.keyHash w.params (PySem.Str.ofString "eof"), .str (PySem.Str.ofString "eof") (nk 3), .none⟩, ⟨PyData.keyHash w.params (PySem.Str.ofString "commenters"), .str (PySem.Str.ofString "commenters") (nk 4), .str (PySem.Str.ofString "") (vt 4)⟩, ⟨PyData.keyHash w.params (PySem.Str.ofString "wordchars"), .str (PySem.Str.ofString "wordchars") (nk 5), .str (PySem.Str.ofString "abcdfeghijklmnopqrstuvwxyzABCDEFGHIJKLMNOPQRSTUVWXYZ0123456789_ßàáâãäåæçèéêëìíîïðñòóôõöøùúûüýþÿÀÁÂÃÄÅÆÇÈÉÊËÌÍÎÏÐÑÒÓÔÕÖØÙÚÛÜÝÞ") (vt 5)⟩, ⟨PyData.keyHash w.params (PySem.Str.ofString "whitespace"), .str (PySem.Str.ofString "whitespace") (nk 6), .str (PySem.Str.ofString " \t\r\n") (vt 6)⟩, ⟨PyData.keyHash w.params (PySem.Str.ofString "whitespace_split"), .str (PySem.Str.ofString "whitespace_split") (nk 7), .bool true⟩, ⟨PyData.keyHash w.params (PySem.Str.ofString "quotes"), .str (PySem.Str.ofString "quotes") (nk 8), .str (PySem.Str.ofString "'\"") (vt 8)⟩, ⟨PyData.keyHash w.params (PySem.Str.ofString "escape"), .str (PySem.Str.ofString "escape") (nk 9), .str (PySem.Str.ofString "\\") (vt 9)⟩, ⟨PyData.keyHash w.params (PySem.Str.ofString "escapedquotes"), .str (PySem.Str.ofString "escapedquotes") (nk 10), .str (PySem.Str.ofString "\"") (vt 10)⟩, ⟨PyData.keyHash w.params (PySem.Str.ofString "state"), .str (PySem.Str.ofString "state") (nk 11), .str (PySem.Str.ofString "a") ss⟩, ⟨PyData.keyHash w.params (PySem.Str.ofString "pushback"), .str (PySem.Str.ofString "pushback") (nk 12), .ref pb⟩, ⟨PyData.keyHash w.params (PySem.Str.ofString "lineno"), .str (PySem.Str.ofString "lineno") (nk 13), .int 1 (vt 13)⟩, ⟨PyData.keyHash w.params (PySem.Str.ofString "debug"), .str (PySem.Str.ofString "debug") (nk 14), .int 0 (vt 14)⟩, ⟨PyData.keyHash w.params (PySem.Str.ofString "token"), .str (PySem.Str.ofString "token") (nk 15), .str tok tt⟩, ⟨PyData.keyHash w.params (PySem.Str.ofString "filestack"), .str (PySem.Str.ofString "filestack") (nk 16), .ref fs⟩, ⟨PyData.keyHash w.params (PySem.Str.ofString "source"), .str (PySem.Str.ofString "source") (nk 17), .none⟩, ⟨PyData.keyHash w.params (PySem.Str.ofString "_punctuation_chars"), .str (PySem.Str.ofString "_punctuation_chars") (nk 18), .str (PySem.Str.ofString "") (vt 18)⟩] 19), (yy, instObj 703 e), (e, dictOf [⟨PyData.keyHash w.params (PySem.Str.ofString "_StringIO__newline"), .str (PySem.Str.ofString "_StringIO__newline") n1, .str (PySem.Str.ofString "\n") t1⟩, ⟨PyData.keyHash w.params (PySem.Str.ofString "_StringIO__buf"), .str (PySem.Str.ofString "_StringIO__buf") n2, .str y t2⟩, ⟨PyData.keyHash w.params (PySem.Str.ofString "_StringIO__pos"), .str (PySem.Str.ofString "_StringIO__pos") n3, .int z t3⟩] 3), (pb, dqObj), (fs, dqObj)]) (T : Top q0 lo mean mg mb h₀) (hd : dp + 30 < recursionLimit) (hu : un + 300 < cLine) (o : Ords d x e yy pb fs) 
    (hp : 0 ≤ z) (hy : y.length ≤ 200) (hq : z = y.length) (hem : (((PySem.Str.ofString "").length : Int) != 0) = false) 
    (hret : ∀ v  h' tk', Fr h₀ L h' (rtM x te (some v)) → News h₀ L h' [(x, instObj 796 d), (d, dictOf [⟨PyData.keyHash w.params (PySem.Str.ofString "instream"), .str (PySem.Str.ofString "instream") (nk 0), .ref yy⟩, ⟨PyData.keyHash w.params (PySem.Str.ofString "infile"), .str (PySem.Str.ofString "infile") (nk 1), .none⟩, ⟨PyData.keyHash w.params (PySem.Str.ofString "posix"), .str (PySem.Str.ofString "posix") (nk 2), .bool true⟩, ⟨PyData.keyHash w.params (PySem.Str.ofString "eof"), .str (PySem.Str.ofString "eof") (nk 3), .none⟩, ⟨PyData.keyHash w.params (PySem.Str.ofString "commenters"), .str (PySem.Str.ofString "commenters") (nk 4), .str (PySem.Str.ofString "") (vt 4)⟩, ⟨PyData.keyHash w.params (PySem.Str.ofString "wordchars"), .str (PySem.Str.ofString "wordchars") (nk 5), .str (PySem.Str.ofString "abcdfeghijklmnopqrstuvwxyzABCDEFGHIJKLMNOPQRSTUVWXYZ0123456789_ßàáâãäåæçèéêëìíîïðñòóôõöøùúûüýþÿÀÁÂÃÄÅÆÇÈÉÊËÌÍÎÏÐÑÒÓÔÕÖØÙÚÛÜÝÞ") (vt 5)⟩, ⟨PyData.keyHash w.params (PySem.Str.ofString "whitespace"), .str (PySem.Str.ofString "whitespace") (nk 6), .str (PySem.Str.ofString " \t\r\n") (vt 6)⟩, ⟨PyData.keyHash w.params (PySem.Str.ofString "whitespace_split"), .str (PySem.Str.ofString "whitespace_split") (nk 7), .bool true⟩, ⟨PyData.keyHash w.params (PySem.Str.ofString "quotes"), .str (PySem.Str.ofString "quotes") (nk 8), .str (PySem.Str.ofString "'\"") (vt 8)⟩, ⟨PyData.keyHash w.params (PySem.Str.ofString "escape"), .str (PySem.Str.ofString "escape") (nk 9), .str (PySem.Str.ofString "\\") (vt 9)⟩, ⟨PyData.keyHash w.params (PySem.Str.ofString "escapedquotes"), .str (PySem.Str.ofString "escapedquotes") (nk 10), .str (PySem.Str.ofString "\"") (vt 10)⟩, ⟨PyData.keyHash w.params (PySem.Str.ofString "state"), .str (PySem.Str.ofString "state") (nk 11), .none⟩, ⟨PyData.keyHash w.params (PySem.Str.ofString "pushback"), .str (PySem.Str.ofString "pushback") (nk 12), .ref pb⟩, ⟨PyData.keyHash w.params (PySem.Str.ofString "lineno"), .str (PySem.Str.ofString "lineno") (nk 13), .int 1 (vt 13)⟩, ⟨PyData.keyHash w.params (PySem.Str.ofString "debug"), .str (PySem.Str.ofString "debug") (nk 14), .int 0 (vt 14)⟩, ⟨PyData.keyHash w.params (PySem.Str.ofString "token"), .str (PySem.Str.ofString "token") (nk 15), .str tok tt⟩, ⟨PyData.keyHash w.params (PySem.Str.ofString "filestack"), .str (PySem.Str.ofString "filestack") (nk 16), .ref fs⟩, ⟨PyData.keyHash w.params (PySem.Str.ofString "source"), .str (PySem.Str.ofString "source") (nk 17), .none⟩, ⟨PyData.keyHash w.params (PySem.Str.ofString "_punctuation_chars"), .str (PySem.Str.ofString "_punctuation_chars") (nk 18), .str (PySem.Str.ofString "") (vt 18)⟩] 19), (yy, instObj 703 e), (e, dictOf [⟨PyData.keyHash w.params (PySem.Str.ofString "_StringIO__newline"), .str (PySem.Str.ofString "_StringIO__newline") n1, .str (PySem.Str.ofString "\n") t1⟩, ⟨PyData.keyHash w.params (PySem.Str.ofString "_StringIO__buf"), .str (PySem.Str.ofString "_StringIO__buf") n2, .str y t2⟩, ⟨PyData.keyHash w.params (PySem.Str.ofString "_StringIO__pos"), .str (PySem.Str.ofString "_StringIO__pos") n3, .int z t3⟩] 3), (pb, dqObj), (fs, dqObj)] → QF .brk { s with heap := h', toks := tk' }) :
    wpAny (model P0 w) (ktrTop dp un gd (PySem.Str.ofString "shlex.read_token") rtScope L 764 (.ref 763) [] outer) (execs rtBody (envX (PySem.Str.ofString "shlex.read_token") rtScope L 764 (.ref 763) [])) QF E s := by
  obtain ⟨o1, o2, o3, o4, o5⟩ := id o
  k_steps
  all_goals first | exact hret _ _ _ (rt_next (by k_asm)) (by k_asm) | exact hret _ _ _ (rt_next (by k_asm)) (News.tl (by k_asm))
theorem turn_n_eof {y : PySem.Str} {z : Int} {t2 t3 : Tok} {n1 n2 n3 t1 : Tok} {nk vt : Nat → Tok} {x d yy e pb fs : Addr} {tok : PySem.Str} {ss tt : Tok} {te : Tok} {nv : Option PySem.Value} {dp un : Nat} {gd : Option (List Code)} {outer : List Env} {A₀ : Around} {lo : List PySem.Str} {mean : ExcName → Option PySem.Value} {mg mb : LM} {QF : Flow → Shared → Prop}
    (B : Below A₀ base outer h₀) (F : Fr h₀ L s.heap (rtM x te nv)) (X : (K w.params).In h₀) (N : News h₀ L s.heap [(x, instObj 796 d), (d, dictOf [⟨PyData.keyHash w.params (PySem.Str.ofString "instream"), .str (PySem.Str.ofString "instream") (nk 0), .ref yy⟩, ⟨PyData.keyHash w.params (PySem.Str.ofString "infile"), .str (PySem.Str.ofString "infile") (nk 1), .none⟩, ⟨PyData.keyHash w.params (PySem.Str.ofString "posix"), .str (PySem.Str.ofString "posix") (nk 2), .bool true⟩, ⟨PyData.keyHash w.params (PySem.Str.ofString "eof"), .str (PySem.Str.ofString "eof") (nk 3), .none⟩, ⟨PyData.keyHash w.params (PySem.Str.ofString "commenters"), .str (PySem.Str.ofString "commenters") (nk 4), .str (PySem.Str.ofString "") (vt 4)⟩, ⟨PyData.keyHash w.params (PySem.Str.ofString "wordchars"), .str (PySem.Str.ofString "wordchars") (nk 5), .str (PySem.Str.ofString "abcdfeghijklmnopqrstuvwxyzABCDEFGHIJKLMNOPQRSTUVWXYZ0123456789_ßàáâãäåæçèéêëìíîïðñòóôõöøùúûüýþÿÀÁÂÃÄÅÆÇÈÉÊËÌÍÎÏÐÑÒÓÔÕÖØÙÚÛÜÝÞ") (vt 5)⟩, ⟨PyData.keyHash w.params (PySem.Str.ofString "whitespace"), .str (PySem.Str.ofString "whitespace") (nk 6), .str (PySem.Str.ofString " \t\r\n") (vt 6)⟩, ⟨PyData.keyHash w.params (PySem.Str.ofString "whitespace_split"), .str (PySem.Str.ofString "whitespace_split") (nk 7), .bool true⟩, ⟨PyData.keyHash w.params (PySem.Str.ofString "quotes"), .str (PySem.Str.ofString "quotes") (nk 8), .str (PySem.Str.ofString "'\"") (vt 8)⟩, ⟨PyData.keyHash w.params (PySem.Str.ofString "escape"), .str (PySem.Str.ofString "escape") (nk 9), .str (PySem.Str.ofString "\\") (vt 9)⟩, ⟨PyData.keyHash w.params (PySem.Str.ofString "escapedquotes"), .str (PySem.Str.ofString "escapedquotes") (nk 10), .str (PySem.Str.ofString "\"") (vt 10)⟩, ⟨PyData.keyHash w.params (PySem.Str.ofString "state"), .str (PySem.Str.ofString "state") (nk 11), .none⟩, ⟨PyData.keyHash w.params (PySem.Str.ofString "pushback"), .str (PySem.Str.ofString "pushback") (nk 12), .ref pb⟩, ⟨PyData.keyHash w.params (PySem.Str.ofString "lineno"), .str (PySem.Str.ofString "lineno") (nk 13), .int 1 (vt 13)⟩, ⟨PyData.keyHash w.params (PySem.Str.ofString "debug"), .str (PySem.Str.ofString "debug") (nk 14), .int 0 (vt 14)⟩, ⟨PyData.keyHash w.params (PySem.Str.ofString "token"), .str (PySem.Str.ofString "token") (nk 15), .str tok tt⟩, ⟨PyData.keyHash w.params (PySem.Str.ofString "filestack"), .str (PySem.Str.ofString "filestack") (nk 16), .ref fs⟩, ⟨PyData.keyHash w.params (PySem.Str.ofString "source"), .str (PySem.Str.ofString "source") (nk 17), .none⟩, ⟨PyData.keyHash w.params (PySem.Str.ofString "_punctuation_chars"), .str (PySem.Str.ofString "_punctuation_chars") (nk 18), .str (PySem.Str.ofString "") (vt 18)⟩] 19), (yy, instObj 703 e), (e, dictOf [⟨PyData.keyHash w.params (PySem.Str.ofString "_StringIO__newline"), .str (PySem.Str.ofString "_StringIO__newline") n1, .str (PySem.Str.ofString "\n") t1⟩, ⟨PyData.keyHash w.params (PySem.Str.ofString "_StringIO__buf"), .str (PySem.Str.ofString "_StringIO__buf") n2, .str y t2⟩, ⟨PyData.keyHash w.params (PySem.Str.ofString "_StringIO__pos"), .str (PySem.Str.ofString "_StringIO__pos") n3, .int z t3⟩] 3), (pb, dqObj), (fs, dqObj)]) (T : Top q0 lo mean mg mb h₀) (hd : dp + 30 < recursionLimit) (hu : un + 300 < cLine) (o : Ords d x e yy pb fs) 
    (hp : 0 ≤ z) (hy : y.length ≤ 200) (hq : z = y.length) (hem : (((PySem.Str.ofString "").length : Int) != 0) = false) 
    (hret : ∀ v tt2 h' tk', Fr h₀ L h' (rtM x te (some v)) → News h₀ L h' [(x, instObj 796 d), (d, dictOf [⟨PyData.keyHash w.params (PySem.Str.ofString "instream"), .str (PySem.Str.ofString "instream") (nk 0), .ref yy⟩, ⟨PyData.keyHash w.params (PySem.Str.ofString "infile"), .str (PySem.Str.ofString "infile") (nk 1), .none⟩, ⟨PyData.keyHash w.params (PySem.Str.ofString "posix"), .str (PySem.Str.ofString "posix") (nk 2), .bool true⟩, ⟨PyData.keyHash w.params (PySem.Str.ofString "eof"), .str (PySem.Str.ofString "eof") (nk 3), .none⟩, ⟨PyData.keyHash w.params (PySem.Str.ofString "commenters"), .str (PySem.Str.ofString "commenters") (nk 4), .str (PySem.Str.ofString "") (vt 4)⟩, ⟨PyData.keyHash w.params (PySem.Str.ofString "wordchars"), .str (PySem.Str.ofString "wordchars") (nk 5), .str (PySem.Str.ofString "abcdfeghijklmnopqrstuvwxyzABCDEFGHIJKLMNOPQRSTUVWXYZ0123456789_ßàáâãäåæçèéêëìíîïðñòóôõöøùúûüýþÿÀÁÂÃÄÅÆÇÈÉÊËÌÍÎÏÐÑÒÓÔÕÖØÙÚÛÜÝÞ") (vt 5)⟩, ⟨PyData.keyHash w.params (PySem.Str.ofString "whitespace"), .str (PySem.Str.ofString "whitespace") (nk 6), .str (PySem.Str.ofString " \t\r\n") (vt 6)⟩, ⟨PyData.keyHash w.params (PySem.Str.ofString "whitespace_split"), .str (PySem.Str.ofString "whitespace_split") (nk 7), .bool true⟩, ⟨PyData.keyHash w.params (PySem.Str.ofString "quotes"), .str (PySem.Str.ofString "quotes") (nk 8), .str (PySem.Str.ofString "'\"") (vt 8)⟩, ⟨PyData.keyHash w.params (PySem.Str.ofString "escape"), .str (PySem.Str.ofString "escape") (nk 9), .str (PySem.Str.ofString "\\") (vt 9)⟩, ⟨PyData.keyHash w.params (PySem.Str.ofString "escapedquotes"), .str (PySem.Str.ofString "escapedquotes") (nk 10), .str (PySem.Str.ofString "\"") (vt 10)⟩, ⟨PyData.keyHash w.params (PySem.Str.ofString "state"), .str (PySem.Str.ofString "state") (nk 11), .none⟩, ⟨PyData.keyHash w.params (PySem.Str.ofString "pushback"), .str (PySem.Str.ofString "pushback") (nk 12), .ref pb⟩, ⟨PyData.keyHash w.params (PySem.Str.ofString "lineno"), .str (PySem.Str.ofString "lineno") (nk 13), .int 1 (vt 13)⟩, ⟨PyData.keyHash w.params (PySem.Str.ofString "debug"), .str (PySem.Str.ofString "debug") (nk 14), .int 0 (vt 14)⟩, ⟨PyData.keyHash w.params (PySem.Str.ofString "token"), .str (PySem.Str.ofString "token") (nk 15), .str (PySem.Str.ofString "") tt2⟩, ⟨PyData.keyHash w.params (PySem.Str.ofString "filestack"), .str (PySem.Str.ofString "filestack") (nk 16), .ref fs⟩, ⟨PyData.keyHash w.params (PySem.Str.ofString "source"), .str (PySem.Str.ofString "source") (nk 17), .none⟩, ⟨PyData.keyHash w.params (PySem.Str.ofString "_punctuation_chars"), .str (PySem.Str.ofString "_punctuation_chars") (nk 18), .str (PySem.Str.ofString "") (vt 18)⟩] 19), (yy, instObj 703 e), (e, dictOf [⟨PyData.keyHash w.params (PySem.Str.ofString "_StringIO__newline"), .str (PySem.Str.ofString "_StringIO__newline") n1, .str (PySem.Str.ofString "\n") t1⟩, ⟨PyData.keyHash w.params (PySem.Str.ofString "_StringIO__buf"), .str (PySem.Str.ofString "_StringIO__buf") n2, .str y t2⟩, ⟨PyData.keyHash w.params (PySem.Str.ofString "_StringIO__pos"), .str (PySem.Str.ofString "_StringIO__pos") n3, .int z t3⟩] 3), (pb, dqObj), (fs, dqObj)] → QF .brk { s with heap := h', toks := tk' }) :
    wpAny (model P0 w) (ktrTop dp un gd (PySem.Str.ofString "shlex.read_token") rtScope L 764 (.ref 763) [] outer) (execs rtBody (envX (PySem.Str.ofString "shlex.read_token") rtScope L 764 (.ref 763) [])) QF E s := by
  obtain ⟨o1, o2, o3, o4, o5⟩ := id o
  k_steps
  all_goals first | exact hret _ _ _ _ (rt_next (by k_asm)) (by k_asm) | exact hret _ _ _ _ (rt_next (by k_asm)) (News.tl (by k_asm))
end
end
section
open PySem PySem.W PyProof.Rows PySem.Spec PySem.Calls
set_option maxRecDepth 100000
set_option maxHeartbeats 0
/-- a sign of a word, as the lexer meets it -/
structure SignC (c : Nat) : Prop where
  n : ((⟨#[c]⟩ : PySem.Str) == PySem.Str.ofString "\n") = false
  ws : has (PySem.Str.ofString " \t\r\n") ⟨#[c]⟩ = false
  cm : has (PySem.Str.ofString "") ⟨#[c]⟩ = false
  qu : has (PySem.Str.ofString "'\"") ⟨#[c]⟩ = false
  es : has (PySem.Str.ofString "\\") ⟨#[c]⟩ = false
theorem snoc_str (pre : List Nat) (c : Nat) : (⟨pre.toArray⟩ : PySem.Str) ++ ⟨#[c]⟩ = ⟨(pre ++ [c]).toArray⟩ := by
  show (PySem.Str.mk _) = _
  congr 1
  simp
theorem at_drop {y : PySem.Str} {n : Nat} {c : Nat} {r : List Nat} (h : y.cps.toList.drop n = c :: r) : y.cps[n]? = some c ∧ n < y.length ∧ y.cps.toList.drop (n + 1) = r := by
  have h1 : n < y.cps.toList.length := by
    rcases Nat.lt_or_ge n y.cps.toList.length with h' | h'
    · exact h'
    · rw [List.drop_eq_nil_of_le h'] at h; cases h
  rw [List.drop_eq_getElem_cons h1] at h
  injection h with h2 h3
  exact ⟨by rw [← Array.getElem?_toList, List.getElem?_eq_getElem h1, h2], (Array.length_toList ▸ h1 : n < y.cps.size), h3⟩
theorem drop_end {y : PySem.Str} {n : Nat} (h : y.cps.toList.drop n = []) (hn : n ≤ y.length) : n = y.length := by
  have := List.drop_eq_nil_iff.mp h
  rw [Array.length_toList] at this
  exact Nat.le_antisymm hn this
section
variable {w : World} {A : Around} {base h₀ : Heap} {L : Addr} {m : LM} {news : Led} {s : Shared} {Q E : PQ}
inductive RtJ (w : World) (h₀ : Heap) (L : Addr) (s : Shared) (W : List Nat) (y : PySem.Str) (z : Int) (te t1 t2 n1 n2 n3 : Tok) (nk vt : Nat → Tok) (x d yy e pb fs : Addr) (n : Nat) (s' : Shared) : Prop
  | mk (pre post : List Nat) (v : PySem.Value) (t3' tt2 ss2 : Tok) (h' : Heap) (tk' : Nat) (h1 : n = post.length) (h2 : post.length < W.length) (h3 : W = pre ++ post) (h4 : s' = { s with heap := h', toks := tk' }) (h5 : Fr h₀ L h' (rtM x te (some v))) (h6 : News h₀ L h' [(x, instObj 796 d), (d, dictOf [⟨PyData.keyHash w.params (PySem.Str.ofString "instream"), .str (PySem.Str.ofString "instream") (nk 0), .ref yy⟩, ⟨PyData.keyHash w.params (PySem.Str.ofString "infile"), .str (PySem.Str.ofString "infile") (nk 1), .none⟩, ⟨PyData.keyHash w.params (PySem.Str.ofString "posix"), .str (PySem.Str.ofString "posix") (nk 2), .bool true⟩, ⟨PyData.keyHash w.params (PySem.Str.ofString "eof"), .str (PySem.Str.ofString "eof") (nk 3), .none⟩, ⟨PyData.keyHash w.params (PySem.Str.ofString "commenters"), .str (PySem.Str.ofString "commenters") (nk 4), .str (PySem.Str.ofString "") (vt 4)⟩, ⟨PyData.keyHash w.params (PySem.Str.ofString "wordchars"), .str (PySem.Str.ofString "wordchars") (nk 5), .str (PySem.Str.ofString "abcdfeghijklmnopqrstuvwxyzABCDEFGHIJKLMNOPQRSTUVWXYZ0123456789_ßàáâãäåæçèéêëìíîïðñòóôõöøùúûüýþÿÀÁÂÃÄÅÆÇÈÉÊËÌÍÎÏÐÑÒÓÔÕÖØÙÚÛÜÝÞ") (vt 5)⟩, ⟨PyData.keyHash w.params (PySem.Str.ofString "whitespace"), .str (PySem.Str.ofString "whitespace") (nk 6), .str (PySem.Str.ofString " \t\r\n") (vt 6)⟩, ⟨PyData.keyHash w.params (PySem.Str.ofString "whitespace_split"), .str (PySem.Str.ofString "whitespace_split") (nk 7), .bool true⟩, ⟨PyData.keyHash w.params (PySem.Str.ofString "quotes"), .str (PySem.Str.ofString "quotes") (nk 8), .str (PySem.Str.ofString "'\"") (vt 8)⟩, ⟨PyData.keyHash w.params (PySem.Str.ofString "escape"), .str (PySem.Str.ofString "escape") (nk 9), .str (PySem.Str.ofString "\\") (vt 9)⟩, ⟨PyData.keyHash w.params (PySem.Str.ofString "escapedquotes"), .str (PySem.Str.ofString "escapedquotes") (nk 10), .str (PySem.Str.ofString "\"") (vt 10)⟩, ⟨PyData.keyHash w.params (PySem.Str.ofString "state"), .str (PySem.Str.ofString "state") (nk 11), .str (PySem.Str.ofString "a") ss2⟩, ⟨PyData.keyHash w.params (PySem.Str.ofString "pushback"), .str (PySem.Str.ofString "pushback") (nk 12), .ref pb⟩, ⟨PyData.keyHash w.params (PySem.Str.ofString "lineno"), .str (PySem.Str.ofString "lineno") (nk 13), .int 1 (vt 13)⟩, ⟨PyData.keyHash w.params (PySem.Str.ofString "debug"), .str (PySem.Str.ofString "debug") (nk 14), .int 0 (vt 14)⟩, ⟨PyData.keyHash w.params (PySem.Str.ofString "token"), .str (PySem.Str.ofString "token") (nk 15), .str ⟨pre.toArray⟩ tt2⟩, ⟨PyData.keyHash w.params (PySem.Str.ofString "filestack"), .str (PySem.Str.ofString "filestack") (nk 16), .ref fs⟩, ⟨PyData.keyHash w.params (PySem.Str.ofString "source"), .str (PySem.Str.ofString "source") (nk 17), .none⟩, ⟨PyData.keyHash w.params (PySem.Str.ofString "_punctuation_chars"), .str (PySem.Str.ofString "_punctuation_chars") (nk 18), .str (PySem.Str.ofString "") (vt 18)⟩] 19), (yy, instObj 703 e), (e, dictOf [⟨PyData.keyHash w.params (PySem.Str.ofString "_StringIO__newline"), .str (PySem.Str.ofString "_StringIO__newline") n1, .str (PySem.Str.ofString "\n") t1⟩, ⟨PyData.keyHash w.params (PySem.Str.ofString "_StringIO__buf"), .str (PySem.Str.ofString "_StringIO__buf") n2, .str y t2⟩, ⟨PyData.keyHash w.params (PySem.Str.ofString "_StringIO__pos"), .str (PySem.Str.ofString "_StringIO__pos") n3, .int (z + pre.length) t3'⟩] 3), (pb, dqObj), (fs, dqObj)]) : RtJ w h₀ L s W y z te t1 t2 n1 n2 n3 nk vt x d yy e pb fs n s'
theorem rt_loop {y : PySem.Str} {z : Int} {t2 t3 : Tok} {n1 n2 n3 t1 : Tok} {nk vt : Nat → Tok} {x d yy e pb fs : Addr} {tok : PySem.Str} {ss tt : Tok} {W tail : List Nat} {te : Tok} {nv : Option PySem.Value} {dp un : Nat} {gd : Option (List Code)} {outer : List Env} {A₀ : Around} {lo : List PySem.Str} {mean : ExcName → Option PySem.Value} {mg mb : LM} {QF : Flow → Shared → Prop} {p p' : Pos} {bd : List Stmt} (hb : bd = rtBody)
    (B : Below A₀ base outer h₀) (F : Fr h₀ L s.heap (rtM x te nv)) (X : (K w.params).In h₀) (N : News h₀ L s.heap [(x, instObj 796 d), (d, dictOf [⟨PyData.keyHash w.params (PySem.Str.ofString "instream"), .str (PySem.Str.ofString "instream") (nk 0), .ref yy⟩, ⟨PyData.keyHash w.params (PySem.Str.ofString "infile"), .str (PySem.Str.ofString "infile") (nk 1), .none⟩, ⟨PyData.keyHash w.params (PySem.Str.ofString "posix"), .str (PySem.Str.ofString "posix") (nk 2), .bool true⟩, ⟨PyData.keyHash w.params (PySem.Str.ofString "eof"), .str (PySem.Str.ofString "eof") (nk 3), .none⟩, ⟨PyData.keyHash w.params (PySem.Str.ofString "commenters"), .str (PySem.Str.ofString "commenters") (nk 4), .str (PySem.Str.ofString "") (vt 4)⟩, ⟨PyData.keyHash w.params (PySem.Str.ofString "wordchars"), .str (PySem.Str.ofString "wordchars") (nk 5), .str (PySem.Str.ofString "abcdfeghijklmnopqrstuvwxyzABCDEFGHIJKLMNOPQRSTUVWXYZ0123456789_ßàáâãäåæçèéêëìíîïðñòóôõöøùúûüýþÿÀÁÂÃÄÅÆÇÈÉÊËÌÍÎÏÐÑÒÓÔÕÖØÙÚÛÜÝÞ") (vt 5)⟩, ⟨PyData.keyHash w.params (PySem.Str.ofString "whitespace"), .str (PySem.Str.ofString "whitespace") (nk 6), .str (PySem.Str.ofString " \t\r\n") (vt 6)⟩, ⟨PyData.keyHash w.params (PySem.Str.ofString "whitespace_split"), .str (PySem.Str.ofString "whitespace_split") (nk 7), .bool true⟩, ⟨PyData.keyHash w.params (PySem.Str.ofString "quotes"), .str (PySem.Str.ofString "quotes") (nk 8), .str (PySem.Str.ofString "'\"") (vt 8)⟩, ⟨PyData.keyHash w.params (PySem.Str.ofString "escape"), .str (PySem.Str.ofString "escape") (nk 9), .str (PySem.Str.ofString "\\") (vt 9)⟩, ⟨PyData.keyHash w.params (PySem.Str.ofString "escapedquotes"), .str (PySem.Str.ofString "escapedquotes") (nk 10), .str (PySem.Str.ofString "\"") (vt 10)⟩, ⟨PyData.keyHash w.params (PySem.Str.ofString "state"), .str (PySem.Str.ofString "state") (nk 11), .str (PySem.Str.ofString " ") ss⟩, ⟨PyData.keyHash w.params (PySem.Str.ofString "pushback"), .str (PySem.Str.ofString "pushback") (nk 12), .ref pb⟩, ⟨PyData.keyHash w.params (PySem.Str.ofString "lineno"), .str (PySem.Str.ofString "lineno") (nk 13), .int 1 (vt 13)⟩, ⟨PyData.keyHash w.params (PySem.Str.ofString "debug"), .str (PySem.Str.ofString "debug") (nk 14), .int 0 (vt 14)⟩, ⟨PyData.keyHash w.params (PySem.Str.ofString "token"), .str (PySem.Str.ofString "token") (nk 15), .str tok tt⟩, ⟨PyData.keyHash w.params (PySem.Str.ofString "filestack"), .str (PySem.Str.ofString "filestack") (nk 16), .ref fs⟩, ⟨PyData.keyHash w.params (PySem.Str.ofString "source"), .str (PySem.Str.ofString "source") (nk 17), .none⟩, ⟨PyData.keyHash w.params (PySem.Str.ofString "_punctuation_chars"), .str (PySem.Str.ofString "_punctuation_chars") (nk 18), .str (PySem.Str.ofString "") (vt 18)⟩] 19), (yy, instObj 703 e), (e, dictOf [⟨PyData.keyHash w.params (PySem.Str.ofString "_StringIO__newline"), .str (PySem.Str.ofString "_StringIO__newline") n1, .str (PySem.Str.ofString "\n") t1⟩, ⟨PyData.keyHash w.params (PySem.Str.ofString "_StringIO__buf"), .str (PySem.Str.ofString "_StringIO__buf") n2, .str y t2⟩, ⟨PyData.keyHash w.params (PySem.Str.ofString "_StringIO__pos"), .str (PySem.Str.ofString "_StringIO__pos") n3, .int z t3⟩] 3), (pb, dqObj), (fs, dqObj)]) (T : Top q0 lo mean mg mb h₀) (hd : dp + 30 < recursionLimit) (hu : un + 300 < cLine) (o : Ords d x e yy pb fs) 
    (hp : 0 ≤ z) (hy : y.length ≤ 200) (hW : W ≠ []) (hs : ∀ c ∈ W, SignC c) (hdrop : y.cps.toList.drop z.toNat = W ++ tail)
    (hend : tail = [] → ∀ v t3' tt2 h' tk', Fr h₀ L h' (rtM x te (some v)) → News h₀ L h' [(x, instObj 796 d), (d, dictOf [⟨PyData.keyHash w.params (PySem.Str.ofString "instream"), .str (PySem.Str.ofString "instream") (nk 0), .ref yy⟩, ⟨PyData.keyHash w.params (PySem.Str.ofString "infile"), .str (PySem.Str.ofString "infile") (nk 1), .none⟩, ⟨PyData.keyHash w.params (PySem.Str.ofString "posix"), .str (PySem.Str.ofString "posix") (nk 2), .bool true⟩, ⟨PyData.keyHash w.params (PySem.Str.ofString "eof"), .str (PySem.Str.ofString "eof") (nk 3), .none⟩, ⟨PyData.keyHash w.params (PySem.Str.ofString "commenters"), .str (PySem.Str.ofString "commenters") (nk 4), .str (PySem.Str.ofString "") (vt 4)⟩, ⟨PyData.keyHash w.params (PySem.Str.ofString "wordchars"), .str (PySem.Str.ofString "wordchars") (nk 5), .str (PySem.Str.ofString "abcdfeghijklmnopqrstuvwxyzABCDEFGHIJKLMNOPQRSTUVWXYZ0123456789_ßàáâãäåæçèéêëìíîïðñòóôõöøùúûüýþÿÀÁÂÃÄÅÆÇÈÉÊËÌÍÎÏÐÑÒÓÔÕÖØÙÚÛÜÝÞ") (vt 5)⟩, ⟨PyData.keyHash w.params (PySem.Str.ofString "whitespace"), .str (PySem.Str.ofString "whitespace") (nk 6), .str (PySem.Str.ofString " \t\r\n") (vt 6)⟩, ⟨PyData.keyHash w.params (PySem.Str.ofString "whitespace_split"), .str (PySem.Str.ofString "whitespace_split") (nk 7), .bool true⟩, ⟨PyData.keyHash w.params (PySem.Str.ofString "quotes"), .str (PySem.Str.ofString "quotes") (nk 8), .str (PySem.Str.ofString "'\"") (vt 8)⟩, ⟨PyData.keyHash w.params (PySem.Str.ofString "escape"), .str (PySem.Str.ofString "escape") (nk 9), .str (PySem.Str.ofString "\\") (vt 9)⟩, ⟨PyData.keyHash w.params (PySem.Str.ofString "escapedquotes"), .str (PySem.Str.ofString "escapedquotes") (nk 10), .str (PySem.Str.ofString "\"") (vt 10)⟩, ⟨PyData.keyHash w.params (PySem.Str.ofString "state"), .str (PySem.Str.ofString "state") (nk 11), .none⟩, ⟨PyData.keyHash w.params (PySem.Str.ofString "pushback"), .str (PySem.Str.ofString "pushback") (nk 12), .ref pb⟩, ⟨PyData.keyHash w.params (PySem.Str.ofString "lineno"), .str (PySem.Str.ofString "lineno") (nk 13), .int 1 (vt 13)⟩, ⟨PyData.keyHash w.params (PySem.Str.ofString "debug"), .str (PySem.Str.ofString "debug") (nk 14), .int 0 (vt 14)⟩, ⟨PyData.keyHash w.params (PySem.Str.ofString "token"), .str (PySem.Str.ofString "token") (nk 15), .str ⟨W.toArray⟩ tt2⟩, ⟨PyData.keyHash w.params (PySem.Str.ofString "filestack"), .str (PySem.Str.ofString "filestack") (nk 16), .ref fs⟩, ⟨PyData.keyHash w.params (PySem.Str.ofString "source"), .str (PySem.Str.ofString "source") (nk 17), .none⟩, ⟨PyData.keyHash w.params (PySem.Str.ofString "_punctuation_chars"), .str (PySem.Str.ofString "_punctuation_chars") (nk 18), .str (PySem.Str.ofString "") (vt 18)⟩] 19), (yy, instObj 703 e), (e, dictOf [⟨PyData.keyHash w.params (PySem.Str.ofString "_StringIO__newline"), .str (PySem.Str.ofString "_StringIO__newline") n1, .str (PySem.Str.ofString "\n") t1⟩, ⟨PyData.keyHash w.params (PySem.Str.ofString "_StringIO__buf"), .str (PySem.Str.ofString "_StringIO__buf") n2, .str y t2⟩, ⟨PyData.keyHash w.params (PySem.Str.ofString "_StringIO__pos"), .str (PySem.Str.ofString "_StringIO__pos") n3, .int (z + W.length) t3'⟩] 3), (pb, dqObj), (fs, dqObj)] → QF .next { s with heap := h', toks := tk' })
    (hbl : tail ≠ [] → ∀ v t3' tt2 ss2 h' tk', Fr h₀ L h' (rtM x te (some v)) → News h₀ L h' [(x, instObj 796 d), (d, dictOf [⟨PyData.keyHash w.params (PySem.Str.ofString "instream"), .str (PySem.Str.ofString "instream") (nk 0), .ref yy⟩, ⟨PyData.keyHash w.params (PySem.Str.ofString "infile"), .str (PySem.Str.ofString "infile") (nk 1), .none⟩, ⟨PyData.keyHash w.params (PySem.Str.ofString "posix"), .str (PySem.Str.ofString "posix") (nk 2), .bool true⟩, ⟨PyData.keyHash w.params (PySem.Str.ofString "eof"), .str (PySem.Str.ofString "eof") (nk 3), .none⟩, ⟨PyData.keyHash w.params (PySem.Str.ofString "commenters"), .str (PySem.Str.ofString "commenters") (nk 4), .str (PySem.Str.ofString "") (vt 4)⟩, ⟨PyData.keyHash w.params (PySem.Str.ofString "wordchars"), .str (PySem.Str.ofString "wordchars") (nk 5), .str (PySem.Str.ofString "abcdfeghijklmnopqrstuvwxyzABCDEFGHIJKLMNOPQRSTUVWXYZ0123456789_ßàáâãäåæçèéêëìíîïðñòóôõöøùúûüýþÿÀÁÂÃÄÅÆÇÈÉÊËÌÍÎÏÐÑÒÓÔÕÖØÙÚÛÜÝÞ") (vt 5)⟩, ⟨PyData.keyHash w.params (PySem.Str.ofString "whitespace"), .str (PySem.Str.ofString "whitespace") (nk 6), .str (PySem.Str.ofString " \t\r\n") (vt 6)⟩, ⟨PyData.keyHash w.params (PySem.Str.ofString "whitespace_split"), .str (PySem.Str.ofString "whitespace_split") (nk 7), .bool true⟩, ⟨PyData.keyHash w.params (PySem.Str.ofString "quotes"), .str (PySem.Str.ofString "quotes") (nk 8), .str (PySem.Str.ofString "'\"") (vt 8)⟩, ⟨PyData.keyHash w.params (PySem.Str.ofString "escape"), .str (PySem.Str.ofString "escape") (nk 9), .str (PySem.Str.ofString "\\") (vt 9)⟩, ⟨PyData.keyHash w.params (PySem.Str.ofString "escapedquotes"), .str (PySem.Str.ofString "escapedquotes") (nk 10), .str (PySem.Str.ofString "\"") (vt 10)⟩, ⟨PyData.keyHash w.params (PySem.Str.ofString "state"), .str (PySem.Str.ofString "state") (nk 11), .str (PySem.Str.ofString " ") ss2⟩, ⟨PyData.keyHash w.params (PySem.Str.ofString "pushback"), .str (PySem.Str.ofString "pushback") (nk 12), .ref pb⟩, ⟨PyData.keyHash w.params (PySem.Str.ofString "lineno"), .str (PySem.Str.ofString "lineno") (nk 13), .int 1 (vt 13)⟩, ⟨PyData.keyHash w.params (PySem.Str.ofString "debug"), .str (PySem.Str.ofString "debug") (nk 14), .int 0 (vt 14)⟩, ⟨PyData.keyHash w.params (PySem.Str.ofString "token"), .str (PySem.Str.ofString "token") (nk 15), .str ⟨W.toArray⟩ tt2⟩, ⟨PyData.keyHash w.params (PySem.Str.ofString "filestack"), .str (PySem.Str.ofString "filestack") (nk 16), .ref fs⟩, ⟨PyData.keyHash w.params (PySem.Str.ofString "source"), .str (PySem.Str.ofString "source") (nk 17), .none⟩, ⟨PyData.keyHash w.params (PySem.Str.ofString "_punctuation_chars"), .str (PySem.Str.ofString "_punctuation_chars") (nk 18), .str (PySem.Str.ofString "") (vt 18)⟩] 19), (yy, instObj 703 e), (e, dictOf [⟨PyData.keyHash w.params (PySem.Str.ofString "_StringIO__newline"), .str (PySem.Str.ofString "_StringIO__newline") n1, .str (PySem.Str.ofString "\n") t1⟩, ⟨PyData.keyHash w.params (PySem.Str.ofString "_StringIO__buf"), .str (PySem.Str.ofString "_StringIO__buf") n2, .str y t2⟩, ⟨PyData.keyHash w.params (PySem.Str.ofString "_StringIO__pos"), .str (PySem.Str.ofString "_StringIO__pos") n3, .int (z + W.length + 1) t3'⟩] 3), (pb, dqObj), (fs, dqObj)] → QF .next { s with heap := h', toks := tk' })
    (ht : ∀ c r, tail = c :: r → ((⟨#[c]⟩ : PySem.Str) == PySem.Str.ofString "\n") = false ∧ has (PySem.Str.ofString " \t\r\n") ⟨#[c]⟩ = true) :
    wpAny (model P0 w) (ktrTop dp un gd (PySem.Str.ofString "shlex.read_token") rtScope L 764 (.ref 763) [] outer) (exec (.While (.Constant (.bool true) 0 p) bd [] p') (envX (PySem.Str.ofString "shlex.read_token") rtScope L 764 (.ref 763) [])) QF E s := by
  subst hb
  refine wpAny_While (codeAny_whileLoop (fun n s' => (n = W.length ∧ s' = s) ∨ RtJ w h₀ L s W y z te t1 t2 n1 n2 n3 nk vt x d yy e pb fs n s') ?_ W.length (.inl ⟨rfl, rfl⟩))
  intro n s' hI
  refine isTrue_plain (Constant_bool (wpAny_truthy_bool ?_))
  simp only [if_true]
  have hlW : W.length ≠ 0 := fun e => hW (List.length_eq_zero_iff.mp e)
  have hlen : z.toNat + W.length + tail.length = y.length := by
    have e := congrArg List.length hdrop
    rw [List.length_drop, List.length_append, Array.length_toList] at e
    have : y.length = y.cps.size := rfl
    (first | lia | omega)
  rcases hI with ⟨hn, rfl⟩ | ⟨pre, post, v, t3', tt2, ss2, h', tk', hn, hlt, hpp, rfl, F', N'⟩
  · obtain ⟨c, r, hcr⟩ := List.exists_cons_of_ne_nil hW
    have hd' := hdrop
    rw [hcr, List.cons_append] at hd'
    obtain ⟨a1, a2, a3⟩ := at_drop hd'
    have sc := hs c (by rw [hcr]; exact List.mem_cons_self)
    refine turn_s_char B F X N T hd hu o hp hy (by (first | lia | omega)) a1 sc.n rfl sc.ws sc.cm sc.qu sc.es (fun v t3' tt2 ss2 h' tk' F' N' => ?_)
    refine ⟨r.length, by rw [hn, hcr]; exact Nat.lt_succ_self _, .inr ⟨[c], r, v, t3', tt2, ss2, h', tk', rfl, by rw [hcr]; exact Nat.lt_succ_self _, hcr, rfl, F', N'⟩⟩
  · have hz : (z + pre.length).toNat = z.toNat + pre.length := by (first | lia | omega)
    have hd' : y.cps.toList.drop (z + pre.length).toNat = post ++ tail := by
      rw [hz, ← List.drop_drop, hdrop, hpp, List.append_assoc, List.drop_left]
    have hpl : pre.length + post.length = W.length := by rw [hpp, List.length_append]
    have htok : (⟨pre.toArray⟩ : PySem.Str).length = pre.length := by show pre.toArray.size = _; simp
    cases post with
    | cons c r =>
      rw [List.cons_append] at hd'
      obtain ⟨a1, a2, a3⟩ := at_drop hd'
      have sc := hs c (by rw [hpp]; exact List.mem_append_right _ List.mem_cons_self)
      refine turn_a_char B F' X N' T hd hu o (by (first | lia | omega)) hy (by (first | lia | omega)) a1 sc.n rfl sc.ws sc.cm sc.qu sc.es (by (first | lia | omega)) (fun v t3' tt2 ss2 h' tk' F' N' => ?_)
      rw [snoc_str, show z + (pre.length : Int) + 1 = z + ((pre ++ [c]).length : Int) by simp; (first | lia | omega)] at N'
      exact ⟨r.length, by rw [hn]; exact Nat.lt_succ_self _, .inr ⟨pre ++ [c], r, v, t3', tt2, ss2, h', tk', rfl, by rw [← hpl]; simp; (first | lia | omega), by rw [hpp]; simp, rfl, F', N'⟩⟩
    | nil =>
      have hw2 : pre = W := by rw [hpp, List.append_nil]
      subst hw2
      rw [List.nil_append] at hd'
      cases tail with
      | nil =>
        have := drop_end hd' (by simp at hlen; (first | lia | omega))
        refine turn_a_eof B F' X N' T hd hu o (by (first | lia | omega)) hy (by (first | lia | omega)) rfl (fun v h' tk' F' N' => ?_)
        exact hend rfl _ _ _ _ _ F' N'
      | cons c r =>
        obtain ⟨a1, a2, a3⟩ := at_drop hd'
        obtain ⟨b1, b2⟩ := ht c r rfl
        refine turn_a_blank B F' X N' T hd hu o (by (first | lia | omega)) hy (by (first | lia | omega)) a1 b1 rfl b2 (by (first | lia | omega)) (by rw [htok, bne_iff_ne]; (first | lia | omega)) (fun v t3' ss2 h' tk' F' N' => ?_)
        exact hbl (by intro e; cases e) _ _ _ _ _ _ F' N'
end
end
section
open PySem PySem.W PyProof.Rows PySem.Spec PySem.Calls
set_option maxRecDepth 100000
set_option maxHeartbeats 0
theorem rt_start {h₀ h : Heap} {L x : Addr} {te : Tok} (F : Fr h₀ L h (fun y => if y = PySem.Str.ofString "escapedstate" then some (.str (PySem.Str.ofString " ") te) else if y = PySem.Str.ofString "quoted" then some (.bool false) else List.lookup y [(PySem.Str.ofString "self", .ref x)])) : Fr h₀ L h (rtM x te none) := by
  have e : (fun y => if y = PySem.Str.ofString "escapedstate" then some (.str (PySem.Str.ofString " ") te) else if y = PySem.Str.ofString "quoted" then some (.bool false) else List.lookup y [(PySem.Str.ofString "self", PySem.Value.ref x)]) = rtM x te none := by
    funext y
    unfold rtM
    by_cases hy : y = PySem.Str.ofString "nextchar"
    · subst hy
      rw [if_pos rfl, if_neg (by decide), if_neg (by decide)]
      rfl
    · rw [if_neg hy]
  exact e ▸ F
section
variable {w : World} {A : Around} {base h₀ : Heap} {L : Addr} {m : LM} {news : Led} {s : Shared} {Q E : PQ}
theorem rt_none {y : PySem.Str} {z : Int} {t2 t3 : Tok} {n1 n2 n3 t1 : Tok} {nk vt : Nat → Tok} {x d yy e pb fs : Addr} {tok : PySem.Str} {tt : Tok} {te : Tok} {nv : Option PySem.Value} {dp un : Nat} {gd : Option (List Code)} {outer : List Env} {A₀ : Around} {lo : List PySem.Str} {mean : ExcName → Option PySem.Value} {mg mb : LM} {QF : Flow → Shared → Prop} {p p' : Pos} {bd : List Stmt} (hb : bd = rtBody)
    (B : Below A₀ base outer h₀) (F : Fr h₀ L s.heap (rtM x te nv)) (X : (K w.params).In h₀) (N : News h₀ L s.heap [(x, instObj 796 d), (d, dictOf [⟨PyData.keyHash w.params (PySem.Str.ofString "instream"), .str (PySem.Str.ofString "instream") (nk 0), .ref yy⟩, ⟨PyData.keyHash w.params (PySem.Str.ofString "infile"), .str (PySem.Str.ofString "infile") (nk 1), .none⟩, ⟨PyData.keyHash w.params (PySem.Str.ofString "posix"), .str (PySem.Str.ofString "posix") (nk 2), .bool true⟩, ⟨PyData.keyHash w.params (PySem.Str.ofString "eof"), .str (PySem.Str.ofString "eof") (nk 3), .none⟩, ⟨PyData.keyHash w.params (PySem.Str.ofString "commenters"), .str (PySem.Str.ofString "commenters") (nk 4), .str (PySem.Str.ofString "") (vt 4)⟩, ⟨PyData.keyHash w.params (PySem.Str.ofString "wordchars"), .str (PySem.Str.ofString "wordchars") (nk 5), .str (PySem.Str.ofString "abcdfeghijklmnopqrstuvwxyzABCDEFGHIJKLMNOPQRSTUVWXYZ0123456789_ßàáâãäåæçèéêëìíîïðñòóôõöøùúûüýþÿÀÁÂÃÄÅÆÇÈÉÊËÌÍÎÏÐÑÒÓÔÕÖØÙÚÛÜÝÞ") (vt 5)⟩, ⟨PyData.keyHash w.params (PySem.Str.ofString "whitespace"), .str (PySem.Str.ofString "whitespace") (nk 6), .str (PySem.Str.ofString " \t\r\n") (vt 6)⟩, ⟨PyData.keyHash w.params (PySem.Str.ofString "whitespace_split"), .str (PySem.Str.ofString "whitespace_split") (nk 7), .bool true⟩, ⟨PyData.keyHash w.params (PySem.Str.ofString "quotes"), .str (PySem.Str.ofString "quotes") (nk 8), .str (PySem.Str.ofString "'\"") (vt 8)⟩, ⟨PyData.keyHash w.params (PySem.Str.ofString "escape"), .str (PySem.Str.ofString "escape") (nk 9), .str (PySem.Str.ofString "\\") (vt 9)⟩, ⟨PyData.keyHash w.params (PySem.Str.ofString "escapedquotes"), .str (PySem.Str.ofString "escapedquotes") (nk 10), .str (PySem.Str.ofString "\"") (vt 10)⟩, ⟨PyData.keyHash w.params (PySem.Str.ofString "state"), .str (PySem.Str.ofString "state") (nk 11), .none⟩, ⟨PyData.keyHash w.params (PySem.Str.ofString "pushback"), .str (PySem.Str.ofString "pushback") (nk 12), .ref pb⟩, ⟨PyData.keyHash w.params (PySem.Str.ofString "lineno"), .str (PySem.Str.ofString "lineno") (nk 13), .int 1 (vt 13)⟩, ⟨PyData.keyHash w.params (PySem.Str.ofString "debug"), .str (PySem.Str.ofString "debug") (nk 14), .int 0 (vt 14)⟩, ⟨PyData.keyHash w.params (PySem.Str.ofString "token"), .str (PySem.Str.ofString "token") (nk 15), .str tok tt⟩, ⟨PyData.keyHash w.params (PySem.Str.ofString "filestack"), .str (PySem.Str.ofString "filestack") (nk 16), .ref fs⟩, ⟨PyData.keyHash w.params (PySem.Str.ofString "source"), .str (PySem.Str.ofString "source") (nk 17), .none⟩, ⟨PyData.keyHash w.params (PySem.Str.ofString "_punctuation_chars"), .str (PySem.Str.ofString "_punctuation_chars") (nk 18), .str (PySem.Str.ofString "") (vt 18)⟩] 19), (yy, instObj 703 e), (e, dictOf [⟨PyData.keyHash w.params (PySem.Str.ofString "_StringIO__newline"), .str (PySem.Str.ofString "_StringIO__newline") n1, .str (PySem.Str.ofString "\n") t1⟩, ⟨PyData.keyHash w.params (PySem.Str.ofString "_StringIO__buf"), .str (PySem.Str.ofString "_StringIO__buf") n2, .str y t2⟩, ⟨PyData.keyHash w.params (PySem.Str.ofString "_StringIO__pos"), .str (PySem.Str.ofString "_StringIO__pos") n3, .int z t3⟩] 3), (pb, dqObj), (fs, dqObj)]) (T : Top q0 lo mean mg mb h₀) (hd : dp + 30 < recursionLimit) (hu : un + 300 < cLine) (o : Ords d x e yy pb fs) 
    (hp : 0 ≤ z) (hy : y.length ≤ 200) (hz : z = y.length)
    (hend : ∀ v tt2 h' tk', Fr h₀ L h' (rtM x te (some v)) → News h₀ L h' [(x, instObj 796 d), (d, dictOf [⟨PyData.keyHash w.params (PySem.Str.ofString "instream"), .str (PySem.Str.ofString "instream") (nk 0), .ref yy⟩, ⟨PyData.keyHash w.params (PySem.Str.ofString "infile"), .str (PySem.Str.ofString "infile") (nk 1), .none⟩, ⟨PyData.keyHash w.params (PySem.Str.ofString "posix"), .str (PySem.Str.ofString "posix") (nk 2), .bool true⟩, ⟨PyData.keyHash w.params (PySem.Str.ofString "eof"), .str (PySem.Str.ofString "eof") (nk 3), .none⟩, ⟨PyData.keyHash w.params (PySem.Str.ofString "commenters"), .str (PySem.Str.ofString "commenters") (nk 4), .str (PySem.Str.ofString "") (vt 4)⟩, ⟨PyData.keyHash w.params (PySem.Str.ofString "wordchars"), .str (PySem.Str.ofString "wordchars") (nk 5), .str (PySem.Str.ofString "abcdfeghijklmnopqrstuvwxyzABCDEFGHIJKLMNOPQRSTUVWXYZ0123456789_ßàáâãäåæçèéêëìíîïðñòóôõöøùúûüýþÿÀÁÂÃÄÅÆÇÈÉÊËÌÍÎÏÐÑÒÓÔÕÖØÙÚÛÜÝÞ") (vt 5)⟩, ⟨PyData.keyHash w.params (PySem.Str.ofString "whitespace"), .str (PySem.Str.ofString "whitespace") (nk 6), .str (PySem.Str.ofString " \t\r\n") (vt 6)⟩, ⟨PyData.keyHash w.params (PySem.Str.ofString "whitespace_split"), .str (PySem.Str.ofString "whitespace_split") (nk 7), .bool true⟩, ⟨PyData.keyHash w.params (PySem.Str.ofString "quotes"), .str (PySem.Str.ofString "quotes") (nk 8), .str (PySem.Str.ofString "'\"") (vt 8)⟩, ⟨PyData.keyHash w.params (PySem.Str.ofString "escape"), .str (PySem.Str.ofString "escape") (nk 9), .str (PySem.Str.ofString "\\") (vt 9)⟩, ⟨PyData.keyHash w.params (PySem.Str.ofString "escapedquotes"), .str (PySem.Str.ofString "escapedquotes") (nk 10), .str (PySem.Str.ofString "\"") (vt 10)⟩, ⟨PyData.keyHash w.params (PySem.Str.ofString "state"), .str (PySem.Str.ofString "state") (nk 11), .none⟩, ⟨PyData.keyHash w.params (PySem.Str.ofString "pushback"), .str (PySem.Str.ofString "pushback") (nk 12), .ref pb⟩, ⟨PyData.keyHash w.params (PySem.Str.ofString "lineno"), .str (PySem.Str.ofString "lineno") (nk 13), .int 1 (vt 13)⟩, ⟨PyData.keyHash w.params (PySem.Str.ofString "debug"), .str (PySem.Str.ofString "debug") (nk 14), .int 0 (vt 14)⟩, ⟨PyData.keyHash w.params (PySem.Str.ofString "token"), .str (PySem.Str.ofString "token") (nk 15), .str (PySem.Str.ofString "") tt2⟩, ⟨PyData.keyHash w.params (PySem.Str.ofString "filestack"), .str (PySem.Str.ofString "filestack") (nk 16), .ref fs⟩, ⟨PyData.keyHash w.params (PySem.Str.ofString "source"), .str (PySem.Str.ofString "source") (nk 17), .none⟩, ⟨PyData.keyHash w.params (PySem.Str.ofString "_punctuation_chars"), .str (PySem.Str.ofString "_punctuation_chars") (nk 18), .str (PySem.Str.ofString "") (vt 18)⟩] 19), (yy, instObj 703 e), (e, dictOf [⟨PyData.keyHash w.params (PySem.Str.ofString "_StringIO__newline"), .str (PySem.Str.ofString "_StringIO__newline") n1, .str (PySem.Str.ofString "\n") t1⟩, ⟨PyData.keyHash w.params (PySem.Str.ofString "_StringIO__buf"), .str (PySem.Str.ofString "_StringIO__buf") n2, .str y t2⟩, ⟨PyData.keyHash w.params (PySem.Str.ofString "_StringIO__pos"), .str (PySem.Str.ofString "_StringIO__pos") n3, .int z t3⟩] 3), (pb, dqObj), (fs, dqObj)] → QF .next { s with heap := h', toks := tk' }) :
    wpAny (model P0 w) (ktrTop dp un gd (PySem.Str.ofString "shlex.read_token") rtScope L 764 (.ref 763) [] outer) (exec (.While (.Constant (.bool true) 0 p) bd [] p') (envX (PySem.Str.ofString "shlex.read_token") rtScope L 764 (.ref 763) [])) QF E s := by
  subst hb
  refine wpAny_While (codeAny_whileLoop (fun n s' => s' = s) ?_ 0 rfl)
  rintro n s' rfl
  refine isTrue_plain (Constant_bool (wpAny_truthy_bool ?_))
  simp only [if_true]
  exact turn_n_eof (ss := 0) B F X N T hd hu o hp hy hz rfl hend
end
theorem word_ne {W : List Nat} (h : W ≠ []) : ((⟨W.toArray⟩ : PySem.Str) == PySem.Str.ofString "") = false := by
  rw [beq_eq_false_iff_ne]
  intro e
  have := congrArg (fun x : PySem.Str => x.cps.toList) e
  exact h (this.trans rfl)
section
variable {w : World} {A : Around} {base h₀ : Heap} {L : Addr} {m : LM} {news : Led} {s : Shared} {Q E : PQ}
theorem rows13 : True := by
  k_with_none
  k_with "call type:type" => (((with_reducible show wpAny _ _ (call (Value.type "type") [Value.bytes _ _]) _ _ _); refine type_bytes ?_))
  k_with "compareOp In str str" => ((k_dflt (first | refine in_is (b := false) (by assumption) ?_ | refine in_is (b := true) (by assumption) ?_ | refine in_is (b := false) (by decide +kernel) ?_ | refine in_is (b := true) (by decide +kernel) ?_)))
  k_with "compareOp NotIn str str" => ((k_dflt (first | refine notIn_is (b := false) (by assumption) ?_ | refine notIn_is (b := true) (by assumption) ?_ | refine notIn_is (b := false) (by decide +kernel) ?_ | refine notIn_is (b := true) (by decide +kernel) ?_)))
  k_with "compareOp Eq str str" => ((k_dflt (first | refine eq_is (b := false) (by assumption) ?_ | refine eq_is (b := true) (by assumption) ?_ | refine eq_is (b := false) (by decide +kernel) ?_ | refine eq_is (b := true) (by decide +kernel) ?_)))
  k_with "truthy str" => (((with_reducible show wpAny _ _ (PySem.truthy (Value.str _ _)) _ _ _); k_dflt (first | refine KXt.truthy (b := true) (by assumption) (by size_fits) ?_ | refine KXt.truthy (b := false) (by assumption) (by size_fits) ?_ | refine KXt.truthy (b := false) (by decide +kernel) (by decide) ?_ | refine KXt.truthy (b := true) (by decide +kernel) (by decide) ?_); intro _))
  k_with "exec While" => ((k_dflt (refine' rt_loop ?hb ?b ?f ?x ?n ?t ?d ?u ?o ?o1 ?o2 ?o3 ?o4 ?o5 ?o6 ?o7 ?o8; (case hb => kernel_rfl); (case b => k_asm); (case f => exact rt_start (by k_asm)); (case x => k_asm); (case n => k_asm); (case t => k_asm); (case d => ktr_room); (case u => ktr_units); (case o => assumption); (case o1 => assumption); (case o2 => assumption); (case o5 => assumption); (case o3 => assumption); (case o4 => assumption); (case o6 => exact fun zrh => absurd zrh (by assumption)); (case o8 => assumption); (intro _ _ _ _ _ _ _ _ _))))
  exact trivial
theorem rt_blank {y : PySem.Str} {z : Int} {t2 t3 : Tok} {n1 n2 n3 t1 : Tok} {nk vt : Nat → Tok} {x d yy e pb fs : Addr} {tok : PySem.Str} {ss tt : Tok} {W tail : List Nat} (c : Cx w base h₀ L m [(x, instObj 796 d), (d, dictOf [⟨PyData.keyHash w.params (PySem.Str.ofString "instream"), .str (PySem.Str.ofString "instream") (nk 0), .ref yy⟩, ⟨PyData.keyHash w.params (PySem.Str.ofString "infile"), .str (PySem.Str.ofString "infile") (nk 1), .none⟩, ⟨PyData.keyHash w.params (PySem.Str.ofString "posix"), .str (PySem.Str.ofString "posix") (nk 2), .bool true⟩, ⟨PyData.keyHash w.params (PySem.Str.ofString "eof"), .str (PySem.Str.ofString "eof") (nk 3), .none⟩, ⟨PyData.keyHash w.params (PySem.Str.ofString "commenters"), .str (PySem.Str.ofString "commenters") (nk 4), .str (PySem.Str.ofString "") (vt 4)⟩, ⟨PyData.keyHash w.params (PySem.Str.ofString "wordchars"), .str (PySem.Str.ofString "wordchars") (nk 5), .str (PySem.Str.ofString "abcdfeghijklmnopqrstuvwxyzABCDEFGHIJKLMNOPQRSTUVWXYZ0123456789_ßàáâãäåæçèéêëìíîïðñòóôõöøùúûüýþÿÀÁÂÃÄÅÆÇÈÉÊËÌÍÎÏÐÑÒÓÔÕÖØÙÚÛÜÝÞ") (vt 5)⟩, ⟨PyData.keyHash w.params (PySem.Str.ofString "whitespace"), .str (PySem.Str.ofString "whitespace") (nk 6), .str (PySem.Str.ofString " \t\r\n") (vt 6)⟩, ⟨PyData.keyHash w.params (PySem.Str.ofString "whitespace_split"), .str (PySem.Str.ofString "whitespace_split") (nk 7), .bool true⟩, ⟨PyData.keyHash w.params (PySem.Str.ofString "quotes"), .str (PySem.Str.ofString "quotes") (nk 8), .str (PySem.Str.ofString "'\"") (vt 8)⟩, ⟨PyData.keyHash w.params (PySem.Str.ofString "escape"), .str (PySem.Str.ofString "escape") (nk 9), .str (PySem.Str.ofString "\\") (vt 9)⟩, ⟨PyData.keyHash w.params (PySem.Str.ofString "escapedquotes"), .str (PySem.Str.ofString "escapedquotes") (nk 10), .str (PySem.Str.ofString "\"") (vt 10)⟩, ⟨PyData.keyHash w.params (PySem.Str.ofString "state"), .str (PySem.Str.ofString "state") (nk 11), .str (PySem.Str.ofString " ") ss⟩, ⟨PyData.keyHash w.params (PySem.Str.ofString "pushback"), .str (PySem.Str.ofString "pushback") (nk 12), .ref pb⟩, ⟨PyData.keyHash w.params (PySem.Str.ofString "lineno"), .str (PySem.Str.ofString "lineno") (nk 13), .int 1 (vt 13)⟩, ⟨PyData.keyHash w.params (PySem.Str.ofString "debug"), .str (PySem.Str.ofString "debug") (nk 14), .int 0 (vt 14)⟩, ⟨PyData.keyHash w.params (PySem.Str.ofString "token"), .str (PySem.Str.ofString "token") (nk 15), .str tok tt⟩, ⟨PyData.keyHash w.params (PySem.Str.ofString "filestack"), .str (PySem.Str.ofString "filestack") (nk 16), .ref fs⟩, ⟨PyData.keyHash w.params (PySem.Str.ofString "source"), .str (PySem.Str.ofString "source") (nk 17), .none⟩, ⟨PyData.keyHash w.params (PySem.Str.ofString "_punctuation_chars"), .str (PySem.Str.ofString "_punctuation_chars") (nk 18), .str (PySem.Str.ofString "") (vt 18)⟩] 19), (yy, instObj 703 e), (e, dictOf [⟨PyData.keyHash w.params (PySem.Str.ofString "_StringIO__newline"), .str (PySem.Str.ofString "_StringIO__newline") n1, .str (PySem.Str.ofString "\n") t1⟩, ⟨PyData.keyHash w.params (PySem.Str.ofString "_StringIO__buf"), .str (PySem.Str.ofString "_StringIO__buf") n2, .str y t2⟩, ⟨PyData.keyHash w.params (PySem.Str.ofString "_StringIO__pos"), .str (PySem.Str.ofString "_StringIO__pos") n3, .int z t3⟩] 3), (pb, dqObj), (fs, dqObj)] s.heap 40 400 A) (o : Ords d x e yy pb fs) (hp : 0 ≤ z) (hy : y.length ≤ 200) (hW : W ≠ []) (hs : ∀ c ∈ W, SignC c) (hdrop : y.cps.toList.drop z.toNat = W ++ tail) (ht : ∀ c r, tail = c :: r → ((⟨#[c]⟩ : PySem.Str) == PySem.Str.ofString "\n") = false ∧ has (PySem.Str.ofString " \t\r\n") ⟨#[c]⟩ = true) (hT : tail ≠ []) (hret : ∀ t3' tt3 ss2 t, Back h₀ L m [(x, instObj 796 d), (d, dictOf [⟨PyData.keyHash w.params (PySem.Str.ofString "instream"), .str (PySem.Str.ofString "instream") (nk 0), .ref yy⟩, ⟨PyData.keyHash w.params (PySem.Str.ofString "infile"), .str (PySem.Str.ofString "infile") (nk 1), .none⟩, ⟨PyData.keyHash w.params (PySem.Str.ofString "posix"), .str (PySem.Str.ofString "posix") (nk 2), .bool true⟩, ⟨PyData.keyHash w.params (PySem.Str.ofString "eof"), .str (PySem.Str.ofString "eof") (nk 3), .none⟩, ⟨PyData.keyHash w.params (PySem.Str.ofString "commenters"), .str (PySem.Str.ofString "commenters") (nk 4), .str (PySem.Str.ofString "") (vt 4)⟩, ⟨PyData.keyHash w.params (PySem.Str.ofString "wordchars"), .str (PySem.Str.ofString "wordchars") (nk 5), .str (PySem.Str.ofString "abcdfeghijklmnopqrstuvwxyzABCDEFGHIJKLMNOPQRSTUVWXYZ0123456789_ßàáâãäåæçèéêëìíîïðñòóôõöøùúûüýþÿÀÁÂÃÄÅÆÇÈÉÊËÌÍÎÏÐÑÒÓÔÕÖØÙÚÛÜÝÞ") (vt 5)⟩, ⟨PyData.keyHash w.params (PySem.Str.ofString "whitespace"), .str (PySem.Str.ofString "whitespace") (nk 6), .str (PySem.Str.ofString " \t\r\n") (vt 6)⟩, ⟨PyData.keyHash w.params (PySem.Str.ofString "whitespace_split"), .str (PySem.Str.ofString "whitespace_split") (nk 7), .bool true⟩, ⟨PyData.keyHash w.params (PySem.Str.ofString "quotes"), .str (PySem.Str.ofString "quotes") (nk 8), .str (PySem.Str.ofString "'\"") (vt 8)⟩, ⟨PyData.keyHash w.params (PySem.Str.ofString "escape"), .str (PySem.Str.ofString "escape") (nk 9), .str (PySem.Str.ofString "\\") (vt 9)⟩, ⟨PyData.keyHash w.params (PySem.Str.ofString "escapedquotes"), .str (PySem.Str.ofString "escapedquotes") (nk 10), .str (PySem.Str.ofString "\"") (vt 10)⟩, ⟨PyData.keyHash w.params (PySem.Str.ofString "state"), .str (PySem.Str.ofString "state") (nk 11), .str (PySem.Str.ofString " ") ss2⟩, ⟨PyData.keyHash w.params (PySem.Str.ofString "pushback"), .str (PySem.Str.ofString "pushback") (nk 12), .ref pb⟩, ⟨PyData.keyHash w.params (PySem.Str.ofString "lineno"), .str (PySem.Str.ofString "lineno") (nk 13), .int 1 (vt 13)⟩, ⟨PyData.keyHash w.params (PySem.Str.ofString "debug"), .str (PySem.Str.ofString "debug") (nk 14), .int 0 (vt 14)⟩, ⟨PyData.keyHash w.params (PySem.Str.ofString "token"), .str (PySem.Str.ofString "token") (nk 15), .str (PySem.Str.ofString "") tt3⟩, ⟨PyData.keyHash w.params (PySem.Str.ofString "filestack"), .str (PySem.Str.ofString "filestack") (nk 16), .ref fs⟩, ⟨PyData.keyHash w.params (PySem.Str.ofString "source"), .str (PySem.Str.ofString "source") (nk 17), .none⟩, ⟨PyData.keyHash w.params (PySem.Str.ofString "_punctuation_chars"), .str (PySem.Str.ofString "_punctuation_chars") (nk 18), .str (PySem.Str.ofString "") (vt 18)⟩] 19), (yy, instObj 703 e), (e, dictOf [⟨PyData.keyHash w.params (PySem.Str.ofString "_StringIO__newline"), .str (PySem.Str.ofString "_StringIO__newline") n1, .str (PySem.Str.ofString "\n") t1⟩, ⟨PyData.keyHash w.params (PySem.Str.ofString "_StringIO__buf"), .str (PySem.Str.ofString "_StringIO__buf") n2, .str y t2⟩, ⟨PyData.keyHash w.params (PySem.Str.ofString "_StringIO__pos"), .str (PySem.Str.ofString "_StringIO__pos") n3, .int (z + W.length + 1) t3'⟩] 3), (pb, dqObj), (fs, dqObj)] s Q (.str ⟨W.toArray⟩ t)) :
    wpAny (model P0 w) A (call (.ref 764) [.ref x]) Q E s := by
  rcases c with ⟨dp, un, gd, cn, cs, a, ccd, cl, outer, A₀, lo, mean, mg, mb, B, F, X, N, T, hk, hd, hu⟩
  refine wpAny_call ?_
  k_dflt (refine' enterP [("self", .ref x)] [(x, instObj 796 d), (d, dictOf [⟨PyData.keyHash w.params (PySem.Str.ofString "instream"), .str (PySem.Str.ofString "instream") (nk 0), .ref yy⟩, ⟨PyData.keyHash w.params (PySem.Str.ofString "infile"), .str (PySem.Str.ofString "infile") (nk 1), .none⟩, ⟨PyData.keyHash w.params (PySem.Str.ofString "posix"), .str (PySem.Str.ofString "posix") (nk 2), .bool true⟩, ⟨PyData.keyHash w.params (PySem.Str.ofString "eof"), .str (PySem.Str.ofString "eof") (nk 3), .none⟩, ⟨PyData.keyHash w.params (PySem.Str.ofString "commenters"), .str (PySem.Str.ofString "commenters") (nk 4), .str (PySem.Str.ofString "") (vt 4)⟩, ⟨PyData.keyHash w.params (PySem.Str.ofString "wordchars"), .str (PySem.Str.ofString "wordchars") (nk 5), .str (PySem.Str.ofString "abcdfeghijklmnopqrstuvwxyzABCDEFGHIJKLMNOPQRSTUVWXYZ0123456789_ßàáâãäåæçèéêëìíîïðñòóôõöøùúûüýþÿÀÁÂÃÄÅÆÇÈÉÊËÌÍÎÏÐÑÒÓÔÕÖØÙÚÛÜÝÞ") (vt 5)⟩, ⟨PyData.keyHash w.params (PySem.Str.ofString "whitespace"), .str (PySem.Str.ofString "whitespace") (nk 6), .str (PySem.Str.ofString " \t\r\n") (vt 6)⟩, ⟨PyData.keyHash w.params (PySem.Str.ofString "whitespace_split"), .str (PySem.Str.ofString "whitespace_split") (nk 7), .bool true⟩, ⟨PyData.keyHash w.params (PySem.Str.ofString "quotes"), .str (PySem.Str.ofString "quotes") (nk 8), .str (PySem.Str.ofString "'\"") (vt 8)⟩, ⟨PyData.keyHash w.params (PySem.Str.ofString "escape"), .str (PySem.Str.ofString "escape") (nk 9), .str (PySem.Str.ofString "\\") (vt 9)⟩, ⟨PyData.keyHash w.params (PySem.Str.ofString "escapedquotes"), .str (PySem.Str.ofString "escapedquotes") (nk 10), .str (PySem.Str.ofString "\"") (vt 10)⟩, ⟨PyData.keyHash w.params (PySem.Str.ofString "state"), .str (PySem.Str.ofString "state") (nk 11), .str (PySem.Str.ofString " ") ss⟩, ⟨PyData.keyHash w.params (PySem.Str.ofString "pushback"), .str (PySem.Str.ofString "pushback") (nk 12), .ref pb⟩, ⟨PyData.keyHash w.params (PySem.Str.ofString "lineno"), .str (PySem.Str.ofString "lineno") (nk 13), .int 1 (vt 13)⟩, ⟨PyData.keyHash w.params (PySem.Str.ofString "debug"), .str (PySem.Str.ofString "debug") (nk 14), .int 0 (vt 14)⟩, ⟨PyData.keyHash w.params (PySem.Str.ofString "token"), .str (PySem.Str.ofString "token") (nk 15), .str tok tt⟩, ⟨PyData.keyHash w.params (PySem.Str.ofString "filestack"), .str (PySem.Str.ofString "filestack") (nk 16), .ref fs⟩, ⟨PyData.keyHash w.params (PySem.Str.ofString "source"), .str (PySem.Str.ofString "source") (nk 17), .none⟩, ⟨PyData.keyHash w.params (PySem.Str.ofString "_punctuation_chars"), .str (PySem.Str.ofString "_punctuation_chars") (nk 18), .str (PySem.Str.ofString "") (vt 18)⟩] 19), (yy, instObj 703 e), (e, dictOf [⟨PyData.keyHash w.params (PySem.Str.ofString "_StringIO__newline"), .str (PySem.Str.ofString "_StringIO__newline") n1, .str (PySem.Str.ofString "\n") t1⟩, ⟨PyData.keyHash w.params (PySem.Str.ofString "_StringIO__buf"), .str (PySem.Str.ofString "_StringIO__buf") n2, .str y t2⟩, ⟨PyData.keyHash w.params (PySem.Str.ofString "_StringIO__pos"), .str (PySem.Str.ofString "_StringIO__pos") n3, .int z t3⟩] 3), (pb, dqObj), (fs, dqObj)] [] ?k1 ?k2 ?k3 ?k4 ?k5 ?kA ?kF ?kK ?h1 ?h2 ?h3 ?k6 ?k7 ?k8 ?k9 ?kB ?c2 ?c3 ?c4 ?c5 ?kG)
  k_dflt ((case kA => exact rfl); (case kF => exact rfl); (case kK => first | exact rfl | assumption); (case k1 => k_asm); (case k2 => k_asm); (case k3 => k_asm); (case k4 => k_asm); (case k5 => k_asm); (case k6 => k_is); (case k7 => k_is); (case k8 => ktr_room); (case k9 => exact kp_binds (by k_in) (fun _ => by kernel_rfl)); (case kB => exact locs rfl); (case c2 => exact rfl); (case c3 => exact rfl); (case c4 => exact rfl); (case c5 => decide); (case h1 => exact fun _ h => h); (case h2 => exact fun _ h => nomatch h); (case h3 => exact fun _ h => nomatch h); (intro g' L' h' FG' F' N' B' X' T' R'); (try dsimp only [List.reverse_cons, List.reverse_nil, List.nil_append, List.cons_append] at F'); (try dsimp only); (try k_fold))
  obtain ⟨o1, o2, o3, o4, o5⟩ := id o
  have hne : ((⟨W.toArray⟩ : PySem.Str) == PySem.Str.ofString "") = false := word_ne hW
  k_steps
  exact hret _ _ _ _ _ _ (by k_asm) (by k_asm)
end
section
variable {w : World} {A : Around} {base h₀ : Heap} {L : Addr} {m : LM} {news : Led} {s : Shared} {Q E : PQ}
theorem rows14 : True := by
  k_with_none
  k_with "call type:type" => (((with_reducible show wpAny _ _ (call (Value.type "type") [Value.bytes _ _]) _ _ _); refine type_bytes ?_))
  k_with "compareOp In str str" => ((k_dflt (first | refine in_is (b := false) (by assumption) ?_ | refine in_is (b := true) (by assumption) ?_ | refine in_is (b := false) (by decide +kernel) ?_ | refine in_is (b := true) (by decide +kernel) ?_)))
  k_with "compareOp NotIn str str" => ((k_dflt (first | refine notIn_is (b := false) (by assumption) ?_ | refine notIn_is (b := true) (by assumption) ?_ | refine notIn_is (b := false) (by decide +kernel) ?_ | refine notIn_is (b := true) (by decide +kernel) ?_)))
  k_with "compareOp Eq str str" => ((k_dflt (first | refine eq_is (b := false) (by assumption) ?_ | refine eq_is (b := true) (by assumption) ?_ | refine eq_is (b := false) (by decide +kernel) ?_ | refine eq_is (b := true) (by decide +kernel) ?_)))
  k_with "truthy str" => (((with_reducible show wpAny _ _ (PySem.truthy (Value.str _ _)) _ _ _); k_dflt (first | refine KXt.truthy (b := true) (by assumption) (by size_fits) ?_ | refine KXt.truthy (b := false) (by assumption) (by size_fits) ?_ | refine KXt.truthy (b := false) (by decide +kernel) (by decide) ?_ | refine KXt.truthy (b := true) (by decide +kernel) (by decide) ?_); intro _))
  k_with "exec While" => ((k_dflt (refine' rt_loop ?hb ?b ?f ?x ?n ?t ?d ?u ?o ?o1 ?o2 ?o3 ?o4 ?o5 ?o6 ?o7 ?o8; (case hb => kernel_rfl); (case b => k_asm); (case f => exact rt_start (by k_asm)); (case x => k_asm); (case n => k_asm); (case t => k_asm); (case d => ktr_room); (case u => ktr_units); (case o => assumption); (case o1 => assumption); (case o2 => assumption); (case o5 => assumption); (case o3 => assumption); (case o4 => assumption); (case o6 => exact fun zrh => absurd zrh (by assumption)); (case o8 => assumption); (intro _ _ _ _ _ _ _ _ _))))
  k_with "exec While" => ((k_dflt (refine' rt_loop ?hb ?b ?f ?x ?n ?t ?d ?u ?o ?o1 ?o2 ?o3 ?o4 ?o5 ?o6 ?o7 ?o8; (case hb => kernel_rfl); (case b => k_asm); (case f => exact rt_start (by k_asm)); (case x => k_asm); (case n => k_asm); (case t => k_asm); (case d => ktr_room); (case u => ktr_units); (case o => assumption); (case o1 => assumption); (case o2 => assumption); (case o5 => assumption); (case o3 => assumption); (case o4 => assumption); (case o7 => exact fun zrh => absurd (by assumption) zrh); (case o8 => assumption); (intro _ _ _ _ _ _ _ _))))
  exact trivial
theorem rt_last {y : PySem.Str} {z : Int} {t2 t3 : Tok} {n1 n2 n3 t1 : Tok} {nk vt : Nat → Tok} {x d yy e pb fs : Addr} {tok : PySem.Str} {ss tt : Tok} {W tail : List Nat} (c : Cx w base h₀ L m [(x, instObj 796 d), (d, dictOf [⟨PyData.keyHash w.params (PySem.Str.ofString "instream"), .str (PySem.Str.ofString "instream") (nk 0), .ref yy⟩, ⟨PyData.keyHash w.params (PySem.Str.ofString "infile"), .str (PySem.Str.ofString "infile") (nk 1), .none⟩, ⟨PyData.keyHash w.params (PySem.Str.ofString "posix"), .str (PySem.Str.ofString "posix") (nk 2), .bool true⟩, ⟨PyData.keyHash w.params (PySem.Str.ofString "eof"), .str (PySem.Str.ofString "eof") (nk 3), .none⟩, ⟨PyData.keyHash w.params (PySem.Str.ofString "commenters"), .str (PySem.Str.ofString "commenters") (nk 4), .str (PySem.Str.ofString "") (vt 4)⟩, ⟨PyData.keyHash w.params (PySem.Str.ofString "wordchars"), .str (PySem.Str.ofString "wordchars") (nk 5), .str (PySem.Str.ofString "abcdfeghijklmnopqrstuvwxyzABCDEFGHIJKLMNOPQRSTUVWXYZ0123456789_ßàáâãäåæçèéêëìíîïðñòóôõöøùúûüýþÿÀÁÂÃÄÅÆÇÈÉÊËÌÍÎÏÐÑÒÓÔÕÖØÙÚÛÜÝÞ") (vt 5)⟩, ⟨PyData.keyHash w.params (PySem.Str.ofString "whitespace"), .str (PySem.Str.ofString "whitespace") (nk 6), .str (PySem.Str.ofString " \t\r\n") (vt 6)⟩, ⟨PyData.keyHash w.params (PySem.Str.ofString "whitespace_split"), .str (PySem.Str.ofString "whitespace_split") (nk 7), .bool true⟩, ⟨PyData.keyHash w.params (PySem.Str.ofString "quotes"), .str (PySem.Str.ofString "quotes") (nk 8), .str (PySem.Str.ofString "'\"") (vt 8)⟩, ⟨PyData.keyHash w.params (PySem.Str.ofString "escape"), .str (PySem.Str.ofString "escape") (nk 9), .str (PySem.Str.ofString "\\") (vt 9)⟩, ⟨PyData.keyHash w.params (PySem.Str.ofString "escapedquotes"), .str (PySem.Str.ofString "escapedquotes") (nk 10), .str (PySem.Str.ofString "\"") (vt 10)⟩, ⟨PyData.keyHash w.params (PySem.Str.ofString "state"), .str (PySem.Str.ofString "state") (nk 11), .str (PySem.Str.ofString " ") ss⟩, ⟨PyData.keyHash w.params (PySem.Str.ofString "pushback"), .str (PySem.Str.ofString "pushback") (nk 12), .ref pb⟩, ⟨PyData.keyHash w.params (PySem.Str.ofString "lineno"), .str (PySem.Str.ofString "lineno") (nk 13), .int 1 (vt 13)⟩, ⟨PyData.keyHash w.params (PySem.Str.ofString "debug"), .str (PySem.Str.ofString "debug") (nk 14), .int 0 (vt 14)⟩, ⟨PyData.keyHash w.params (PySem.Str.ofString "token"), .str (PySem.Str.ofString "token") (nk 15), .str tok tt⟩, ⟨PyData.keyHash w.params (PySem.Str.ofString "filestack"), .str (PySem.Str.ofString "filestack") (nk 16), .ref fs⟩, ⟨PyData.keyHash w.params (PySem.Str.ofString "source"), .str (PySem.Str.ofString "source") (nk 17), .none⟩, ⟨PyData.keyHash w.params (PySem.Str.ofString "_punctuation_chars"), .str (PySem.Str.ofString "_punctuation_chars") (nk 18), .str (PySem.Str.ofString "") (vt 18)⟩] 19), (yy, instObj 703 e), (e, dictOf [⟨PyData.keyHash w.params (PySem.Str.ofString "_StringIO__newline"), .str (PySem.Str.ofString "_StringIO__newline") n1, .str (PySem.Str.ofString "\n") t1⟩, ⟨PyData.keyHash w.params (PySem.Str.ofString "_StringIO__buf"), .str (PySem.Str.ofString "_StringIO__buf") n2, .str y t2⟩, ⟨PyData.keyHash w.params (PySem.Str.ofString "_StringIO__pos"), .str (PySem.Str.ofString "_StringIO__pos") n3, .int z t3⟩] 3), (pb, dqObj), (fs, dqObj)] s.heap 40 400 A) (o : Ords d x e yy pb fs) (hp : 0 ≤ z) (hy : y.length ≤ 200) (hW : W ≠ []) (hs : ∀ c ∈ W, SignC c) (hdrop : y.cps.toList.drop z.toNat = W ++ tail) (ht : ∀ c r, tail = c :: r → ((⟨#[c]⟩ : PySem.Str) == PySem.Str.ofString "\n") = false ∧ has (PySem.Str.ofString " \t\r\n") ⟨#[c]⟩ = true) (hT : tail = []) (hret : ∀ t3' tt3 t, Back h₀ L m [(x, instObj 796 d), (d, dictOf [⟨PyData.keyHash w.params (PySem.Str.ofString "instream"), .str (PySem.Str.ofString "instream") (nk 0), .ref yy⟩, ⟨PyData.keyHash w.params (PySem.Str.ofString "infile"), .str (PySem.Str.ofString "infile") (nk 1), .none⟩, ⟨PyData.keyHash w.params (PySem.Str.ofString "posix"), .str (PySem.Str.ofString "posix") (nk 2), .bool true⟩, ⟨PyData.keyHash w.params (PySem.Str.ofString "eof"), .str (PySem.Str.ofString "eof") (nk 3), .none⟩, ⟨PyData.keyHash w.params (PySem.Str.ofString "commenters"), .str (PySem.Str.ofString "commenters") (nk 4), .str (PySem.Str.ofString "") (vt 4)⟩, ⟨PyData.keyHash w.params (PySem.Str.ofString "wordchars"), .str (PySem.Str.ofString "wordchars") (nk 5), .str (PySem.Str.ofString "abcdfeghijklmnopqrstuvwxyzABCDEFGHIJKLMNOPQRSTUVWXYZ0123456789_ßàáâãäåæçèéêëìíîïðñòóôõöøùúûüýþÿÀÁÂÃÄÅÆÇÈÉÊËÌÍÎÏÐÑÒÓÔÕÖØÙÚÛÜÝÞ") (vt 5)⟩, ⟨PyData.keyHash w.params (PySem.Str.ofString "whitespace"), .str (PySem.Str.ofString "whitespace") (nk 6), .str (PySem.Str.ofString " \t\r\n") (vt 6)⟩, ⟨PyData.keyHash w.params (PySem.Str.ofString "whitespace_split"), .str (PySem.Str.ofString "whitespace_split") (nk 7), .bool true⟩, ⟨PyData.keyHash w.params (PySem.Str.ofString "quotes"), .str (PySem.Str.ofString "quotes") (nk 8), .str (PySem.Str.ofString "'\"") (vt 8)⟩, ⟨PyData.keyHash w.params (PySem.Str.ofString "escape"), .str (PySem.Str.ofString "escape") (nk 9), .str (PySem.Str.ofString "\\") (vt 9)⟩, ⟨PyData.keyHash w.params (PySem.Str.ofString "escapedquotes"), .str (PySem.Str.ofString "escapedquotes") (nk 10), .str (PySem.Str.ofString "\"") (vt 10)⟩, ⟨PyData.keyHash w.params (PySem.Str.ofString "state"), .str (PySem.Str.ofString "state") (nk 11), .none⟩, ⟨PyData.keyHash w.params (PySem.Str.ofString "pushback"), .str (PySem.Str.ofString "pushback") (nk 12), .ref pb⟩, ⟨PyData.keyHash w.params (PySem.Str.ofString "lineno"), .str (PySem.Str.ofString "lineno") (nk 13), .int 1 (vt 13)⟩, ⟨PyData.keyHash w.params (PySem.Str.ofString "debug"), .str (PySem.Str.ofString "debug") (nk 14), .int 0 (vt 14)⟩, ⟨PyData.keyHash w.params (PySem.Str.ofString "token"), .str (PySem.Str.ofString "token") (nk 15), .str (PySem.Str.ofString "") tt3⟩, ⟨PyData.keyHash w.params (PySem.Str.ofString "filestack"), .str (PySem.Str.ofString "filestack") (nk 16), .ref fs⟩, ⟨PyData.keyHash w.params (PySem.Str.ofString "source"), .str (PySem.Str.ofString "source") (nk 17), .none⟩, ⟨PyData.keyHash w.params (PySem.Str.ofString "_punctuation_chars"), .str (PySem.Str.ofString "_punctuation_chars") (nk 18), .str (PySem.Str.ofString "") (vt 18)⟩] 19), (yy, instObj 703 e), (e, dictOf [⟨PyData.keyHash w.params (PySem.Str.ofString "_StringIO__newline"), .str (PySem.Str.ofString "_StringIO__newline") n1, .str (PySem.Str.ofString "\n") t1⟩, ⟨PyData.keyHash w.params (PySem.Str.ofString "_StringIO__buf"), .str (PySem.Str.ofString "_StringIO__buf") n2, .str y t2⟩, ⟨PyData.keyHash w.params (PySem.Str.ofString "_StringIO__pos"), .str (PySem.Str.ofString "_StringIO__pos") n3, .int (z + W.length) t3'⟩] 3), (pb, dqObj), (fs, dqObj)] s Q (.str ⟨W.toArray⟩ t)) :
    wpAny (model P0 w) A (call (.ref 764) [.ref x]) Q E s := by
  rcases c with ⟨dp, un, gd, cn, cs, a, ccd, cl, outer, A₀, lo, mean, mg, mb, B, F, X, N, T, hk, hd, hu⟩
  refine wpAny_call ?_
  k_dflt (refine' enterP [("self", .ref x)] [(x, instObj 796 d), (d, dictOf [⟨PyData.keyHash w.params (PySem.Str.ofString "instream"), .str (PySem.Str.ofString "instream") (nk 0), .ref yy⟩, ⟨PyData.keyHash w.params (PySem.Str.ofString "infile"), .str (PySem.Str.ofString "infile") (nk 1), .none⟩, ⟨PyData.keyHash w.params (PySem.Str.ofString "posix"), .str (PySem.Str.ofString "posix") (nk 2), .bool true⟩, ⟨PyData.keyHash w.params (PySem.Str.ofString "eof"), .str (PySem.Str.ofString "eof") (nk 3), .none⟩, ⟨PyData.keyHash w.params (PySem.Str.ofString "commenters"), .str (PySem.Str.ofString "commenters") (nk 4), .str (PySem.Str.ofString "") (vt 4)⟩, ⟨PyData.keyHash w.params (PySem.Str.ofString "wordchars"), .str (PySem.Str.ofString "wordchars") (nk 5), .str (PySem.Str.ofString "abcdfeghijklmnopqrstuvwxyzABCDEFGHIJKLMNOPQRSTUVWXYZ0123456789_ßàáâãäåæçèéêëìíîïðñòóôõöøùúûüýþÿÀÁÂÃÄÅÆÇÈÉÊËÌÍÎÏÐÑÒÓÔÕÖØÙÚÛÜÝÞ") (vt 5)⟩, ⟨PyData.keyHash w.params (PySem.Str.ofString "whitespace"), .str (PySem.Str.ofString "whitespace") (nk 6), .str (PySem.Str.ofString " \t\r\n") (vt 6)⟩, ⟨PyData.keyHash w.params (PySem.Str.ofString "whitespace_split"), .str (PySem.Str.ofString "whitespace_split") (nk 7), .bool true⟩, ⟨PyData.keyHash w.params (PySem.Str.ofString "quotes"), .str (PySem.Str.ofString "quotes") (nk 8), .str (PySem.Str.ofString "'\"") (vt 8)⟩, ⟨PyData.keyHash w.params (PySem.Str.ofString "escape"), .str (PySem.Str.ofString "escape") (nk 9), .str (PySem.Str.ofString "\\") (vt 9)⟩, ⟨PyData.keyHash w.params (PySem.Str.ofString "escapedquotes"), .str (PySem.Str.ofString "escapedquotes") (nk 10), .str (PySem.Str.ofString "\"") (vt 10)⟩, ⟨PyData.keyHash w.params (PySem.Str.ofString "state"), .str (PySem.Str.ofString "state") (nk 11), .str (PySem.Str.ofString " ") ss⟩, ⟨PyData.keyHash w.params (PySem.Str.ofString "pushback"), .str (PySem.Str.ofString "pushback") (nk 12), .ref pb⟩, ⟨PyData.keyHash w.params (PySem.Str.ofString "lineno"), .str (PySem.Str.ofString "lineno") (nk 13), .int 1 (vt 13)⟩, ⟨PyData.keyHash w.params (PySem.Str.ofString "debug"), .str (PySem.Str.ofString "debug") (nk 14), .int 0 (vt 14)⟩, ⟨PyData.keyHash w.params (PySem.Str.ofString "token"), .str (PySem.Str.ofString "token") (nk 15), .str tok tt⟩, ⟨PyData.keyHash w.params (PySem.Str.ofString "filestack"), .str (PySem.Str.ofString "filestack") (nk 16), .ref fs⟩, ⟨PyData.keyHash w.params (PySem.Str.ofString "source"), .str (PySem.Str.ofString "source") (nk 17), .none⟩, ⟨PyData.keyHash w.params (PySem.Str.ofString "_punctuation_chars"), .str (PySem.Str.ofString "_punctuation_chars") (nk 18), .str (PySem.Str.ofString "") (vt 18)⟩] 19), (yy, instObj 703 e), (e, dictOf [⟨PyData.keyHash w.params (PySem.Str.ofString "_StringIO__newline"), .str (PySem.Str.ofString "_StringIO__newline") n1, .str (PySem.Str.ofString "\n") t1⟩, ⟨PyData.keyHash w.params (PySem.Str.ofString "_StringIO__buf"), .str (PySem.Str.ofString "_StringIO__buf") n2, .str y t2⟩, ⟨PyData.keyHash w.params (PySem.Str.ofString "_StringIO__pos"), .str (PySem.Str.ofString "_StringIO__pos") n3, .int z t3⟩] 3), (pb, dqObj), (fs, dqObj)] [] ?k1 ?k2 ?k3 ?k4 ?k5 ?kA ?kF ?kK ?h1 ?h2 ?h3 ?k6 ?k7 ?k8 ?k9 ?kB ?c2 ?c3 ?c4 ?c5 ?kG)
  k_dflt ((case kA => exact rfl); (case kF => exact rfl); (case kK => first | exact rfl | assumption); (case k1 => k_asm); (case k2 => k_asm); (case k3 => k_asm); (case k4 => k_asm); (case k5 => k_asm); (case k6 => k_is); (case k7 => k_is); (case k8 => ktr_room); (case k9 => exact kp_binds (by k_in) (fun _ => by kernel_rfl)); (case kB => exact locs rfl); (case c2 => exact rfl); (case c3 => exact rfl); (case c4 => exact rfl); (case c5 => decide); (case h1 => exact fun _ h => h); (case h2 => exact fun _ h => nomatch h); (case h3 => exact fun _ h => nomatch h); (intro g' L' h' FG' F' N' B' X' T' R'); (try dsimp only [List.reverse_cons, List.reverse_nil, List.nil_append, List.cons_append] at F'); (try dsimp only); (try k_fold))
  obtain ⟨o1, o2, o3, o4, o5⟩ := id o
  have hne : ((⟨W.toArray⟩ : PySem.Str) == PySem.Str.ofString "") = false := word_ne hW
  k_steps
  exact hret _ _ _ _ _ (by k_asm) (by k_asm)
end
section
variable {w : World} {A : Around} {base h₀ : Heap} {L : Addr} {m : LM} {news : Led} {s : Shared} {Q E : PQ}
theorem rows15 : True := by
  k_with_none
  k_with "call type:type" => (((with_reducible show wpAny _ _ (call (Value.type "type") [Value.bytes _ _]) _ _ _); refine type_bytes ?_))
  k_with "compareOp In str str" => ((k_dflt (first | refine in_is (b := false) (by assumption) ?_ | refine in_is (b := true) (by assumption) ?_ | refine in_is (b := false) (by decide +kernel) ?_ | refine in_is (b := true) (by decide +kernel) ?_)))
  k_with "compareOp NotIn str str" => ((k_dflt (first | refine notIn_is (b := false) (by assumption) ?_ | refine notIn_is (b := true) (by assumption) ?_ | refine notIn_is (b := false) (by decide +kernel) ?_ | refine notIn_is (b := true) (by decide +kernel) ?_)))
  k_with "compareOp Eq str str" => ((k_dflt (first | refine eq_is (b := false) (by assumption) ?_ | refine eq_is (b := true) (by assumption) ?_ | refine eq_is (b := false) (by decide +kernel) ?_ | refine eq_is (b := true) (by decide +kernel) ?_)))
  k_with "truthy str" => (((with_reducible show wpAny _ _ (PySem.truthy (Value.str _ _)) _ _ _); k_dflt (first | refine KXt.truthy (b := true) (by assumption) (by size_fits) ?_ | refine KXt.truthy (b := false) (by assumption) (by size_fits) ?_ | refine KXt.truthy (b := false) (by decide +kernel) (by decide) ?_ | refine KXt.truthy (b := true) (by decide +kernel) (by decide) ?_); intro _))
  k_with "exec While" => ((k_dflt (refine' rt_loop ?hb ?b ?f ?x ?n ?t ?d ?u ?o ?o1 ?o2 ?o3 ?o4 ?o5 ?o6 ?o7 ?o8; (case hb => kernel_rfl); (case b => k_asm); (case f => exact rt_start (by k_asm)); (case x => k_asm); (case n => k_asm); (case t => k_asm); (case d => ktr_room); (case u => ktr_units); (case o => assumption); (case o1 => assumption); (case o2 => assumption); (case o5 => assumption); (case o3 => assumption); (case o4 => assumption); (case o6 => exact fun zrh => absurd zrh (by assumption)); (case o8 => assumption); (intro _ _ _ _ _ _ _ _ _))))
  k_with "exec While" => ((k_dflt (refine' rt_loop ?hb ?b ?f ?x ?n ?t ?d ?u ?o ?o1 ?o2 ?o3 ?o4 ?o5 ?o6 ?o7 ?o8; (case hb => kernel_rfl); (case b => k_asm); (case f => exact rt_start (by k_asm)); (case x => k_asm); (case n => k_asm); (case t => k_asm); (case d => ktr_room); (case u => ktr_units); (case o => assumption); (case o1 => assumption); (case o2 => assumption); (case o5 => assumption); (case o3 => assumption); (case o4 => assumption); (case o7 => exact fun zrh => absurd (by assumption) zrh); (case o8 => assumption); (intro _ _ _ _ _ _ _ _))))
  k_with "exec While" => ((k_dflt (refine' rt_none ?hb ?b ?f ?x ?n ?t ?d ?u ?o ?o1 ?o2 ?o3 ?o4; (case hb => kernel_rfl); (case b => k_asm); (case f => exact rt_start (by k_asm)); (case x => k_asm); (case n => k_asm); (case t => k_asm); (case d => ktr_room); (case u => ktr_units); (case o => assumption); (case o1 => assumption); (case o2 => assumption); (case o3 => assumption); (intro _ _ _ _ _ _))))
  exact trivial
theorem rt_over {y : PySem.Str} {z : Int} {t2 t3 : Tok} {n1 n2 n3 t1 : Tok} {nk vt : Nat → Tok} {x d yy e pb fs : Addr} {tok : PySem.Str} {tt : Tok} (c : Cx w base h₀ L m [(x, instObj 796 d), (d, dictOf [⟨PyData.keyHash w.params (PySem.Str.ofString "instream"), .str (PySem.Str.ofString "instream") (nk 0), .ref yy⟩, ⟨PyData.keyHash w.params (PySem.Str.ofString "infile"), .str (PySem.Str.ofString "infile") (nk 1), .none⟩, ⟨PyData.keyHash w.params (PySem.Str.ofString "posix"), .str (PySem.Str.ofString "posix") (nk 2), .bool true⟩, ⟨PyData.keyHash w.params (PySem.Str.ofString "eof"), .str (PySem.Str.ofString "eof") (nk 3), .none⟩, ⟨PyData.keyHash w.params (PySem.Str.ofString "commenters"), .str (PySem.Str.ofString "commenters") (nk 4), .str (PySem.Str.ofString "") (vt 4)⟩, ⟨PyData.keyHash w.params (PySem.Str.ofString "wordchars"), .str (PySem.Str.ofString "wordchars") (nk 5), .str (PySem.Str.ofString "abcdfeghijklmnopqrstuvwxyzABCDEFGHIJKLMNOPQRSTUVWXYZ0123456789_ßàáâãäåæçèéêëìíîïðñòóôõöøùúûüýþÿÀÁÂÃÄÅÆÇÈÉÊËÌÍÎÏÐÑÒÓÔÕÖØÙÚÛÜÝÞ") (vt 5)⟩, ⟨PyData.keyHash w.params (PySem.Str.ofString "whitespace"), .str (PySem.Str.ofString "whitespace") (nk 6), .str (PySem.Str.ofString " \t\r\n") (vt 6)⟩, ⟨PyData.keyHash w.params (PySem.Str.ofString "whitespace_split"), .str (PySem.Str.ofString "whitespace_split") (nk 7), .bool true⟩, ⟨PyData.keyHash w.params (PySem.Str.ofString "quotes"), .str (PySem.Str.ofString "quotes") (nk 8), .str (PySem.Str.ofString "'\"") (vt 8)⟩, ⟨PyData.keyHash w.params (PySem.Str.ofString "escape"), .str (PySem.Str.ofString "escape") (nk 9), .str (PySem.Str.ofString "\\") (vt 9)⟩, ⟨PyData.keyHash w.params (PySem.Str.ofString "escapedquotes"), .str (PySem.Str.ofString "escapedquotes") (nk 10), .str (PySem.Str.ofString "\"") (vt 10)⟩, ⟨PyData.keyHash w.params (PySem.Str.ofString "state"), .str (PySem.Str.ofString "state") (nk 11), .none⟩, ⟨PyData.keyHash w.params (PySem.Str.ofString "pushback"), .str (PySem.Str.ofString "pushback") (nk 12), .ref pb⟩, ⟨PyData.keyHash w.params (PySem.Str.ofString "lineno"), .str (PySem.Str.ofString "lineno") (nk 13), .int 1 (vt 13)⟩, ⟨PyData.keyHash w.params (PySem.Str.ofString "debug"), .str (PySem.Str.ofString "debug") (nk 14), .int 0 (vt 14)⟩, ⟨PyData.keyHash w.params (PySem.Str.ofString "token"), .str (PySem.Str.ofString "token") (nk 15), .str tok tt⟩, ⟨PyData.keyHash w.params (PySem.Str.ofString "filestack"), .str (PySem.Str.ofString "filestack") (nk 16), .ref fs⟩, ⟨PyData.keyHash w.params (PySem.Str.ofString "source"), .str (PySem.Str.ofString "source") (nk 17), .none⟩, ⟨PyData.keyHash w.params (PySem.Str.ofString "_punctuation_chars"), .str (PySem.Str.ofString "_punctuation_chars") (nk 18), .str (PySem.Str.ofString "") (vt 18)⟩] 19), (yy, instObj 703 e), (e, dictOf [⟨PyData.keyHash w.params (PySem.Str.ofString "_StringIO__newline"), .str (PySem.Str.ofString "_StringIO__newline") n1, .str (PySem.Str.ofString "\n") t1⟩, ⟨PyData.keyHash w.params (PySem.Str.ofString "_StringIO__buf"), .str (PySem.Str.ofString "_StringIO__buf") n2, .str y t2⟩, ⟨PyData.keyHash w.params (PySem.Str.ofString "_StringIO__pos"), .str (PySem.Str.ofString "_StringIO__pos") n3, .int z t3⟩] 3), (pb, dqObj), (fs, dqObj)] s.heap 40 400 A) (o : Ords d x e yy pb fs) (hp : 0 ≤ z) (hy : y.length ≤ 200) (hz : z = y.length) (hret : ∀ tt3, Back h₀ L m [(x, instObj 796 d), (d, dictOf [⟨PyData.keyHash w.params (PySem.Str.ofString "instream"), .str (PySem.Str.ofString "instream") (nk 0), .ref yy⟩, ⟨PyData.keyHash w.params (PySem.Str.ofString "infile"), .str (PySem.Str.ofString "infile") (nk 1), .none⟩, ⟨PyData.keyHash w.params (PySem.Str.ofString "posix"), .str (PySem.Str.ofString "posix") (nk 2), .bool true⟩, ⟨PyData.keyHash w.params (PySem.Str.ofString "eof"), .str (PySem.Str.ofString "eof") (nk 3), .none⟩, ⟨PyData.keyHash w.params (PySem.Str.ofString "commenters"), .str (PySem.Str.ofString "commenters") (nk 4), .str (PySem.Str.ofString "") (vt 4)⟩, ⟨PyData.keyHash w.params (PySem.Str.ofString "wordchars"), .str (PySem.Str.ofString "wordchars") (nk 5), .str (PySem.Str.ofString "abcdfeghijklmnopqrstuvwxyzABCDEFGHIJKLMNOPQRSTUVWXYZ0123456789_ßàáâãäåæçèéêëìíîïðñòóôõöøùúûüýþÿÀÁÂÃÄÅÆÇÈÉÊËÌÍÎÏÐÑÒÓÔÕÖØÙÚÛÜÝÞ") (vt 5)⟩, ⟨PyData.keyHash w.params (PySem.Str.ofString "whitespace"), .str (PySem.Str.ofString "whitespace") (nk 6), .str (PySem.Str.ofString " \t\r\n") (vt 6)⟩, ⟨PyData.keyHash w.params (PySem.Str.ofString "whitespace_split"), .str (PySem.Str.ofString "whitespace_split") (nk 7), .bool true⟩, ⟨PyData.keyHash w.params (PySem.Str.ofString "quotes"), .str (PySem.Str.ofString "quotes") (nk 8), .str (PySem.Str.ofString "'\"") (vt 8)⟩, ⟨PyData.keyHash w.params (PySem.Str.ofString "escape"), .str (PySem.Str.ofString "escape") (nk 9), .str (PySem.Str.ofString "\\") (vt 9)⟩, ⟨PyData.keyHash w.params (PySem.Str.ofString "escapedquotes"), .str (PySem.Str.ofString "escapedquotes") (nk 10), .str (PySem.Str.ofString "\"") (vt 10)⟩, ⟨PyData.keyHash w.params (PySem.Str.ofString "state"), .str (PySem.Str.ofString "state") (nk 11), .none⟩, ⟨PyData.keyHash w.params (PySem.Str.ofString "pushback"), .str (PySem.Str.ofString "pushback") (nk 12), .ref pb⟩, ⟨PyData.keyHash w.params (PySem.Str.ofString "lineno"), .str (PySem.Str.ofString "lineno") (nk 13), .int 1 (vt 13)⟩, ⟨PyData.keyHash w.params (PySem.Str.ofString "debug"), .str (PySem.Str.ofString "debug") (nk 14), .int 0 (vt 14)⟩, ⟨PyData.keyHash w.params (PySem.Str.ofString "token"), .str (PySem.Str.ofString "token") (nk 15), .str (PySem.Str.ofString "") tt3⟩, ⟨PyData.keyHash w.params (PySem.Str.ofString "filestack"), .str (PySem.Str.ofString "filestack") (nk 16), .ref fs⟩, ⟨PyData.keyHash w.params (PySem.Str.ofString "source"), .str (PySem.Str.ofString "source") (nk 17), .none⟩, ⟨PyData.keyHash w.params (PySem.Str.ofString "_punctuation_chars"), .str (PySem.Str.ofString "_punctuation_chars") (nk 18), .str (PySem.Str.ofString "") (vt 18)⟩] 19), (yy, instObj 703 e), (e, dictOf [⟨PyData.keyHash w.params (PySem.Str.ofString "_StringIO__newline"), .str (PySem.Str.ofString "_StringIO__newline") n1, .str (PySem.Str.ofString "\n") t1⟩, ⟨PyData.keyHash w.params (PySem.Str.ofString "_StringIO__buf"), .str (PySem.Str.ofString "_StringIO__buf") n2, .str y t2⟩, ⟨PyData.keyHash w.params (PySem.Str.ofString "_StringIO__pos"), .str (PySem.Str.ofString "_StringIO__pos") n3, .int z t3⟩] 3), (pb, dqObj), (fs, dqObj)] s Q (.none)) :
    wpAny (model P0 w) A (call (.ref 764) [.ref x]) Q E s := by
  rcases c with ⟨dp, un, gd, cn, cs, a, ccd, cl, outer, A₀, lo, mean, mg, mb, B, F, X, N, T, hk, hd, hu⟩
  refine wpAny_call ?_
  k_dflt (refine' enterP [("self", .ref x)] [(x, instObj 796 d), (d, dictOf [⟨PyData.keyHash w.params (PySem.Str.ofString "instream"), .str (PySem.Str.ofString "instream") (nk 0), .ref yy⟩, ⟨PyData.keyHash w.params (PySem.Str.ofString "infile"), .str (PySem.Str.ofString "infile") (nk 1), .none⟩, ⟨PyData.keyHash w.params (PySem.Str.ofString "posix"), .str (PySem.Str.ofString "posix") (nk 2), .bool true⟩, ⟨PyData.keyHash w.params (PySem.Str.ofString "eof"), .str (PySem.Str.ofString "eof") (nk 3), .none⟩, ⟨PyData.keyHash w.params (PySem.Str.ofString "commenters"), .str (PySem.Str.ofString "commenters") (nk 4), .str (PySem.Str.ofString "") (vt 4)⟩, ⟨PyData.keyHash w.params (PySem.Str.ofString "wordchars"), .str (PySem.Str.ofString "wordchars") (nk 5), .str (PySem.Str.ofString "abcdfeghijklmnopqrstuvwxyzABCDEFGHIJKLMNOPQRSTUVWXYZ0123456789_ßàáâãäåæçèéêëìíîïðñòóôõöøùúûüýþÿÀÁÂÃÄÅÆÇÈÉÊËÌÍÎÏÐÑÒÓÔÕÖØÙÚÛÜÝÞ") (vt 5)⟩, ⟨PyData.keyHash w.params (PySem.Str.ofString "whitespace"), .str (PySem.Str.ofString "whitespace") (nk 6), .str (PySem.Str.ofString " \t\r\n") (vt 6)⟩, ⟨PyData.keyHash w.params (PySem.Str.ofString "whitespace_split"), .str (PySem.Str.ofString "whitespace_split") (nk 7), .bool true⟩, ⟨PyData.keyHash w.params (PySem.Str.ofString "quotes"), .str (PySem.Str.ofString "quotes") (nk 8), .str (PySem.Str.ofString "'\"") (vt 8)⟩, ⟨PyData.keyHash w.params (PySem.Str.ofString "escape"), .str (PySem.Str.ofString "escape") (nk 9), .str (PySem.Str.ofString "\\") (vt 9)⟩, ⟨PyData.keyHash w.params (PySem.Str.ofString "escapedquotes"), .str (PySem.Str.ofString "escapedquotes") (nk 10), .str (PySem.Str.ofString "\"") (vt 10)⟩, ⟨PyData.keyHash w.params (PySem.Str.ofString "state"), .str (PySem.Str.ofString "state") (nk 11), .none⟩, ⟨PyData.keyHash w.params (PySem.Str.ofString "pushback"), .str (PySem.Str.ofString "pushback") (nk 12), .ref pb⟩, ⟨PyData.keyHash w.params (PySem.Str.ofString "lineno"), .str (PySem.Str.ofString "lineno") (nk 13), .int 1 (vt 13)⟩, ⟨PyData.keyHash w.params (PySem.Str.ofString "debug"), .str (PySem.Str.ofString "debug") (nk 14), .int 0 (vt 14)⟩, ⟨PyData.keyHash w.params (PySem.Str.ofString "token"), .str (PySem.Str.ofString "token") (nk 15), .str tok tt⟩, ⟨PyData.keyHash w.params (PySem.Str.ofString "filestack"), .str (PySem.Str.ofString "filestack") (nk 16), .ref fs⟩, ⟨PyData.keyHash w.params (PySem.Str.ofString "source"), .str (PySem.Str.ofString "source") (nk 17), .none⟩, ⟨PyData.keyHash w.params (PySem.Str.ofString "_punctuation_chars"), .str (PySem.Str.ofString "_punctuation_chars") (nk 18), .str (PySem.Str.ofString "") (vt 18)⟩] 19), (yy, instObj 703 e), (e, dictOf [⟨PyData.keyHash w.params (PySem.Str.ofString "_StringIO__newline"), .str (PySem.Str.ofString "_StringIO__newline") n1, .str (PySem.Str.ofString "\n") t1⟩, ⟨PyData.keyHash w.params (PySem.Str.ofString "_StringIO__buf"), .str (PySem.Str.ofString "_StringIO__buf") n2, .str y t2⟩, ⟨PyData.keyHash w.params (PySem.Str.ofString "_StringIO__pos"), .str (PySem.Str.ofString "_StringIO__pos") n3, .int z t3⟩] 3), (pb, dqObj), (fs, dqObj)] [] ?k1 ?k2 ?k3 ?k4 ?k5 ?kA ?kF ?kK ?h1 ?h2 ?h3 ?k6 ?k7 ?k8 ?k9 ?kB ?c2 ?c3 ?c4 ?c5 ?kG)
  k_dflt ((case kA => exact rfl); (case kF => exact rfl); (case kK => first | exact rfl | assumption); (case k1 => k_asm); (case k2 => k_asm); (case k3 => k_asm); (case k4 => k_asm); (case k5 => k_asm); (case k6 => k_is); (case k7 => k_is); (case k8 => ktr_room); (case k9 => exact kp_binds (by k_in) (fun _ => by kernel_rfl)); (case kB => exact locs rfl); (case c2 => exact rfl); (case c3 => exact rfl); (case c4 => exact rfl); (case c5 => decide); (case h1 => exact fun _ h => h); (case h2 => exact fun _ h => nomatch h); (case h3 => exact fun _ h => nomatch h); (intro g' L' h' FG' F' N' B' X' T' R'); (try dsimp only [List.reverse_cons, List.reverse_nil, List.nil_append, List.cons_append] at F'); (try dsimp only); (try k_fold))
  obtain ⟨o1, o2, o3, o4, o5⟩ := id o
  k_steps
  exact hret _ _ _ (by k_asm) (by k_asm)
end
end
section
open PySem PySem.W PyProof.Rows PySem.Spec PySem.Calls
set_option maxRecDepth 100000
set_option maxHeartbeats 0
section
variable {w : World} {A : Around} {base h₀ : Heap} {L : Addr} {m : LM} {news : Led} {s : Shared} {Q E : PQ}
theorem rows16 : True := by
  k_with_none
  k_with "call type:type" => (((with_reducible show wpAny _ _ (call (Value.type "type") [Value.bytes _ _]) _ _ _); refine type_bytes ?_))
  k_with "compareOp In str str" => ((k_dflt (first | refine in_is (b := false) (by assumption) ?_ | refine in_is (b := true) (by assumption) ?_ | refine in_is (b := false) (by decide +kernel) ?_ | refine in_is (b := true) (by decide +kernel) ?_)))
  k_with "compareOp NotIn str str" => ((k_dflt (first | refine notIn_is (b := false) (by assumption) ?_ | refine notIn_is (b := true) (by assumption) ?_ | refine notIn_is (b := false) (by decide +kernel) ?_ | refine notIn_is (b := true) (by decide +kernel) ?_)))
  k_with "compareOp Eq str str" => ((k_dflt (first | refine eq_is (b := false) (by assumption) ?_ | refine eq_is (b := true) (by assumption) ?_ | refine eq_is (b := false) (by decide +kernel) ?_ | refine eq_is (b := true) (by decide +kernel) ?_)))
  k_with "truthy str" => (((with_reducible show wpAny _ _ (PySem.truthy (Value.str _ _)) _ _ _); k_dflt (first | refine KXt.truthy (b := true) (by assumption) (by size_fits) ?_ | refine KXt.truthy (b := false) (by assumption) (by size_fits) ?_ | refine KXt.truthy (b := false) (by decide +kernel) (by decide) ?_ | refine KXt.truthy (b := true) (by decide +kernel) (by decide) ?_); intro _))
  k_with "truthy ref" => ((k_dflt (refine truthy_dq (News.get (by k_asm) (by k_mem)) ?_); intro _))
  k_with "call ref" => (((with_reducible show wpAny _ _ (call (Value.ref 764) _ _) _ _ _); k_dflt (refine' rt_blank (Cx.mk _ _ _ _ _ _ _ _ _ _ _ _ _ _ ?b ?f ?x ?n ?t ?k ?d ?u) ?q0 ?q1 ?q2 ?q3 ?q4 ?q5 ?q6 ?q7 ?_; ((case b => k_asm); (case f => k_asm); (case x => k_asm); (case n => k_asm); (case t => k_asm); (case k => first | exact rfl | assumption); (case d => ktr_room); (case u => ktr_units)); (case q5 => assumption); (case q0 => assumption); (case q1 => assumption); (case q2 => assumption); (case q3 => assumption); (case q4 => assumption); (case q6 => assumption); (case q7 => assumption); (intro _ _ _ _ _ _ _ _))))
  exact trivial
theorem gt_blank {y : PySem.Str} {z : Int} {t2 t3 : Tok} {n1 n2 n3 t1 : Tok} {nk vt : Nat → Tok} {x d yy e pb fs : Addr} {tok : PySem.Str} {ss tt : Tok} {W tail : List Nat} (c : Cx w base h₀ L m [(x, instObj 796 d), (d, dictOf [⟨PyData.keyHash w.params (PySem.Str.ofString "instream"), .str (PySem.Str.ofString "instream") (nk 0), .ref yy⟩, ⟨PyData.keyHash w.params (PySem.Str.ofString "infile"), .str (PySem.Str.ofString "infile") (nk 1), .none⟩, ⟨PyData.keyHash w.params (PySem.Str.ofString "posix"), .str (PySem.Str.ofString "posix") (nk 2), .bool true⟩, ⟨PyData.keyHash w.params (PySem.Str.ofString "eof"), .str (PySem.Str.ofString "eof") (nk 3), .none⟩, ⟨PyData.keyHash w.params (PySem.Str.ofString "commenters"), .str (PySem.Str.ofString "commenters") (nk 4), .str (PySem.Str.ofString "") (vt 4)⟩, ⟨PyData.keyHash w.params (PySem.Str.ofString "wordchars"), .str (PySem.Str.ofString "wordchars") (nk 5), .str (PySem.Str.ofString "abcdfeghijklmnopqrstuvwxyzABCDEFGHIJKLMNOPQRSTUVWXYZ0123456789_ßàáâãäåæçèéêëìíîïðñòóôõöøùúûüýþÿÀÁÂÃÄÅÆÇÈÉÊËÌÍÎÏÐÑÒÓÔÕÖØÙÚÛÜÝÞ") (vt 5)⟩, ⟨PyData.keyHash w.params (PySem.Str.ofString "whitespace"), .str (PySem.Str.ofString "whitespace") (nk 6), .str (PySem.Str.ofString " \t\r\n") (vt 6)⟩, ⟨PyData.keyHash w.params (PySem.Str.ofString "whitespace_split"), .str (PySem.Str.ofString "whitespace_split") (nk 7), .bool true⟩, ⟨PyData.keyHash w.params (PySem.Str.ofString "quotes"), .str (PySem.Str.ofString "quotes") (nk 8), .str (PySem.Str.ofString "'\"") (vt 8)⟩, ⟨PyData.keyHash w.params (PySem.Str.ofString "escape"), .str (PySem.Str.ofString "escape") (nk 9), .str (PySem.Str.ofString "\\") (vt 9)⟩, ⟨PyData.keyHash w.params (PySem.Str.ofString "escapedquotes"), .str (PySem.Str.ofString "escapedquotes") (nk 10), .str (PySem.Str.ofString "\"") (vt 10)⟩, ⟨PyData.keyHash w.params (PySem.Str.ofString "state"), .str (PySem.Str.ofString "state") (nk 11), .str (PySem.Str.ofString " ") ss⟩, ⟨PyData.keyHash w.params (PySem.Str.ofString "pushback"), .str (PySem.Str.ofString "pushback") (nk 12), .ref pb⟩, ⟨PyData.keyHash w.params (PySem.Str.ofString "lineno"), .str (PySem.Str.ofString "lineno") (nk 13), .int 1 (vt 13)⟩, ⟨PyData.keyHash w.params (PySem.Str.ofString "debug"), .str (PySem.Str.ofString "debug") (nk 14), .int 0 (vt 14)⟩, ⟨PyData.keyHash w.params (PySem.Str.ofString "token"), .str (PySem.Str.ofString "token") (nk 15), .str tok tt⟩, ⟨PyData.keyHash w.params (PySem.Str.ofString "filestack"), .str (PySem.Str.ofString "filestack") (nk 16), .ref fs⟩, ⟨PyData.keyHash w.params (PySem.Str.ofString "source"), .str (PySem.Str.ofString "source") (nk 17), .none⟩, ⟨PyData.keyHash w.params (PySem.Str.ofString "_punctuation_chars"), .str (PySem.Str.ofString "_punctuation_chars") (nk 18), .str (PySem.Str.ofString "") (vt 18)⟩] 19), (yy, instObj 703 e), (e, dictOf [⟨PyData.keyHash w.params (PySem.Str.ofString "_StringIO__newline"), .str (PySem.Str.ofString "_StringIO__newline") n1, .str (PySem.Str.ofString "\n") t1⟩, ⟨PyData.keyHash w.params (PySem.Str.ofString "_StringIO__buf"), .str (PySem.Str.ofString "_StringIO__buf") n2, .str y t2⟩, ⟨PyData.keyHash w.params (PySem.Str.ofString "_StringIO__pos"), .str (PySem.Str.ofString "_StringIO__pos") n3, .int z t3⟩] 3), (pb, dqObj), (fs, dqObj)] s.heap 60 600 A) (o : Ords d x e yy pb fs) (hp : 0 ≤ z) (hy : y.length ≤ 200) (hW : W ≠ []) (hs : ∀ c ∈ W, SignC c) (hdrop : y.cps.toList.drop z.toNat = W ++ tail) (ht : ∀ c r, tail = c :: r → ((⟨#[c]⟩ : PySem.Str) == PySem.Str.ofString "\n") = false ∧ has (PySem.Str.ofString " \t\r\n") ⟨#[c]⟩ = true)  (hT : tail ≠ []) (hret : ∀ t3' tt3 ss2 t, Back h₀ L m [(x, instObj 796 d), (d, dictOf [⟨PyData.keyHash w.params (PySem.Str.ofString "instream"), .str (PySem.Str.ofString "instream") (nk 0), .ref yy⟩, ⟨PyData.keyHash w.params (PySem.Str.ofString "infile"), .str (PySem.Str.ofString "infile") (nk 1), .none⟩, ⟨PyData.keyHash w.params (PySem.Str.ofString "posix"), .str (PySem.Str.ofString "posix") (nk 2), .bool true⟩, ⟨PyData.keyHash w.params (PySem.Str.ofString "eof"), .str (PySem.Str.ofString "eof") (nk 3), .none⟩, ⟨PyData.keyHash w.params (PySem.Str.ofString "commenters"), .str (PySem.Str.ofString "commenters") (nk 4), .str (PySem.Str.ofString "") (vt 4)⟩, ⟨PyData.keyHash w.params (PySem.Str.ofString "wordchars"), .str (PySem.Str.ofString "wordchars") (nk 5), .str (PySem.Str.ofString "abcdfeghijklmnopqrstuvwxyzABCDEFGHIJKLMNOPQRSTUVWXYZ0123456789_ßàáâãäåæçèéêëìíîïðñòóôõöøùúûüýþÿÀÁÂÃÄÅÆÇÈÉÊËÌÍÎÏÐÑÒÓÔÕÖØÙÚÛÜÝÞ") (vt 5)⟩, ⟨PyData.keyHash w.params (PySem.Str.ofString "whitespace"), .str (PySem.Str.ofString "whitespace") (nk 6), .str (PySem.Str.ofString " \t\r\n") (vt 6)⟩, ⟨PyData.keyHash w.params (PySem.Str.ofString "whitespace_split"), .str (PySem.Str.ofString "whitespace_split") (nk 7), .bool true⟩, ⟨PyData.keyHash w.params (PySem.Str.ofString "quotes"), .str (PySem.Str.ofString "quotes") (nk 8), .str (PySem.Str.ofString "'\"") (vt 8)⟩, ⟨PyData.keyHash w.params (PySem.Str.ofString "escape"), .str (PySem.Str.ofString "escape") (nk 9), .str (PySem.Str.ofString "\\") (vt 9)⟩, ⟨PyData.keyHash w.params (PySem.Str.ofString "escapedquotes"), .str (PySem.Str.ofString "escapedquotes") (nk 10), .str (PySem.Str.ofString "\"") (vt 10)⟩, ⟨PyData.keyHash w.params (PySem.Str.ofString "state"), .str (PySem.Str.ofString "state") (nk 11), .str (PySem.Str.ofString " ") ss2⟩, ⟨PyData.keyHash w.params (PySem.Str.ofString "pushback"), .str (PySem.Str.ofString "pushback") (nk 12), .ref pb⟩, ⟨PyData.keyHash w.params (PySem.Str.ofString "lineno"), .str (PySem.Str.ofString "lineno") (nk 13), .int 1 (vt 13)⟩, ⟨PyData.keyHash w.params (PySem.Str.ofString "debug"), .str (PySem.Str.ofString "debug") (nk 14), .int 0 (vt 14)⟩, ⟨PyData.keyHash w.params (PySem.Str.ofString "token"), .str (PySem.Str.ofString "token") (nk 15), .str (PySem.Str.ofString "") tt3⟩, ⟨PyData.keyHash w.params (PySem.Str.ofString "filestack"), .str (PySem.Str.ofString "filestack") (nk 16), .ref fs⟩, ⟨PyData.keyHash w.params (PySem.Str.ofString "source"), .str (PySem.Str.ofString "source") (nk 17), .none⟩, ⟨PyData.keyHash w.params (PySem.Str.ofString "_punctuation_chars"), .str (PySem.Str.ofString "_punctuation_chars") (nk 18), .str (PySem.Str.ofString "") (vt 18)⟩] 19), (yy, instObj 703 e), (e, dictOf [⟨PyData.keyHash w.params (PySem.Str.ofString "_StringIO__newline"), .str (PySem.Str.ofString "_StringIO__newline") n1, .str (PySem.Str.ofString "\n") t1⟩, ⟨PyData.keyHash w.params (PySem.Str.ofString "_StringIO__buf"), .str (PySem.Str.ofString "_StringIO__buf") n2, .str y t2⟩, ⟨PyData.keyHash w.params (PySem.Str.ofString "_StringIO__pos"), .str (PySem.Str.ofString "_StringIO__pos") n3, .int (z + W.length + 1) t3'⟩] 3), (pb, dqObj), (fs, dqObj)] s Q (.str ⟨W.toArray⟩ t)) :
    wpAny (model P0 w) A (call (.ref 757) [.ref x]) Q E s := by
  rcases c with ⟨dp, un, gd, cn, cs, a, ccd, cl, outer, A₀, lo, mean, mg, mb, B, F, X, N, T, hk, hd, hu⟩
  refine wpAny_call ?_
  k_dflt (refine' enterP [("self", .ref x)] [(x, instObj 796 d), (d, dictOf [⟨PyData.keyHash w.params (PySem.Str.ofString "instream"), .str (PySem.Str.ofString "instream") (nk 0), .ref yy⟩, ⟨PyData.keyHash w.params (PySem.Str.ofString "infile"), .str (PySem.Str.ofString "infile") (nk 1), .none⟩, ⟨PyData.keyHash w.params (PySem.Str.ofString "posix"), .str (PySem.Str.ofString "posix") (nk 2), .bool true⟩, ⟨PyData.keyHash w.params (PySem.Str.ofString "eof"), .str (PySem.Str.ofString "eof") (nk 3), .none⟩, ⟨PyData.keyHash w.params (PySem.Str.ofString "commenters"), .str (PySem.Str.ofString "commenters") (nk 4), .str (PySem.Str.ofString "") (vt 4)⟩, ⟨PyData.keyHash w.params (PySem.Str.ofString "wordchars"), .str (PySem.Str.ofString "wordchars") (nk 5), .str (PySem.Str.ofString "abcdfeghijklmnopqrstuvwxyzABCDEFGHIJKLMNOPQRSTUVWXYZ0123456789_ßàáâãäåæçèéêëìíîïðñòóôõöøùúûüýþÿÀÁÂÃÄÅÆÇÈÉÊËÌÍÎÏÐÑÒÓÔÕÖØÙÚÛÜÝÞ") (vt 5)⟩, ⟨PyData.keyHash w.params (PySem.Str.ofString "whitespace"), .str (PySem.Str.ofString "whitespace") (nk 6), .str (PySem.Str.ofString " \t\r\n") (vt 6)⟩, ⟨PyData.keyHash w.params (PySem.Str.ofString "whitespace_split"), .str (PySem.Str.ofString "whitespace_split") (nk 7), .bool true⟩, ⟨PyData.keyHash w.params (PySem.Str.ofString "quotes"), .str (PySem.Str.ofString "quotes") (nk 8), .str (PySem.Str.ofString "'\"") (vt 8)⟩, ⟨PyData.keyHash w.params (PySem.Str.ofString "escape"), .str (PySem.Str.ofString "escape") (nk 9), .str (PySem.Str.ofString "\\") (vt 9)⟩, ⟨PyData.keyHash w.params (PySem.Str.ofString "escapedquotes"), .str (PySem.Str.ofString "escapedquotes") (nk 10), .str (PySem.Str.ofString "\"") (vt 10)⟩, ⟨PyData.keyHash w.params (PySem.Str.ofString "state"), .str (PySem.Str.ofString "state") (nk 11), .str (PySem.Str.ofString " ") ss⟩, ⟨PyData.keyHash w.params (PySem.Str.ofString "pushback"), .str (PySem.Str.ofString "pushback") (nk 12), .ref pb⟩, ⟨PyData.keyHash w.params (PySem.Str.ofString "lineno"), .str (PySem.Str.ofString "lineno") (nk 13), .int 1 (vt 13)⟩, ⟨PyData.keyHash w.params (PySem.Str.ofString "debug"), .str (PySem.Str.ofString "debug") (nk 14), .int 0 (vt 14)⟩, ⟨PyData.keyHash w.params (PySem.Str.ofString "token"), .str (PySem.Str.ofString "token") (nk 15), .str tok tt⟩, ⟨PyData.keyHash w.params (PySem.Str.ofString "filestack"), .str (PySem.Str.ofString "filestack") (nk 16), .ref fs⟩, ⟨PyData.keyHash w.params (PySem.Str.ofString "source"), .str (PySem.Str.ofString "source") (nk 17), .none⟩, ⟨PyData.keyHash w.params (PySem.Str.ofString "_punctuation_chars"), .str (PySem.Str.ofString "_punctuation_chars") (nk 18), .str (PySem.Str.ofString "") (vt 18)⟩] 19), (yy, instObj 703 e), (e, dictOf [⟨PyData.keyHash w.params (PySem.Str.ofString "_StringIO__newline"), .str (PySem.Str.ofString "_StringIO__newline") n1, .str (PySem.Str.ofString "\n") t1⟩, ⟨PyData.keyHash w.params (PySem.Str.ofString "_StringIO__buf"), .str (PySem.Str.ofString "_StringIO__buf") n2, .str y t2⟩, ⟨PyData.keyHash w.params (PySem.Str.ofString "_StringIO__pos"), .str (PySem.Str.ofString "_StringIO__pos") n3, .int z t3⟩] 3), (pb, dqObj), (fs, dqObj)] [] ?k1 ?k2 ?k3 ?k4 ?k5 ?kA ?kF ?kK ?h1 ?h2 ?h3 ?k6 ?k7 ?k8 ?k9 ?kB ?c2 ?c3 ?c4 ?c5 ?kG)
  k_dflt ((case kA => exact rfl); (case kF => exact rfl); (case kK => first | exact rfl | assumption); (case k1 => k_asm); (case k2 => k_asm); (case k3 => k_asm); (case k4 => k_asm); (case k5 => k_asm); (case k6 => k_is); (case k7 => k_is); (case k8 => ktr_room); (case k9 => exact kp_binds (by k_in) (fun _ => by kernel_rfl)); (case kB => exact locs rfl); (case c2 => exact rfl); (case c3 => exact rfl); (case c4 => exact rfl); (case c5 => decide); (case h1 => exact fun _ h => h); (case h2 => exact fun _ h => nomatch h); (case h3 => exact fun _ h => nomatch h); (intro g' L' h' FG' F' N' B' X' T' R'); (try dsimp only [List.reverse_cons, List.reverse_nil, List.nil_append, List.cons_append] at F'); (try dsimp only); (try k_fold))
  obtain ⟨o1, o2, o3, o4, o5⟩ := id o
  k_steps
  exact hret _ _ _ _ _ _ (by k_asm) (by k_asm)
end
section
variable {w : World} {A : Around} {base h₀ : Heap} {L : Addr} {m : LM} {news : Led} {s : Shared} {Q E : PQ}
theorem rows17 : True := by
  k_with_none
  k_with "call type:type" => (((with_reducible show wpAny _ _ (call (Value.type "type") [Value.bytes _ _]) _ _ _); refine type_bytes ?_))
  k_with "compareOp In str str" => ((k_dflt (first | refine in_is (b := false) (by assumption) ?_ | refine in_is (b := true) (by assumption) ?_ | refine in_is (b := false) (by decide +kernel) ?_ | refine in_is (b := true) (by decide +kernel) ?_)))
  k_with "compareOp NotIn str str" => ((k_dflt (first | refine notIn_is (b := false) (by assumption) ?_ | refine notIn_is (b := true) (by assumption) ?_ | refine notIn_is (b := false) (by decide +kernel) ?_ | refine notIn_is (b := true) (by decide +kernel) ?_)))
  k_with "compareOp Eq str str" => ((k_dflt (first | refine eq_is (b := false) (by assumption) ?_ | refine eq_is (b := true) (by assumption) ?_ | refine eq_is (b := false) (by decide +kernel) ?_ | refine eq_is (b := true) (by decide +kernel) ?_)))
  k_with "truthy str" => (((with_reducible show wpAny _ _ (PySem.truthy (Value.str _ _)) _ _ _); k_dflt (first | refine KXt.truthy (b := true) (by assumption) (by size_fits) ?_ | refine KXt.truthy (b := false) (by assumption) (by size_fits) ?_ | refine KXt.truthy (b := false) (by decide +kernel) (by decide) ?_ | refine KXt.truthy (b := true) (by decide +kernel) (by decide) ?_); intro _))
  k_with "truthy ref" => ((k_dflt (refine truthy_dq (News.get (by k_asm) (by k_mem)) ?_); intro _))
  k_with "call ref" => (((with_reducible show wpAny _ _ (call (Value.ref 764) _ _) _ _ _); k_dflt (refine' rt_blank (Cx.mk _ _ _ _ _ _ _ _ _ _ _ _ _ _ ?b ?f ?x ?n ?t ?k ?d ?u) ?q0 ?q1 ?q2 ?q3 ?q4 ?q5 ?q6 ?q7 ?_; ((case b => k_asm); (case f => k_asm); (case x => k_asm); (case n => k_asm); (case t => k_asm); (case k => first | exact rfl | assumption); (case d => ktr_room); (case u => ktr_units)); (case q5 => assumption); (case q0 => assumption); (case q1 => assumption); (case q2 => assumption); (case q3 => assumption); (case q4 => assumption); (case q6 => assumption); (case q7 => assumption); (intro _ _ _ _ _ _ _ _))))
  k_with "call ref" => (((with_reducible show wpAny _ _ (call (Value.ref 764) _ _) _ _ _); k_dflt (refine' rt_last (Cx.mk _ _ _ _ _ _ _ _ _ _ _ _ _ _ ?b ?f ?x ?n ?t ?k ?d ?u) ?q0 ?q1 ?q2 ?q3 ?q4 ?q5 ?q6 ?q7 ?_; ((case b => k_asm); (case f => k_asm); (case x => k_asm); (case n => k_asm); (case t => k_asm); (case k => first | exact rfl | assumption); (case d => ktr_room); (case u => ktr_units)); (case q5 => assumption); (case q0 => assumption); (case q1 => assumption); (case q2 => assumption); (case q3 => assumption); (case q4 => assumption); (case q6 => assumption); (case q7 => assumption); (intro _ _ _ _ _ _ _))))
  exact trivial
theorem gt_last {y : PySem.Str} {z : Int} {t2 t3 : Tok} {n1 n2 n3 t1 : Tok} {nk vt : Nat → Tok} {x d yy e pb fs : Addr} {tok : PySem.Str} {ss tt : Tok} {W tail : List Nat} (c : Cx w base h₀ L m [(x, instObj 796 d), (d, dictOf [⟨PyData.keyHash w.params (PySem.Str.ofString "instream"), .str (PySem.Str.ofString "instream") (nk 0), .ref yy⟩, ⟨PyData.keyHash w.params (PySem.Str.ofString "infile"), .str (PySem.Str.ofString "infile") (nk 1), .none⟩, ⟨PyData.keyHash w.params (PySem.Str.ofString "posix"), .str (PySem.Str.ofString "posix") (nk 2), .bool true⟩, ⟨PyData.keyHash w.params (PySem.Str.ofString "eof"), .str (PySem.Str.ofString "eof") (nk 3), .none⟩, ⟨PyData.keyHash w.params (PySem.Str.ofString "commenters"), .str (PySem.Str.ofString "commenters") (nk 4), .str (PySem.Str.ofString "") (vt 4)⟩, ⟨PyData.keyHash w.params (PySem.Str.ofString "wordchars"), .str (PySem.Str.ofString "wordchars") (nk 5), .str (PySem.Str.ofString "abcdfeghijklmnopqrstuvwxyzABCDEFGHIJKLMNOPQRSTUVWXYZ0123456789_ßàáâãäåæçèéêëìíîïðñòóôõöøùúûüýþÿÀÁÂÃÄÅÆÇÈÉÊËÌÍÎÏÐÑÒÓÔÕÖØÙÚÛÜÝÞ") (vt 5)⟩, ⟨PyData.keyHash w.params (PySem.Str.ofString "whitespace"), .str (PySem.Str.ofString "whitespace") (nk 6), .str (PySem.Str.ofString " \t\r\n") (vt 6)⟩, ⟨PyData.keyHash w.params (PySem.Str.ofString "whitespace_split"), .str (PySem.Str.ofString "whitespace_split") (nk 7), .bool true⟩, ⟨PyData.keyHash w.params (PySem.Str.ofString "quotes"), .str (PySem.Str.ofString "quotes") (nk 8), .str (PySem.Str.ofString "'\"") (vt 8)⟩, ⟨PyData.keyHash w.params (PySem.Str.ofString "escape"), .str (PySem.Str.ofString "escape") (nk 9), .str (PySem.Str.ofString "\\") (vt 9)⟩, ⟨PyData.keyHash w.params (PySem.Str.ofString "escapedquotes"), .str (PySem.Str.ofString "escapedquotes") (nk 10), .str (PySem.Str.ofString "\"") (vt 10)⟩, ⟨PyData.keyHash w.params (PySem.Str.ofString "state"), .str (PySem.Str.ofString "state") (nk 11), .str (PySem.Str.ofString " ") ss⟩, ⟨PyData.keyHash w.params (PySem.Str.ofString "pushback"), .str (PySem.Str.ofString "pushback") (nk 12), .ref pb⟩, ⟨PyData.keyHash w.params (PySem.Str.ofString "lineno"), .str (PySem.Str.ofString "lineno") (nk 13), .int 1 (vt 13)⟩, ⟨PyData.keyHash w.params (PySem.Str.ofString "debug"), .str (PySem.Str.ofString "debug") (nk 14), .int 0 (vt 14)⟩, ⟨PyData.keyHash w.params (PySem.Str.ofString "token"), .str (PySem.Str.ofString "token") (nk 15), .str tok tt⟩, ⟨PyData.keyHash w.params (PySem.Str.ofString "filestack"), .str (PySem.Str.ofString "filestack") (nk 16), .ref fs⟩, ⟨PyData.keyHash w.params (PySem.Str.ofString "source"), .str (PySem.Str.ofString "source") (nk 17), .none⟩, ⟨PyData.keyHash w.params (PySem.Str.ofString "_punctuation_chars"), .str (PySem.Str.ofString "_punctuation_chars") (nk 18), .str (PySem.Str.ofString "") (vt 18)⟩] 19), (yy, instObj 703 e), (e, dictOf [⟨PyData.keyHash w.params (PySem.Str.ofString "_StringIO__newline"), .str (PySem.Str.ofString "_StringIO__newline") n1, .str (PySem.Str.ofString "\n") t1⟩, ⟨PyData.keyHash w.params (PySem.Str.ofString "_StringIO__buf"), .str (PySem.Str.ofString "_StringIO__buf") n2, .str y t2⟩, ⟨PyData.keyHash w.params (PySem.Str.ofString "_StringIO__pos"), .str (PySem.Str.ofString "_StringIO__pos") n3, .int z t3⟩] 3), (pb, dqObj), (fs, dqObj)] s.heap 60 600 A) (o : Ords d x e yy pb fs) (hp : 0 ≤ z) (hy : y.length ≤ 200) (hW : W ≠ []) (hs : ∀ c ∈ W, SignC c) (hdrop : y.cps.toList.drop z.toNat = W ++ tail) (ht : ∀ c r, tail = c :: r → ((⟨#[c]⟩ : PySem.Str) == PySem.Str.ofString "\n") = false ∧ has (PySem.Str.ofString " \t\r\n") ⟨#[c]⟩ = true)  (hT : tail = []) (hret : ∀ t3' tt3 t, Back h₀ L m [(x, instObj 796 d), (d, dictOf [⟨PyData.keyHash w.params (PySem.Str.ofString "instream"), .str (PySem.Str.ofString "instream") (nk 0), .ref yy⟩, ⟨PyData.keyHash w.params (PySem.Str.ofString "infile"), .str (PySem.Str.ofString "infile") (nk 1), .none⟩, ⟨PyData.keyHash w.params (PySem.Str.ofString "posix"), .str (PySem.Str.ofString "posix") (nk 2), .bool true⟩, ⟨PyData.keyHash w.params (PySem.Str.ofString "eof"), .str (PySem.Str.ofString "eof") (nk 3), .none⟩, ⟨PyData.keyHash w.params (PySem.Str.ofString "commenters"), .str (PySem.Str.ofString "commenters") (nk 4), .str (PySem.Str.ofString "") (vt 4)⟩, ⟨PyData.keyHash w.params (PySem.Str.ofString "wordchars"), .str (PySem.Str.ofString "wordchars") (nk 5), .str (PySem.Str.ofString "abcdfeghijklmnopqrstuvwxyzABCDEFGHIJKLMNOPQRSTUVWXYZ0123456789_ßàáâãäåæçèéêëìíîïðñòóôõöøùúûüýþÿÀÁÂÃÄÅÆÇÈÉÊËÌÍÎÏÐÑÒÓÔÕÖØÙÚÛÜÝÞ") (vt 5)⟩, ⟨PyData.keyHash w.params (PySem.Str.ofString "whitespace"), .str (PySem.Str.ofString "whitespace") (nk 6), .str (PySem.Str.ofString " \t\r\n") (vt 6)⟩, ⟨PyData.keyHash w.params (PySem.Str.ofString "whitespace_split"), .str (PySem.Str.ofString "whitespace_split") (nk 7), .bool true⟩, ⟨PyData.keyHash w.params (PySem.Str.ofString "quotes"), .str (PySem.Str.ofString "quotes") (nk 8), .str (PySem.Str.ofString "'\"") (vt 8)⟩, ⟨PyData.keyHash w.params (PySem.Str.ofString "escape"), .str (PySem.Str.ofString "escape") (nk 9), .str (PySem.Str.ofString "\\") (vt 9)⟩, ⟨PyData.keyHash w.params (PySem.Str.ofString "escapedquotes"), .str (PySem.Str.ofString "escapedquotes") (nk 10), .str (PySem.Str.ofString "\"") (vt 10)⟩, ⟨PyData.keyHash w.params (PySem.Str.ofString "state"), .str (PySem.Str.ofString "state") (nk 11), .none⟩, ⟨PyData.keyHash w.params (PySem.Str.ofString "pushback"), .str (PySem.Str.ofString "pushback") (nk 12), .ref pb⟩, ⟨PyData.keyHash w.params (PySem.Str.ofString "lineno"), .str (PySem.Str.ofString "lineno") (nk 13), .int 1 (vt 13)⟩, ⟨PyData.keyHash w.params (PySem.Str.ofString "debug"), .str (PySem.Str.ofString "debug") (nk 14), .int 0 (vt 14)⟩, ⟨PyData.keyHash w.params (PySem.Str.ofString "token"), .str (PySem.Str.ofString "token") (nk 15), .str (PySem.Str.ofString "") tt3⟩, ⟨PyData.keyHash w.params (PySem.Str.ofString "filestack"), .str (PySem.Str.ofString "filestack") (nk 16), .ref fs⟩, ⟨PyData.keyHash w.params (PySem.Str.ofString "source"), .str (PySem.Str.ofString "source") (nk 17), .none⟩, ⟨PyData.keyHash w.params (PySem.Str.ofString "_punctuation_chars"), .str (PySem.Str.ofString "_punctuation_chars") (nk 18), .str (PySem.Str.ofString "") (vt 18)⟩] 19), (yy, instObj 703 e), (e, dictOf [⟨PyData.keyHash w.params (PySem.Str.ofString "_StringIO__newline"), .str (PySem.Str.ofString "_StringIO__newline") n1, .str (PySem.Str.ofString "\n") t1⟩, ⟨PyData.keyHash w.params (PySem.Str.ofString "_StringIO__buf"), .str (PySem.Str.ofString "_StringIO__buf") n2, .str y t2⟩, ⟨PyData.keyHash w.params (PySem.Str.ofString "_StringIO__pos"), .str (PySem.Str.ofString "_StringIO__pos") n3, .int (z + W.length) t3'⟩] 3), (pb, dqObj), (fs, dqObj)] s Q (.str ⟨W.toArray⟩ t)) :
    wpAny (model P0 w) A (call (.ref 757) [.ref x]) Q E s := by
  rcases c with ⟨dp, un, gd, cn, cs, a, ccd, cl, outer, A₀, lo, mean, mg, mb, B, F, X, N, T, hk, hd, hu⟩
  refine wpAny_call ?_
  k_dflt (refine' enterP [("self", .ref x)] [(x, instObj 796 d), (d, dictOf [⟨PyData.keyHash w.params (PySem.Str.ofString "instream"), .str (PySem.Str.ofString "instream") (nk 0), .ref yy⟩, ⟨PyData.keyHash w.params (PySem.Str.ofString "infile"), .str (PySem.Str.ofString "infile") (nk 1), .none⟩, ⟨PyData.keyHash w.params (PySem.Str.ofString "posix"), .str (PySem.Str.ofString "posix") (nk 2), .bool true⟩, ⟨PyData.keyHash w.params (PySem.Str.ofString "eof"), .str (PySem.Str.ofString "eof") (nk 3), .none⟩, ⟨PyData.keyHash w.params (PySem.Str.ofString "commenters"), .str (PySem.Str.ofString "commenters") (nk 4), .str (PySem.Str.ofString "") (vt 4)⟩, ⟨PyData.keyHash w.params (PySem.Str.ofString "wordchars"), .str (PySem.Str.ofString "wordchars") (nk 5), .str (PySem.Str.ofString "abcdfeghijklmnopqrstuvwxyzABCDEFGHIJKLMNOPQRSTUVWXYZ0123456789_ßàáâãäåæçèéêëìíîïðñòóôõöøùúûüýþÿÀÁÂÃÄÅÆÇÈÉÊËÌÍÎÏÐÑÒÓÔÕÖØÙÚÛÜÝÞ") (vt 5)⟩, ⟨PyData.keyHash w.params (PySem.Str.ofString "whitespace"), .str (PySem.Str.ofString "whitespace") (nk 6), .str (PySem.Str.ofString " \t\r\n") (vt 6)⟩, ⟨PyData.keyHash w.params (PySem.Str.ofString "whitespace_split"), .str (PySem.Str.ofString "whitespace_split") (nk 7), .bool true⟩, ⟨PyData.keyHash w.params (PySem.Str.ofString "quotes"), .str (PySem.Str.ofString "quotes") (nk 8), .str (PySem.Str.ofString "'\"") (vt 8)⟩, ⟨PyData.keyHash w.params (PySem.Str.ofString "escape"), .str (PySem.Str.ofString "escape") (nk 9), .str (PySem.Str.ofString "\\") (vt 9)⟩, ⟨PyData.keyHash w.params (PySem.Str.ofString "escapedquotes"), .str (PySem.Str.ofString "escapedquotes") (nk 10), .str (PySem.Str.ofString "\"") (vt 10)⟩, ⟨PyData.keyHash w.params (PySem.Str.ofString "state"), .str (PySem.Str.ofString "state") (nk 11), .str (PySem.Str.ofString " ") ss⟩, ⟨PyData.keyHash w.params (PySem.Str.ofString "pushback"), .str (PySem.Str.ofString "pushback") (nk 12), .ref pb⟩, ⟨PyData.keyHash w.params (PySem.Str.ofString "lineno"), .str (PySem.Str.ofString "lineno") (nk 13), .int 1 (vt 13)⟩, ⟨PyData.keyHash w.params (PySem.Str.ofString "debug"), .str (PySem.Str.ofString "debug") (nk 14), .int 0 (vt 14)⟩, ⟨PyData.keyHash w.params (PySem.Str.ofString "token"), .str (PySem.Str.ofString "token") (nk 15), .str tok tt⟩, ⟨PyData.keyHash w.params (PySem.Str.ofString "filestack"), .str (PySem.Str.ofString "filestack") (nk 16), .ref fs⟩, ⟨PyData.keyHash w.params (PySem.Str.ofString "source"), .str (PySem.Str.ofString "source") (nk 17), .none⟩, ⟨PyData.keyHash w.params (PySem.Str.ofString "_punctuation_chars"), .str (PySem.Str.ofString "_punctuation_chars") (nk 18), .str (PySem.Str.ofString "") (vt 18)⟩] 19), (yy, instObj 703 e), (e, dictOf [⟨PyData.keyHash w.params (PySem.Str.ofString "_StringIO__newline"), .str (PySem.Str.ofString "_StringIO__newline") n1, .str (PySem.Str.ofString "\n") t1⟩, ⟨PyData.keyHash w.params (PySem.Str.ofString "_StringIO__buf"), .str (PySem.Str.ofString "_StringIO__buf") n2, .str y t2⟩, ⟨PyData.keyHash w.params (PySem.Str.ofString "_StringIO__pos"), .str (PySem.Str.ofString "_StringIO__pos") n3, .int z t3⟩] 3), (pb, dqObj), (fs, dqObj)] [] ?k1 ?k2 ?k3 ?k4 ?k5 ?kA ?kF ?kK ?h1 ?h2 ?h3 ?k6 ?k7 ?k8 ?k9 ?kB ?c2 ?c3 ?c4 ?c5 ?kG)
  k_dflt ((case kA => exact rfl); (case kF => exact rfl); (case kK => first | exact rfl | assumption); (case k1 => k_asm); (case k2 => k_asm); (case k3 => k_asm); (case k4 => k_asm); (case k5 => k_asm); (case k6 => k_is); (case k7 => k_is); (case k8 => ktr_room); (case k9 => exact kp_binds (by k_in) (fun _ => by kernel_rfl)); (case kB => exact locs rfl); (case c2 => exact rfl); (case c3 => exact rfl); (case c4 => exact rfl); (case c5 => decide); (case h1 => exact fun _ h => h); (case h2 => exact fun _ h => nomatch h); (case h3 => exact fun _ h => nomatch h); (intro g' L' h' FG' F' N' B' X' T' R'); (try dsimp only [List.reverse_cons, List.reverse_nil, List.nil_append, List.cons_append] at F'); (try dsimp only); (try k_fold))
  obtain ⟨o1, o2, o3, o4, o5⟩ := id o
  k_steps
  exact hret _ _ _ _ _ (by k_asm) (by k_asm)
end
section
variable {w : World} {A : Around} {base h₀ : Heap} {L : Addr} {m : LM} {news : Led} {s : Shared} {Q E : PQ}
theorem rows18 : True := by
  k_with_none
  k_with "call type:type" => (((with_reducible show wpAny _ _ (call (Value.type "type") [Value.bytes _ _]) _ _ _); refine type_bytes ?_))
  k_with "compareOp In str str" => ((k_dflt (first | refine in_is (b := false) (by assumption) ?_ | refine in_is (b := true) (by assumption) ?_ | refine in_is (b := false) (by decide +kernel) ?_ | refine in_is (b := true) (by decide +kernel) ?_)))
  k_with "compareOp NotIn str str" => ((k_dflt (first | refine notIn_is (b := false) (by assumption) ?_ | refine notIn_is (b := true) (by assumption) ?_ | refine notIn_is (b := false) (by decide +kernel) ?_ | refine notIn_is (b := true) (by decide +kernel) ?_)))
  k_with "compareOp Eq str str" => ((k_dflt (first | refine eq_is (b := false) (by assumption) ?_ | refine eq_is (b := true) (by assumption) ?_ | refine eq_is (b := false) (by decide +kernel) ?_ | refine eq_is (b := true) (by decide +kernel) ?_)))
  k_with "truthy str" => (((with_reducible show wpAny _ _ (PySem.truthy (Value.str _ _)) _ _ _); k_dflt (first | refine KXt.truthy (b := true) (by assumption) (by size_fits) ?_ | refine KXt.truthy (b := false) (by assumption) (by size_fits) ?_ | refine KXt.truthy (b := false) (by decide +kernel) (by decide) ?_ | refine KXt.truthy (b := true) (by decide +kernel) (by decide) ?_); intro _))
  k_with "truthy ref" => ((k_dflt (refine truthy_dq (News.get (by k_asm) (by k_mem)) ?_); intro _))
  k_with "call ref" => (((with_reducible show wpAny _ _ (call (Value.ref 764) _ _) _ _ _); k_dflt (refine' rt_blank (Cx.mk _ _ _ _ _ _ _ _ _ _ _ _ _ _ ?b ?f ?x ?n ?t ?k ?d ?u) ?q0 ?q1 ?q2 ?q3 ?q4 ?q5 ?q6 ?q7 ?_; ((case b => k_asm); (case f => k_asm); (case x => k_asm); (case n => k_asm); (case t => k_asm); (case k => first | exact rfl | assumption); (case d => ktr_room); (case u => ktr_units)); (case q5 => assumption); (case q0 => assumption); (case q1 => assumption); (case q2 => assumption); (case q3 => assumption); (case q4 => assumption); (case q6 => assumption); (case q7 => assumption); (intro _ _ _ _ _ _ _ _))))
  k_with "call ref" => (((with_reducible show wpAny _ _ (call (Value.ref 764) _ _) _ _ _); k_dflt (refine' rt_last (Cx.mk _ _ _ _ _ _ _ _ _ _ _ _ _ _ ?b ?f ?x ?n ?t ?k ?d ?u) ?q0 ?q1 ?q2 ?q3 ?q4 ?q5 ?q6 ?q7 ?_; ((case b => k_asm); (case f => k_asm); (case x => k_asm); (case n => k_asm); (case t => k_asm); (case k => first | exact rfl | assumption); (case d => ktr_room); (case u => ktr_units)); (case q5 => assumption); (case q0 => assumption); (case q1 => assumption); (case q2 => assumption); (case q3 => assumption); (case q4 => assumption); (case q6 => assumption); (case q7 => assumption); (intro _ _ _ _ _ _ _))))
  k_with "call ref" => (((with_reducible show wpAny _ _ (call (Value.ref 764) _ _) _ _ _); k_dflt (refine' rt_over (Cx.mk _ _ _ _ _ _ _ _ _ _ _ _ _ _ ?b ?f ?x ?n ?t ?k ?d ?u) ?q0 ?q1 ?q2 ?q3 ?_; ((case b => k_asm); (case f => k_asm); (case x => k_asm); (case n => k_asm); (case t => k_asm); (case k => first | exact rfl | assumption); (case d => ktr_room); (case u => ktr_units)); (case q0 => assumption); (case q1 => assumption); (case q2 => assumption); (case q3 => assumption); (intro _ _ _ _ _))))
  exact trivial
theorem gt_over {y : PySem.Str} {z : Int} {t2 t3 : Tok} {n1 n2 n3 t1 : Tok} {nk vt : Nat → Tok} {x d yy e pb fs : Addr} {tok : PySem.Str} {tt : Tok} (c : Cx w base h₀ L m [(x, instObj 796 d), (d, dictOf [⟨PyData.keyHash w.params (PySem.Str.ofString "instream"), .str (PySem.Str.ofString "instream") (nk 0), .ref yy⟩, ⟨PyData.keyHash w.params (PySem.Str.ofString "infile"), .str (PySem.Str.ofString "infile") (nk 1), .none⟩, ⟨PyData.keyHash w.params (PySem.Str.ofString "posix"), .str (PySem.Str.ofString "posix") (nk 2), .bool true⟩, ⟨PyData.keyHash w.params (PySem.Str.ofString "eof"), .str (PySem.Str.ofString "eof") (nk 3), .none⟩, ⟨PyData.keyHash w.params (PySem.Str.ofString "commenters"), .str (PySem.Str.ofString "commenters") (nk 4), .str (PySem.Str.ofString "") (vt 4)⟩, ⟨PyData.keyHash w.params (PySem.Str.ofString "wordchars"), .str (PySem.Str.ofString "wordchars") (nk 5), .str (PySem.Str.ofString "abcdfeghijklmnopqrstuvwxyzABCDEFGHIJKLMNOPQRSTUVWXYZ0123456789_ßàáâãäåæçèéêëìíîïðñòóôõöøùúûüýþÿÀÁÂÃÄÅÆÇÈÉÊËÌÍÎÏÐÑÒÓÔÕÖØÙÚÛÜÝÞ") (vt 5)⟩, ⟨PyData.keyHash w.params (PySem.Str.ofString "whitespace"), .str (PySem.Str.ofString "whitespace") (nk 6), .str (PySem.Str.ofString " \t\r\n") (vt 6)⟩, ⟨PyData.keyHash w.params (PySem.Str.ofString "whitespace_split"), .str (PySem.Str.ofString "whitespace_split") (nk 7), .bool true⟩, ⟨PyData.keyHash w.params (PySem.Str.ofString "quotes"), .str (PySem.Str.ofString "quotes") (nk 8), .str (PySem.Str.ofString "'\"") (vt 8)⟩, ⟨PyData.keyHash w.params (PySem.Str.ofString "escape"), .str (PySem.Str.ofString "escape") (nk 9), .str (PySem.Str.ofString "\\") (vt 9)⟩, ⟨PyData.keyHash w.params (PySem.Str.ofString "escapedquotes"), .str (PySem.Str.ofString "escapedquotes") (nk 10), .str (PySem.Str.ofString "\"") (vt 10)⟩, ⟨PyData.keyHash w.params (PySem.Str.ofString "state"), .str (PySem.Str.ofString "state") (nk 11), .none⟩, ⟨PyData.keyHash w.params (PySem.Str.ofString "pushback"), .str (PySem.Str.ofString "pushback") (nk 12), .ref pb⟩, ⟨PyData.keyHash w.params (PySem.Str.ofString "lineno"), .str (PySem.Str.ofString "lineno") (nk 13), .int 1 (vt 13)⟩, ⟨PyData.keyHash w.params (PySem.Str.ofString "debug"), .str (PySem.Str.ofString "debug") (nk 14), .int 0 (vt 14)⟩, ⟨PyData.keyHash w.params (PySem.Str.ofString "token"), .str (PySem.Str.ofString "token") (nk 15), .str tok tt⟩, ⟨PyData.keyHash w.params (PySem.Str.ofString "filestack"), .str (PySem.Str.ofString "filestack") (nk 16), .ref fs⟩, ⟨PyData.keyHash w.params (PySem.Str.ofString "source"), .str (PySem.Str.ofString "source") (nk 17), .none⟩, ⟨PyData.keyHash w.params (PySem.Str.ofString "_punctuation_chars"), .str (PySem.Str.ofString "_punctuation_chars") (nk 18), .str (PySem.Str.ofString "") (vt 18)⟩] 19), (yy, instObj 703 e), (e, dictOf [⟨PyData.keyHash w.params (PySem.Str.ofString "_StringIO__newline"), .str (PySem.Str.ofString "_StringIO__newline") n1, .str (PySem.Str.ofString "\n") t1⟩, ⟨PyData.keyHash w.params (PySem.Str.ofString "_StringIO__buf"), .str (PySem.Str.ofString "_StringIO__buf") n2, .str y t2⟩, ⟨PyData.keyHash w.params (PySem.Str.ofString "_StringIO__pos"), .str (PySem.Str.ofString "_StringIO__pos") n3, .int z t3⟩] 3), (pb, dqObj), (fs, dqObj)] s.heap 60 600 A) (o : Ords d x e yy pb fs) (hp : 0 ≤ z) (hy : y.length ≤ 200) (hz : z = y.length) (hret : ∀ tt3, Back h₀ L m [(x, instObj 796 d), (d, dictOf [⟨PyData.keyHash w.params (PySem.Str.ofString "instream"), .str (PySem.Str.ofString "instream") (nk 0), .ref yy⟩, ⟨PyData.keyHash w.params (PySem.Str.ofString "infile"), .str (PySem.Str.ofString "infile") (nk 1), .none⟩, ⟨PyData.keyHash w.params (PySem.Str.ofString "posix"), .str (PySem.Str.ofString "posix") (nk 2), .bool true⟩, ⟨PyData.keyHash w.params (PySem.Str.ofString "eof"), .str (PySem.Str.ofString "eof") (nk 3), .none⟩, ⟨PyData.keyHash w.params (PySem.Str.ofString "commenters"), .str (PySem.Str.ofString "commenters") (nk 4), .str (PySem.Str.ofString "") (vt 4)⟩, ⟨PyData.keyHash w.params (PySem.Str.ofString "wordchars"), .str (PySem.Str.ofString "wordchars") (nk 5), .str (PySem.Str.ofString "abcdfeghijklmnopqrstuvwxyzABCDEFGHIJKLMNOPQRSTUVWXYZ0123456789_ßàáâãäåæçèéêëìíîïðñòóôõöøùúûüýþÿÀÁÂÃÄÅÆÇÈÉÊËÌÍÎÏÐÑÒÓÔÕÖØÙÚÛÜÝÞ") (vt 5)⟩, ⟨PyData.keyHash w.params (PySem.Str.ofString "whitespace"), .str (PySem.Str.ofString "whitespace") (nk 6), .str (PySem.Str.ofString " \t\r\n") (vt 6)⟩, ⟨PyData.keyHash w.params (PySem.Str.ofString "whitespace_split"), .str (PySem.Str.ofString "whitespace_split") (nk 7), .bool true⟩, ⟨PyData.keyHash w.params (PySem.Str.ofString "quotes"), .str (PySem.Str.ofString "quotes") (nk 8), .str (PySem.Str.ofString "'\"") (vt 8)⟩, ⟨PyData.keyHash w.params (PySem.Str.ofString "escape"), .str (PySem.Str.ofString "escape") (nk 9), .str (PySem.Str.ofString "\\") (vt 9)⟩, ⟨PyData.keyHash w.params (PySem.Str.ofString "escapedquotes"), .str (PySem.Str.ofString "escapedquotes") (nk 10), .str (PySem.Str.ofString "\"") (vt 10)⟩, ⟨PyData.keyHash w.params (PySem.Str.ofString "state"), .str (PySem.Str.ofString "state") (nk 11), .none⟩, ⟨PyData.keyHash w.params (PySem.Str.ofString "pushback"), .str (PySem.Str.ofString "pushback") (nk 12), .ref pb⟩, ⟨PyData.keyHash w.params (PySem.Str.ofString "lineno"), .str (PySem.Str.ofString "lineno") (nk 13), .int 1 (vt 13)⟩, ⟨PyData.keyHash w.params (PySem.Str.ofString "debug"), .str (PySem.Str.ofString "debug") (nk 14), .int 0 (vt 14)⟩, ⟨PyData.keyHash w.params (PySem.Str.ofString "token"), .str (PySem.Str.ofString "token") (nk 15), .str (PySem.Str.ofString "") tt3⟩, ⟨PyData.keyHash w.params (PySem.Str.ofString "filestack"), .str (PySem.Str.ofString "filestack") (nk 16), .ref fs⟩, ⟨PyData.keyHash w.params (PySem.Str.ofString "source"), .str (PySem.Str.ofString "source") (nk 17), .none⟩, ⟨PyData.keyHash w.params (PySem.Str.ofString "_punctuation_chars"), .str (PySem.Str.ofString "_punctuation_chars") (nk 18), .str (PySem.Str.ofString "") (vt 18)⟩] 19), (yy, instObj 703 e), (e, dictOf [⟨PyData.keyHash w.params (PySem.Str.ofString "_StringIO__newline"), .str (PySem.Str.ofString "_StringIO__newline") n1, .str (PySem.Str.ofString "\n") t1⟩, ⟨PyData.keyHash w.params (PySem.Str.ofString "_StringIO__buf"), .str (PySem.Str.ofString "_StringIO__buf") n2, .str y t2⟩, ⟨PyData.keyHash w.params (PySem.Str.ofString "_StringIO__pos"), .str (PySem.Str.ofString "_StringIO__pos") n3, .int z t3⟩] 3), (pb, dqObj), (fs, dqObj)] s Q (.none)) :
    wpAny (model P0 w) A (call (.ref 757) [.ref x]) Q E s := by
  rcases c with ⟨dp, un, gd, cn, cs, a, ccd, cl, outer, A₀, lo, mean, mg, mb, B, F, X, N, T, hk, hd, hu⟩
  refine wpAny_call ?_
  k_dflt (refine' enterP [("self", .ref x)] [(x, instObj 796 d), (d, dictOf [⟨PyData.keyHash w.params (PySem.Str.ofString "instream"), .str (PySem.Str.ofString "instream") (nk 0), .ref yy⟩, ⟨PyData.keyHash w.params (PySem.Str.ofString "infile"), .str (PySem.Str.ofString "infile") (nk 1), .none⟩, ⟨PyData.keyHash w.params (PySem.Str.ofString "posix"), .str (PySem.Str.ofString "posix") (nk 2), .bool true⟩, ⟨PyData.keyHash w.params (PySem.Str.ofString "eof"), .str (PySem.Str.ofString "eof") (nk 3), .none⟩, ⟨PyData.keyHash w.params (PySem.Str.ofString "commenters"), .str (PySem.Str.ofString "commenters") (nk 4), .str (PySem.Str.ofString "") (vt 4)⟩, ⟨PyData.keyHash w.params (PySem.Str.ofString "wordchars"), .str (PySem.Str.ofString "wordchars") (nk 5), .str (PySem.Str.ofString "abcdfeghijklmnopqrstuvwxyzABCDEFGHIJKLMNOPQRSTUVWXYZ0123456789_ßàáâãäåæçèéêëìíîïðñòóôõöøùúûüýþÿÀÁÂÃÄÅÆÇÈÉÊËÌÍÎÏÐÑÒÓÔÕÖØÙÚÛÜÝÞ") (vt 5)⟩, ⟨PyData.keyHash w.params (PySem.Str.ofString "whitespace"), .str (PySem.Str.ofString "whitespace") (nk 6), .str (PySem.Str.ofString " \t\r\n") (vt 6)⟩, ⟨PyData.keyHash w.params (PySem.Str.ofString "whitespace_split"), .str (PySem.Str.ofString "whitespace_split") (nk 7), .bool true⟩, ⟨PyData.keyHash w.params (PySem.Str.ofString "quotes"), .str (PySem.Str.ofString "quotes") (nk 8), .str (PySem.Str.ofString "'\"") (vt 8)⟩, ⟨PyData.keyHash w.params (PySem.Str.ofString "escape"), .str (PySem.Str.ofString "escape") (nk 9), .str (PySem.Str.ofString "\\") (vt 9)⟩, ⟨PyData.keyHash w.params (PySem.Str.ofString "escapedquotes"), .str (PySem.Str.ofString "escapedquotes") (nk 10), .str (PySem.Str.ofString "\"") (vt 10)⟩, ⟨PyData.keyHash w.params (PySem.Str.ofString "state"), .str (PySem.Str.ofString "state") (nk 11), .none⟩, ⟨PyData.keyHash w.params (PySem.Str.ofString "pushback"), .str (PySem.Str.ofString "pushback") (nk 12), .ref pb⟩, ⟨PyData.keyHash w.params (PySem.Str.ofString "lineno"), .str (PySem.Str.ofString "lineno") (nk 13), .int 1 (vt 13)⟩, ⟨PyData.keyHash w.params (PySem.Str.ofString "debug"), .str (PySem.Str.ofString "debug") (nk 14), .int 0 (vt 14)⟩, ⟨PyData.keyHash w.params (PySem.Str.ofString "token"), .str (PySem.Str.ofString "token") (nk 15), .str tok tt⟩, ⟨PyData.keyHash w.params (PySem.Str.ofString "filestack"), .str (PySem.Str.ofString "filestack") (nk 16), .ref fs⟩, ⟨PyData.keyHash w.params (PySem.Str.ofString "source"), .str (PySem.Str.ofString "source") (nk 17), .none⟩, ⟨PyData.keyHash w.params (PySem.Str.ofString "_punctuation_chars"), .str (PySem.Str.ofString "_punctuation_chars") (nk 18), .str (PySem.Str.ofString "") (vt 18)⟩] 19), (yy, instObj 703 e), (e, dictOf [⟨PyData.keyHash w.params (PySem.Str.ofString "_StringIO__newline"), .str (PySem.Str.ofString "_StringIO__newline") n1, .str (PySem.Str.ofString "\n") t1⟩, ⟨PyData.keyHash w.params (PySem.Str.ofString "_StringIO__buf"), .str (PySem.Str.ofString "_StringIO__buf") n2, .str y t2⟩, ⟨PyData.keyHash w.params (PySem.Str.ofString "_StringIO__pos"), .str (PySem.Str.ofString "_StringIO__pos") n3, .int z t3⟩] 3), (pb, dqObj), (fs, dqObj)] [] ?k1 ?k2 ?k3 ?k4 ?k5 ?kA ?kF ?kK ?h1 ?h2 ?h3 ?k6 ?k7 ?k8 ?k9 ?kB ?c2 ?c3 ?c4 ?c5 ?kG)
  k_dflt ((case kA => exact rfl); (case kF => exact rfl); (case kK => first | exact rfl | assumption); (case k1 => k_asm); (case k2 => k_asm); (case k3 => k_asm); (case k4 => k_asm); (case k5 => k_asm); (case k6 => k_is); (case k7 => k_is); (case k8 => ktr_room); (case k9 => exact kp_binds (by k_in) (fun _ => by kernel_rfl)); (case kB => exact locs rfl); (case c2 => exact rfl); (case c3 => exact rfl); (case c4 => exact rfl); (case c5 => decide); (case h1 => exact fun _ h => h); (case h2 => exact fun _ h => nomatch h); (case h3 => exact fun _ h => nomatch h); (intro g' L' h' FG' F' N' B' X' T' R'); (try dsimp only [List.reverse_cons, List.reverse_nil, List.nil_append, List.cons_append] at F'); (try dsimp only); (try k_fold))
  obtain ⟨o1, o2, o3, o4, o5⟩ := id o
  k_steps
  exact hret _ _ _ (by k_asm) (by k_asm)
end
end
section
open PySem PySem.W PyProof.Rows PySem.Spec PySem.Calls
set_option maxRecDepth 100000
set_option maxHeartbeats 0
theorem ne_self {h₀ g : Heap} {L b : Addr} {m : LM} (F : Fr h₀ L g m) (e : g.get? b = none) : b ≠ L := fun z => by
  obtain ⟨oL, _, _, hL, _⟩ := F.ns
  rw [z, hL] at e
  cases e
theorem owit_ground {M : Model} {A : Around} {E : PQ} {s : Shared} {Q : Option PySem.Value → Shared → Prop} {base g h₀ hx : Heap} {A₀ : Around} {outer : List Env} {a e t L : Addr} {m : LM} {cn : PySem.Str} {cs : Scope} {ccd : PySem.Value} {vs : List PySem.Value} {own rest : Led}
    (S : RaisedS base g (envOf cn cs L a ccd :: outer) e (.type "StopIteration") t vs own s.heap) (U : g.UpToSlots s.heap) (F : Fr h₀ L g m) (B : Below A₀ base outer h₀) (R : ∀ p ∈ rest, g.get? p.1 = some p.2) (N : News h₀ L hx rest)
    (k : ∀ h₀', KtsTurn (outer.filterMap (·.frame)) h₀ h₀' → Fr h₀' L s.heap m → News h₀' L s.heap (own ++ rest) → Below A₀ base outer h₀' → Q none s) : OwitStop M A Q E (.ref e) s := by
  obtain ⟨⟨Bh, hB, hBG, hl, hfl, _⟩, _⟩ := S
  have hf' := flyingW_base hB hfl
  obtain ⟨ob, hob, hobc⟩ := hf'.there
  have hT : s.TypeIs (.ref e) "StopIteration" := (show ∃ o, s.heap.get? e = some o ∧ o.cls = .type "StopIteration" from ⟨ob, hob, hobc⟩)
  obtain ⟨g', T, F', B'⟩ := kts_ground B F hBG hfl.1 U
  unfold OwitStop
  refine wpAny_isInstance (b := true) hT (by rw [isSubtype_type]; kernel_rfl) ?_
  show (if true = true then Q none s else E (.ref e) s)
  rw [if_pos rfl]
  refine k g' T F' (fun q hq => ?_) B'
  rcases List.mem_append.mp hq with hq | hq
  · exact ⟨hfl.1 _ _ (hl q hq).1, ne_self F (hl q hq).2.1, T.none_ _ (kts_none F.keep (hl q hq).2.1)⟩
  · refine ⟨hfl.1 _ _ (hBG _ _ (R q hq) fun hm => ?_), (N q hq).2.1, T.none_ _ (N q hq).2.2⟩
    rcases kts_mem hm with z | z
    · exact (N q hq).2.1 z
    · obtain ⟨_, o, ho, _⟩ := B.frames.mem z
      rw [(N q hq).2.2] at ho
      cases ho
theorem News.app' {h₀ h : Heap} {L : Addr} {a b : Led} (x : News h₀ L h a) (y : News h₀ L h b) : News h₀ L h (a ++ b) := fun p hp => (List.mem_append.mp hp).elim (x p) (y p)
section
variable {w : World} {A : Around} {base h₀ : Heap} {L : Addr} {m : LM} {news : Led} {s : Shared} {Q E : PQ}
theorem rows19 : True := by
  k_with_none
  k_with "call type:type" => (((with_reducible show wpAny _ _ (call (Value.type "type") [Value.bytes _ _]) _ _ _); refine type_bytes ?_))
  k_with "compareOp In str str" => ((k_dflt (first | refine in_is (b := false) (by assumption) ?_ | refine in_is (b := true) (by assumption) ?_ | refine in_is (b := false) (by decide +kernel) ?_ | refine in_is (b := true) (by decide +kernel) ?_)))
  k_with "compareOp NotIn str str" => ((k_dflt (first | refine notIn_is (b := false) (by assumption) ?_ | refine notIn_is (b := true) (by assumption) ?_ | refine notIn_is (b := false) (by decide +kernel) ?_ | refine notIn_is (b := true) (by decide +kernel) ?_)))
  k_with "compareOp Eq str str" => ((k_dflt (first | refine eq_is (b := false) (by assumption) ?_ | refine eq_is (b := true) (by assumption) ?_ | refine eq_is (b := false) (by decide +kernel) ?_ | refine eq_is (b := true) (by decide +kernel) ?_)))
  k_with "truthy str" => (((with_reducible show wpAny _ _ (PySem.truthy (Value.str _ _)) _ _ _); k_dflt (first | refine KXt.truthy (b := true) (by assumption) (by size_fits) ?_ | refine KXt.truthy (b := false) (by assumption) (by size_fits) ?_ | refine KXt.truthy (b := false) (by decide +kernel) (by decide) ?_ | refine KXt.truthy (b := true) (by decide +kernel) (by decide) ?_); intro _))
  k_with "truthy ref" => ((k_dflt (refine truthy_dq (News.get (by k_asm) (by k_mem)) ?_); intro _))
  k_with "call ref" => (((with_reducible show wpAny _ _ (call (Value.ref 757) _ _) _ _ _); k_dflt (refine' gt_blank (Cx.mk _ _ _ _ _ _ _ _ _ _ _ _ _ _ ?b ?f ?x ?n ?t ?k ?d ?u) ?q0 ?q1 ?q2 ?q3 ?q4 ?q5 ?q6 ?q7 ?_; ((case b => k_asm); (case f => k_asm); (case x => k_asm); (case n => k_asm); (case t => k_asm); (case k => first | exact rfl | assumption); (case d => ktr_room); (case u => ktr_units)); (case q5 => assumption); (case q0 => assumption); (case q1 => assumption); (case q2 => assumption); (case q3 => assumption); (case q4 => assumption); (case q6 => assumption); (case q7 => assumption); (intro _ _ _ _ _ _ _ _))))
  exact trivial
theorem nx_blank {y : PySem.Str} {z : Int} {t2 t3 : Tok} {n1 n2 n3 t1 : Tok} {nk vt : Nat → Tok} {x d yy e pb fs : Addr} {tok : PySem.Str} {ss tt : Tok} {W tail : List Nat} {rest : Led} (c : Cx w base h₀ L m ([(x, instObj 796 d), (d, dictOf [⟨PyData.keyHash w.params (PySem.Str.ofString "instream"), .str (PySem.Str.ofString "instream") (nk 0), .ref yy⟩, ⟨PyData.keyHash w.params (PySem.Str.ofString "infile"), .str (PySem.Str.ofString "infile") (nk 1), .none⟩, ⟨PyData.keyHash w.params (PySem.Str.ofString "posix"), .str (PySem.Str.ofString "posix") (nk 2), .bool true⟩, ⟨PyData.keyHash w.params (PySem.Str.ofString "eof"), .str (PySem.Str.ofString "eof") (nk 3), .none⟩, ⟨PyData.keyHash w.params (PySem.Str.ofString "commenters"), .str (PySem.Str.ofString "commenters") (nk 4), .str (PySem.Str.ofString "") (vt 4)⟩, ⟨PyData.keyHash w.params (PySem.Str.ofString "wordchars"), .str (PySem.Str.ofString "wordchars") (nk 5), .str (PySem.Str.ofString "abcdfeghijklmnopqrstuvwxyzABCDEFGHIJKLMNOPQRSTUVWXYZ0123456789_ßàáâãäåæçèéêëìíîïðñòóôõöøùúûüýþÿÀÁÂÃÄÅÆÇÈÉÊËÌÍÎÏÐÑÒÓÔÕÖØÙÚÛÜÝÞ") (vt 5)⟩, ⟨PyData.keyHash w.params (PySem.Str.ofString "whitespace"), .str (PySem.Str.ofString "whitespace") (nk 6), .str (PySem.Str.ofString " \t\r\n") (vt 6)⟩, ⟨PyData.keyHash w.params (PySem.Str.ofString "whitespace_split"), .str (PySem.Str.ofString "whitespace_split") (nk 7), .bool true⟩, ⟨PyData.keyHash w.params (PySem.Str.ofString "quotes"), .str (PySem.Str.ofString "quotes") (nk 8), .str (PySem.Str.ofString "'\"") (vt 8)⟩, ⟨PyData.keyHash w.params (PySem.Str.ofString "escape"), .str (PySem.Str.ofString "escape") (nk 9), .str (PySem.Str.ofString "\\") (vt 9)⟩, ⟨PyData.keyHash w.params (PySem.Str.ofString "escapedquotes"), .str (PySem.Str.ofString "escapedquotes") (nk 10), .str (PySem.Str.ofString "\"") (vt 10)⟩, ⟨PyData.keyHash w.params (PySem.Str.ofString "state"), .str (PySem.Str.ofString "state") (nk 11), .str (PySem.Str.ofString " ") ss⟩, ⟨PyData.keyHash w.params (PySem.Str.ofString "pushback"), .str (PySem.Str.ofString "pushback") (nk 12), .ref pb⟩, ⟨PyData.keyHash w.params (PySem.Str.ofString "lineno"), .str (PySem.Str.ofString "lineno") (nk 13), .int 1 (vt 13)⟩, ⟨PyData.keyHash w.params (PySem.Str.ofString "debug"), .str (PySem.Str.ofString "debug") (nk 14), .int 0 (vt 14)⟩, ⟨PyData.keyHash w.params (PySem.Str.ofString "token"), .str (PySem.Str.ofString "token") (nk 15), .str tok tt⟩, ⟨PyData.keyHash w.params (PySem.Str.ofString "filestack"), .str (PySem.Str.ofString "filestack") (nk 16), .ref fs⟩, ⟨PyData.keyHash w.params (PySem.Str.ofString "source"), .str (PySem.Str.ofString "source") (nk 17), .none⟩, ⟨PyData.keyHash w.params (PySem.Str.ofString "_punctuation_chars"), .str (PySem.Str.ofString "_punctuation_chars") (nk 18), .str (PySem.Str.ofString "") (vt 18)⟩] 19), (yy, instObj 703 e), (e, dictOf [⟨PyData.keyHash w.params (PySem.Str.ofString "_StringIO__newline"), .str (PySem.Str.ofString "_StringIO__newline") n1, .str (PySem.Str.ofString "\n") t1⟩, ⟨PyData.keyHash w.params (PySem.Str.ofString "_StringIO__buf"), .str (PySem.Str.ofString "_StringIO__buf") n2, .str y t2⟩, ⟨PyData.keyHash w.params (PySem.Str.ofString "_StringIO__pos"), .str (PySem.Str.ofString "_StringIO__pos") n3, .int z t3⟩] 3), (pb, dqObj), (fs, dqObj)] ++ rest) s.heap 80 800 A) (hoff : ∀ p ∈ rest, p.1 ∉ ([(x, instObj 796 d), (d, dictOf [⟨PyData.keyHash w.params (PySem.Str.ofString "instream"), .str (PySem.Str.ofString "instream") (nk 0), .ref yy⟩, ⟨PyData.keyHash w.params (PySem.Str.ofString "infile"), .str (PySem.Str.ofString "infile") (nk 1), .none⟩, ⟨PyData.keyHash w.params (PySem.Str.ofString "posix"), .str (PySem.Str.ofString "posix") (nk 2), .bool true⟩, ⟨PyData.keyHash w.params (PySem.Str.ofString "eof"), .str (PySem.Str.ofString "eof") (nk 3), .none⟩, ⟨PyData.keyHash w.params (PySem.Str.ofString "commenters"), .str (PySem.Str.ofString "commenters") (nk 4), .str (PySem.Str.ofString "") (vt 4)⟩, ⟨PyData.keyHash w.params (PySem.Str.ofString "wordchars"), .str (PySem.Str.ofString "wordchars") (nk 5), .str (PySem.Str.ofString "abcdfeghijklmnopqrstuvwxyzABCDEFGHIJKLMNOPQRSTUVWXYZ0123456789_ßàáâãäåæçèéêëìíîïðñòóôõöøùúûüýþÿÀÁÂÃÄÅÆÇÈÉÊËÌÍÎÏÐÑÒÓÔÕÖØÙÚÛÜÝÞ") (vt 5)⟩, ⟨PyData.keyHash w.params (PySem.Str.ofString "whitespace"), .str (PySem.Str.ofString "whitespace") (nk 6), .str (PySem.Str.ofString " \t\r\n") (vt 6)⟩, ⟨PyData.keyHash w.params (PySem.Str.ofString "whitespace_split"), .str (PySem.Str.ofString "whitespace_split") (nk 7), .bool true⟩, ⟨PyData.keyHash w.params (PySem.Str.ofString "quotes"), .str (PySem.Str.ofString "quotes") (nk 8), .str (PySem.Str.ofString "'\"") (vt 8)⟩, ⟨PyData.keyHash w.params (PySem.Str.ofString "escape"), .str (PySem.Str.ofString "escape") (nk 9), .str (PySem.Str.ofString "\\") (vt 9)⟩, ⟨PyData.keyHash w.params (PySem.Str.ofString "escapedquotes"), .str (PySem.Str.ofString "escapedquotes") (nk 10), .str (PySem.Str.ofString "\"") (vt 10)⟩, ⟨PyData.keyHash w.params (PySem.Str.ofString "state"), .str (PySem.Str.ofString "state") (nk 11), .str (PySem.Str.ofString " ") ss⟩, ⟨PyData.keyHash w.params (PySem.Str.ofString "pushback"), .str (PySem.Str.ofString "pushback") (nk 12), .ref pb⟩, ⟨PyData.keyHash w.params (PySem.Str.ofString "lineno"), .str (PySem.Str.ofString "lineno") (nk 13), .int 1 (vt 13)⟩, ⟨PyData.keyHash w.params (PySem.Str.ofString "debug"), .str (PySem.Str.ofString "debug") (nk 14), .int 0 (vt 14)⟩, ⟨PyData.keyHash w.params (PySem.Str.ofString "token"), .str (PySem.Str.ofString "token") (nk 15), .str tok tt⟩, ⟨PyData.keyHash w.params (PySem.Str.ofString "filestack"), .str (PySem.Str.ofString "filestack") (nk 16), .ref fs⟩, ⟨PyData.keyHash w.params (PySem.Str.ofString "source"), .str (PySem.Str.ofString "source") (nk 17), .none⟩, ⟨PyData.keyHash w.params (PySem.Str.ofString "_punctuation_chars"), .str (PySem.Str.ofString "_punctuation_chars") (nk 18), .str (PySem.Str.ofString "") (vt 18)⟩] 19), (yy, instObj 703 e), (e, dictOf [⟨PyData.keyHash w.params (PySem.Str.ofString "_StringIO__newline"), .str (PySem.Str.ofString "_StringIO__newline") n1, .str (PySem.Str.ofString "\n") t1⟩, ⟨PyData.keyHash w.params (PySem.Str.ofString "_StringIO__buf"), .str (PySem.Str.ofString "_StringIO__buf") n2, .str y t2⟩, ⟨PyData.keyHash w.params (PySem.Str.ofString "_StringIO__pos"), .str (PySem.Str.ofString "_StringIO__pos") n3, .int z t3⟩] 3), (pb, dqObj), (fs, dqObj)] : Led).map (·.1)) (o : Ords d x e yy pb fs) (hp : 0 ≤ z) (hy : y.length ≤ 200) (hW : W ≠ []) (hs : ∀ c ∈ W, SignC c) (hdrop : y.cps.toList.drop z.toNat = W ++ tail) (ht : ∀ c r, tail = c :: r → ((⟨#[c]⟩ : PySem.Str) == PySem.Str.ofString "\n") = false ∧ has (PySem.Str.ofString " \t\r\n") ⟨#[c]⟩ = true)  (hT : tail ≠ []) (hret : ∀ t3' tt3 ss2 t, Back h₀ L m ([(x, instObj 796 d), (d, dictOf [⟨PyData.keyHash w.params (PySem.Str.ofString "instream"), .str (PySem.Str.ofString "instream") (nk 0), .ref yy⟩, ⟨PyData.keyHash w.params (PySem.Str.ofString "infile"), .str (PySem.Str.ofString "infile") (nk 1), .none⟩, ⟨PyData.keyHash w.params (PySem.Str.ofString "posix"), .str (PySem.Str.ofString "posix") (nk 2), .bool true⟩, ⟨PyData.keyHash w.params (PySem.Str.ofString "eof"), .str (PySem.Str.ofString "eof") (nk 3), .none⟩, ⟨PyData.keyHash w.params (PySem.Str.ofString "commenters"), .str (PySem.Str.ofString "commenters") (nk 4), .str (PySem.Str.ofString "") (vt 4)⟩, ⟨PyData.keyHash w.params (PySem.Str.ofString "wordchars"), .str (PySem.Str.ofString "wordchars") (nk 5), .str (PySem.Str.ofString "abcdfeghijklmnopqrstuvwxyzABCDEFGHIJKLMNOPQRSTUVWXYZ0123456789_ßàáâãäåæçèéêëìíîïðñòóôõöøùúûüýþÿÀÁÂÃÄÅÆÇÈÉÊËÌÍÎÏÐÑÒÓÔÕÖØÙÚÛÜÝÞ") (vt 5)⟩, ⟨PyData.keyHash w.params (PySem.Str.ofString "whitespace"), .str (PySem.Str.ofString "whitespace") (nk 6), .str (PySem.Str.ofString " \t\r\n") (vt 6)⟩, ⟨PyData.keyHash w.params (PySem.Str.ofString "whitespace_split"), .str (PySem.Str.ofString "whitespace_split") (nk 7), .bool true⟩, ⟨PyData.keyHash w.params (PySem.Str.ofString "quotes"), .str (PySem.Str.ofString "quotes") (nk 8), .str (PySem.Str.ofString "'\"") (vt 8)⟩, ⟨PyData.keyHash w.params (PySem.Str.ofString "escape"), .str (PySem.Str.ofString "escape") (nk 9), .str (PySem.Str.ofString "\\") (vt 9)⟩, ⟨PyData.keyHash w.params (PySem.Str.ofString "escapedquotes"), .str (PySem.Str.ofString "escapedquotes") (nk 10), .str (PySem.Str.ofString "\"") (vt 10)⟩, ⟨PyData.keyHash w.params (PySem.Str.ofString "state"), .str (PySem.Str.ofString "state") (nk 11), .str (PySem.Str.ofString " ") ss2⟩, ⟨PyData.keyHash w.params (PySem.Str.ofString "pushback"), .str (PySem.Str.ofString "pushback") (nk 12), .ref pb⟩, ⟨PyData.keyHash w.params (PySem.Str.ofString "lineno"), .str (PySem.Str.ofString "lineno") (nk 13), .int 1 (vt 13)⟩, ⟨PyData.keyHash w.params (PySem.Str.ofString "debug"), .str (PySem.Str.ofString "debug") (nk 14), .int 0 (vt 14)⟩, ⟨PyData.keyHash w.params (PySem.Str.ofString "token"), .str (PySem.Str.ofString "token") (nk 15), .str (PySem.Str.ofString "") tt3⟩, ⟨PyData.keyHash w.params (PySem.Str.ofString "filestack"), .str (PySem.Str.ofString "filestack") (nk 16), .ref fs⟩, ⟨PyData.keyHash w.params (PySem.Str.ofString "source"), .str (PySem.Str.ofString "source") (nk 17), .none⟩, ⟨PyData.keyHash w.params (PySem.Str.ofString "_punctuation_chars"), .str (PySem.Str.ofString "_punctuation_chars") (nk 18), .str (PySem.Str.ofString "") (vt 18)⟩] 19), (yy, instObj 703 e), (e, dictOf [⟨PyData.keyHash w.params (PySem.Str.ofString "_StringIO__newline"), .str (PySem.Str.ofString "_StringIO__newline") n1, .str (PySem.Str.ofString "\n") t1⟩, ⟨PyData.keyHash w.params (PySem.Str.ofString "_StringIO__buf"), .str (PySem.Str.ofString "_StringIO__buf") n2, .str y t2⟩, ⟨PyData.keyHash w.params (PySem.Str.ofString "_StringIO__pos"), .str (PySem.Str.ofString "_StringIO__pos") n3, .int (z + W.length + 1) t3'⟩] 3), (pb, dqObj), (fs, dqObj)] ++ rest) s Q (.str ⟨W.toArray⟩ t)) :
    wpAny (model P0 w) A (call (.ref 793) [.ref x]) Q E s := by
  rcases c with ⟨dp, un, gd, cn, cs, a, ccd, cl, outer, A₀, lo, mean, mg, mb, B, F, X, N, T, hk, hd, hu⟩
  refine wpAny_call ?_
  k_dflt (refine' enterP [("self", .ref x)] [(x, instObj 796 d), (d, dictOf [⟨PyData.keyHash w.params (PySem.Str.ofString "instream"), .str (PySem.Str.ofString "instream") (nk 0), .ref yy⟩, ⟨PyData.keyHash w.params (PySem.Str.ofString "infile"), .str (PySem.Str.ofString "infile") (nk 1), .none⟩, ⟨PyData.keyHash w.params (PySem.Str.ofString "posix"), .str (PySem.Str.ofString "posix") (nk 2), .bool true⟩, ⟨PyData.keyHash w.params (PySem.Str.ofString "eof"), .str (PySem.Str.ofString "eof") (nk 3), .none⟩, ⟨PyData.keyHash w.params (PySem.Str.ofString "commenters"), .str (PySem.Str.ofString "commenters") (nk 4), .str (PySem.Str.ofString "") (vt 4)⟩, ⟨PyData.keyHash w.params (PySem.Str.ofString "wordchars"), .str (PySem.Str.ofString "wordchars") (nk 5), .str (PySem.Str.ofString "abcdfeghijklmnopqrstuvwxyzABCDEFGHIJKLMNOPQRSTUVWXYZ0123456789_ßàáâãäåæçèéêëìíîïðñòóôõöøùúûüýþÿÀÁÂÃÄÅÆÇÈÉÊËÌÍÎÏÐÑÒÓÔÕÖØÙÚÛÜÝÞ") (vt 5)⟩, ⟨PyData.keyHash w.params (PySem.Str.ofString "whitespace"), .str (PySem.Str.ofString "whitespace") (nk 6), .str (PySem.Str.ofString " \t\r\n") (vt 6)⟩, ⟨PyData.keyHash w.params (PySem.Str.ofString "whitespace_split"), .str (PySem.Str.ofString "whitespace_split") (nk 7), .bool true⟩, ⟨PyData.keyHash w.params (PySem.Str.ofString "quotes"), .str (PySem.Str.ofString "quotes") (nk 8), .str (PySem.Str.ofString "'\"") (vt 8)⟩, ⟨PyData.keyHash w.params (PySem.Str.ofString "escape"), .str (PySem.Str.ofString "escape") (nk 9), .str (PySem.Str.ofString "\\") (vt 9)⟩, ⟨PyData.keyHash w.params (PySem.Str.ofString "escapedquotes"), .str (PySem.Str.ofString "escapedquotes") (nk 10), .str (PySem.Str.ofString "\"") (vt 10)⟩, ⟨PyData.keyHash w.params (PySem.Str.ofString "state"), .str (PySem.Str.ofString "state") (nk 11), .str (PySem.Str.ofString " ") ss⟩, ⟨PyData.keyHash w.params (PySem.Str.ofString "pushback"), .str (PySem.Str.ofString "pushback") (nk 12), .ref pb⟩, ⟨PyData.keyHash w.params (PySem.Str.ofString "lineno"), .str (PySem.Str.ofString "lineno") (nk 13), .int 1 (vt 13)⟩, ⟨PyData.keyHash w.params (PySem.Str.ofString "debug"), .str (PySem.Str.ofString "debug") (nk 14), .int 0 (vt 14)⟩, ⟨PyData.keyHash w.params (PySem.Str.ofString "token"), .str (PySem.Str.ofString "token") (nk 15), .str tok tt⟩, ⟨PyData.keyHash w.params (PySem.Str.ofString "filestack"), .str (PySem.Str.ofString "filestack") (nk 16), .ref fs⟩, ⟨PyData.keyHash w.params (PySem.Str.ofString "source"), .str (PySem.Str.ofString "source") (nk 17), .none⟩, ⟨PyData.keyHash w.params (PySem.Str.ofString "_punctuation_chars"), .str (PySem.Str.ofString "_punctuation_chars") (nk 18), .str (PySem.Str.ofString "") (vt 18)⟩] 19), (yy, instObj 703 e), (e, dictOf [⟨PyData.keyHash w.params (PySem.Str.ofString "_StringIO__newline"), .str (PySem.Str.ofString "_StringIO__newline") n1, .str (PySem.Str.ofString "\n") t1⟩, ⟨PyData.keyHash w.params (PySem.Str.ofString "_StringIO__buf"), .str (PySem.Str.ofString "_StringIO__buf") n2, .str y t2⟩, ⟨PyData.keyHash w.params (PySem.Str.ofString "_StringIO__pos"), .str (PySem.Str.ofString "_StringIO__pos") n3, .int z t3⟩] 3), (pb, dqObj), (fs, dqObj)] rest ?k1 ?k2 ?k3 ?k4 ?k5 ?kA ?kF ?kK ?h1 ?h2 ?h3 ?k6 ?k7 ?k8 ?k9 ?kB ?c2 ?c3 ?c4 ?c5 ?kG)
  k_dflt ((case kA => exact rfl); (case kF => exact rfl); (case kK => first | exact rfl | assumption); (case k1 => k_asm); (case k2 => k_asm); (case k3 => k_asm); (case k4 => k_asm); (case k5 => k_asm); (case k6 => k_is); (case k7 => k_is); (case k8 => ktr_room); (case k9 => exact kp_binds (by k_in) (fun _ => by kernel_rfl)); (case kB => exact locs rfl); (case c2 => exact rfl); (case c3 => exact rfl); (case c4 => exact rfl); (case c5 => decide); (case h1 => exact fun _ h => List.mem_append_left _ h); (case h2 => exact fun _ h => List.mem_append_right _ h); (case h3 => assumption); (intro g' L' h' FG' F' N' B' X' T' R'); (try dsimp only [List.reverse_cons, List.reverse_nil, List.nil_append, List.cons_append] at F'); (try dsimp only); (try k_fold))
  obtain ⟨o1, o2, o3, o4, o5⟩ := id o
  k_steps
  exact hret _ _ _ _ _ _ (by k_asm) (News.app' (by k_asm) (by assumption))
theorem it_iter {y : PySem.Str} {z : Int} {t2 t3 : Tok} {n1 n2 n3 t1 : Tok} {nk vt : Nat → Tok} {x d yy e pb fs : Addr} {sv tv : PySem.Value} {rest : Led} (c : Cx w base h₀ L m ([(x, instObj 796 d), (d, dictOf [⟨PyData.keyHash w.params (PySem.Str.ofString "instream"), .str (PySem.Str.ofString "instream") (nk 0), .ref yy⟩, ⟨PyData.keyHash w.params (PySem.Str.ofString "infile"), .str (PySem.Str.ofString "infile") (nk 1), .none⟩, ⟨PyData.keyHash w.params (PySem.Str.ofString "posix"), .str (PySem.Str.ofString "posix") (nk 2), .bool true⟩, ⟨PyData.keyHash w.params (PySem.Str.ofString "eof"), .str (PySem.Str.ofString "eof") (nk 3), .none⟩, ⟨PyData.keyHash w.params (PySem.Str.ofString "commenters"), .str (PySem.Str.ofString "commenters") (nk 4), .str (PySem.Str.ofString "") (vt 4)⟩, ⟨PyData.keyHash w.params (PySem.Str.ofString "wordchars"), .str (PySem.Str.ofString "wordchars") (nk 5), .str (PySem.Str.ofString "abcdfeghijklmnopqrstuvwxyzABCDEFGHIJKLMNOPQRSTUVWXYZ0123456789_ßàáâãäåæçèéêëìíîïðñòóôõöøùúûüýþÿÀÁÂÃÄÅÆÇÈÉÊËÌÍÎÏÐÑÒÓÔÕÖØÙÚÛÜÝÞ") (vt 5)⟩, ⟨PyData.keyHash w.params (PySem.Str.ofString "whitespace"), .str (PySem.Str.ofString "whitespace") (nk 6), .str (PySem.Str.ofString " \t\r\n") (vt 6)⟩, ⟨PyData.keyHash w.params (PySem.Str.ofString "whitespace_split"), .str (PySem.Str.ofString "whitespace_split") (nk 7), .bool true⟩, ⟨PyData.keyHash w.params (PySem.Str.ofString "quotes"), .str (PySem.Str.ofString "quotes") (nk 8), .str (PySem.Str.ofString "'\"") (vt 8)⟩, ⟨PyData.keyHash w.params (PySem.Str.ofString "escape"), .str (PySem.Str.ofString "escape") (nk 9), .str (PySem.Str.ofString "\\") (vt 9)⟩, ⟨PyData.keyHash w.params (PySem.Str.ofString "escapedquotes"), .str (PySem.Str.ofString "escapedquotes") (nk 10), .str (PySem.Str.ofString "\"") (vt 10)⟩, ⟨PyData.keyHash w.params (PySem.Str.ofString "state"), .str (PySem.Str.ofString "state") (nk 11), sv⟩, ⟨PyData.keyHash w.params (PySem.Str.ofString "pushback"), .str (PySem.Str.ofString "pushback") (nk 12), .ref pb⟩, ⟨PyData.keyHash w.params (PySem.Str.ofString "lineno"), .str (PySem.Str.ofString "lineno") (nk 13), .int 1 (vt 13)⟩, ⟨PyData.keyHash w.params (PySem.Str.ofString "debug"), .str (PySem.Str.ofString "debug") (nk 14), .int 0 (vt 14)⟩, ⟨PyData.keyHash w.params (PySem.Str.ofString "token"), .str (PySem.Str.ofString "token") (nk 15), tv⟩, ⟨PyData.keyHash w.params (PySem.Str.ofString "filestack"), .str (PySem.Str.ofString "filestack") (nk 16), .ref fs⟩, ⟨PyData.keyHash w.params (PySem.Str.ofString "source"), .str (PySem.Str.ofString "source") (nk 17), .none⟩, ⟨PyData.keyHash w.params (PySem.Str.ofString "_punctuation_chars"), .str (PySem.Str.ofString "_punctuation_chars") (nk 18), .str (PySem.Str.ofString "") (vt 18)⟩] 19), (yy, instObj 703 e), (e, dictOf [⟨PyData.keyHash w.params (PySem.Str.ofString "_StringIO__newline"), .str (PySem.Str.ofString "_StringIO__newline") n1, .str (PySem.Str.ofString "\n") t1⟩, ⟨PyData.keyHash w.params (PySem.Str.ofString "_StringIO__buf"), .str (PySem.Str.ofString "_StringIO__buf") n2, .str y t2⟩, ⟨PyData.keyHash w.params (PySem.Str.ofString "_StringIO__pos"), .str (PySem.Str.ofString "_StringIO__pos") n3, .int z t3⟩] 3), (pb, dqObj), (fs, dqObj)] ++ rest) s.heap 80 800 A) (hoff : ∀ p ∈ rest, p.1 ∉ ([(x, instObj 796 d), (d, dictOf [⟨PyData.keyHash w.params (PySem.Str.ofString "instream"), .str (PySem.Str.ofString "instream") (nk 0), .ref yy⟩, ⟨PyData.keyHash w.params (PySem.Str.ofString "infile"), .str (PySem.Str.ofString "infile") (nk 1), .none⟩, ⟨PyData.keyHash w.params (PySem.Str.ofString "posix"), .str (PySem.Str.ofString "posix") (nk 2), .bool true⟩, ⟨PyData.keyHash w.params (PySem.Str.ofString "eof"), .str (PySem.Str.ofString "eof") (nk 3), .none⟩, ⟨PyData.keyHash w.params (PySem.Str.ofString "commenters"), .str (PySem.Str.ofString "commenters") (nk 4), .str (PySem.Str.ofString "") (vt 4)⟩, ⟨PyData.keyHash w.params (PySem.Str.ofString "wordchars"), .str (PySem.Str.ofString "wordchars") (nk 5), .str (PySem.Str.ofString "abcdfeghijklmnopqrstuvwxyzABCDEFGHIJKLMNOPQRSTUVWXYZ0123456789_ßàáâãäåæçèéêëìíîïðñòóôõöøùúûüýþÿÀÁÂÃÄÅÆÇÈÉÊËÌÍÎÏÐÑÒÓÔÕÖØÙÚÛÜÝÞ") (vt 5)⟩, ⟨PyData.keyHash w.params (PySem.Str.ofString "whitespace"), .str (PySem.Str.ofString "whitespace") (nk 6), .str (PySem.Str.ofString " \t\r\n") (vt 6)⟩, ⟨PyData.keyHash w.params (PySem.Str.ofString "whitespace_split"), .str (PySem.Str.ofString "whitespace_split") (nk 7), .bool true⟩, ⟨PyData.keyHash w.params (PySem.Str.ofString "quotes"), .str (PySem.Str.ofString "quotes") (nk 8), .str (PySem.Str.ofString "'\"") (vt 8)⟩, ⟨PyData.keyHash w.params (PySem.Str.ofString "escape"), .str (PySem.Str.ofString "escape") (nk 9), .str (PySem.Str.ofString "\\") (vt 9)⟩, ⟨PyData.keyHash w.params (PySem.Str.ofString "escapedquotes"), .str (PySem.Str.ofString "escapedquotes") (nk 10), .str (PySem.Str.ofString "\"") (vt 10)⟩, ⟨PyData.keyHash w.params (PySem.Str.ofString "state"), .str (PySem.Str.ofString "state") (nk 11), sv⟩, ⟨PyData.keyHash w.params (PySem.Str.ofString "pushback"), .str (PySem.Str.ofString "pushback") (nk 12), .ref pb⟩, ⟨PyData.keyHash w.params (PySem.Str.ofString "lineno"), .str (PySem.Str.ofString "lineno") (nk 13), .int 1 (vt 13)⟩, ⟨PyData.keyHash w.params (PySem.Str.ofString "debug"), .str (PySem.Str.ofString "debug") (nk 14), .int 0 (vt 14)⟩, ⟨PyData.keyHash w.params (PySem.Str.ofString "token"), .str (PySem.Str.ofString "token") (nk 15), tv⟩, ⟨PyData.keyHash w.params (PySem.Str.ofString "filestack"), .str (PySem.Str.ofString "filestack") (nk 16), .ref fs⟩, ⟨PyData.keyHash w.params (PySem.Str.ofString "source"), .str (PySem.Str.ofString "source") (nk 17), .none⟩, ⟨PyData.keyHash w.params (PySem.Str.ofString "_punctuation_chars"), .str (PySem.Str.ofString "_punctuation_chars") (nk 18), .str (PySem.Str.ofString "") (vt 18)⟩] 19), (yy, instObj 703 e), (e, dictOf [⟨PyData.keyHash w.params (PySem.Str.ofString "_StringIO__newline"), .str (PySem.Str.ofString "_StringIO__newline") n1, .str (PySem.Str.ofString "\n") t1⟩, ⟨PyData.keyHash w.params (PySem.Str.ofString "_StringIO__buf"), .str (PySem.Str.ofString "_StringIO__buf") n2, .str y t2⟩, ⟨PyData.keyHash w.params (PySem.Str.ofString "_StringIO__pos"), .str (PySem.Str.ofString "_StringIO__pos") n3, .int z t3⟩] 3), (pb, dqObj), (fs, dqObj)] : Led).map (·.1)) (hret : Back h₀ L m ([(x, instObj 796 d), (d, dictOf [⟨PyData.keyHash w.params (PySem.Str.ofString "instream"), .str (PySem.Str.ofString "instream") (nk 0), .ref yy⟩, ⟨PyData.keyHash w.params (PySem.Str.ofString "infile"), .str (PySem.Str.ofString "infile") (nk 1), .none⟩, ⟨PyData.keyHash w.params (PySem.Str.ofString "posix"), .str (PySem.Str.ofString "posix") (nk 2), .bool true⟩, ⟨PyData.keyHash w.params (PySem.Str.ofString "eof"), .str (PySem.Str.ofString "eof") (nk 3), .none⟩, ⟨PyData.keyHash w.params (PySem.Str.ofString "commenters"), .str (PySem.Str.ofString "commenters") (nk 4), .str (PySem.Str.ofString "") (vt 4)⟩, ⟨PyData.keyHash w.params (PySem.Str.ofString "wordchars"), .str (PySem.Str.ofString "wordchars") (nk 5), .str (PySem.Str.ofString "abcdfeghijklmnopqrstuvwxyzABCDEFGHIJKLMNOPQRSTUVWXYZ0123456789_ßàáâãäåæçèéêëìíîïðñòóôõöøùúûüýþÿÀÁÂÃÄÅÆÇÈÉÊËÌÍÎÏÐÑÒÓÔÕÖØÙÚÛÜÝÞ") (vt 5)⟩, ⟨PyData.keyHash w.params (PySem.Str.ofString "whitespace"), .str (PySem.Str.ofString "whitespace") (nk 6), .str (PySem.Str.ofString " \t\r\n") (vt 6)⟩, ⟨PyData.keyHash w.params (PySem.Str.ofString "whitespace_split"), .str (PySem.Str.ofString "whitespace_split") (nk 7), .bool true⟩, ⟨PyData.keyHash w.params (PySem.Str.ofString "quotes"), .str (PySem.Str.ofString "quotes") (nk 8), .str (PySem.Str.ofString "'\"") (vt 8)⟩, ⟨PyData.keyHash w.params (PySem.Str.ofString "escape"), .str (PySem.Str.ofString "escape") (nk 9), .str (PySem.Str.ofString "\\") (vt 9)⟩, ⟨PyData.keyHash w.params (PySem.Str.ofString "escapedquotes"), .str (PySem.Str.ofString "escapedquotes") (nk 10), .str (PySem.Str.ofString "\"") (vt 10)⟩, ⟨PyData.keyHash w.params (PySem.Str.ofString "state"), .str (PySem.Str.ofString "state") (nk 11), sv⟩, ⟨PyData.keyHash w.params (PySem.Str.ofString "pushback"), .str (PySem.Str.ofString "pushback") (nk 12), .ref pb⟩, ⟨PyData.keyHash w.params (PySem.Str.ofString "lineno"), .str (PySem.Str.ofString "lineno") (nk 13), .int 1 (vt 13)⟩, ⟨PyData.keyHash w.params (PySem.Str.ofString "debug"), .str (PySem.Str.ofString "debug") (nk 14), .int 0 (vt 14)⟩, ⟨PyData.keyHash w.params (PySem.Str.ofString "token"), .str (PySem.Str.ofString "token") (nk 15), tv⟩, ⟨PyData.keyHash w.params (PySem.Str.ofString "filestack"), .str (PySem.Str.ofString "filestack") (nk 16), .ref fs⟩, ⟨PyData.keyHash w.params (PySem.Str.ofString "source"), .str (PySem.Str.ofString "source") (nk 17), .none⟩, ⟨PyData.keyHash w.params (PySem.Str.ofString "_punctuation_chars"), .str (PySem.Str.ofString "_punctuation_chars") (nk 18), .str (PySem.Str.ofString "") (vt 18)⟩] 19), (yy, instObj 703 e), (e, dictOf [⟨PyData.keyHash w.params (PySem.Str.ofString "_StringIO__newline"), .str (PySem.Str.ofString "_StringIO__newline") n1, .str (PySem.Str.ofString "\n") t1⟩, ⟨PyData.keyHash w.params (PySem.Str.ofString "_StringIO__buf"), .str (PySem.Str.ofString "_StringIO__buf") n2, .str y t2⟩, ⟨PyData.keyHash w.params (PySem.Str.ofString "_StringIO__pos"), .str (PySem.Str.ofString "_StringIO__pos") n3, .int z t3⟩] 3), (pb, dqObj), (fs, dqObj)] ++ rest) s Q (.ref x)) :
    wpAny (model P0 w) A (call (.ref 786) [.ref x]) Q E s := by
  rcases c with ⟨dp, un, gd, cn, cs, a, ccd, cl, outer, A₀, lo, mean, mg, mb, B, F, X, N, T, hk, hd, hu⟩
  refine wpAny_call ?_
  k_dflt (refine' enterP [("self", .ref x)] [(x, instObj 796 d), (d, dictOf [⟨PyData.keyHash w.params (PySem.Str.ofString "instream"), .str (PySem.Str.ofString "instream") (nk 0), .ref yy⟩, ⟨PyData.keyHash w.params (PySem.Str.ofString "infile"), .str (PySem.Str.ofString "infile") (nk 1), .none⟩, ⟨PyData.keyHash w.params (PySem.Str.ofString "posix"), .str (PySem.Str.ofString "posix") (nk 2), .bool true⟩, ⟨PyData.keyHash w.params (PySem.Str.ofString "eof"), .str (PySem.Str.ofString "eof") (nk 3), .none⟩, ⟨PyData.keyHash w.params (PySem.Str.ofString "commenters"), .str (PySem.Str.ofString "commenters") (nk 4), .str (PySem.Str.ofString "") (vt 4)⟩, ⟨PyData.keyHash w.params (PySem.Str.ofString "wordchars"), .str (PySem.Str.ofString "wordchars") (nk 5), .str (PySem.Str.ofString "abcdfeghijklmnopqrstuvwxyzABCDEFGHIJKLMNOPQRSTUVWXYZ0123456789_ßàáâãäåæçèéêëìíîïðñòóôõöøùúûüýþÿÀÁÂÃÄÅÆÇÈÉÊËÌÍÎÏÐÑÒÓÔÕÖØÙÚÛÜÝÞ") (vt 5)⟩, ⟨PyData.keyHash w.params (PySem.Str.ofString "whitespace"), .str (PySem.Str.ofString "whitespace") (nk 6), .str (PySem.Str.ofString " \t\r\n") (vt 6)⟩, ⟨PyData.keyHash w.params (PySem.Str.ofString "whitespace_split"), .str (PySem.Str.ofString "whitespace_split") (nk 7), .bool true⟩, ⟨PyData.keyHash w.params (PySem.Str.ofString "quotes"), .str (PySem.Str.ofString "quotes") (nk 8), .str (PySem.Str.ofString "'\"") (vt 8)⟩, ⟨PyData.keyHash w.params (PySem.Str.ofString "escape"), .str (PySem.Str.ofString "escape") (nk 9), .str (PySem.Str.ofString "\\") (vt 9)⟩, ⟨PyData.keyHash w.params (PySem.Str.ofString "escapedquotes"), .str (PySem.Str.ofString "escapedquotes") (nk 10), .str (PySem.Str.ofString "\"") (vt 10)⟩, ⟨PyData.keyHash w.params (PySem.Str.ofString "state"), .str (PySem.Str.ofString "state") (nk 11), sv⟩, ⟨PyData.keyHash w.params (PySem.Str.ofString "pushback"), .str (PySem.Str.ofString "pushback") (nk 12), .ref pb⟩, ⟨PyData.keyHash w.params (PySem.Str.ofString "lineno"), .str (PySem.Str.ofString "lineno") (nk 13), .int 1 (vt 13)⟩, ⟨PyData.keyHash w.params (PySem.Str.ofString "debug"), .str (PySem.Str.ofString "debug") (nk 14), .int 0 (vt 14)⟩, ⟨PyData.keyHash w.params (PySem.Str.ofString "token"), .str (PySem.Str.ofString "token") (nk 15), tv⟩, ⟨PyData.keyHash w.params (PySem.Str.ofString "filestack"), .str (PySem.Str.ofString "filestack") (nk 16), .ref fs⟩, ⟨PyData.keyHash w.params (PySem.Str.ofString "source"), .str (PySem.Str.ofString "source") (nk 17), .none⟩, ⟨PyData.keyHash w.params (PySem.Str.ofString "_punctuation_chars"), .str (PySem.Str.ofString "_punctuation_chars") (nk 18), .str (PySem.Str.ofString "") (vt 18)⟩] 19), (yy, instObj 703 e), (e, dictOf [⟨PyData.keyHash w.params (PySem.Str.ofString "_StringIO__newline"), .str (PySem.Str.ofString "_StringIO__newline") n1, .str (PySem.Str.ofString "\n") t1⟩, ⟨PyData.keyHash w.params (PySem.Str.ofString "_StringIO__buf"), .str (PySem.Str.ofString "_StringIO__buf") n2, .str y t2⟩, ⟨PyData.keyHash w.params (PySem.Str.ofString "_StringIO__pos"), .str (PySem.Str.ofString "_StringIO__pos") n3, .int z t3⟩] 3), (pb, dqObj), (fs, dqObj)] rest ?k1 ?k2 ?k3 ?k4 ?k5 ?kA ?kF ?kK ?h1 ?h2 ?h3 ?k6 ?k7 ?k8 ?k9 ?kB ?c2 ?c3 ?c4 ?c5 ?kG)
  k_dflt ((case kA => exact rfl); (case kF => exact rfl); (case kK => first | exact rfl | assumption); (case k1 => k_asm); (case k2 => k_asm); (case k3 => k_asm); (case k4 => k_asm); (case k5 => k_asm); (case k6 => k_is); (case k7 => k_is); (case k8 => ktr_room); (case k9 => exact kp_binds (by k_in) (fun _ => by kernel_rfl)); (case kB => exact locs rfl); (case c2 => exact rfl); (case c3 => exact rfl); (case c4 => exact rfl); (case c5 => decide); (case h1 => exact fun _ h => List.mem_append_left _ h); (case h2 => exact fun _ h => List.mem_append_right _ h); (case h3 => assumption); (intro g' L' h' FG' F' N' B' X' T' R'); (try dsimp only [List.reverse_cons, List.reverse_nil, List.nil_append, List.cons_append] at F'); (try dsimp only); (try k_fold))
  k_steps
  exact hret _ _ (by k_asm) (News.app' (by k_asm) (by assumption))
end
section
variable {w : World} {A : Around} {base h₀ : Heap} {L : Addr} {m : LM} {news : Led} {s : Shared} {Q E : PQ}
theorem rows20 : True := by
  k_with_none
  k_with "call type:type" => (((with_reducible show wpAny _ _ (call (Value.type "type") [Value.bytes _ _]) _ _ _); refine type_bytes ?_))
  k_with "compareOp In str str" => ((k_dflt (first | refine in_is (b := false) (by assumption) ?_ | refine in_is (b := true) (by assumption) ?_ | refine in_is (b := false) (by decide +kernel) ?_ | refine in_is (b := true) (by decide +kernel) ?_)))
  k_with "compareOp NotIn str str" => ((k_dflt (first | refine notIn_is (b := false) (by assumption) ?_ | refine notIn_is (b := true) (by assumption) ?_ | refine notIn_is (b := false) (by decide +kernel) ?_ | refine notIn_is (b := true) (by decide +kernel) ?_)))
  k_with "compareOp Eq str str" => ((k_dflt (first | refine eq_is (b := false) (by assumption) ?_ | refine eq_is (b := true) (by assumption) ?_ | refine eq_is (b := false) (by decide +kernel) ?_ | refine eq_is (b := true) (by decide +kernel) ?_)))
  k_with "truthy str" => (((with_reducible show wpAny _ _ (PySem.truthy (Value.str _ _)) _ _ _); k_dflt (first | refine KXt.truthy (b := true) (by assumption) (by size_fits) ?_ | refine KXt.truthy (b := false) (by assumption) (by size_fits) ?_ | refine KXt.truthy (b := false) (by decide +kernel) (by decide) ?_ | refine KXt.truthy (b := true) (by decide +kernel) (by decide) ?_); intro _))
  k_with "truthy ref" => ((k_dflt (refine truthy_dq (News.get (by k_asm) (by k_mem)) ?_); intro _))
  k_with "call ref" => (((with_reducible show wpAny _ _ (call (Value.ref 757) _ _) _ _ _); k_dflt (refine' gt_blank (Cx.mk _ _ _ _ _ _ _ _ _ _ _ _ _ _ ?b ?f ?x ?n ?t ?k ?d ?u) ?q0 ?q1 ?q2 ?q3 ?q4 ?q5 ?q6 ?q7 ?_; ((case b => k_asm); (case f => k_asm); (case x => k_asm); (case n => k_asm); (case t => k_asm); (case k => first | exact rfl | assumption); (case d => ktr_room); (case u => ktr_units)); (case q5 => assumption); (case q0 => assumption); (case q1 => assumption); (case q2 => assumption); (case q3 => assumption); (case q4 => assumption); (case q6 => assumption); (case q7 => assumption); (intro _ _ _ _ _ _ _ _))))
  k_with "call ref" => (((with_reducible show wpAny _ _ (call (Value.ref 757) _ _) _ _ _); k_dflt (refine' gt_last (Cx.mk _ _ _ _ _ _ _ _ _ _ _ _ _ _ ?b ?f ?x ?n ?t ?k ?d ?u) ?q0 ?q1 ?q2 ?q3 ?q4 ?q5 ?q6 ?q7 ?_; ((case b => k_asm); (case f => k_asm); (case x => k_asm); (case n => k_asm); (case t => k_asm); (case k => first | exact rfl | assumption); (case d => ktr_room); (case u => ktr_units)); (case q5 => assumption); (case q0 => assumption); (case q1 => assumption); (case q2 => assumption); (case q3 => assumption); (case q4 => assumption); (case q6 => assumption); (case q7 => assumption); (intro _ _ _ _ _ _ _))))
  exact trivial
theorem nx_last {y : PySem.Str} {z : Int} {t2 t3 : Tok} {n1 n2 n3 t1 : Tok} {nk vt : Nat → Tok} {x d yy e pb fs : Addr} {tok : PySem.Str} {ss tt : Tok} {W tail : List Nat} {rest : Led} (c : Cx w base h₀ L m ([(x, instObj 796 d), (d, dictOf [⟨PyData.keyHash w.params (PySem.Str.ofString "instream"), .str (PySem.Str.ofString "instream") (nk 0), .ref yy⟩, ⟨PyData.keyHash w.params (PySem.Str.ofString "infile"), .str (PySem.Str.ofString "infile") (nk 1), .none⟩, ⟨PyData.keyHash w.params (PySem.Str.ofString "posix"), .str (PySem.Str.ofString "posix") (nk 2), .bool true⟩, ⟨PyData.keyHash w.params (PySem.Str.ofString "eof"), .str (PySem.Str.ofString "eof") (nk 3), .none⟩, ⟨PyData.keyHash w.params (PySem.Str.ofString "commenters"), .str (PySem.Str.ofString "commenters") (nk 4), .str (PySem.Str.ofString "") (vt 4)⟩, ⟨PyData.keyHash w.params (PySem.Str.ofString "wordchars"), .str (PySem.Str.ofString "wordchars") (nk 5), .str (PySem.Str.ofString "abcdfeghijklmnopqrstuvwxyzABCDEFGHIJKLMNOPQRSTUVWXYZ0123456789_ßàáâãäåæçèéêëìíîïðñòóôõöøùúûüýþÿÀÁÂÃÄÅÆÇÈÉÊËÌÍÎÏÐÑÒÓÔÕÖØÙÚÛÜÝÞ") (vt 5)⟩, ⟨PyData.keyHash w.params (PySem.Str.ofString "whitespace"), .str (PySem.Str.ofString "whitespace") (nk 6), .str (PySem.Str.ofString " \t\r\n") (vt 6)⟩, ⟨PyData.keyHash w.params (PySem.Str.ofString "whitespace_split"), .str (PySem.Str.ofString "whitespace_split") (nk 7), .bool true⟩, ⟨PyData.keyHash w.params (PySem.Str.ofString "quotes"), .str (PySem.Str.ofString "quotes") (nk 8), .str (PySem.Str.ofString "'\"") (vt 8)⟩, ⟨PyData.keyHash w.params (PySem.Str.ofString "escape"), .str (PySem.Str.ofString "escape") (nk 9), .str (PySem.Str.ofString "\\") (vt 9)⟩, ⟨PyData.keyHash w.params (PySem.Str.ofString "escapedquotes"), .str (PySem.Str.ofString "escapedquotes") (nk 10), .str (PySem.Str.ofString "\"") (vt 10)⟩, ⟨PyData.keyHash w.params (PySem.Str.ofString "state"), .str (PySem.Str.ofString "state") (nk 11), .str (PySem.Str.ofString " ") ss⟩, ⟨PyData.keyHash w.params (PySem.Str.ofString "pushback"), .str (PySem.Str.ofString "pushback") (nk 12), .ref pb⟩, ⟨PyData.keyHash w.params (PySem.Str.ofString "lineno"), .str (PySem.Str.ofString "lineno") (nk 13), .int 1 (vt 13)⟩, ⟨PyData.keyHash w.params (PySem.Str.ofString "debug"), .str (PySem.Str.ofString "debug") (nk 14), .int 0 (vt 14)⟩, ⟨PyData.keyHash w.params (PySem.Str.ofString "token"), .str (PySem.Str.ofString "token") (nk 15), .str tok tt⟩, ⟨PyData.keyHash w.params (PySem.Str.ofString "filestack"), .str (PySem.Str.ofString "filestack") (nk 16), .ref fs⟩, ⟨PyData.keyHash w.params (PySem.Str.ofString "source"), .str (PySem.Str.ofString "source") (nk 17), .none⟩, ⟨PyData.keyHash w.params (PySem.Str.ofString "_punctuation_chars"), .str (PySem.Str.ofString "_punctuation_chars") (nk 18), .str (PySem.Str.ofString "") (vt 18)⟩] 19), (yy, instObj 703 e), (e, dictOf [⟨PyData.keyHash w.params (PySem.Str.ofString "_StringIO__newline"), .str (PySem.Str.ofString "_StringIO__newline") n1, .str (PySem.Str.ofString "\n") t1⟩, ⟨PyData.keyHash w.params (PySem.Str.ofString "_StringIO__buf"), .str (PySem.Str.ofString "_StringIO__buf") n2, .str y t2⟩, ⟨PyData.keyHash w.params (PySem.Str.ofString "_StringIO__pos"), .str (PySem.Str.ofString "_StringIO__pos") n3, .int z t3⟩] 3), (pb, dqObj), (fs, dqObj)] ++ rest) s.heap 80 800 A) (hoff : ∀ p ∈ rest, p.1 ∉ ([(x, instObj 796 d), (d, dictOf [⟨PyData.keyHash w.params (PySem.Str.ofString "instream"), .str (PySem.Str.ofString "instream") (nk 0), .ref yy⟩, ⟨PyData.keyHash w.params (PySem.Str.ofString "infile"), .str (PySem.Str.ofString "infile") (nk 1), .none⟩, ⟨PyData.keyHash w.params (PySem.Str.ofString "posix"), .str (PySem.Str.ofString "posix") (nk 2), .bool true⟩, ⟨PyData.keyHash w.params (PySem.Str.ofString "eof"), .str (PySem.Str.ofString "eof") (nk 3), .none⟩, ⟨PyData.keyHash w.params (PySem.Str.ofString "commenters"), .str (PySem.Str.ofString "commenters") (nk 4), .str (PySem.Str.ofString "") (vt 4)⟩, ⟨PyData.keyHash w.params (PySem.Str.ofString "wordchars"), .str (PySem.Str.ofString "wordchars") (nk 5), .str (PySem.Str.ofString "abcdfeghijklmnopqrstuvwxyzABCDEFGHIJKLMNOPQRSTUVWXYZ0123456789_ßàáâãäåæçèéêëìíîïðñòóôõöøùúûüýþÿÀÁÂÃÄÅÆÇÈÉÊËÌÍÎÏÐÑÒÓÔÕÖØÙÚÛÜÝÞ") (vt 5)⟩, ⟨PyData.keyHash w.params (PySem.Str.ofString "whitespace"), .str (PySem.Str.ofString "whitespace") (nk 6), .str (PySem.Str.ofString " \t\r\n") (vt 6)⟩, ⟨PyData.keyHash w.params (PySem.Str.ofString "whitespace_split"), .str (PySem.Str.ofString "whitespace_split") (nk 7), .bool true⟩, ⟨PyData.keyHash w.params (PySem.Str.ofString "quotes"), .str (PySem.Str.ofString "quotes") (nk 8), .str (PySem.Str.ofString "'\"") (vt 8)⟩, ⟨PyData.keyHash w.params (PySem.Str.ofString "escape"), .str (PySem.Str.ofString "escape") (nk 9), .str (PySem.Str.ofString "\\") (vt 9)⟩, ⟨PyData.keyHash w.params (PySem.Str.ofString "escapedquotes"), .str (PySem.Str.ofString "escapedquotes") (nk 10), .str (PySem.Str.ofString "\"") (vt 10)⟩, ⟨PyData.keyHash w.params (PySem.Str.ofString "state"), .str (PySem.Str.ofString "state") (nk 11), .str (PySem.Str.ofString " ") ss⟩, ⟨PyData.keyHash w.params (PySem.Str.ofString "pushback"), .str (PySem.Str.ofString "pushback") (nk 12), .ref pb⟩, ⟨PyData.keyHash w.params (PySem.Str.ofString "lineno"), .str (PySem.Str.ofString "lineno") (nk 13), .int 1 (vt 13)⟩, ⟨PyData.keyHash w.params (PySem.Str.ofString "debug"), .str (PySem.Str.ofString "debug") (nk 14), .int 0 (vt 14)⟩, ⟨PyData.keyHash w.params (PySem.Str.ofString "token"), .str (PySem.Str.ofString "token") (nk 15), .str tok tt⟩, ⟨PyData.keyHash w.params (PySem.Str.ofString "filestack"), .str (PySem.Str.ofString "filestack") (nk 16), .ref fs⟩, ⟨PyData.keyHash w.params (PySem.Str.ofString "source"), .str (PySem.Str.ofString "source") (nk 17), .none⟩, ⟨PyData.keyHash w.params (PySem.Str.ofString "_punctuation_chars"), .str (PySem.Str.ofString "_punctuation_chars") (nk 18), .str (PySem.Str.ofString "") (vt 18)⟩] 19), (yy, instObj 703 e), (e, dictOf [⟨PyData.keyHash w.params (PySem.Str.ofString "_StringIO__newline"), .str (PySem.Str.ofString "_StringIO__newline") n1, .str (PySem.Str.ofString "\n") t1⟩, ⟨PyData.keyHash w.params (PySem.Str.ofString "_StringIO__buf"), .str (PySem.Str.ofString "_StringIO__buf") n2, .str y t2⟩, ⟨PyData.keyHash w.params (PySem.Str.ofString "_StringIO__pos"), .str (PySem.Str.ofString "_StringIO__pos") n3, .int z t3⟩] 3), (pb, dqObj), (fs, dqObj)] : Led).map (·.1)) (o : Ords d x e yy pb fs) (hp : 0 ≤ z) (hy : y.length ≤ 200) (hW : W ≠ []) (hs : ∀ c ∈ W, SignC c) (hdrop : y.cps.toList.drop z.toNat = W ++ tail) (ht : ∀ c r, tail = c :: r → ((⟨#[c]⟩ : PySem.Str) == PySem.Str.ofString "\n") = false ∧ has (PySem.Str.ofString " \t\r\n") ⟨#[c]⟩ = true)  (hT : tail = []) (hret : ∀ t3' tt3 t, Back h₀ L m ([(x, instObj 796 d), (d, dictOf [⟨PyData.keyHash w.params (PySem.Str.ofString "instream"), .str (PySem.Str.ofString "instream") (nk 0), .ref yy⟩, ⟨PyData.keyHash w.params (PySem.Str.ofString "infile"), .str (PySem.Str.ofString "infile") (nk 1), .none⟩, ⟨PyData.keyHash w.params (PySem.Str.ofString "posix"), .str (PySem.Str.ofString "posix") (nk 2), .bool true⟩, ⟨PyData.keyHash w.params (PySem.Str.ofString "eof"), .str (PySem.Str.ofString "eof") (nk 3), .none⟩, ⟨PyData.keyHash w.params (PySem.Str.ofString "commenters"), .str (PySem.Str.ofString "commenters") (nk 4), .str (PySem.Str.ofString "") (vt 4)⟩, ⟨PyData.keyHash w.params (PySem.Str.ofString "wordchars"), .str (PySem.Str.ofString "wordchars") (nk 5), .str (PySem.Str.ofString "abcdfeghijklmnopqrstuvwxyzABCDEFGHIJKLMNOPQRSTUVWXYZ0123456789_ßàáâãäåæçèéêëìíîïðñòóôõöøùúûüýþÿÀÁÂÃÄÅÆÇÈÉÊËÌÍÎÏÐÑÒÓÔÕÖØÙÚÛÜÝÞ") (vt 5)⟩, ⟨PyData.keyHash w.params (PySem.Str.ofString "whitespace"), .str (PySem.Str.ofString "whitespace") (nk 6), .str (PySem.Str.ofString " \t\r\n") (vt 6)⟩, ⟨PyData.keyHash w.params (PySem.Str.ofString "whitespace_split"), .str (PySem.Str.ofString "whitespace_split") (nk 7), .bool true⟩, ⟨PyData.keyHash w.params (PySem.Str.ofString "quotes"), .str (PySem.Str.ofString "quotes") (nk 8), .str (PySem.Str.ofString "'\"") (vt 8)⟩, ⟨PyData.keyHash w.params (PySem.Str.ofString "escape"), .str (PySem.Str.ofString "escape") (nk 9), .str (PySem.Str.ofString "\\") (vt 9)⟩, ⟨PyData.keyHash w.params (PySem.Str.ofString "escapedquotes"), .str (PySem.Str.ofString "escapedquotes") (nk 10), .str (PySem.Str.ofString "\"") (vt 10)⟩, ⟨PyData.keyHash w.params (PySem.Str.ofString "state"), .str (PySem.Str.ofString "state") (nk 11), .none⟩, ⟨PyData.keyHash w.params (PySem.Str.ofString "pushback"), .str (PySem.Str.ofString "pushback") (nk 12), .ref pb⟩, ⟨PyData.keyHash w.params (PySem.Str.ofString "lineno"), .str (PySem.Str.ofString "lineno") (nk 13), .int 1 (vt 13)⟩, ⟨PyData.keyHash w.params (PySem.Str.ofString "debug"), .str (PySem.Str.ofString "debug") (nk 14), .int 0 (vt 14)⟩, ⟨PyData.keyHash w.params (PySem.Str.ofString "token"), .str (PySem.Str.ofString "token") (nk 15), .str (PySem.Str.ofString "") tt3⟩, ⟨PyData.keyHash w.params (PySem.Str.ofString "filestack"), .str (PySem.Str.ofString "filestack") (nk 16), .ref fs⟩, ⟨PyData.keyHash w.params (PySem.Str.ofString "source"), .str (PySem.Str.ofString "source") (nk 17), .none⟩, ⟨PyData.keyHash w.params (PySem.Str.ofString "_punctuation_chars"), .str (PySem.Str.ofString "_punctuation_chars") (nk 18), .str (PySem.Str.ofString "") (vt 18)⟩] 19), (yy, instObj 703 e), (e, dictOf [⟨PyData.keyHash w.params (PySem.Str.ofString "_StringIO__newline"), .str (PySem.Str.ofString "_StringIO__newline") n1, .str (PySem.Str.ofString "\n") t1⟩, ⟨PyData.keyHash w.params (PySem.Str.ofString "_StringIO__buf"), .str (PySem.Str.ofString "_StringIO__buf") n2, .str y t2⟩, ⟨PyData.keyHash w.params (PySem.Str.ofString "_StringIO__pos"), .str (PySem.Str.ofString "_StringIO__pos") n3, .int (z + W.length) t3'⟩] 3), (pb, dqObj), (fs, dqObj)] ++ rest) s Q (.str ⟨W.toArray⟩ t)) :
    wpAny (model P0 w) A (call (.ref 793) [.ref x]) Q E s := by
  rcases c with ⟨dp, un, gd, cn, cs, a, ccd, cl, outer, A₀, lo, mean, mg, mb, B, F, X, N, T, hk, hd, hu⟩
  refine wpAny_call ?_
  k_dflt (refine' enterP [("self", .ref x)] [(x, instObj 796 d), (d, dictOf [⟨PyData.keyHash w.params (PySem.Str.ofString "instream"), .str (PySem.Str.ofString "instream") (nk 0), .ref yy⟩, ⟨PyData.keyHash w.params (PySem.Str.ofString "infile"), .str (PySem.Str.ofString "infile") (nk 1), .none⟩, ⟨PyData.keyHash w.params (PySem.Str.ofString "posix"), .str (PySem.Str.ofString "posix") (nk 2), .bool true⟩, ⟨PyData.keyHash w.params (PySem.Str.ofString "eof"), .str (PySem.Str.ofString "eof") (nk 3), .none⟩, ⟨PyData.keyHash w.params (PySem.Str.ofString "commenters"), .str (PySem.Str.ofString "commenters") (nk 4), .str (PySem.Str.ofString "") (vt 4)⟩, ⟨PyData.keyHash w.params (PySem.Str.ofString "wordchars"), .str (PySem.Str.ofString "wordchars") (nk 5), .str (PySem.Str.ofString "abcdfeghijklmnopqrstuvwxyzABCDEFGHIJKLMNOPQRSTUVWXYZ0123456789_ßàáâãäåæçèéêëìíîïðñòóôõöøùúûüýþÿÀÁÂÃÄÅÆÇÈÉÊËÌÍÎÏÐÑÒÓÔÕÖØÙÚÛÜÝÞ") (vt 5)⟩, ⟨PyData.keyHash w.params (PySem.Str.ofString "whitespace"), .str (PySem.Str.ofString "whitespace") (nk 6), .str (PySem.Str.ofString " \t\r\n") (vt 6)⟩, ⟨PyData.keyHash w.params (PySem.Str.ofString "whitespace_split"), .str (PySem.Str.ofString "whitespace_split") (nk 7), .bool true⟩, ⟨PyData.keyHash w.params (PySem.Str.ofString "quotes"), .str (PySem.Str.ofString "quotes") (nk 8), .str (PySem.Str.ofString "'\"") (vt 8)⟩, ⟨PyData.keyHash w.params (PySem.Str.ofString "escape"), .str (PySem.Str.ofString "escape") (nk 9), .str (PySem.Str.ofString "\\") (vt 9)⟩, ⟨PyData.keyHash w.params (PySem.Str.ofString "escapedquotes"), .str (PySem.Str.ofString "escapedquotes") (nk 10), .str (PySem.Str.ofString "\"") (vt 10)⟩, ⟨PyData.keyHash w.params (PySem.Str.ofString "state"), .str (PySem.Str.ofString "state") (nk 11), .str (PySem.Str.ofString " ") ss⟩, ⟨PyData.keyHash w.params (PySem.Str.ofString "pushback"), .str (PySem.Str.ofString "pushback") (nk 12), .ref pb⟩, ⟨PyData.keyHash w.params (PySem.Str.ofString "lineno"), .str (PySem.Str.ofString "lineno") (nk 13), .int 1 (vt 13)⟩, ⟨PyData.keyHash w.params (PySem.Str.ofString "debug"), .str (PySem.Str.ofString "debug") (nk 14), .int 0 (vt 14)⟩, ⟨PyData.keyHash w.params (PySem.Str.ofString "token"), .str (PySem.Str.ofString "token") (nk 15), .str tok tt⟩, ⟨PyData.keyHash w.params (PySem.Str.ofString "filestack"), .str (PySem.Str.ofString "filestack") (nk 16), .ref fs⟩, ⟨PyData.keyHash w.params (PySem.Str.ofString "source"), .str (PySem.Str.ofString "source") (nk 17), .none⟩, ⟨PyData.keyHash w.params (PySem.Str.ofString "_punctuation_chars"), .str (PySem.Str.ofString "_punctuation_chars") (nk 18), .str (PySem.Str.ofString "") (vt 18)⟩] 19), (yy, instObj 703 e), (e, dictOf [⟨PyData.keyHash w.params (PySem.Str.ofString "_StringIO__newline"), .str (PySem.Str.ofString "_StringIO__newline") n1, .str (PySem.Str.ofString "\n") t1⟩, ⟨PyData.keyHash w.params (PySem.Str.ofString "_StringIO__buf"), .str (PySem.Str.ofString "_StringIO__buf") n2, .str y t2⟩, ⟨PyData.keyHash w.params (PySem.Str.ofString "_StringIO__pos"), .str (PySem.Str.ofString "_StringIO__pos") n3, .int z t3⟩] 3), (pb, dqObj), (fs, dqObj)] rest ?k1 ?k2 ?k3 ?k4 ?k5 ?kA ?kF ?kK ?h1 ?h2 ?h3 ?k6 ?k7 ?k8 ?k9 ?kB ?c2 ?c3 ?c4 ?c5 ?kG)
  k_dflt ((case kA => exact rfl); (case kF => exact rfl); (case kK => first | exact rfl | assumption); (case k1 => k_asm); (case k2 => k_asm); (case k3 => k_asm); (case k4 => k_asm); (case k5 => k_asm); (case k6 => k_is); (case k7 => k_is); (case k8 => ktr_room); (case k9 => exact kp_binds (by k_in) (fun _ => by kernel_rfl)); (case kB => exact locs rfl); (case c2 => exact rfl); (case c3 => exact rfl); (case c4 => exact rfl); (case c5 => decide); (case h1 => exact fun _ h => List.mem_append_left _ h); (case h2 => exact fun _ h => List.mem_append_right _ h); (case h3 => assumption); (intro g' L' h' FG' F' N' B' X' T' R'); (try dsimp only [List.reverse_cons, List.reverse_nil, List.nil_append, List.cons_append] at F'); (try dsimp only); (try k_fold))
  obtain ⟨o1, o2, o3, o4, o5⟩ := id o
  k_steps
  exact hret _ _ _ _ _ (by k_asm) (News.app' (by k_asm) (by assumption))
end
section
variable {w : World} {A : Around} {base h₀ : Heap} {L : Addr} {m : LM} {news : Led} {s : Shared} {Q E : PQ}
theorem rows21 : True := by
  k_with_none
  k_with "call type:type" => (((with_reducible show wpAny _ _ (call (Value.type "type") [Value.bytes _ _]) _ _ _); refine type_bytes ?_))
  k_with "compareOp In str str" => ((k_dflt (first | refine in_is (b := false) (by assumption) ?_ | refine in_is (b := true) (by assumption) ?_ | refine in_is (b := false) (by decide +kernel) ?_ | refine in_is (b := true) (by decide +kernel) ?_)))
  k_with "compareOp NotIn str str" => ((k_dflt (first | refine notIn_is (b := false) (by assumption) ?_ | refine notIn_is (b := true) (by assumption) ?_ | refine notIn_is (b := false) (by decide +kernel) ?_ | refine notIn_is (b := true) (by decide +kernel) ?_)))
  k_with "compareOp Eq str str" => ((k_dflt (first | refine eq_is (b := false) (by assumption) ?_ | refine eq_is (b := true) (by assumption) ?_ | refine eq_is (b := false) (by decide +kernel) ?_ | refine eq_is (b := true) (by decide +kernel) ?_)))
  k_with "truthy str" => (((with_reducible show wpAny _ _ (PySem.truthy (Value.str _ _)) _ _ _); k_dflt (first | refine KXt.truthy (b := true) (by assumption) (by size_fits) ?_ | refine KXt.truthy (b := false) (by assumption) (by size_fits) ?_ | refine KXt.truthy (b := false) (by decide +kernel) (by decide) ?_ | refine KXt.truthy (b := true) (by decide +kernel) (by decide) ?_); intro _))
  k_with "truthy ref" => ((k_dflt (refine truthy_dq (News.get (by k_asm) (by k_mem)) ?_); intro _))
  k_with "call ref" => (((with_reducible show wpAny _ _ (call (Value.ref 757) _ _) _ _ _); k_dflt (refine' gt_blank (Cx.mk _ _ _ _ _ _ _ _ _ _ _ _ _ _ ?b ?f ?x ?n ?t ?k ?d ?u) ?q0 ?q1 ?q2 ?q3 ?q4 ?q5 ?q6 ?q7 ?_; ((case b => k_asm); (case f => k_asm); (case x => k_asm); (case n => k_asm); (case t => k_asm); (case k => first | exact rfl | assumption); (case d => ktr_room); (case u => ktr_units)); (case q5 => assumption); (case q0 => assumption); (case q1 => assumption); (case q2 => assumption); (case q3 => assumption); (case q4 => assumption); (case q6 => assumption); (case q7 => assumption); (intro _ _ _ _ _ _ _ _))))
  k_with "call ref" => (((with_reducible show wpAny _ _ (call (Value.ref 757) _ _) _ _ _); k_dflt (refine' gt_last (Cx.mk _ _ _ _ _ _ _ _ _ _ _ _ _ _ ?b ?f ?x ?n ?t ?k ?d ?u) ?q0 ?q1 ?q2 ?q3 ?q4 ?q5 ?q6 ?q7 ?_; ((case b => k_asm); (case f => k_asm); (case x => k_asm); (case n => k_asm); (case t => k_asm); (case k => first | exact rfl | assumption); (case d => ktr_room); (case u => ktr_units)); (case q5 => assumption); (case q0 => assumption); (case q1 => assumption); (case q2 => assumption); (case q3 => assumption); (case q4 => assumption); (case q6 => assumption); (case q7 => assumption); (intro _ _ _ _ _ _ _))))
  k_with "call ref" => (((with_reducible show wpAny _ _ (call (Value.ref 757) _ _) _ _ _); k_dflt (refine' gt_over (Cx.mk _ _ _ _ _ _ _ _ _ _ _ _ _ _ ?b ?f ?x ?n ?t ?k ?d ?u) ?q0 ?q1 ?q2 ?q3 ?_; ((case b => k_asm); (case f => k_asm); (case x => k_asm); (case n => k_asm); (case t => k_asm); (case k => first | exact rfl | assumption); (case d => ktr_room); (case u => ktr_units)); (case q0 => assumption); (case q1 => assumption); (case q2 => assumption); (case q3 => assumption); (intro _ _ _ _ _))))
  exact trivial
theorem nx_over {y : PySem.Str} {z : Int} {t2 t3 : Tok} {n1 n2 n3 t1 : Tok} {nk vt : Nat → Tok} {x d yy e pb fs : Addr} {tok : PySem.Str} {tt : Tok} {rest : Led} {Q' : Option PySem.Value → Shared → Prop} {dp un : Nat} {gd : Option (List Code)} {cn : PySem.Str} {cs : Scope} {a : Addr} {ccd : PySem.Value} {outer : List Env} {A₀ : Around} {lo : List PySem.Str} {mean : ExcName → Option PySem.Value} {mg mb : LM}
    (B : Below A₀ base outer h₀) (F : Fr h₀ L s.heap m) (X : (K w.params).In h₀) (N : News h₀ L s.heap ([(x, instObj 796 d), (d, dictOf [⟨PyData.keyHash w.params (PySem.Str.ofString "instream"), .str (PySem.Str.ofString "instream") (nk 0), .ref yy⟩, ⟨PyData.keyHash w.params (PySem.Str.ofString "infile"), .str (PySem.Str.ofString "infile") (nk 1), .none⟩, ⟨PyData.keyHash w.params (PySem.Str.ofString "posix"), .str (PySem.Str.ofString "posix") (nk 2), .bool true⟩, ⟨PyData.keyHash w.params (PySem.Str.ofString "eof"), .str (PySem.Str.ofString "eof") (nk 3), .none⟩, ⟨PyData.keyHash w.params (PySem.Str.ofString "commenters"), .str (PySem.Str.ofString "commenters") (nk 4), .str (PySem.Str.ofString "") (vt 4)⟩, ⟨PyData.keyHash w.params (PySem.Str.ofString "wordchars"), .str (PySem.Str.ofString "wordchars") (nk 5), .str (PySem.Str.ofString "abcdfeghijklmnopqrstuvwxyzABCDEFGHIJKLMNOPQRSTUVWXYZ0123456789_ßàáâãäåæçèéêëìíîïðñòóôõöøùúûüýþÿÀÁÂÃÄÅÆÇÈÉÊËÌÍÎÏÐÑÒÓÔÕÖØÙÚÛÜÝÞ") (vt 5)⟩, ⟨PyData.keyHash w.params (PySem.Str.ofString "whitespace"), .str (PySem.Str.ofString "whitespace") (nk 6), .str (PySem.Str.ofString " \t\r\n") (vt 6)⟩, ⟨PyData.keyHash w.params (PySem.Str.ofString "whitespace_split"), .str (PySem.Str.ofString "whitespace_split") (nk 7), .bool true⟩, ⟨PyData.keyHash w.params (PySem.Str.ofString "quotes"), .str (PySem.Str.ofString "quotes") (nk 8), .str (PySem.Str.ofString "'\"") (vt 8)⟩, ⟨PyData.keyHash w.params (PySem.Str.ofString "escape"), .str (PySem.Str.ofString "escape") (nk 9), .str (PySem.Str.ofString "\\") (vt 9)⟩, ⟨PyData.keyHash w.params (PySem.Str.ofString "escapedquotes"), .str (PySem.Str.ofString "escapedquotes") (nk 10), .str (PySem.Str.ofString "\"") (vt 10)⟩, ⟨PyData.keyHash w.params (PySem.Str.ofString "state"), .str (PySem.Str.ofString "state") (nk 11), .none⟩, ⟨PyData.keyHash w.params (PySem.Str.ofString "pushback"), .str (PySem.Str.ofString "pushback") (nk 12), .ref pb⟩, ⟨PyData.keyHash w.params (PySem.Str.ofString "lineno"), .str (PySem.Str.ofString "lineno") (nk 13), .int 1 (vt 13)⟩, ⟨PyData.keyHash w.params (PySem.Str.ofString "debug"), .str (PySem.Str.ofString "debug") (nk 14), .int 0 (vt 14)⟩, ⟨PyData.keyHash w.params (PySem.Str.ofString "token"), .str (PySem.Str.ofString "token") (nk 15), .str tok tt⟩, ⟨PyData.keyHash w.params (PySem.Str.ofString "filestack"), .str (PySem.Str.ofString "filestack") (nk 16), .ref fs⟩, ⟨PyData.keyHash w.params (PySem.Str.ofString "source"), .str (PySem.Str.ofString "source") (nk 17), .none⟩, ⟨PyData.keyHash w.params (PySem.Str.ofString "_punctuation_chars"), .str (PySem.Str.ofString "_punctuation_chars") (nk 18), .str (PySem.Str.ofString "") (vt 18)⟩] 19), (yy, instObj 703 e), (e, dictOf [⟨PyData.keyHash w.params (PySem.Str.ofString "_StringIO__newline"), .str (PySem.Str.ofString "_StringIO__newline") n1, .str (PySem.Str.ofString "\n") t1⟩, ⟨PyData.keyHash w.params (PySem.Str.ofString "_StringIO__buf"), .str (PySem.Str.ofString "_StringIO__buf") n2, .str y t2⟩, ⟨PyData.keyHash w.params (PySem.Str.ofString "_StringIO__pos"), .str (PySem.Str.ofString "_StringIO__pos") n3, .int z t3⟩] 3), (pb, dqObj), (fs, dqObj)] ++ rest)) (T : Top q0 lo mean mg mb h₀) (hk : cs.kind = .function) (hd : dp + 80 < recursionLimit) (hu : un + 800 < cLine) (D : KtsDicts (outer.filterMap (·.frame)) h₀) (o : Ords d x e yy pb fs) 
    (hoff : ∀ p ∈ rest, p.1 ∉ ([(x, instObj 796 d), (d, dictOf [⟨PyData.keyHash w.params (PySem.Str.ofString "instream"), .str (PySem.Str.ofString "instream") (nk 0), .ref yy⟩, ⟨PyData.keyHash w.params (PySem.Str.ofString "infile"), .str (PySem.Str.ofString "infile") (nk 1), .none⟩, ⟨PyData.keyHash w.params (PySem.Str.ofString "posix"), .str (PySem.Str.ofString "posix") (nk 2), .bool true⟩, ⟨PyData.keyHash w.params (PySem.Str.ofString "eof"), .str (PySem.Str.ofString "eof") (nk 3), .none⟩, ⟨PyData.keyHash w.params (PySem.Str.ofString "commenters"), .str (PySem.Str.ofString "commenters") (nk 4), .str (PySem.Str.ofString "") (vt 4)⟩, ⟨PyData.keyHash w.params (PySem.Str.ofString "wordchars"), .str (PySem.Str.ofString "wordchars") (nk 5), .str (PySem.Str.ofString "abcdfeghijklmnopqrstuvwxyzABCDEFGHIJKLMNOPQRSTUVWXYZ0123456789_ßàáâãäåæçèéêëìíîïðñòóôõöøùúûüýþÿÀÁÂÃÄÅÆÇÈÉÊËÌÍÎÏÐÑÒÓÔÕÖØÙÚÛÜÝÞ") (vt 5)⟩, ⟨PyData.keyHash w.params (PySem.Str.ofString "whitespace"), .str (PySem.Str.ofString "whitespace") (nk 6), .str (PySem.Str.ofString " \t\r\n") (vt 6)⟩, ⟨PyData.keyHash w.params (PySem.Str.ofString "whitespace_split"), .str (PySem.Str.ofString "whitespace_split") (nk 7), .bool true⟩, ⟨PyData.keyHash w.params (PySem.Str.ofString "quotes"), .str (PySem.Str.ofString "quotes") (nk 8), .str (PySem.Str.ofString "'\"") (vt 8)⟩, ⟨PyData.keyHash w.params (PySem.Str.ofString "escape"), .str (PySem.Str.ofString "escape") (nk 9), .str (PySem.Str.ofString "\\") (vt 9)⟩, ⟨PyData.keyHash w.params (PySem.Str.ofString "escapedquotes"), .str (PySem.Str.ofString "escapedquotes") (nk 10), .str (PySem.Str.ofString "\"") (vt 10)⟩, ⟨PyData.keyHash w.params (PySem.Str.ofString "state"), .str (PySem.Str.ofString "state") (nk 11), .none⟩, ⟨PyData.keyHash w.params (PySem.Str.ofString "pushback"), .str (PySem.Str.ofString "pushback") (nk 12), .ref pb⟩, ⟨PyData.keyHash w.params (PySem.Str.ofString "lineno"), .str (PySem.Str.ofString "lineno") (nk 13), .int 1 (vt 13)⟩, ⟨PyData.keyHash w.params (PySem.Str.ofString "debug"), .str (PySem.Str.ofString "debug") (nk 14), .int 0 (vt 14)⟩, ⟨PyData.keyHash w.params (PySem.Str.ofString "token"), .str (PySem.Str.ofString "token") (nk 15), .str tok tt⟩, ⟨PyData.keyHash w.params (PySem.Str.ofString "filestack"), .str (PySem.Str.ofString "filestack") (nk 16), .ref fs⟩, ⟨PyData.keyHash w.params (PySem.Str.ofString "source"), .str (PySem.Str.ofString "source") (nk 17), .none⟩, ⟨PyData.keyHash w.params (PySem.Str.ofString "_punctuation_chars"), .str (PySem.Str.ofString "_punctuation_chars") (nk 18), .str (PySem.Str.ofString "") (vt 18)⟩] 19), (yy, instObj 703 e), (e, dictOf [⟨PyData.keyHash w.params (PySem.Str.ofString "_StringIO__newline"), .str (PySem.Str.ofString "_StringIO__newline") n1, .str (PySem.Str.ofString "\n") t1⟩, ⟨PyData.keyHash w.params (PySem.Str.ofString "_StringIO__buf"), .str (PySem.Str.ofString "_StringIO__buf") n2, .str y t2⟩, ⟨PyData.keyHash w.params (PySem.Str.ofString "_StringIO__pos"), .str (PySem.Str.ofString "_StringIO__pos") n3, .int z t3⟩] 3), (pb, dqObj), (fs, dqObj)] : Led).map (·.1)) (hp : 0 ≤ z) (hy : y.length ≤ 200) (hz : z = y.length)
    (hret : ∀ tt3 h₀' h' tk', KtsTurn (outer.filterMap (·.frame)) h₀ h₀' → Fr h₀' L h' m → News h₀' L h' ([(x, instObj 796 d), (d, dictOf [⟨PyData.keyHash w.params (PySem.Str.ofString "instream"), .str (PySem.Str.ofString "instream") (nk 0), .ref yy⟩, ⟨PyData.keyHash w.params (PySem.Str.ofString "infile"), .str (PySem.Str.ofString "infile") (nk 1), .none⟩, ⟨PyData.keyHash w.params (PySem.Str.ofString "posix"), .str (PySem.Str.ofString "posix") (nk 2), .bool true⟩, ⟨PyData.keyHash w.params (PySem.Str.ofString "eof"), .str (PySem.Str.ofString "eof") (nk 3), .none⟩, ⟨PyData.keyHash w.params (PySem.Str.ofString "commenters"), .str (PySem.Str.ofString "commenters") (nk 4), .str (PySem.Str.ofString "") (vt 4)⟩, ⟨PyData.keyHash w.params (PySem.Str.ofString "wordchars"), .str (PySem.Str.ofString "wordchars") (nk 5), .str (PySem.Str.ofString "abcdfeghijklmnopqrstuvwxyzABCDEFGHIJKLMNOPQRSTUVWXYZ0123456789_ßàáâãäåæçèéêëìíîïðñòóôõöøùúûüýþÿÀÁÂÃÄÅÆÇÈÉÊËÌÍÎÏÐÑÒÓÔÕÖØÙÚÛÜÝÞ") (vt 5)⟩, ⟨PyData.keyHash w.params (PySem.Str.ofString "whitespace"), .str (PySem.Str.ofString "whitespace") (nk 6), .str (PySem.Str.ofString " \t\r\n") (vt 6)⟩, ⟨PyData.keyHash w.params (PySem.Str.ofString "whitespace_split"), .str (PySem.Str.ofString "whitespace_split") (nk 7), .bool true⟩, ⟨PyData.keyHash w.params (PySem.Str.ofString "quotes"), .str (PySem.Str.ofString "quotes") (nk 8), .str (PySem.Str.ofString "'\"") (vt 8)⟩, ⟨PyData.keyHash w.params (PySem.Str.ofString "escape"), .str (PySem.Str.ofString "escape") (nk 9), .str (PySem.Str.ofString "\\") (vt 9)⟩, ⟨PyData.keyHash w.params (PySem.Str.ofString "escapedquotes"), .str (PySem.Str.ofString "escapedquotes") (nk 10), .str (PySem.Str.ofString "\"") (vt 10)⟩, ⟨PyData.keyHash w.params (PySem.Str.ofString "state"), .str (PySem.Str.ofString "state") (nk 11), .none⟩, ⟨PyData.keyHash w.params (PySem.Str.ofString "pushback"), .str (PySem.Str.ofString "pushback") (nk 12), .ref pb⟩, ⟨PyData.keyHash w.params (PySem.Str.ofString "lineno"), .str (PySem.Str.ofString "lineno") (nk 13), .int 1 (vt 13)⟩, ⟨PyData.keyHash w.params (PySem.Str.ofString "debug"), .str (PySem.Str.ofString "debug") (nk 14), .int 0 (vt 14)⟩, ⟨PyData.keyHash w.params (PySem.Str.ofString "token"), .str (PySem.Str.ofString "token") (nk 15), .str (PySem.Str.ofString "") tt3⟩, ⟨PyData.keyHash w.params (PySem.Str.ofString "filestack"), .str (PySem.Str.ofString "filestack") (nk 16), .ref fs⟩, ⟨PyData.keyHash w.params (PySem.Str.ofString "source"), .str (PySem.Str.ofString "source") (nk 17), .none⟩, ⟨PyData.keyHash w.params (PySem.Str.ofString "_punctuation_chars"), .str (PySem.Str.ofString "_punctuation_chars") (nk 18), .str (PySem.Str.ofString "") (vt 18)⟩] 19), (yy, instObj 703 e), (e, dictOf [⟨PyData.keyHash w.params (PySem.Str.ofString "_StringIO__newline"), .str (PySem.Str.ofString "_StringIO__newline") n1, .str (PySem.Str.ofString "\n") t1⟩, ⟨PyData.keyHash w.params (PySem.Str.ofString "_StringIO__buf"), .str (PySem.Str.ofString "_StringIO__buf") n2, .str y t2⟩, ⟨PyData.keyHash w.params (PySem.Str.ofString "_StringIO__pos"), .str (PySem.Str.ofString "_StringIO__pos") n3, .int z t3⟩] 3), (pb, dqObj), (fs, dqObj)] ++ rest) → Below A₀ base outer h₀' → Q' none { s with heap := h', toks := tk' }) :
    wpAny (model P0 w) (ktrTop dp un gd cn cs L a ccd [] outer) (call (.ref 793) [.ref x]) Q (OwitStop (model P0 w) (ktrTop dp un gd cn cs L a ccd [] outer) Q' E) s := by
  refine wpAny_call ?_
  k_dflt (refine' enterP [("self", .ref x)] [(x, instObj 796 d), (d, dictOf [⟨PyData.keyHash w.params (PySem.Str.ofString "instream"), .str (PySem.Str.ofString "instream") (nk 0), .ref yy⟩, ⟨PyData.keyHash w.params (PySem.Str.ofString "infile"), .str (PySem.Str.ofString "infile") (nk 1), .none⟩, ⟨PyData.keyHash w.params (PySem.Str.ofString "posix"), .str (PySem.Str.ofString "posix") (nk 2), .bool true⟩, ⟨PyData.keyHash w.params (PySem.Str.ofString "eof"), .str (PySem.Str.ofString "eof") (nk 3), .none⟩, ⟨PyData.keyHash w.params (PySem.Str.ofString "commenters"), .str (PySem.Str.ofString "commenters") (nk 4), .str (PySem.Str.ofString "") (vt 4)⟩, ⟨PyData.keyHash w.params (PySem.Str.ofString "wordchars"), .str (PySem.Str.ofString "wordchars") (nk 5), .str (PySem.Str.ofString "abcdfeghijklmnopqrstuvwxyzABCDEFGHIJKLMNOPQRSTUVWXYZ0123456789_ßàáâãäåæçèéêëìíîïðñòóôõöøùúûüýþÿÀÁÂÃÄÅÆÇÈÉÊËÌÍÎÏÐÑÒÓÔÕÖØÙÚÛÜÝÞ") (vt 5)⟩, ⟨PyData.keyHash w.params (PySem.Str.ofString "whitespace"), .str (PySem.Str.ofString "whitespace") (nk 6), .str (PySem.Str.ofString " \t\r\n") (vt 6)⟩, ⟨PyData.keyHash w.params (PySem.Str.ofString "whitespace_split"), .str (PySem.Str.ofString "whitespace_split") (nk 7), .bool true⟩, ⟨PyData.keyHash w.params (PySem.Str.ofString "quotes"), .str (PySem.Str.ofString "quotes") (nk 8), .str (PySem.Str.ofString "'\"") (vt 8)⟩, ⟨PyData.keyHash w.params (PySem.Str.ofString "escape"), .str (PySem.Str.ofString "escape") (nk 9), .str (PySem.Str.ofString "\\") (vt 9)⟩, ⟨PyData.keyHash w.params (PySem.Str.ofString "escapedquotes"), .str (PySem.Str.ofString "escapedquotes") (nk 10), .str (PySem.Str.ofString "\"") (vt 10)⟩, ⟨PyData.keyHash w.params (PySem.Str.ofString "state"), .str (PySem.Str.ofString "state") (nk 11), .none⟩, ⟨PyData.keyHash w.params (PySem.Str.ofString "pushback"), .str (PySem.Str.ofString "pushback") (nk 12), .ref pb⟩, ⟨PyData.keyHash w.params (PySem.Str.ofString "lineno"), .str (PySem.Str.ofString "lineno") (nk 13), .int 1 (vt 13)⟩, ⟨PyData.keyHash w.params (PySem.Str.ofString "debug"), .str (PySem.Str.ofString "debug") (nk 14), .int 0 (vt 14)⟩, ⟨PyData.keyHash w.params (PySem.Str.ofString "token"), .str (PySem.Str.ofString "token") (nk 15), .str tok tt⟩, ⟨PyData.keyHash w.params (PySem.Str.ofString "filestack"), .str (PySem.Str.ofString "filestack") (nk 16), .ref fs⟩, ⟨PyData.keyHash w.params (PySem.Str.ofString "source"), .str (PySem.Str.ofString "source") (nk 17), .none⟩, ⟨PyData.keyHash w.params (PySem.Str.ofString "_punctuation_chars"), .str (PySem.Str.ofString "_punctuation_chars") (nk 18), .str (PySem.Str.ofString "") (vt 18)⟩] 19), (yy, instObj 703 e), (e, dictOf [⟨PyData.keyHash w.params (PySem.Str.ofString "_StringIO__newline"), .str (PySem.Str.ofString "_StringIO__newline") n1, .str (PySem.Str.ofString "\n") t1⟩, ⟨PyData.keyHash w.params (PySem.Str.ofString "_StringIO__buf"), .str (PySem.Str.ofString "_StringIO__buf") n2, .str y t2⟩, ⟨PyData.keyHash w.params (PySem.Str.ofString "_StringIO__pos"), .str (PySem.Str.ofString "_StringIO__pos") n3, .int z t3⟩] 3), (pb, dqObj), (fs, dqObj)] rest ?k1 ?k2 ?k3 ?k4 ?k5 ?kA ?kF ?kK ?h1 ?h2 ?h3 ?k6 ?k7 ?k8 ?k9 ?kB ?c2 ?c3 ?c4 ?c5 ?kG)
  k_dflt ((case kA => exact rfl); (case kF => exact rfl); (case kK => first | exact rfl | assumption); (case k1 => k_asm); (case k2 => k_asm); (case k3 => k_asm); (case k4 => k_asm); (case k5 => k_asm); (case k6 => k_is); (case k7 => k_is); (case k8 => ktr_room); (case k9 => exact kp_binds (by k_in) (fun _ => by kernel_rfl)); (case kB => exact locs rfl); (case c2 => exact rfl); (case c3 => exact rfl); (case c4 => exact rfl); (case c5 => decide); (case h1 => exact fun _ h => List.mem_append_left _ h); (case h2 => exact fun _ h => List.mem_append_right _ h); (case h3 => assumption); (intro g' L' h' FG' F' N' B' X' T' R'); (try dsimp only [List.reverse_cons, List.reverse_nil, List.nil_append, List.cons_append] at F'); (try dsimp only); (try k_fold))
  have R9 := ‹∀ p ∈ rest, Heap.get? _ p.1 = some p.2›
  obtain ⟨o1, o2, o3, o4, o5⟩ := id o
  k_steps
  rename RaisedS _ _ _ _ _ _ _ _ _ => S9
  rename Heap.UpToSlots _ _ => U9
  rename Fr h₀ L _ m => F9
  have Nr : News h₀ L s.heap rest := fun p hp => N p (List.mem_append_right _ hp)
  exact owit_ground S9 U9 F9 B R9 Nr (fun h₀' T1 F1 N1 B1 => hret _ _ _ _ T1 F1 N1 B1)
end
end
section
open PySem PySem.W PyProof.Rows PySem.Spec PySem.Calls
set_option maxRecDepth 100000
set_option maxHeartbeats 0
def joinW : List (List Nat) → List Nat
  | [] => []
  | [w] => w
  | w :: v :: ws => w ++ 32 :: joinW (v :: ws)
theorem sep_facts : ((⟨#[32]⟩ : PySem.Str) == PySem.Str.ofString "\n") = false ∧ has (PySem.Str.ofString " \t\r\n") ⟨#[32]⟩ = true := ⟨by decide +kernel, by decide +kernel⟩
abbrev LObj (acc : Array PySem.Value) (c : Nat) : Obj := { cls := .type "list", dict := none, data := .seq acc c, slots := #[] }
/-- none of the lexer's objects is at S -/
def OffS (S d x e yy pb fs : Nat) : Prop := S ≠ x ∧ S ≠ d ∧ S ≠ yy ∧ S ≠ e ∧ S ≠ pb ∧ S ≠ fs
theorem OffS.off {S d x e yy pb fs : Addr} (h : OffS S d x e yy pb fs) {o o1 o2 o3 o4 o5 o6 : Obj} : ∀ p ∈ ([(S, o)] : Led), p.1 ∉ ([(x, o1), (d, o2), (yy, o3), (e, o4), (pb, o5), (fs, o6)] : Led).map (·.1) := by
  obtain ⟨a1, a2, a3, a4, a5, a6⟩ := h
  intro p hp
  simp only [List.mem_cons, List.not_mem_nil, or_false] at hp
  subst hp
  simp only [List.map_cons, List.map_nil, List.mem_cons, List.not_mem_nil, or_false, not_or]
  exact ⟨a1, a2, a3, a4, a5, a6⟩
theorem OffS.ne {S d x e yy pb fs : Addr} (h : OffS S d x e yy pb fs) {o1 o2 o3 o4 o5 o6 : Obj} : ∀ p ∈ ([(x, o1), (d, o2), (yy, o3), (e, o4), (pb, o5), (fs, o6)] : Led), p.1 ≠ S := by
  obtain ⟨a1, a2, a3, a4, a5, a6⟩ := h
  intro p hp
  simp only [List.mem_cons, List.not_mem_nil, or_false] at hp
  rcases hp with h | h | h | h | h | h <;> subst h <;> (apply Ne.symm; assumption)
theorem look_next : ∀ P : Params, findIn (K P) (.ref 796) "__next__" = some (some (.ref 793)) := fun _ => by kernel_rfl
theorem look_iter : ∀ P : Params, findIn (K P) (.ref 796) "__iter__" = some (some (.ref 786)) := fun _ => by kernel_rfl
theorem fn_next : ∀ P : Params, isFn (K P) (.ref 793) = true := fun _ => by kernel_rfl
theorem fn_iter : ∀ P : Params, isFn (K P) (.ref 786) = true := fun _ => by kernel_rfl
theorem look_len : ∀ P : Params, findIn (K P) (.ref 796) "__len__" = some none := fun _ => by kernel_rfl
theorem look_hint : ∀ P : Params, findIn (K P) (.ref 796) "__length_hint__" = some none := fun _ => by kernel_rfl
section
variable {w : World} {base h₀ : Heap} {L : Addr} {m : LM} {s : Shared} {Q E : PQ}
theorem push_at {h : Heap} {S : Addr} {acc : Array PySem.Value} {c : Nat} {own : Led} {f : Array PySem.Value → Array PySem.Value} (F : Fr h₀ L h m) (N : News h₀ L h (own ++ [(S, LObj acc c)])) (hne : ∀ p ∈ own, p.1 ≠ S) :
    ∃ c', Fr h₀ L (h.update S (Obj.mapSeq f)) m ∧ News h₀ L (h.update S (Obj.mapSeq f)) (own ++ [(S, LObj (f acc) c')]) := by
  have zS := N (S, LObj acc c) (List.mem_append_right _ (.head _))
  have hs : Heap.SameBut S h (h.update S (Obj.mapSeq f)) := Heap.SameBut.update ..
  refine ⟨_, F.change hs zS.2.1 zS.2.2, News.setAt (rest := []) N hne (fun _ h => nomatch h) hs (Heap.get?_update_self _ zS.1 rfl)⟩
theorem ll_loop {y : PySem.Str} {z : Int} {t2 t3 : Tok} {n1 n2 n3 t1 : Tok} {nk vt : Nat → Tok} {x d yy e pb fs : Addr} {S : Addr} {dp un : Nat} {gd : Option (List Code)} {cn : PySem.Str} {cs : Scope} {a : Addr} {ccd : PySem.Value} {outer : List Env} {A₀ : Around} {lo : List PySem.Str} {mean : ExcName → Option PySem.Value} {mg mb : LM} {R : Result → Shared → Prop} (X : (K w.params).In h₀) (T : Top q0 lo mean mg mb h₀) (hk : cs.kind = .function) (hd : dp + 90 < recursionLimit) (hu : un + 900 < cLine) (B : Below A₀ base outer h₀) (D : KtsDicts (outer.filterMap (·.frame)) h₀) (o : Ords d x e yy pb fs) 
    (hS : OffS S d x e yy pb fs) (hy : y.length ≤ 200) :
    ∀ (ts : List (List Nat)) (hts : ts ≠ []) (hw : ∀ v ∈ ts, v ≠ [] ∧ ∀ c ∈ v, SignC c) (s : Shared) (z : Int) (t3 ss tt : Tok) (tok : PySem.Str) (acc : Array PySem.Value) (c : Nat) (F : Fr h₀ L s.heap m) (N : News h₀ L s.heap ([(x, instObj 796 d), (d, dictOf [⟨PyData.keyHash w.params (PySem.Str.ofString "instream"), .str (PySem.Str.ofString "instream") (nk 0), .ref yy⟩, ⟨PyData.keyHash w.params (PySem.Str.ofString "infile"), .str (PySem.Str.ofString "infile") (nk 1), .none⟩, ⟨PyData.keyHash w.params (PySem.Str.ofString "posix"), .str (PySem.Str.ofString "posix") (nk 2), .bool true⟩, ⟨PyData.keyHash w.params (PySem.Str.ofString "eof"), .str (PySem.Str.ofString "eof") (nk 3), .none⟩, ⟨PyData.keyHash w.params (PySem.Str.ofString "commenters"), .str (PySem.Str.ofString "commenters") (nk 4), .str (PySem.Str.ofString "") (vt 4)⟩, ⟨PyData.keyHash w.params (PySem.Str.ofString "wordchars"), .str (PySem.Str.ofString "wordchars") (nk 5), .str (PySem.Str.ofString "abcdfeghijklmnopqrstuvwxyzABCDEFGHIJKLMNOPQRSTUVWXYZ0123456789_ßàáâãäåæçèéêëìíîïðñòóôõöøùúûüýþÿÀÁÂÃÄÅÆÇÈÉÊËÌÍÎÏÐÑÒÓÔÕÖØÙÚÛÜÝÞ") (vt 5)⟩, ⟨PyData.keyHash w.params (PySem.Str.ofString "whitespace"), .str (PySem.Str.ofString "whitespace") (nk 6), .str (PySem.Str.ofString " \t\r\n") (vt 6)⟩, ⟨PyData.keyHash w.params (PySem.Str.ofString "whitespace_split"), .str (PySem.Str.ofString "whitespace_split") (nk 7), .bool true⟩, ⟨PyData.keyHash w.params (PySem.Str.ofString "quotes"), .str (PySem.Str.ofString "quotes") (nk 8), .str (PySem.Str.ofString "'\"") (vt 8)⟩, ⟨PyData.keyHash w.params (PySem.Str.ofString "escape"), .str (PySem.Str.ofString "escape") (nk 9), .str (PySem.Str.ofString "\\") (vt 9)⟩, ⟨PyData.keyHash w.params (PySem.Str.ofString "escapedquotes"), .str (PySem.Str.ofString "escapedquotes") (nk 10), .str (PySem.Str.ofString "\"") (vt 10)⟩, ⟨PyData.keyHash w.params (PySem.Str.ofString "state"), .str (PySem.Str.ofString "state") (nk 11), .str (PySem.Str.ofString " ") ss⟩, ⟨PyData.keyHash w.params (PySem.Str.ofString "pushback"), .str (PySem.Str.ofString "pushback") (nk 12), .ref pb⟩, ⟨PyData.keyHash w.params (PySem.Str.ofString "lineno"), .str (PySem.Str.ofString "lineno") (nk 13), .int 1 (vt 13)⟩, ⟨PyData.keyHash w.params (PySem.Str.ofString "debug"), .str (PySem.Str.ofString "debug") (nk 14), .int 0 (vt 14)⟩, ⟨PyData.keyHash w.params (PySem.Str.ofString "token"), .str (PySem.Str.ofString "token") (nk 15), .str tok tt⟩, ⟨PyData.keyHash w.params (PySem.Str.ofString "filestack"), .str (PySem.Str.ofString "filestack") (nk 16), .ref fs⟩, ⟨PyData.keyHash w.params (PySem.Str.ofString "source"), .str (PySem.Str.ofString "source") (nk 17), .none⟩, ⟨PyData.keyHash w.params (PySem.Str.ofString "_punctuation_chars"), .str (PySem.Str.ofString "_punctuation_chars") (nk 18), .str (PySem.Str.ofString "") (vt 18)⟩] 19), (yy, instObj 703 e), (e, dictOf [⟨PyData.keyHash w.params (PySem.Str.ofString "_StringIO__newline"), .str (PySem.Str.ofString "_StringIO__newline") n1, .str (PySem.Str.ofString "\n") t1⟩, ⟨PyData.keyHash w.params (PySem.Str.ofString "_StringIO__buf"), .str (PySem.Str.ofString "_StringIO__buf") n2, .str y t2⟩, ⟨PyData.keyHash w.params (PySem.Str.ofString "_StringIO__pos"), .str (PySem.Str.ofString "_StringIO__pos") n3, .int z t3⟩] 3), (pb, dqObj), (fs, dqObj)] ++ [(S, ({ cls := .type "list", dict := none, data := .seq acc c, slots := #[] } : Obj))]))
      (hp : 0 ≤ z) (hacc : acc.size + ts.length ≤ 1000) (hdrop : y.cps.toList.drop z.toNat = joinW ts)
      (hret : ∀ vs tt3 t3' z2 c' h₀' h' tk', StrsAre vs (ts.map fun v => ⟨v.toArray⟩) → KtsTurn (outer.filterMap (·.frame)) h₀ h₀' → Fr h₀' L h' m → News h₀' L h' ([(x, instObj 796 d), (d, dictOf [⟨PyData.keyHash w.params (PySem.Str.ofString "instream"), .str (PySem.Str.ofString "instream") (nk 0), .ref yy⟩, ⟨PyData.keyHash w.params (PySem.Str.ofString "infile"), .str (PySem.Str.ofString "infile") (nk 1), .none⟩, ⟨PyData.keyHash w.params (PySem.Str.ofString "posix"), .str (PySem.Str.ofString "posix") (nk 2), .bool true⟩, ⟨PyData.keyHash w.params (PySem.Str.ofString "eof"), .str (PySem.Str.ofString "eof") (nk 3), .none⟩, ⟨PyData.keyHash w.params (PySem.Str.ofString "commenters"), .str (PySem.Str.ofString "commenters") (nk 4), .str (PySem.Str.ofString "") (vt 4)⟩, ⟨PyData.keyHash w.params (PySem.Str.ofString "wordchars"), .str (PySem.Str.ofString "wordchars") (nk 5), .str (PySem.Str.ofString "abcdfeghijklmnopqrstuvwxyzABCDEFGHIJKLMNOPQRSTUVWXYZ0123456789_ßàáâãäåæçèéêëìíîïðñòóôõöøùúûüýþÿÀÁÂÃÄÅÆÇÈÉÊËÌÍÎÏÐÑÒÓÔÕÖØÙÚÛÜÝÞ") (vt 5)⟩, ⟨PyData.keyHash w.params (PySem.Str.ofString "whitespace"), .str (PySem.Str.ofString "whitespace") (nk 6), .str (PySem.Str.ofString " \t\r\n") (vt 6)⟩, ⟨PyData.keyHash w.params (PySem.Str.ofString "whitespace_split"), .str (PySem.Str.ofString "whitespace_split") (nk 7), .bool true⟩, ⟨PyData.keyHash w.params (PySem.Str.ofString "quotes"), .str (PySem.Str.ofString "quotes") (nk 8), .str (PySem.Str.ofString "'\"") (vt 8)⟩, ⟨PyData.keyHash w.params (PySem.Str.ofString "escape"), .str (PySem.Str.ofString "escape") (nk 9), .str (PySem.Str.ofString "\\") (vt 9)⟩, ⟨PyData.keyHash w.params (PySem.Str.ofString "escapedquotes"), .str (PySem.Str.ofString "escapedquotes") (nk 10), .str (PySem.Str.ofString "\"") (vt 10)⟩, ⟨PyData.keyHash w.params (PySem.Str.ofString "state"), .str (PySem.Str.ofString "state") (nk 11), .none⟩, ⟨PyData.keyHash w.params (PySem.Str.ofString "pushback"), .str (PySem.Str.ofString "pushback") (nk 12), .ref pb⟩, ⟨PyData.keyHash w.params (PySem.Str.ofString "lineno"), .str (PySem.Str.ofString "lineno") (nk 13), .int 1 (vt 13)⟩, ⟨PyData.keyHash w.params (PySem.Str.ofString "debug"), .str (PySem.Str.ofString "debug") (nk 14), .int 0 (vt 14)⟩, ⟨PyData.keyHash w.params (PySem.Str.ofString "token"), .str (PySem.Str.ofString "token") (nk 15), .str (PySem.Str.ofString "") tt3⟩, ⟨PyData.keyHash w.params (PySem.Str.ofString "filestack"), .str (PySem.Str.ofString "filestack") (nk 16), .ref fs⟩, ⟨PyData.keyHash w.params (PySem.Str.ofString "source"), .str (PySem.Str.ofString "source") (nk 17), .none⟩, ⟨PyData.keyHash w.params (PySem.Str.ofString "_punctuation_chars"), .str (PySem.Str.ofString "_punctuation_chars") (nk 18), .str (PySem.Str.ofString "") (vt 18)⟩] 19), (yy, instObj 703 e), (e, dictOf [⟨PyData.keyHash w.params (PySem.Str.ofString "_StringIO__newline"), .str (PySem.Str.ofString "_StringIO__newline") n1, .str (PySem.Str.ofString "\n") t1⟩, ⟨PyData.keyHash w.params (PySem.Str.ofString "_StringIO__buf"), .str (PySem.Str.ofString "_StringIO__buf") n2, .str y t2⟩, ⟨PyData.keyHash w.params (PySem.Str.ofString "_StringIO__pos"), .str (PySem.Str.ofString "_StringIO__pos") n3, .int z2 t3'⟩] 3), (pb, dqObj), (fs, dqObj)] ++ [(S, ({ cls := .type "list", dict := none, data := .seq (acc ++ vs.toArray) c', slots := #[] } : Obj))]) → Below A₀ base outer h₀' → R (.ok (.ret .none)) { s with heap := h', toks := tk' }),
      codeAny (model P0 w) (ktrTop dp un gd cn cs L a ccd [] outer) (.builtin "list.extend.loop" ⟨[.ref S, .ref x, .none], []⟩) R s := by
  intro ts
  induction ts with
  | nil => intro hts; exact absurd rfl hts
  | cons v ts ih =>
    intro hts hw s z t3 ss tt tok acc c F N hp hacc hdrop hret
    obtain ⟨hv, hsv⟩ := hw v List.mem_cons_self
    have I : InstAt s.heap x (instObj 796 d) 796 _ := InstAt.of_news N (.head _) (.tail _ (.head _))
    refine codeAny_builtin PySem.F.entry_extend_loop ?_
    rw [Around.under_plainId PySem.F.plain_extend_loop _]
    show wpAny _ (ktrTop dp (un + 1) gd cn cs L a ccd [] outer) (pyNext (.ref x) >>= _) _ _ s
    refine wpAny_bind (owit_next F X I (look_next _) (fn_next _) ?_)
    cases ts with
    | nil =>
      have hd0 : y.cps.toList.drop z.toNat = v ++ [] := by rw [List.append_nil]; exact hdrop
      refine nx_last (tail := []) (Cx.mk dp (un + 1) gd cn cs a ccd [] outer A₀ lo mean mg mb B F X N T hk (by (first | lia | omega)) (by (first | lia | omega))) hS.off o hp hy hv hsv hd0 (fun _ _ h => nomatch h) rfl (fun t3' tt3 t h' tk' F' N' => ?_)
      show wpAny _ (ktrTop dp (un + 1) gd cn cs L a ccd [] outer) (updateSeq S (·.push (.str ⟨v.toArray⟩ t)) >>= _) _ _ _
      obtain ⟨c', F2, N2⟩ := push_at (f := (·.push (.str ⟨v.toArray⟩ t))) F' N' hS.ne
      refine wpAny_bind ?_
      simp only [List.length_cons, List.length_nil] at hacc
      refine wpAny_updateSeq (N' (S, _) (List.mem_append_right _ (.head _))).1 rfl (wpAny_pure ⟨plainId_quiet PySem.F.plain_extend_loop _, ?_⟩) (by show acc.size ≤ sizeLine; unfold sizeLine; (first | lia | omega)) (by show (acc.push _).size ≤ sizeLine + 1; rw [Array.size_push]; unfold sizeLine; (first | lia | omega))
      have I2 : InstAt _ x (instObj 796 d) 796 _ := InstAt.of_news N2 (.head _) (.tail _ (.head _))
      refine codeAny_builtin PySem.F.entry_extend_loop ?_
      rw [Around.under_plainId PySem.F.plain_extend_loop _]
      show wpAny _ (ktrTop dp (un + 1) gd cn cs L a ccd [] outer) (pyNext (.ref x) >>= _) _ _ _
      refine wpAny_bind (owit_next F2 X I2 (look_next _) (fn_next _) ?_)
      have hlen : z.toNat + v.length = y.length := by
        have e := congrArg List.length hd0
        rw [List.append_nil, List.length_drop, Array.length_toList] at e
        have : v.length ≠ 0 := fun q => hv (List.length_eq_zero_iff.mp q)
        have : y.length = y.cps.size := rfl
        (first | lia | omega)
      refine nx_over B F2 X N2 T hk (by (first | lia | omega)) (by (first | lia | omega)) D o hS.off (by (first | lia | omega)) hy (by (first | lia | omega)) (fun tt3 h₀' h' tk' T3 F3 N3 B3 => ?_)
      exact wpAny_pure (hret [.str ⟨v.toArray⟩ t] _ _ _ _ _ _ _ (.cons _ _ .nil) T3 F3 N3 B3)
    | cons v2 ts =>
      have hd0 : y.cps.toList.drop z.toNat = v ++ 32 :: joinW (v2 :: ts) := hdrop
      refine nx_blank (tail := 32 :: joinW (v2 :: ts)) (Cx.mk dp (un + 1) gd cn cs a ccd [] outer A₀ lo mean mg mb B F X N T hk (by (first | lia | omega)) (by (first | lia | omega))) hS.off o hp hy hv hsv hd0 (fun c r h => by cases h; exact sep_facts) (fun h => nomatch h) (fun t3' tt3 ss2 t h' tk' F' N' => ?_)
      show wpAny _ (ktrTop dp (un + 1) gd cn cs L a ccd [] outer) (updateSeq S (·.push (.str ⟨v.toArray⟩ t)) >>= _) _ _ _
      obtain ⟨c', F2, N2⟩ := push_at (f := (·.push (.str ⟨v.toArray⟩ t))) F' N' hS.ne
      refine wpAny_bind ?_
      simp only [List.length_cons] at hacc
      refine wpAny_updateSeq (N' (S, _) (List.mem_append_right _ (.head _))).1 rfl (wpAny_pure ⟨plainId_quiet PySem.F.plain_extend_loop _, ?_⟩) (by show acc.size ≤ sizeLine; unfold sizeLine; (first | lia | omega)) (by show (acc.push _).size ≤ sizeLine + 1; rw [Array.size_push]; unfold sizeLine; (first | lia | omega))
      refine ih (by simp) (fun u hu => hw u (List.mem_cons_of_mem _ hu)) _ _ _ _ _ _ _ _ F2 N2 (by (first | lia | omega)) (by rw [Array.size_push, List.length_cons]; (first | lia | omega)) ?_ (fun vs tt3 t3' z2 c' h₀' h' tk' hvs T3 F3 N3 B3 => ?_)
      · rw [show (z + (v.length : Int) + 1).toNat = z.toNat + (v.length + 1) by (first | lia | omega), ← List.drop_drop, hd0, show v ++ 32 :: joinW (v2 :: ts) = (v ++ [32]) ++ joinW (v2 :: ts) by simp]
        rw [List.drop_append_of_le_length (by simp)]
        simp
      · have e : acc.push (.str ⟨v.toArray⟩ t) ++ vs.toArray = acc ++ ((PySem.Value.str ⟨v.toArray⟩ t) :: vs).toArray := by
          apply Array.ext'
          simp
        rw [e] at N3
        exact hret _ _ _ _ _ _ _ _ (.cons _ _ hvs) T3 F3 N3 B3
end
end
section
open PySem PySem.W PyProof.Rows PySem.Spec PySem.Calls
set_option maxRecDepth 100000
set_option maxHeartbeats 0
section
variable {w : World} {base h₀ : Heap} {L : Addr} {m : LM} {s : Shared} {Q E : PQ}
theorem special_none {A : Around} {x : Addr} {ox od : Obj} {nm : PySem.Str} {Q : Option PySem.Value → Shared → Prop} (X : (K w.params).In s.heap) (I : InstAt s.heap x ox 796 (some od)) (hs : findIn (K w.params) (.ref 796) nm = some none) (h : Q none s) : wpAny (model P0 w) A (specialOf (.ref x) nm) Q E s := by
  unfold specialOf
  exact wpAny_bind (I.type.here ((looks_findIn X hs).here h))
theorem lex_list {y : PySem.Str} {z : Int} {t2 t3 : Tok} {n1 n2 n3 t1 : Tok} {nk vt : Nat → Tok} {x d yy e pb fs : Addr} {tok : PySem.Str} {ss tt : Tok} {dp un : Nat} {gd : Option (List Code)} {cn : PySem.Str} {cs : Scope} {a : Addr} {ccd : PySem.Value} {outer : List Env} {A₀ : Around} {lo : List PySem.Str} {mean : ExcName → Option PySem.Value} {mg mb : LM} {ts : List (List Nat)} (X : (K w.params).In h₀) (T : Top q0 lo mean mg mb h₀) (hk : cs.kind = .function) (hd : dp + 95 < recursionLimit) (hu : un + 950 < cLine) (B : Below A₀ base outer h₀) (D : KtsDicts (outer.filterMap (·.frame)) h₀) (o : Ords d x e yy pb fs)  (hy : y.length ≤ 200) (hts : ts ≠ []) (hw : ∀ v ∈ ts, v ≠ [] ∧ ∀ c ∈ v, SignC c) (F : Fr h₀ L s.heap m) (N : News h₀ L s.heap [(x, instObj 796 d), (d, dictOf [⟨PyData.keyHash w.params (PySem.Str.ofString "instream"), .str (PySem.Str.ofString "instream") (nk 0), .ref yy⟩, ⟨PyData.keyHash w.params (PySem.Str.ofString "infile"), .str (PySem.Str.ofString "infile") (nk 1), .none⟩, ⟨PyData.keyHash w.params (PySem.Str.ofString "posix"), .str (PySem.Str.ofString "posix") (nk 2), .bool true⟩, ⟨PyData.keyHash w.params (PySem.Str.ofString "eof"), .str (PySem.Str.ofString "eof") (nk 3), .none⟩, ⟨PyData.keyHash w.params (PySem.Str.ofString "commenters"), .str (PySem.Str.ofString "commenters") (nk 4), .str (PySem.Str.ofString "") (vt 4)⟩, ⟨PyData.keyHash w.params (PySem.Str.ofString "wordchars"), .str (PySem.Str.ofString "wordchars") (nk 5), .str (PySem.Str.ofString "abcdfeghijklmnopqrstuvwxyzABCDEFGHIJKLMNOPQRSTUVWXYZ0123456789_ßàáâãäåæçèéêëìíîïðñòóôõöøùúûüýþÿÀÁÂÃÄÅÆÇÈÉÊËÌÍÎÏÐÑÒÓÔÕÖØÙÚÛÜÝÞ") (vt 5)⟩, ⟨PyData.keyHash w.params (PySem.Str.ofString "whitespace"), .str (PySem.Str.ofString "whitespace") (nk 6), .str (PySem.Str.ofString " \t\r\n") (vt 6)⟩, ⟨PyData.keyHash w.params (PySem.Str.ofString "whitespace_split"), .str (PySem.Str.ofString "whitespace_split") (nk 7), .bool true⟩, ⟨PyData.keyHash w.params (PySem.Str.ofString "quotes"), .str (PySem.Str.ofString "quotes") (nk 8), .str (PySem.Str.ofString "'\"") (vt 8)⟩, ⟨PyData.keyHash w.params (PySem.Str.ofString "escape"), .str (PySem.Str.ofString "escape") (nk 9), .str (PySem.Str.ofString "\\") (vt 9)⟩, ⟨PyData.keyHash w.params (PySem.Str.ofString "escapedquotes"), .str (PySem.Str.ofString "escapedquotes") (nk 10), .str (PySem.Str.ofString "\"") (vt 10)⟩, ⟨PyData.keyHash w.params (PySem.Str.ofString "state"), .str (PySem.Str.ofString "state") (nk 11), .str (PySem.Str.ofString " ") ss⟩, ⟨PyData.keyHash w.params (PySem.Str.ofString "pushback"), .str (PySem.Str.ofString "pushback") (nk 12), .ref pb⟩, ⟨PyData.keyHash w.params (PySem.Str.ofString "lineno"), .str (PySem.Str.ofString "lineno") (nk 13), .int 1 (vt 13)⟩, ⟨PyData.keyHash w.params (PySem.Str.ofString "debug"), .str (PySem.Str.ofString "debug") (nk 14), .int 0 (vt 14)⟩, ⟨PyData.keyHash w.params (PySem.Str.ofString "token"), .str (PySem.Str.ofString "token") (nk 15), .str tok tt⟩, ⟨PyData.keyHash w.params (PySem.Str.ofString "filestack"), .str (PySem.Str.ofString "filestack") (nk 16), .ref fs⟩, ⟨PyData.keyHash w.params (PySem.Str.ofString "source"), .str (PySem.Str.ofString "source") (nk 17), .none⟩, ⟨PyData.keyHash w.params (PySem.Str.ofString "_punctuation_chars"), .str (PySem.Str.ofString "_punctuation_chars") (nk 18), .str (PySem.Str.ofString "") (vt 18)⟩] 19), (yy, instObj 703 e), (e, dictOf [⟨PyData.keyHash w.params (PySem.Str.ofString "_StringIO__newline"), .str (PySem.Str.ofString "_StringIO__newline") n1, .str (PySem.Str.ofString "\n") t1⟩, ⟨PyData.keyHash w.params (PySem.Str.ofString "_StringIO__buf"), .str (PySem.Str.ofString "_StringIO__buf") n2, .str y t2⟩, ⟨PyData.keyHash w.params (PySem.Str.ofString "_StringIO__pos"), .str (PySem.Str.ofString "_StringIO__pos") n3, .int z t3⟩] 3), (pb, dqObj), (fs, dqObj)]) (hp : 0 ≤ z) (hlen : ts.length ≤ 900) (hdrop : y.cps.toList.drop z.toNat = joinW ts)
    (hret : ∀ S vs tt3 t3' z2 c' h₀' h' tk', StrsAre vs (ts.map fun v => ⟨v.toArray⟩) → KtsTurn (outer.filterMap (·.frame)) h₀ h₀' → Fr h₀' L h' m → News h₀' L h' ([(x, instObj 796 d), (d, dictOf [⟨PyData.keyHash w.params (PySem.Str.ofString "instream"), .str (PySem.Str.ofString "instream") (nk 0), .ref yy⟩, ⟨PyData.keyHash w.params (PySem.Str.ofString "infile"), .str (PySem.Str.ofString "infile") (nk 1), .none⟩, ⟨PyData.keyHash w.params (PySem.Str.ofString "posix"), .str (PySem.Str.ofString "posix") (nk 2), .bool true⟩, ⟨PyData.keyHash w.params (PySem.Str.ofString "eof"), .str (PySem.Str.ofString "eof") (nk 3), .none⟩, ⟨PyData.keyHash w.params (PySem.Str.ofString "commenters"), .str (PySem.Str.ofString "commenters") (nk 4), .str (PySem.Str.ofString "") (vt 4)⟩, ⟨PyData.keyHash w.params (PySem.Str.ofString "wordchars"), .str (PySem.Str.ofString "wordchars") (nk 5), .str (PySem.Str.ofString "abcdfeghijklmnopqrstuvwxyzABCDEFGHIJKLMNOPQRSTUVWXYZ0123456789_ßàáâãäåæçèéêëìíîïðñòóôõöøùúûüýþÿÀÁÂÃÄÅÆÇÈÉÊËÌÍÎÏÐÑÒÓÔÕÖØÙÚÛÜÝÞ") (vt 5)⟩, ⟨PyData.keyHash w.params (PySem.Str.ofString "whitespace"), .str (PySem.Str.ofString "whitespace") (nk 6), .str (PySem.Str.ofString " \t\r\n") (vt 6)⟩, ⟨PyData.keyHash w.params (PySem.Str.ofString "whitespace_split"), .str (PySem.Str.ofString "whitespace_split") (nk 7), .bool true⟩, ⟨PyData.keyHash w.params (PySem.Str.ofString "quotes"), .str (PySem.Str.ofString "quotes") (nk 8), .str (PySem.Str.ofString "'\"") (vt 8)⟩, ⟨PyData.keyHash w.params (PySem.Str.ofString "escape"), .str (PySem.Str.ofString "escape") (nk 9), .str (PySem.Str.ofString "\\") (vt 9)⟩, ⟨PyData.keyHash w.params (PySem.Str.ofString "escapedquotes"), .str (PySem.Str.ofString "escapedquotes") (nk 10), .str (PySem.Str.ofString "\"") (vt 10)⟩, ⟨PyData.keyHash w.params (PySem.Str.ofString "state"), .str (PySem.Str.ofString "state") (nk 11), .none⟩, ⟨PyData.keyHash w.params (PySem.Str.ofString "pushback"), .str (PySem.Str.ofString "pushback") (nk 12), .ref pb⟩, ⟨PyData.keyHash w.params (PySem.Str.ofString "lineno"), .str (PySem.Str.ofString "lineno") (nk 13), .int 1 (vt 13)⟩, ⟨PyData.keyHash w.params (PySem.Str.ofString "debug"), .str (PySem.Str.ofString "debug") (nk 14), .int 0 (vt 14)⟩, ⟨PyData.keyHash w.params (PySem.Str.ofString "token"), .str (PySem.Str.ofString "token") (nk 15), .str (PySem.Str.ofString "") tt3⟩, ⟨PyData.keyHash w.params (PySem.Str.ofString "filestack"), .str (PySem.Str.ofString "filestack") (nk 16), .ref fs⟩, ⟨PyData.keyHash w.params (PySem.Str.ofString "source"), .str (PySem.Str.ofString "source") (nk 17), .none⟩, ⟨PyData.keyHash w.params (PySem.Str.ofString "_punctuation_chars"), .str (PySem.Str.ofString "_punctuation_chars") (nk 18), .str (PySem.Str.ofString "") (vt 18)⟩] 19), (yy, instObj 703 e), (e, dictOf [⟨PyData.keyHash w.params (PySem.Str.ofString "_StringIO__newline"), .str (PySem.Str.ofString "_StringIO__newline") n1, .str (PySem.Str.ofString "\n") t1⟩, ⟨PyData.keyHash w.params (PySem.Str.ofString "_StringIO__buf"), .str (PySem.Str.ofString "_StringIO__buf") n2, .str y t2⟩, ⟨PyData.keyHash w.params (PySem.Str.ofString "_StringIO__pos"), .str (PySem.Str.ofString "_StringIO__pos") n3, .int z2 t3'⟩] 3), (pb, dqObj), (fs, dqObj)] ++ [(S, ({ cls := .type "list", dict := none, data := .seq vs.toArray c', slots := #[] } : Obj))]) → Below A₀ base outer h₀' → Q (.ref S) { s with heap := h', toks := tk' }) :
    wpAny (model P0 w) (ktrTop dp un gd cn cs L a ccd [] outer) (call (.type "list") [.ref x]) Q E s := by
  refine callType_codes (Q₁ := fun obj s₁ => obj = .ref s.heap.objs.size ∧ s₁ = { s with heap := s.heap.push { cls := .type "list", data := .seq #[] } }) PySem.F.called_list (PySem.F.typeCall_list_1 _) PySem.F.entry_list_init
    (code_list_new _ ⟨rfl, rfl⟩) fun obj s₁ h₁ => ?_
  obtain ⟨rfl, rfl⟩ := h₁
  have hlt : ∀ b ob, s.heap.get? b = some ob → @Ne Nat s.heap.objs.size b := fun b ob e => Nat.ne_of_gt (Heap.lt_size e)
  have hS : OffS s.heap.objs.size d x e yy pb fs := ⟨hlt _ _ (N _ (.head _)).1, hlt _ _ (N _ (.tail _ (.head _))).1, hlt _ _ (N _ (.tail _ (.tail _ (.head _)))).1, hlt _ _ (N _ (.tail _ (.tail _ (.tail _ (.head _))))).1, hlt _ _ (N _ (.tail _ (.tail _ (.tail _ (.tail _ (.head _)))))).1, hlt _ _ (N _ (.tail _ (.tail _ (.tail _ (.tail _ (.tail _ (.head _))))))).1⟩
  have hg : (s.heap.push { cls := .type "list", data := .seq #[] }).get? s.heap.objs.size = some { cls := .type "list", data := .seq #[] } := Heap.get?_push_size _ rfl
  have F1 : Fr h₀ L (s.heap.push (LObj #[] 0)) m := F.push _
  have N1 : News h₀ L (s.heap.push (LObj #[] 0)) ([(x, instObj 796 d), (d, dictOf [⟨PyData.keyHash w.params (PySem.Str.ofString "instream"), .str (PySem.Str.ofString "instream") (nk 0), .ref yy⟩, ⟨PyData.keyHash w.params (PySem.Str.ofString "infile"), .str (PySem.Str.ofString "infile") (nk 1), .none⟩, ⟨PyData.keyHash w.params (PySem.Str.ofString "posix"), .str (PySem.Str.ofString "posix") (nk 2), .bool true⟩, ⟨PyData.keyHash w.params (PySem.Str.ofString "eof"), .str (PySem.Str.ofString "eof") (nk 3), .none⟩, ⟨PyData.keyHash w.params (PySem.Str.ofString "commenters"), .str (PySem.Str.ofString "commenters") (nk 4), .str (PySem.Str.ofString "") (vt 4)⟩, ⟨PyData.keyHash w.params (PySem.Str.ofString "wordchars"), .str (PySem.Str.ofString "wordchars") (nk 5), .str (PySem.Str.ofString "abcdfeghijklmnopqrstuvwxyzABCDEFGHIJKLMNOPQRSTUVWXYZ0123456789_ßàáâãäåæçèéêëìíîïðñòóôõöøùúûüýþÿÀÁÂÃÄÅÆÇÈÉÊËÌÍÎÏÐÑÒÓÔÕÖØÙÚÛÜÝÞ") (vt 5)⟩, ⟨PyData.keyHash w.params (PySem.Str.ofString "whitespace"), .str (PySem.Str.ofString "whitespace") (nk 6), .str (PySem.Str.ofString " \t\r\n") (vt 6)⟩, ⟨PyData.keyHash w.params (PySem.Str.ofString "whitespace_split"), .str (PySem.Str.ofString "whitespace_split") (nk 7), .bool true⟩, ⟨PyData.keyHash w.params (PySem.Str.ofString "quotes"), .str (PySem.Str.ofString "quotes") (nk 8), .str (PySem.Str.ofString "'\"") (vt 8)⟩, ⟨PyData.keyHash w.params (PySem.Str.ofString "escape"), .str (PySem.Str.ofString "escape") (nk 9), .str (PySem.Str.ofString "\\") (vt 9)⟩, ⟨PyData.keyHash w.params (PySem.Str.ofString "escapedquotes"), .str (PySem.Str.ofString "escapedquotes") (nk 10), .str (PySem.Str.ofString "\"") (vt 10)⟩, ⟨PyData.keyHash w.params (PySem.Str.ofString "state"), .str (PySem.Str.ofString "state") (nk 11), .str (PySem.Str.ofString " ") ss⟩, ⟨PyData.keyHash w.params (PySem.Str.ofString "pushback"), .str (PySem.Str.ofString "pushback") (nk 12), .ref pb⟩, ⟨PyData.keyHash w.params (PySem.Str.ofString "lineno"), .str (PySem.Str.ofString "lineno") (nk 13), .int 1 (vt 13)⟩, ⟨PyData.keyHash w.params (PySem.Str.ofString "debug"), .str (PySem.Str.ofString "debug") (nk 14), .int 0 (vt 14)⟩, ⟨PyData.keyHash w.params (PySem.Str.ofString "token"), .str (PySem.Str.ofString "token") (nk 15), .str tok tt⟩, ⟨PyData.keyHash w.params (PySem.Str.ofString "filestack"), .str (PySem.Str.ofString "filestack") (nk 16), .ref fs⟩, ⟨PyData.keyHash w.params (PySem.Str.ofString "source"), .str (PySem.Str.ofString "source") (nk 17), .none⟩, ⟨PyData.keyHash w.params (PySem.Str.ofString "_punctuation_chars"), .str (PySem.Str.ofString "_punctuation_chars") (nk 18), .str (PySem.Str.ofString "") (vt 18)⟩] 19), (yy, instObj 703 e), (e, dictOf [⟨PyData.keyHash w.params (PySem.Str.ofString "_StringIO__newline"), .str (PySem.Str.ofString "_StringIO__newline") n1, .str (PySem.Str.ofString "\n") t1⟩, ⟨PyData.keyHash w.params (PySem.Str.ofString "_StringIO__buf"), .str (PySem.Str.ofString "_StringIO__buf") n2, .str y t2⟩, ⟨PyData.keyHash w.params (PySem.Str.ofString "_StringIO__pos"), .str (PySem.Str.ofString "_StringIO__pos") n3, .int z t3⟩] 3), (pb, dqObj), (fs, dqObj)] ++ [(s.heap.objs.size, LObj #[] 0)]) := fun p hp => News.push F N (LObj #[] 0) rfl p (by
    rcases List.mem_append.mp hp with h | h
    · exact List.mem_cons_of_mem _ h
    · rw [List.mem_singleton.mp h]; exact List.mem_cons_self)
  refine ⟨⟨_, hg, rfl⟩, PySem.F.args_list_init_2 _ _, ?_⟩
  show wpAny _ (ktrTop dp (un + 2) gd cn cs L a ccd [] outer) (do let old ← Builtin.List.listItems (.ref s.heap.objs.size); Builtin.List.listUpdate (.ref s.heap.objs.size) (fun _ => #[]); letGo old.toList.reverse; Builtin.List.listExtendWith (.ref s.heap.objs.size) (.ref x) .none) _ _ _
  refine wpAny_bind ?_
  unfold Builtin.List.listItems
  refine wpAny_bind (wpAny_seqItems hg rfl (wpAny_pure ?_))
  show wpAny _ _ (updateSeq s.heap.objs.size (fun _ => #[]) >>= fun _ => letGo (#[] : Array PySem.Value).toList.reverse >>= fun _ => Builtin.List.listExtendWith (.ref s.heap.objs.size) (.ref x) .none) _ _ _
  obtain ⟨c1, F2, N2⟩ := push_at (f := fun _ => #[]) F1 N1 hS.ne
  refine wpAny_bind (wpAny_updateSeq hg rfl ?_)
  refine wpAny_bind (wpAny_letGo ?_)
  unfold Builtin.List.listExtendWith
  have I2 : InstAt _ x (instObj 796 d) 796 _ := InstAt.of_news N2 (.head _) (.tail _ (.head _))
  refine wpAny_bind (I2.type.here ?_)
  have q1 : Builtin.List.listSameRef (.ref s.heap.objs.size) (.ref x) = false := by
    show (s.heap.objs.size == x) = false
    exact beq_eq_false_iff_ne.mpr hS.1
  have q2 : (PySem.Value.ref 796 == PySem.Value.type "list") = false := by decide
  have q3 : (PySem.Value.ref 796 == PySem.Value.type "tuple") = false := by decide
  simp only [q1, q2, q3, Bool.or_false, Bool.false_eq_true, if_false]
  refine wpAny_bind (owit_iter F2 X I2 (look_iter _) (fn_iter _) ?_)
  refine it_iter (Cx.mk dp (un + 2) gd cn cs a ccd [] outer A₀ lo mean mg mb B F2 X N2 T hk (by (first | lia | omega)) (by (first | lia | omega))) hS.off (fun h3 tk3 F3 N3 => ?_)
  have I3 : InstAt h3 x (instObj 796 d) 796 _ := InstAt.of_news N3 (.head _) (.tail _ (.head _))
  refine owit_it F3 X I3 (look_next _) ?_
  refine wpAny_bind (wpAny_holding ?_)
  unfold Builtin.List.listLengthHint
  refine wpAny_bind (special_none (X.keeps F3.keep) I3 (look_len _) ?_)
  show wpAny _ _ (specialOf (PySem.Value.ref x) (PySem.Str.ofString "__length_hint__") >>= _) _ _ _
  refine wpAny_bind (special_none (X.keeps F3.keep) I3 (look_hint _) ?_)
  refine wpAny_pure ?_
  show wpAny _ _ (rule "list.extend.makes-room" >>= fun _ => Builtin.List.listTouch (.ref s.heap.objs.size) >>= fun _ =>
    again (.builtin "list.extend.loop" ⟨[.ref s.heap.objs.size, .ref x, .none], []⟩)) _ _ _
  refine wpAny_bind (wpAny_rule ?_)
  refine wpAny_bind ?_
  show wpAny _ _ (updateSeq s.heap.objs.size (·.push .none) >>= fun _ => updateSeq s.heap.objs.size (·.pop)) _ _ _
  obtain ⟨c4, F4, N4⟩ := push_at (f := (·.push PySem.Value.none)) F3 N3 hS.ne
  refine wpAny_bind (wpAny_updateSeq (N3 (_, _) (List.mem_append_right _ (.head _))).1 rfl ?_)
  obtain ⟨c5, F5, N5⟩ := push_at (f := (·.pop)) F4 N4 hS.ne
  refine wpAny_updateSeq (hz := by seq_fits) (N4 (_, _) (List.mem_append_right _ (.head _))).1 rfl ?_
  refine wpAny_pure ⟨plainId_quiet PySem.F.plain_extend_loop _, ?_⟩
  have e5 : (((fun _ => #[]) (#[] : Array PySem.Value)).push PySem.Value.none).pop = #[] := rfl
  show codeAny (model P0 w) (ktrTop dp (un + 1) gd cn cs L a ccd [] outer) _ _ _
  refine ll_loop (z := 0) (t3 := 0) (dp := dp) (un := un + 1) X T hk (by (first | lia | omega)) (by (first | lia | omega)) B D o hS hy ts hts hw _ z t3 ss tt tok #[] c5 F5 N5 hp (by show 0 + _ ≤ _; (first | lia | omega)) hdrop (fun vs tt3 t3' z2 c' h₀' h' tk' hvs T6 F6 N6 B6 => ?_)
  rw [Array.empty_append] at N6
  exact ⟨rfl, hret _ _ _ _ _ _ _ _ _ hvs T6 F6 N6 B6⟩
end
end
section
open PySem PySem.W PyProof.Rows PySem.Spec PySem.Calls
open Builtin Builtin.ObjectAttr Builtin.Getset_descriptor
set_option maxRecDepth 100000
set_option maxHeartbeats 4000000
/-- a class that is made by a `__new__` of its own -/
structure MakesOwn (M : Model) (h : Heap) (C : Addr) : Prop where
  obj : ∃ oc od cd sl, h.get? C = some ⟨oc, od, .cls cd, sl⟩ ∧ cd.abstract = false ∧ cd.hasDel = false ∧ cd.mro.isEmpty = false
  made : Looks M h (Bind.madeBy (.ref C)) none
  base : Looks M h (Bind.staticBase (.ref C)) (.type "object")
  mobj : Looks M h (Bind.madeBy (.type "object")) (some "object.__new__")
  top : Looks M h (isSubtype (.ref C) (.type "object")) true
  self : Looks M h (isSubtype (.ref C) (.ref C)) true
  call : Looks M h (specialOf (.ref C) "__call__") (some (.builtin "type.__call__"))
  typ : Looks M h (isInstance (.ref C) (.type "type")) true
/-- a stop for a chain of steps -/
def Stop (p : Prop) : Prop := p
theorem Stop.of {p : Prop} (h : Stop p) : p := h
section
variable {prog : Program} {w : World} {A : Around} {C fN : Addr} {R : Result → Shared → Prop} {h : Heap} {g : Array GenState} {d : Drawn} {t : Nat} {os : OsState}
theorem new_own (Y : MakesOwn (model prog w) h C)
    (hq : R (.ok (.ret (.ref (h.objs.size + 1)))) ⟨(h.push emptyDict).push (instObj C h.objs.size), g, d, t, os⟩) :
    codeAny (model prog w) A (.call (.builtin "object.__new__") ⟨[.ref C], []⟩) R ⟨h, g, d, t, os⟩ := by
  obtain ⟨⟨oc, od, cd, sl, hC, e1, e2, e4⟩, made, base, mobj, top, self, call, typ⟩ := Y
  have F := PySem.F.objNew
  refine codeAny_call_builtin_code (Code.quiet_builtin _ F.quiet) ?_
  simp only [checkBuiltinCall, F.kind, F.split, F.row]
  have here : Looks (model prog w) h (Bind.madeHere "object.__new__" (.ref C)) () := base.andThen (mobj.andThen (Looks.of_pure (by simp only [Option.map_some, bne_self_eq_false, Bool.false_eq_true, if_false])))
  have args : Bind.checkArgs "object.__new__" ⟨.hand, "object.__new__", "__new__", .cls, []⟩ ⟨[.ref C], []⟩ = pure () := by kernel_rfl
  rw [args]
  repeat (first | simp only [bne_self_eq_false, Bool.false_eq_true, if_false] | lk)
  refine codeAny_builtin F.entry ?_
  unfold Builtin.«object.__new__»
  have hC' := Heap.get?_push_of_some (instObj C (h.push emptyDict).objs.size.pred) (Heap.get?_push_of_some emptyDict hC)
  have fin : ∀ A', wpAny (model prog w) A' (do
      let d ← if typeHasDict (.ref C) then some <$> alloc { cls := .type "dict", data := .dict #[] } else pure none
      ret (← newObj (.ref C) .plain d)) (fun fin s' => match fin with | .done f => R (.ok f) s' | .again c' => c'.quiet = true ∧ codeAny (model prog w) A c' R s') (fun e s' => R (.error e) s') ⟨h, g, d, t, os⟩ := by
    intro A'
    show wpAny _ _ ((alloc emptyDict >>= fun x => pure (some x)) >>= _) _ _ _
    refine wpAny_bind (wpAny_bind (wpAny_alloc (wpAny_pure (wpAny_bind ?_))))
    show wpAny _ _ (newObjAsIs _ _ _) _ _ _
    unfold newObjAsIs classHasDel
    refine wpAny_bind (wpAny_alloc (wpAny_bind (wpAny_bind (wpAny_load (Heap.get?_push_of_some _ (Heap.get?_push_of_some _ hC)) (wpAny_pure ?_)))))
    rw [e2]
    refine wpAny_pure (wpAny_pure ?_)
    show R _ _
    rw [Heap.size_push]
    exact hq
  repeat (first | simp only [e1, Bool.false_eq_true, if_false] | exact fin _ | lk)
theorem make_own {rest : List Value} {kw : List (Str × Value)} {init : Value} {Q E : Value → Shared → Prop} (Y : MakesOwn (model prog w) h C) (hnew : ∀ A' Q E, Q (.ref fN) ⟨h, g, d, t + 1, os⟩ → wpAny (model prog w) A' (getAttr (.ref C) "__new__") Q E ⟨h, g, d, t, os⟩)
    (hq : wpAny (model prog w) (A.under (.builtin "type.__call__" ⟨.ref C :: rest, kw⟩)) (call (.ref fN) (.ref C :: rest) kw)
      (fun v s' => ∃ x dx, v = .ref x ∧ s'.heap.get? x = some (instObj C dx) ∧ (Looks (model prog w) s'.heap (isSubtype (.ref C) (.ref C)) true ∧ Looks (model prog w) s'.heap (typeLookup (.ref C) "__init__") (some init) ∧ ∀ self, Looks (model prog w) s'.heap (bindSpecial init self) (init, [self])) ∧
            wpAny (model prog w) (A.under (.builtin "type.__call__" ⟨.ref C :: rest, kw⟩)) (call init ([.ref x] ++ rest) kw) (fun v s' => v = .none ∧ Q (.ref x) s') E s') E ⟨h, g, d, t + 1, os⟩) :
    wpAny (model prog w) A (call (.ref C) rest kw) Q E ⟨h, g, d, t, os⟩ := by
  obtain ⟨⟨oc, od, cd, sl, hC, e1, e2, e4⟩, made, base, mobj, top, self, call, typ⟩ := Y
  refine wpAny_call ?_
  refine codeAny_of_tree ?_
  show wpAny _ _ (callAny (.ref C) _) _ _ _
  refine nd_load hC ?_
  show wpAny _ _ (callAny.viaDunder (.ref C) _) _ _ _
  unfold callAny.viaDunder
  refine wpAny_bind (call.at ?_)
  dsimp only
  rw [tc_bind]
  refine wpAny_bind (wpAny_pure (wpAny_bind (wpAny_pure ?_)))
  refine wpAny_pure (a := Fin.again (.call (.builtin "type.__call__") ⟨.ref C :: rest, kw⟩)) (And.intro rfl ?_)
  refine codeAny_call_builtin_at (Code.quiet_builtin _ (by decide +kernel)) entry_typeCall (check_slot tc_kind tc_split typ (tc_args _ _ _) ?_)
  unfold Builtin.«type.__call__»
  have hm : Looks (model prog w) h (mroOf (.ref C)) cd.mro := ((Looks.ld (part := none) hC).andThen .now).andThen .now
  repeat (first | simp only [e4, Bool.false_eq_true, if_false] | with_reducible refine hnew _ _ _ ?_ | with_reducible refine wpAny_mono hq (Stop.of ?_) (fun _ _ z => z) | lk)
  unfold Stop
  rintro v s' z
  obtain ⟨x, dx, rfl, hx, ⟨s1, i1, b0⟩, hq2⟩ := z
  obtain ⟨hh, gg, dd, tt, oo⟩ := s'
  have t1 : Looks (model prog w) hh (typeOf (.ref x)) (.ref C) := (Looks.ld hx).andThen .now
  have b1 := b0 (.ref x)
  dsimp only at s1 i1 b1
  unfold isInstance callSpecial? specialOf
  repeat (first | with_reducible refine wpAny_mono hq2 (Stop.of ?_) (fun _ _ z => z) | lk)
  unfold Stop
  rintro v s' z
  obtain ⟨rfl, z⟩ := z
  exact wpAny_pure (wpAny_pure z)
theorem under_tc {dp un : Nat} {gd : Option (List Code)} {cn : Str} {cs : Scope} {L a C : Addr} {ccd : Value} {cl : List (Str × Addr)} {outer : List Env} {rest : List Value} {kw : List (Str × Value)} :
    (ktrTop dp un gd cn cs L a ccd cl outer).under (.builtin "type.__call__" ⟨.ref C :: rest, kw⟩) = ktrTop (dp + 1) (un + 1) gd cn cs L a ccd cl outer := by
  cases gd <;> rfl
end
end
section
open PySem PySem.W PyProof.Rows PySem.Spec PySem.Calls
set_option maxRecDepth 100000
set_option maxHeartbeats 4000000
theorem pk_made {w : World} (S : Setting) : peek (K w.params) S (Bind.madeBy (.ref 703)) = some none := by kernel_rfl
theorem pk_base {w : World} (S : Setting) : peek (K w.params) S (Bind.staticBase (.ref 703)) = some (.type "object") := by kernel_rfl
theorem pk_mobj {w : World} (S : Setting) : peek (K w.params) S (Bind.madeBy (.type "object")) = some (some "object.__new__") := by kernel_rfl
theorem pk_top {w : World} (S : Setting) : peek (K w.params) S (isSubtype (.ref 703) (.type "object")) = some true := by kernel_rfl
theorem pk_self {w : World} (S : Setting) : peek (K w.params) S (isSubtype (.ref 703) (.ref 703)) = some true := by kernel_rfl
theorem pk_call {w : World} (S : Setting) : peek (K w.params) S (specialOf (.ref 703) "__call__") = some (some (.builtin "type.__call__")) := by kernel_rfl
theorem pk_typ {w : World} (S : Setting) : peek (K w.params) S (isInstance (.ref 703) (.type "type")) = some true := by kernel_rfl
theorem pk_init {w : World} (S : Setting) : peek (K w.params) S (typeLookup (.ref 703) "__init__") = some (some (.ref 473)) := by kernel_rfl
def okCls (o : Option Obj) : Bool := match o with
  | some ⟨_, _, .cls cd, _⟩ => !cd.abstract && !cd.hasDel && !cd.mro.isEmpty
  | _ => false
theorem okCls_of {o : Option Obj} (h : okCls o = true) : ∃ oc od cd sl, o = some ⟨oc, od, .cls cd, sl⟩ ∧ cd.abstract = false ∧ cd.hasDel = false ∧ cd.mro.isEmpty = false := by
  unfold okCls at h
  split at h
  · simp only [Bool.and_eq_true, Bool.not_eq_true'] at h
    exact ⟨_, _, _, _, rfl, h.1.1, h.1.2, h.2⟩
  · cases h
theorem makes703 {w : World} {h : Heap} (X : (K w.params).In h) : MakesOwn (model P0 w) h 703 := by
  obtain ⟨oc, od, cd, sl, e, e1, e2, e3⟩ := okCls_of (show okCls ((K w.params).lookup 703) = true by kernel_rfl)
  exact ⟨⟨oc, od, cd, sl, X _ _ e, e1, e2, e3⟩, Looks.of_peek X (pk_made _), Looks.of_peek X (pk_base _), Looks.of_peek X (pk_mobj _), Looks.of_peek X (pk_top _), Looks.of_peek X (pk_self _), Looks.of_peek X (pk_call _), Looks.of_peek X (pk_typ _)⟩
theorem new703 {w : World} {A : Around} {s : Shared} {Q E : PQ} (X : (K w.params).In s.heap) (h : Q (.ref 196) { s with toks := s.toks + 1 }) : wpAny (model P0 w) A (getAttr (.ref 703) "__new__") Q E s :=
  cls_bind (mc := .type "type") (g := .builtin "staticmethod.__get__") (a := .ref 200) (obj := .none) (tp := .ref 703) X (by kernel_rfl) (by kernel_rfl) (wpAny_call (sm_get (s := { s with toks := s.toks + 1 }) (f := .ref 196) (rest := []) X (by kernel_rfl) (handed_on rfl h)))
end
section
open PySem PySem.W PyProof.Rows PySem.Spec PySem.Calls
set_option maxRecDepth 100000
set_option maxHeartbeats 0
/-- a def that turns nothing has come to its end: what stood in the heap stands -/
def LeaveL (g : Heap) (R : Result → Shared → Prop) (v : PySem.Value) (s' : Shared) : Prop := ∃ L' m', Fr g L' s'.heap m' ∧ R (.ok (.ret v)) s'
theorem LeaveL.intro {g : Heap} {R : Result → Shared → Prop} {v : PySem.Value} {s' : Shared} {L' : Addr} {m' : LM} (F : Fr g L' s'.heap m') (h : R (.ok (.ret v)) s') : LeaveL g R v s' := ⟨L', m', F, h⟩
section
variable {w : World} {A : Around} {s : Shared} {lo : List PySem.Str} {mean : ExcName → Option PySem.Value} {mg mb : LM}
  {R : Result → Shared → Prop} {name qual : PySem.Str} {params : Arguments} {body : List Stmt} {scope : Scope} {dV kV doc pm cdv ct oc : PySem.Value} {an od : Option Addr} {osl : Array (Option PySem.Value)} {f : Addr} {args : Args}
theorem enterL (binds : List (PySem.Str × PySem.Value)) (X : (K w.params).In s.heap) (T : Top q0 lo mean mg mb s.heap)
    (ho : (K w.params).lookup f = some ⟨oc, od, .func (fnOf name qual params body scope dV kV doc pm an cdv ct), osl⟩) (hcd : codeIn (K w.params) cdv qual = true) (hroom : A.depth < recursionLimit)
    (hbind : BindsTo s (fnOf name qual params body scope dV kV doc pm an cdv ct) args binds) (hloc : ∀ y ∈ binds, scope.names.lookup y.1 = some .local)
    (hco : scope.isCoroutine = false) (hgen : scope.isGenerator = false) (hk : scope.kind = .function)
    (hcell : ∀ x ∈ scope.names, x.2 ≠ .cell)
    (h : ∀ g L' h₁, g = s.heap → Fr g L' h₁ (fun y => binds.reverse.lookup y) → News g L' h₁ [] → (K w.params).In g → Top q0 lo mean mg mb g →
      wpAny (model P0 w) (A.deeper (envOf qual scope L' f cdv)) (execs body (envOf qual scope L' f cdv))
        (fun fl s' => LeaveL g R (match fl with | .ret v => v | _ => .none) s')
        (fun e s' => wpAny (model P0 w) (A.deeper (envOf qual scope L' f cdv)) (leaving (envOf qual scope L' f cdv) e) (fun _ s'' => R (.error e) s'') (fun e' s'' => R (.error e') s'') s')
        { s with heap := h₁, toks := s.toks + binds.length }) :
    codeAny (model P0 w) A (.call (.ref f) args) R s := by
  refine codeAny_call_def (fd := fnOf name qual params body scope dV kV doc pm an cdv ct) (body := body) (binds := binds) hroom (X _ _ ho) rfl T.nolimit (codeRec_of X hcd) rfl hbind hcell hloc (fun h₁ hns hk₁ => ?_) hco hgen hk
  refine wpAny_mono (h s.heap s.heap.objs.size h₁ rfl ⟨hns, hk₁, Nat.le_refl _⟩ (fun _ hp => nomatch hp) X T) (fun fl s' hl => ?_) fun _ _ y => y
  obtain ⟨L', m', F', r⟩ := hl
  exact r
end
end
section
open PySem PySem.W PyProof.Rows PySem.Spec PySem.Calls
set_option maxRecDepth 100000
set_option maxHeartbeats 0
section
variable {w : World} {A : Around} {s : Shared} {Q E : PQ} {lo : List PySem.Str} {mean : ExcName → Option PySem.Value} {mg mb : LM}
theorem rows22 : True := by
  k_with_none
  k_with "LeaveL" => ((k_dflt (refine' LeaveL.intro ?F ?_; (case F => k_asm)); (try dsimp only)))
  k_with "truthy str" => (((with_reducible show wpAny _ _ (PySem.truthy (Value.str _ _)) _ _ _); (refine KXt.truthy_pos (K := 1000) (by assumption) (by assumption) (by decide) ?_); intro _))
  k_with "call ref" => (((with_reducible show wpAny _ _ (call (Value.ref 816) _ _) _ _ _); (refine search_spec (by k_in) (by assumption) (by assumption) (by assumption) ?_)))
  k_with "callWith ref" => (((with_reducible show wpAny _ _ (callWith _ (Value.ref 816) _ _ _) _ _ _); k_dflt (refine callWith_m (fun _ => by kernel_rfl) ?_)))
  exact trivial
theorem quote_leaf {x : PySem.Str} {tk : Tok} (X : (K w.params).In s.heap) (T : Top q0 lo mean mg mb s.heap) (hd : A.depth + 8 < recursionLimit) (hu : A.units + 80 < cLine) (h0 : 1 ≤ x.length) (h1 : x.length ≤ 1000) (hok : ∀ i, i < x.cps.size → okCp (x.cps.getD i 0) = true) (hret : ∀ h' tk', (∀ b o, s.heap.get? b = some o → h'.get? b = some o) → Q (.str x tk) { s with heap := h', toks := tk' }) :
    wpAny (model P0 w) A (call (.ref 823) [.str x tk]) Q E s := by
  refine wpAny_call ?_
  k_dflt (refine' enterL [("s", .str x tk)] ?k3 ?k5 ?k6 ?k7 ?k8 ?k9 ?kB ?c2 ?c3 ?c4 ?c5 ?kG)
  k_dflt ((case k3 => k_asm); (case k5 => k_asm); (case k6 => k_is); (case k7 => k_is); (case k8 => first | assumption | omega); (case k9 => exact kp_binds (by k_in) (fun _ => by kernel_rfl)); (case kB => exact locs rfl); (case c2 => exact rfl); (case c3 => exact rfl); (case c4 => exact rfl); (case c5 => decide); (intro g' L' h' gE F' N' X' T'); subst gE; (try dsimp only [List.reverse_cons, List.reverse_nil, List.nil_append, List.cons_append] at F'); (try dsimp only); (try k_fold))
  k_steps
  exact hret _ _ (Fr.keep (by k_asm))
end
end
section
open PySem PySem.W PyProof.Rows PySem.Spec PySem.Calls
set_option maxRecDepth 100000
set_option maxHeartbeats 2000000
/-- a code object of the text with its table of generator expressions -/
def CodeK (w : World) (c P : Addr) : Prop := ∀ h ps, (K w.params).In h → h.get? P = some (X.tableObj ps) → TriplesOk ps.toList → h.IsCode c P ps ∧ h.TableAt c P ps
theorem code_join (w : World) : CodeK w 814 810 := fun h ps X hP ht => by
  have e := X 814 _ rfl
  exact ⟨⟨_, _, _, _, _, _, _, _, _, _, e, rfl, rfl, rfl, rfl, rfl, rfl, hP, rfl, ht, by decide⟩, ⟨⟨_, _, e, rfl, rfl, rfl⟩, hP⟩⟩
theorem code_csr (w : World) : CodeK w 111 107 := fun h ps X hP ht => by
  have e := X 111 _ rfl
  exact ⟨⟨_, _, _, _, _, _, _, _, _, _, e, rfl, rfl, rfl, rfl, rfl, rfl, hP, rfl, ht, by decide⟩, ⟨⟨_, _, e, rfl, rfl, rfl⟩, hP⟩⟩
section
variable {w : World} {A : Around} {E : PQ} {s : Shared} {h₀ : Heap} {c P L : Addr} {m mg mb : LM} {lo : List PySem.Str} {mean : ExcName → Option PySem.Value}
theorem code_any {env : Env} {pos : Pos} {qn : PySem.Str} {scope : Scope} {ps : Array PySem.Value} {Q : PQ} (hc : env.code = .ref c) (hok : s.heap.IsCode c P ps) (htab : s.heap.TableAt c P ps)
    (hQ : ∀ cv h' tk more, Heap.ExtBut P s.heap h' → s.heap.objs.size ≤ h'.objs.size → h'.get? P = some (X.tableObj (ps ++ more)) → TriplesOk (ps ++ more).toList → Q cv { s with heap := h', toks := tk }) :
    wpAny (model P0 w) A (genexprCode env pos qn scope) Q E s := by
  cases hnf : codeAmong pos ps.toList with
  | none =>
    refine wpAny_genexprCodeX hc hok htab hnf fun c' h' tk hx hge hlt hcode _ htab' _ => hQ _ h' tk _ hx (Nat.le_trans hge (Nat.le_of_lt hlt)) htab'.2 ?_
    obtain ⟨_, _, _, _, _, _, _, _, _, op, _, _, _, _, _, _, _, a1, a2, a3, _⟩ := hcode
    exact a3
  | some cv =>
    obtain ⟨o, vs, file, tf, flags, tg, inF, text, tt, op, ho, hd, h11, h2, h7, h9, h10, hop, hpd, htr, hne⟩ := id hok
    unfold genexprCode codeAt
    rw [hc, if_neg (show ¬ ((PySem.Value.ref c == PySem.Value.none) = true) from Bool.false_ne_true)]
    refine wpAny_bind (wpAny_fieldsOf ho hd ?_)
    rw [h11]
    refine wpAny_bind (wpAny_fieldsOf hop hpd ?_)
    rw [hnf]
    exact wpAny_pure (hQ cv s.heap s.toks #[] (Heap.ExtBut.refl _ _) (Nat.le_refl _) (by rw [Array.append_empty]; exact htab.2) (by rw [Array.append_empty]; exact htr))
theorem passing_all (n : Nat) : passing (fun _ => true) n 0 = List.range n := by
  unfold passing
  simp
theorem range_at {n j : Nat} {y : PySem.Value} {F : Nat → PySem.Value → Prop} (h : ∃ i, (List.range n)[j]? = some i ∧ F i y) : F j y := by
  obtain ⟨i, hi, hF⟩ := h
  obtain ⟨h1, h2⟩ := List.getElem?_eq_some_iff.mp hi
  rw [List.getElem_range] at h2
  exact h2 ▸ hF
inductive GmIn (w : World) (A : Around) (h₀ : Heap) (P L : Addr) (m : LM) (env : Env) (elt : PySem.Expr) (x : PySem.Str) (scope : Scope) (cl : List (PySem.Str × Addr)) (Q : PQ) (it : PySem.Value) (s₂ : Shared) : Prop
  | mk (h1 : Fr h₀ L s₂.heap m) (ps : Array PySem.Value) (I : Addr) (fp wr : List Addr) (n : Nat) (Pi : Nat → PySem.Value → Prop) (St₀ : Nat → Heap → Prop) (Kb : Addr) (F : Nat → PySem.Value → Prop) (h2 : s₂.heap.get? P = some (X.tableObj ps)) (h3 : TriplesOk ps.toList) (h4 : h₀.get? P = none) (h5 : P ≠ L) (h6 : L ≤ Kb) (h7 : Kb < s₂.heap.objs.size) (h8 : it = .ref I)
      (h9 : ∀ A' : Around, A'.handled = none → Walks P0 w A' I fp wr n Pi St₀) (h10 : St₀ 0 s₂.heap) (h11 : ∀ b ∈ fp, b < s₂.heap.objs.size) (h12 : P ∉ fp) (h13 : ∀ b ∈ wr, Kb < b)
      (h14 : ∀ (C : Addr) (cv : PySem.Value) (A' : Around) E' i v (t : Shared) m₂, A'.handled = none → A'.depth ≤ A.depth + 1 → A'.units ≤ A.units + 8 → Pi i v → t.heap.Ns C m₂ → m₂ x = some v → s₂.heap.objs.size ≤ C →
          (∀ b o, b ≠ P → b ∉ wr → s₂.heap.get? b = some o → t.heap.get? b = some o) →
          wpAny (model P0 w) A' (eval elt (genEnv scope cl C cv builtinsNs env)) (fun y s₃ => F i y ∧ Keeps t s₃) E' t)
      (h15 : ∀ (a : Addr) (s₅ : Shared) gs more h₅ tk, gs.bare = true → s₅ = { s₂ with gens := s₂.gens.push gs, toks := tk, heap := h₅ } → Fr h₀ L h₅ m → (∀ b o, b ≠ P → s₂.heap.get? b = some o → h₅.get? b = some o) → h₅.get? P = some (X.tableObj (ps ++ more)) → TriplesOk (ps ++ more).toList → s₂.heap.objs.size ≤ a →
          Gen P0 w A Kb a n F s₅ → Q (.ref a) s₅) : GmIn w A h₀ P L m env elt x scope cl Q it s₂
theorem gen_make {env : Env} {elt iter : PySem.Expr} {x : PySem.Str} {px : Pos} {scope : Scope} {cl : List (PySem.Str × Addr)} {pos : Pos} {Q : PQ}
    (T : Top q0 lo mean mg mb h₀) (X₀ : (K w.params).In h₀) (hck : CodeK w c P) (hcode : env.code = .ref c) (hgl : env.globals = mainGlobals)
    (hh : A.handled = none) (hco : scope.isCoroutine = false) (hclos : closureFor scope env = pure cl) (hcell : ∀ y ∈ scope.names, y.2 ≠ .cell) (h0 : scope.names.lookup (".0" : PySem.Str) = some NameKind.local)
    (hx : scope.names.lookup x = some .local) (hkind : scope.kind = .function) (hroom : A.depth < recursionLimit)
    (h : wpAny (model P0 w) A (eval iter env) (fun xv s₁ => wpAny (model P0 w) A (pyIter xv) (fun it s₂ => GmIn w A h₀ P L m env elt x scope cl Q it s₂) E s₁) E s)
    (hs : ∀ x, genFold iter env x = pure x) :
    wpAny (model P0 w) A (eval (.GeneratorExp elt [⟨.Name x px, iter, [], 0⟩] scope pos) env) Q E s := by
  refine wpAny_GeneratorExp_walksQD hh hco hclos hcell h0 hx hkind hroom (wpAny_mono h (fun xv s₁ h₁' => wpAny_mono h₁' (fun it s₂ h₂ => ?_) fun _ _ e => e) fun _ _ e => e) hs
  obtain ⟨F₂, ps, I, fp, wr, n, Pi, St₀, Kb, F, hP, htr, hP0, hPL, hKL, hLlt, rfl, W₀, hst, hfp, hPf, hwr, hq, hQ⟩ := h₂
  have hlim : s₂.heap.NoLimit := T.nolimit.keeps F₂.keep
  obtain ⟨bm, ob, BM₀⟩ := bmod_of_top T
  obtain ⟨ok1, ok2⟩ := hck s₂.heap ps (X₀.keeps F₂.keep) hP htr
  refine ⟨hlim, code_any hcode ok1 ok2 fun cv h₃ tk₃ more hx₃ hge hP3 htr3 => ?_⟩
  have M₂ : BMod s₂.heap mainGlobals mg bm ob := BM₀.keeps F₂.keep
  have M₃ : BMod h₃ mainGlobals mg bm ob := M₂.extBut ok2 hx₃
  have hcP : cStatics ≠ P := fun e => by
    obtain ⟨_, hns, _⟩ := hlim
    obtain ⟨o, es, ep, ho, hd, _⟩ := hns
    rw [e, hP] at ho; cases ho; cases hd
  have hl₃ : h₃.NoLimit := hlim.extBut hx₃ hcP
  have hcw : cStatics ∉ wr := fun hm => by
    have h1 : L < cStatics := Nat.lt_of_le_of_lt hKL (hwr _ hm)
    have hL : L ≤ 1 := Nat.le_of_lt_succ h1
    have hb : bm < 1 := Nat.lt_of_lt_of_le (Heap.lt_size BM₀.obj) (Nat.le_trans F₂.above hL)
    exact M₂.ne (Nat.lt_one_iff.mp hb)
  have F₃ : Fr h₀ L h₃ m := ⟨F₂.ns.at' fun o e => hx₃ L o (Ne.symm hPL) e, fun b o e => hx₃ b o (fun z => by rw [z, hP0] at e; cases e) (F₂.keep b o e), F₂.above⟩
  rw [hgl]
  refine wpAny_builtinsFor M₃.ns M₃.name M₃.ne M₃.obj M₃.cls M₃.dict M₃.data ?_
  refine ⟨I, fp, wr, n, Pi, St₀, fun _ => true, F, rfl, W₀, (W₀ A hh).frame _ _ _ hst (fun b hb o e => hx₃ b o (fun e' => hPf (e' ▸ hb)) e), (fun b hb => Nat.lt_of_lt_of_le (hfp b hb) hge), hl₃, hcw,
    (fun href hhref => ?_), fun a h₅ tk gs hgb hag hsz₅ hk₅ W hat => ?_⟩
  · refine ⟨fun A' E' i v t m₂ hA hD hU hp hn hm hkp => ?_, fun A' E' i v t m₂ hA hD hU hp hpz hn hm hkp => ?_⟩
    · rw [List.forIn_nil]
      exact wpAny_pure ⟨rfl, t.heap, t.toks, rfl, fun _ _ e => e⟩
    · exact hq h₃.objs.size cv A' E' i v t m₂ hA hD hU hp hn hm hge (fun b o hbP hbw e => hkp b (List.mem_range.mpr (Heap.lt_size (hx₃ b o hbP e))) hbw o (hhref b o (hx₃ b o hbP e)))
  · simp only [passing_all, List.length_range] at W
    refine hQ a _ gs more h₅ tk hgb rfl (F₃.keeps hk₅) (fun b o hb e => hk₅ b o (hx₃ b o hb e)) (hk₅ _ _ hP3) htr3 (Nat.le_of_lt (Nat.lt_of_le_of_lt hge hag)) (Gen.imp (F := fun j y => ∃ i, (List.range n)[j]? = some i ∧ F i y) ⟨_, _, _, _, W, hat, (fun i s' st => st.1.typeIs), List.mem_cons_self, ?_, ?_⟩ (fun j y hy => range_at hy))
    · intro b hb
      show b < h₅.objs.size
      rw [hsz₅]
      rcases List.mem_cons.mp hb with rfl | hb
      · exact Nat.lt_succ_self _
      · rcases List.mem_cons.mp hb with rfl | hb
        · exact Nat.lt_succ_of_lt hag
        · exact Nat.lt_succ_of_lt (Nat.lt_trans (List.mem_range.mp hb) hag)
    · intro b hb
      rcases List.mem_cons.mp hb with rfl | hb
      · exact Nat.lt_of_lt_of_le hLlt hge
      · exact hwr b hb
end
end
section
open PySem PySem.W PyProof.Rows PySem.Spec PySem.Calls
set_option maxRecDepth 100000
set_option maxHeartbeats 0
section
variable {w : World} {A : Around} {s : Shared} {Q E : PQ} {lo : List PySem.Str} {mean : ExcName → Option PySem.Value} {mg mb : LM} {env : Env} {x : PySem.Str} {pos : Pos} {v : PySem.Value} {m : LM}
theorem nameG_K (X : (K w.params).In s.heap) (T : Top q0 lo mean mg mb s.heap) (hgl : env.globals = mainGlobals) (e : nsIn (K w.params) mainGlobals x = some (some v)) (h : Q v s)
    (hk : env.scope.kind = .function) (hx : env.kindOf x = some .globalImplicit) (hd : (x == ("__debug__" : PySem.Str)) = false) : wpAny (model P0 w) A (eval (.Name x pos) env) Q E s :=
  Name_function_global hk hx (loadGlobal_global (env := env) (hgl ▸ T.g) (mg_of X T.g e) h) hd
theorem nameG_L {C : Addr} (hn : s.heap.Ns C m) (hC : env.locals = C) (hv : m x = some v) (h : Q v s)
    (hk : env.scope.kind = .function) (hx : env.kindOf x = some .local) (hd : (x == ("__debug__" : PySem.Str)) = false) : wpAny (model P0 w) A (eval (.Name x pos) env) Q E s := wpAny_Name (wpAny_loadName_local hk hx (hC ▸ hn) hv h) hd
end
section
variable {w : World} {A : Around} {s : Shared} {Q E : PQ} {lo : List PySem.Str} {mean : ExcName → Option PySem.Value} {mg mb : LM}
theorem elt_quote {C : Addr} {cv : PySem.Value} {m₂ : LM} {x : PySem.Str} {tk : Tok} {env : Env} {p1 p2 p3 : Pos} (X : (K w.params).In s.heap) (T : Top q0 lo mean mg mb s.heap) (hd : A.depth + 8 < recursionLimit) (hu : A.units + 80 < cLine)
    (hn : s.heap.Ns C m₂) (hm : m₂ "arg" = some (.str x tk)) (h0 : 1 ≤ x.length) (h1 : x.length ≤ 1000) (hok : ∀ i, i < x.cps.size → okCp (x.cps.getD i 0) = true)
    (hg : env.globals = mainGlobals) :
    wpAny (model P0 w) A (eval (.Call (.Name "quote" p1) [.Name "arg" p2] [] p3) (genEnv ⟨.function, [(".0", .local), ("arg", .local), ("quote", .globalImplicit)], true, false, []⟩ [] C cv builtinsNs env)) (fun y s₃ => y = .str x tk ∧ Keeps s s₃) E s := by
  refine Call_ ?_
  refine nameG_K (v := .ref 823) X T hg (by k_is) ?_ (by kernel_rfl) (by kernel_rfl) (by decide)
  refine callWith_K X (by kernel_rfl) ?_
  refine args_cons ?_
  refine nameG_L (C := C) (v := .str x tk) hn rfl hm ?_ (by kernel_rfl) (by kernel_rfl) (by decide)
  refine args_nil ?_
  refine ⟨X, ?_⟩
  refine quote_leaf X T hd hu h0 h1 hok ?_
  intro h' tk' hk
  exact ⟨rfl, h', tk', rfl, hk⟩
end
end
section
open PySem PySem.W PyProof.Rows PySem.Spec PySem.Calls
set_option maxRecDepth 100000
set_option maxHeartbeats 0
/-- the walk stops here -/
def Here (p : Prop) : Prop := p
theorem Here.of {p : Prop} (h : Here p) : p := h
theorem strs_len : ∀ {vs : List PySem.Value} {ts : List PySem.Str}, StrsAre vs ts → vs.length = ts.length
  | _, _, .nil => rfl
  | _, _, (.cons _ _ h) => congrArg (· + 1) (strs_len h)
theorem strs_at : ∀ {vs : List PySem.Value} {ts : List PySem.Str}, StrsAre vs ts → ∀ {i : Nat} {v : PySem.Value}, vs[i]? = some v → ∃ t tk, ts[i]? = some t ∧ v = .str t tk
  | _, _, .nil, i, v, h => nomatch h
  | _, _, (.cons _ _ h), 0, v, e => ⟨_, _, rfl, (Option.some.inj e).symm⟩
  | _, _, (.cons _ _ h), i + 1, v, e => strs_at h (i := i) (by simpa using e)
theorem joinOk_fold : ∀ (ts : List PySem.Str) (acc : Nat), (∀ t ∈ ts, t.length ≤ 1000) → ts.foldl (fun x y => x + y.length + (PySem.Str.ofString " ").length) acc ≤ acc + 1001 * ts.length
  | [], acc, _ => Nat.le_refl _
  | t :: ts, acc, h => by
    have := joinOk_fold ts (acc + t.length + (PySem.Str.ofString " ").length) fun x hx => h x (List.mem_cons_of_mem _ hx)
    have h1 := h t List.mem_cons_self
    have h2 : (PySem.Str.ofString " ").length = 1 := by decide
    simp only [List.foldl_cons, List.length_cons]
    rw [h2] at this ⊢
    (first | lia | omega)
theorem joinOk_w {ts : List PySem.Str} (h : ∀ t ∈ ts, t.length ≤ 1000) (hs : ts.length ≤ 100) : JoinOk (PySem.Str.ofString " ") ts = true := by
  unfold JoinOk
  have := joinOk_fold ts 0 h
  rw [List.foldl_toArray]
  show (!decide (_ > sizeLine)) = true
  simp only [Bool.not_eq_true', decide_eq_false_iff_not]
  refine Nat.not_lt.mpr (Nat.le_trans this ?_)
  refine Nat.le_trans (show 0 + 1001 * ts.length ≤ 100100 by (first | lia | omega)) (by decide)
theorem offOne {rest : Led} {a : Addr} {o : Obj} (h : ∀ p ∈ rest, p.1 ≠ a) : ∀ p ∈ rest, p.1 ∉ List.map (fun x => x.1) [(a, o)] := fun p hp e => h p hp (List.mem_singleton.mp e)
section
variable {w : World} {A : Around} {base h₀ : Heap} {L : Addr} {m : LM} {news : Led} {s : Shared} {Q E : PQ}
theorem rows23 : True := by
  k_with_none
  k_with "eval GeneratorExp" => (refine Here.of ?_)
  k_with "call type:type" => (((with_reducible show wpAny _ _ (call (Value.type "type") [Value.bytes _ _]) _ _ _); refine type_bytes ?_))
  exact trivial
theorem join_spec {ps : Array PySem.Value} {vs : List PySem.Value} {ts : List PySem.Str} {S : Addr} {cc : Nat} {rest : Led} (c : Cx w base h₀ L m ((810, PySem.W.X.tableObj ps) :: rest) s.heap 30 300 A) (hoff : ∀ p ∈ rest, p.1 ≠ 810) (hS : (S, LObj vs.toArray cc) ∈ rest)
    (htr : TriplesOk ps.toList) (hG : AllBare s.gens) (hv : StrsAre vs ts) (hts : ∀ t ∈ ts, 1 ≤ t.length ∧ t.length ≤ 1000 ∧ ∀ i, i < t.cps.size → okCp (t.cps.getD i 0) = true) (hsz : ts.length ≤ 100)
    (hret : ∀ s' more tk, Fr h₀ L s'.heap m → News h₀ L s'.heap ((810, PySem.W.X.tableObj (ps ++ more)) :: rest) → TriplesOk (ps ++ more).toList → AllBare s'.gens → s'.os = s.os → Q (.str (Txt.join (PySem.Str.ofString " ") ts) tk) s') :
    wpAny (model P0 w) A (call (.ref 815) [.ref S]) Q E s := by
  rcases c with ⟨dp, un, gd, cn, cs, a, ccd, cl, outer, A₀, lo, mean, mg, mb, B, F, X, N, T, hk, hd, hu⟩
  refine wpAny_call ?_
  k_dflt (refine' enterP [("split_command", .ref S)] [(810, PySem.W.X.tableObj ps)] rest ?k1 ?k2 ?k3 ?k4 ?k5 ?kA ?kF ?kK ?h1 ?h2 ?h3 ?k6 ?k7 ?k8 ?k9 ?kB ?c2 ?c3 ?c4 ?c5 ?kG)
  k_dflt ((case kA => exact rfl); (case kF => exact rfl); (case kK => first | exact rfl | assumption); (case k1 => k_asm); (case k2 => k_asm); (case k3 => k_asm); (case k4 => k_asm); (case k5 => k_asm); (case k6 => k_is); (case k7 => k_is); (case k8 => ktr_room); (case k9 => exact kp_binds (by k_in) (fun _ => by kernel_rfl)); (case kB => exact locs rfl); (case c2 => exact rfl); (case c3 => exact rfl); (case c4 => exact rfl); (case c5 => decide); (case h1 => exact fun _ h => by rw [List.mem_singleton.mp h]; exact List.mem_cons_self); (case h2 => exact fun _ h => List.mem_cons_of_mem _ h); (case h3 => exact offOne (by assumption)); (intro g' L' h' FG' F' N' B' X' T' R'); (try dsimp only [List.reverse_cons, List.reverse_nil, List.nil_append, List.cons_append] at F'); (try dsimp only); (try k_fold))
  k_steps
  unfold Here
  have hvn := strs_len hv
  have hlt : L' < h'.objs.size := F'.ns.lt
  have h8 := N' _ List.mem_cons_self
  have h8l : (810 : Nat) < h'.objs.size := Heap.lt_size h8.1
  have hSg := R' _ hS
  have hSh := F'.keep _ _ hSg
  refine gen_make (h₀ := g') (L := L') (m := fun y => List.lookup y [(PySem.Str.ofString "split_command", PySem.Value.ref S)].reverse) (P := 810) (c := 814) T' X' (code_join w) rfl rfl rfl rfl rfl (by decide) rfl rfl rfl (by show dp + 1 < recursionLimit; (first | lia | omega)) ?_ (fun _ => rfl)
  refine nameG_L (C := L') (v := .ref S) F'.ns rfl rfl ?_ (by kernel_rfl) (by kernel_rfl) (by decide)
  refine wpAny_pyIter_list (items := vs.toArray) ⟨_, hSh, rfl, cc, rfl⟩ ?_
  refine ⟨F'.push _, ps, h'.objs.size, [h'.objs.size, S], [h'.objs.size], vs.toArray.size, _, _, h'.objs.size - 1, fun j y => ∃ tk, y = .str (ts.getD j (PySem.Str.ofString "")) tk, Heap.get?_push_of_some _ h8.1, htr, h8.2.2, h8.2.1, Nat.le_sub_one_of_lt hlt, ?_, rfl,
    fun A' hA => Walks.list hA _ _ (Nat.ne_of_lt (Heap.lt_size hSh)) vs.toArray, ⟨⟨_, Heap.get?_push_size _ rfl, rfl, rfl⟩, ⟨_, Heap.get?_push_of_some _ hSh, rfl, cc, rfl⟩⟩, ?_, ?_, ?_, ?_, ?_⟩
  · show _ < (h'.objs.push _).size
    rw [Array.size_push]; exact Nat.lt_succ_of_le (Nat.sub_le _ _)
  · intro b hb
    show b < (h'.objs.push _).size
    rw [Array.size_push]
    rcases List.mem_cons.mp hb with rfl | hb
    · exact Nat.lt_succ_self _
    · rw [List.mem_singleton.mp hb]; exact Nat.lt_succ_of_lt (Heap.lt_size hSh)
  · intro hb
    rcases List.mem_cons.mp hb with e | hb
    · exact Nat.ne_of_lt h8l e
    · exact hoff _ hS (List.mem_singleton.mp hb).symm
  · intro b hb
    rw [List.mem_singleton.mp hb]; exact Nat.sub_lt (Nat.lt_of_le_of_lt (Nat.zero_le _) h8l) Nat.one_pos
  · intro C cv A' E' i v t m₂ hA hD hU hp hn hm hC hkp
    obtain ⟨tx, tk, e1, rfl⟩ := strs_at hv (i := i) (v := v) (by simpa using hp)
    have kp : ∀ b o, g'.get? b = some o → t.heap.get? b = some o := fun b o e => by
      refine hkp b o (fun z => by rw [z, h8.2.2] at e; cases e) (fun z => ?_) (Heap.get?_push_of_some _ (F'.keep _ _ e))
      have := Heap.lt_size (F'.keep _ _ e)
      rw [List.mem_singleton.mp z] at this; exact Nat.lt_irrefl _ this
    obtain ⟨t1, t2, t3⟩ := hts tx (List.mem_of_getElem? e1)
    have hD' : A'.depth ≤ dp + 2 := hD
    have hU' : A'.units ≤ un + 100 := Nat.le_trans hU (by simp only [units_deeper, units_caller]; (first | lia | omega))
    refine wpAny_mono (elt_quote (X'.keeps kp) (T'.keeps kp) (by (first | lia | omega)) (by (first | lia | omega)) hn hm t1 t2 t3 rfl) (fun y s₃ hy => ⟨⟨tk, ?_⟩, hy.2⟩) fun _ _ e => e
    rw [hy.1, List.getD_eq_getElem?_getD, e1]; rfl
  · intro a gs5 gs more h₅ tk hgb he F₅ hk₅ hP5 htr5 hge G
    subst he
    refine args_nil ?_
    have hr : (List.range vs.toArray.size).map (fun j => ts.getD j (PySem.Str.ofString "")) = ts := by
      apply List.ext_getElem?
      intro j
      rw [List.getElem?_map, show vs.toArray.size = ts.length from hvn]
      by_cases hj : j < ts.length
      · rw [List.getElem?_range hj, List.getElem?_eq_getElem hj]; simp [hj]
      · rw [List.getElem?_eq_none (by simpa using hj), List.getElem?_eq_none (by simpa using hj)]; rfl
    refine join_rowsK (h₀ := g') (sep := PySem.Str.ofString " ") F₅ (hG.push hgb) G (Nat.le_sub_one_of_lt hlt) (fun j => ts.getD j (PySem.Str.ofString "")) (fun j v hy => hy) (by rw [hr]; exact joinOk_w (fun t ht => (hts t ht).2.1) hsz) (fun s' t' F6 G6 os6 k6 => ?_) (by
      refine Nat.le_trans (show vs.toArray.size ≤ 100 from ?_) (by decide)
      rw [show vs.toArray.size = ts.length from hvn]; exact hsz)
    rw [hr]
    refine leaveK_ (news' := [(810, PySem.W.X.tableObj (ps ++ more))]) F6 (fun p hp => ?_) (fun F7 N7 NR => hret s' more t' F7 (fun p hp => ?_) htr5 G6 ?_)
    · rw [List.mem_singleton.mp hp]
      exact ⟨k6 _ _ (Nat.le_sub_one_of_lt h8l) hP5, h8.2.1, h8.2.2⟩
    · rcases List.mem_cons.mp hp with rfl | hp
      · exact N7 _ List.mem_cons_self
      · exact NR _ hp
    · exact os6
end
end
section
open PySem PySem.W PyProof.Rows PySem.Spec PySem.Calls
set_option maxRecDepth 100000
set_option maxHeartbeats 0
section
variable {w : World} {A : Around} {base h₀ : Heap} {L : Addr} {m : LM} {news : Led} {s : Shared} {Q E : PQ}
theorem rows24 : True := by
  k_with_none
  k_with "call builtin:object.__new__" => (refine Here.of ?_)
  exact trivial
theorem new_spec {y : PySem.Str} {tk : Tok} (c : Cx w base h₀ L m news s.heap 20 200 A) (hret : ∀ x d, LT.lt (α := Nat) d x → (∀ p ∈ news, LT.lt (α := Nat) p.1 d) → Back h₀ L m ((x, instObj 703 d) :: (d, emptyDict) :: news) s Q (.ref x)) :
    wpAny (model P0 w) A (call (.ref 196) [.ref 703, .str y tk]) Q E s := by
  rcases c with ⟨dp, un, gd, cn, cs, a, ccd, cl, outer, A₀, lo, mean, mg, mb, B, F, X, N, T, hk, hd, hu⟩
  refine wpAny_call ?_
  k_dflt (refine' kp_both ?k1 ?k2 ?k3 ?k4 ?k5 ?kA ?kF ?kK ?k6 ?k7 ?k8 ?kV ?kX ?kQ ?kM ?kN ?kD ?kR ?kP ?kS ?kT ?kB ?_ ?c2 ?c3 ?c4 ?c5; (case kA => exact rfl); (case kF => exact rfl); (case kK => assumption); (case k1 => k_asm); (case k2 => k_asm); (case k3 => k_asm); (case k4 => k_asm); (case k5 => k_asm); (case k6 => k_is); (case k7 => k_is); (case k8 => ktr_room); (case kV => kp_lit); (case kX => kp_lit); (case kQ => exact rfl); (case kM => exact rfl); (case kN => exact rfl); (case kD => kp_flats); (case kR => exact rfl); (case kP => exact rfl); (case kS => exact fun _ => rfl); (case kT => exact fun _ _ => rfl); (case kB => exact fun _ _ => locs rfl); (case c5 => decide); (case c2 => exact rfl); (case c3 => exact rfl); (case c4 => exact rfl))
  intro C' D' o' g' L' h' tk' l1 l2 lo' hs' fs' FG' F' N' B' X' T'
  k_steps
  unfold Here
  rename Fr _ _ _ _ => F9
  rename News _ _ _ _ => N9
  have F8 : Fr g' L' h' _ := F9
  have N8 : News g' L' h' _ := N9
  refine wpAny_call (new_own (makes703 (X'.keeps F8.keep)) ?_)
  have N7 := (N8.push F8 emptyDict).push (F8.push _) (instObj 703 h'.objs.size)
  rw [Heap.size_push] at N7
  refine leaveK_ (news' := (h'.objs.size + 1, instObj 703 h'.objs.size) :: (h'.objs.size, emptyDict) :: news) ((F8.push _).push _) (fun p hp => N7 p ?_) (fun F7 N7 => hret _ _ (Nat.lt_succ_self _) (fun p hp => ?_) _ _ F7 N7)
  · rcases List.mem_cons.mp hp with rfl | hp
    · exact .head _
    · rcases List.mem_cons.mp hp with rfl | hp
      · exact .tail _ (.head _)
      · exact .tail _ (.tail _ (.tail _ (.tail _ hp)))
  · exact Heap.lt_size (N8 p (.tail _ (.tail _ hp))).1
end
end
section
open PySem PySem.W PyProof.Rows PySem.Spec PySem.Calls
set_option maxRecDepth 100000
set_option maxHeartbeats 4000000
noncomputable abbrev sioDict (w : World) (y : PySem.Str) (tk n1 n2 n3 t1 : Tok) (z : Int) (t3 : Tok) : Obj := dictOf [⟨PyData.keyHash w.params (PySem.Str.ofString "_StringIO__newline"), .str (PySem.Str.ofString "_StringIO__newline") n1, .str (PySem.Str.ofString "\n") t1⟩, ⟨PyData.keyHash w.params (PySem.Str.ofString "_StringIO__buf"), .str (PySem.Str.ofString "_StringIO__buf") n2, .str y tk⟩, ⟨PyData.keyHash w.params (PySem.Str.ofString "_StringIO__pos"), .str (PySem.Str.ofString "_StringIO__pos") n3, .int z t3⟩] 3
section
variable {w : World} {A : Around} {base h₀ : Heap} {L : Addr} {m : LM} {news : Led} {s : Shared} {Q E : PQ}
theorem sio_make {y : PySem.Str} {tk : Tok} (c : Cx w base h₀ L m news s.heap 30 300 A)
    (hret : ∀ x d n1 n2 n3 t1 t3, LT.lt (α := Nat) d x → (∀ p ∈ news, LT.lt (α := Nat) p.1 d) → Back h₀ L m ([(x, instObj 703 d), (d, sioDict w y tk n1 n2 n3 t1 0 t3)] ++ news) s Q (.ref x)) :
    wpAny (model P0 w) A (call (.ref 703) [.str y tk]) Q E s := by
  rcases c with ⟨dp, un, gd, cn, cs, a, ccd, cl, outer, A₀, lo, mean, mg, mb, B, F, X, N, T, hk, hd, hu⟩
  obtain ⟨hh, g, d, t, os⟩ := s
  have XH := X.keeps F.keep
  have hdl : recursionLimit = recursionLimit := rfl
  refine make_own (init := .ref 473) (makes703 XH) (fun A' Q E h => new703 (s := ⟨hh, g, d, t, os⟩) XH h) ?_
  rw [under_tc]
  refine new_spec (s := ⟨hh, g, d, t + 1, os⟩) (Cx.mk _ _ _ _ _ _ _ _ _ _ _ _ _ _ B F X N T hk (by omega) (by omega)) (fun x d' hdx hlt h' tk' F' N' => ?_)
  have X' := X.keeps F'.keep
  refine ⟨x, d', rfl, (N' _ (.head _)).1, ⟨Looks.of_peek X' (pk_self _), Looks.of_peek X' (pk_init _), fun self => bind_fn X' self (by kernel_rfl)⟩, ?_⟩
  · refine io_init (s := ⟨h', g, d, tk', os⟩) (rest := news) (d := d') (Cx.mk _ _ _ _ _ _ _ _ _ _ _ _ _ _ B F' X N' T hk (by omega) (by omega)) hdx (fun p hp hm => ?_) (fun n1 n2 n3 t1 t3 h'' tk'' F'' N'' => ⟨rfl, hret x d' n1 n2 n3 t1 t3 hdx hlt _ _ F'' N''⟩)
    have h1 := hlt p hp
    simp only [List.map_cons, List.map_nil, List.mem_cons, List.not_mem_nil, or_false] at hm
    rcases hm with e | e
    · exact absurd (e ▸ h1) (Nat.not_lt.mpr (Nat.le_of_lt hdx))
    · exact absurd (e ▸ h1) (Nat.lt_irrefl _)
end
end
section
open PySem PySem.W PyProof.Rows PySem.Spec PySem.Calls
open Sem (wp)
open AutoSeq1 (wpAny_loadPart')
set_option maxRecDepth 100000
set_option maxHeartbeats 4000000
theorem mro_dq : mroOf (.type "collections.deque") = pure [.type "collections.deque", .type "object"] := by rw [mroOf_type]; kernel_rfl
theorem lookup_dq_new : typeLookup (.type "collections.deque") "__new__" = pure (some (.builtin "collections.deque.__new__")) := by rw [typeLookup_type, builtinLookup_eq_fast]; kernel_rfl
theorem slot_dq_init : Slot "collections.deque" "__init__" "collections.deque.__init__" :=
  .of (owner := "collections.deque") (n := "__init__") (by rw [typeLookup_type, builtinLookup_eq_fast]; kernel_rfl) (by decide +kernel) (by decide +kernel) (by decide +kernel)
    (by first | exact .inl (by decide +kernel) | exact .inr (by decide +kernel)) (by rw [isSubtype_type]; kernel_rfl)
theorem called_dq : TypeCalled "collections.deque" "collections.deque.__new__" "collections.deque.__init__" :=
  ⟨by decide +kernel, by decide +kernel, ⟨_, _, mro_dq⟩, madeBy_type mro_dq lookup_dq_new (by decide +kernel), by decide +kernel, by rw [isSubtype_type]; kernel_rfl, slot_dq_init⟩
theorem typeCall_dq : checkTypeCall "collections.deque" ⟨[], []⟩ = pure () := by kernel_rfl
theorem newCall_dq : checkBuiltinCall "collections.deque.__new__" ⟨[.type "collections.deque"], []⟩ = pure () := by kernel_rfl
theorem entry_dq_new : entryFor table "collections.deque.__new__" = some Builtin.«collections.deque.__new__» := entryFor_of_tree (by kernel_rfl)
theorem entry_dq_init : entryFor table "collections.deque.__init__" = some Builtin.«collections.deque.__init__» := entryFor_of_tree (by kernel_rfl)
theorem plain_dq_new : plainId "collections.deque.__new__" = true := by decide +kernel
theorem args_dq_init (a : Value) : argsOk "collections.deque.__init__" ⟨[a], []⟩ := by unfold argsOk; kernel_rfl
theorem sub_dq : isSubtype (.type "collections.deque") (.type "collections.deque") = pure true := by rw [isSubtype_type]; kernel_rfl
section
variable {w : World} {A : Around} {E : Value → Shared → Prop} {s : Shared}
theorem code_dq_new {Q₁ : Value → Shared → Prop} (h : Q₁ (.ref s.heap.objs.size) { s with heap := s.heap.push dqObj }) :
    codeAny (model P0 w) A (.call (.builtin "collections.deque.__new__") ⟨[.type "collections.deque"], []⟩) (wants Q₁ E) s := by
  refine codeAny_of_tree ?_
  show wpAny _ A.in1 (do checkBuiltinCall "collections.deque.__new__" ⟨[.type "collections.deque"], []⟩; again (.builtin "collections.deque.__new__" ⟨[.type "collections.deque"], []⟩)) _ _ s
  refine wpAny_bind (wpAny_of_eq newCall_dq (wpAny_pure ⟨plainId_quiet plain_dq_new _, codeAny_builtin entry_dq_new ?_⟩))
  rw [Around.under_plainId plain_dq_new _]
  have hsub := sub_dq
  obtain ⟨hp, g, d, tk, os⟩ := s
  unfold Builtin.«collections.deque.__new__»
  unfold Builtin.Deque.newArgs Builtin.Deque.new
  unfold Builtin.Deque.ty
  wp_walk
  exact h
theorem call_deque {Q : Value → Shared → Prop} (h : ∀ h', (∀ b o, s.heap.get? b = some o → h'.get? b = some o) → h'.get? s.heap.objs.size = some dqObj → h'.objs.size = s.heap.objs.size + 1 → Q (.ref s.heap.objs.size) { s with heap := h' }) :
    wpAny (model P0 w) A (call (.type "collections.deque") []) Q E s := by
  refine callType_codes (Q₁ := fun obj s₁ => obj = .ref s.heap.objs.size ∧ s₁ = { s with heap := s.heap.push dqObj }) called_dq typeCall_dq entry_dq_init (code_dq_new ⟨rfl, rfl⟩) fun obj s₁ h₁ => ?_
  obtain ⟨rfl, rfl⟩ := h₁
  have hg : (s.heap.push dqObj).get? s.heap.objs.size = some dqObj := Heap.get?_push_size _ rfl
  refine ⟨⟨_, hg, rfl⟩, args_dq_init _, ?_⟩
  have hu := Heap.get?_update_self (Obj.mapFields (·.setIfInBounds 0 Value.none)) hg rfl
  have hfin := h ((s.heap.push dqObj).update s.heap.objs.size (Obj.mapFields (·.setIfInBounds 0 Value.none))) (fun b o e => by
    have hb : b ≠ s.heap.objs.size := Nat.ne_of_lt (Heap.lt_size e)
    exact (Heap.get?_update_other _ _ (Ne.symm hb)).trans (Heap.get?_push_of_some _ e)) hu ((Heap.size_update ..).trans (Heap.size_push ..))
  unfold Builtin.«collections.deque.__init__»
  refine wpAny_bind (wpAny_pure ?_)
  refine wpAny_bind ?_
  rw [List.forIn_nil]
  refine wpAny_pure ?_
  refine wpAny_bind (wpAny_pure ?_)
  refine wpAny_bind (wpAny_setField hg rfl (by decide) ?_)
  unfold Builtin.Deque.clear Builtin.Deque.items
  refine wpAny_bind ?_
  refine wpAny_bind (wpAny_bind (wpAny_fieldsOf hu rfl (wpAny_pure ?_)))
  refine wpAny_pure ?_
  show wpAny _ _ (ret Value.none) _ _ _
  exact wpAny_pure ⟨rfl, hfin⟩
theorem call_dqK {h₀ : Heap} {L : Addr} {m : LM} {news : Led} {Q : Value → Shared → Prop} (F : Fr h₀ L s.heap m) (N : News h₀ L s.heap news)
    (h : ∀ (a : Addr) h', Fr h₀ L h' m → News h₀ L h' ((a, dqObj) :: news) → (∀ p ∈ news, LT.lt (α := Nat) p.1 a) → Q (.ref a) { s with heap := h' }) : wpAny (model P0 w) A (call (.type "collections.deque") []) Q E s := by
  refine call_deque fun h' k g _ => h _ h' (F.keeps k) (fun p hp => ?_) (fun p hp => Heap.lt_size (N p hp).1)
  rcases List.mem_cons.mp hp with rfl | hp
  · exact ⟨g, Nat.ne_of_gt F.ns.lt, next_is_new F⟩
  · exact ⟨k _ _ (N p hp).1, (N p hp).2⟩
end
end
section
open PySem PySem.W PyProof.Rows PySem.Spec PySem.Calls
set_option maxRecDepth 100000
set_option maxHeartbeats 2000000
section
variable {w : World} {A : Around} {E : PQ} {s : Shared} {h₀ : Heap} {L : Addr} {m : LM} {env : Env} {elt iter : PySem.Expr} {x : PySem.Str} {px : Pos} {scope : Scope} {cl : List (PySem.Str × Addr)} {pos : Pos}
/-- the turns of a comprehension by an invariant on what is in the list and in the ledger -/
theorem comp_ind {S : Led → Prop} {P : Nat → PySem.Value → Prop} {Fin : List PySem.Value → Led → Prop} {n : Nat} (Inv : Nat → List PySem.Value → Led → Prop)
    (hfin : ∀ ys nw, Inv n ys nw → Fin ys nw)
    (hstep : ∀ i ys nw v I oI C oC D m₂ h tk (E' : PQ), i < n → Inv i ys nw → P i v → LCg.NsObj oC m₂ → m₂ x = some v → Fr h₀ L h m → News h₀ L h ((I, oI) :: (C, oC) :: (D, LCg.lst ys) :: nw) → LCg.Off3 I C D nw → ((@Ne Nat I C) ∧ (@Ne Nat I D) ∧ (@Ne Nat C D)) →
      wpAny (model P0 w) A (eval elt (compEnvC scope cl C env)) (LCg.CompEnd h₀ L m { s with heap := h, toks := tk } I oI C oC D (LCg.lst ys) S (fun y news' => Inv (i + 1) (ys ++ [y]) news')) E' { s with heap := h, toks := tk }) :
    ∀ k i ys nw, i + k = n → Inv i ys nw → LCg.CompRest P0 w A h₀ L m env elt x scope cl s S P Fin k i ys nw
  | 0, i, ys, nw, hi, hI => hfin ys nw ((show i = n from hi) ▸ hI)
  | k + 1, i, ys, nw, hi, hI => fun v I oI C oC D m₂ h tk E' hv hC hx F N off ne => by
    refine wpAny_mono (hstep i ys nw v I oI C oC D m₂ h tk E' (by omega) hI hv hC hx F N off ne) (fun y s₂ hy => ?_) fun _ _ e => e
    obtain ⟨h', tk', news', e1, F', N', off', hS, hi'⟩ := hy
    exact ⟨h', tk', news', e1, F', N', off', hS, comp_ind Inv hfin hstep k (i + 1) _ _ (by omega) hi'⟩
/-- what a comprehension's walk is asked of -/
inductive LwIn (w : World) (A : Around) (h₀ : Heap) (L : Addr) (m : LM) (env : Env) (elt : PySem.Expr) (x : PySem.Str) (scope : Scope) (cl : List (PySem.Str × Addr)) (Q : PQ) (it : PySem.Value) (s₂ : Shared) : Prop
  | mk (I : Addr) (fp : List Addr) (n : Nat) (P : Nat → PySem.Value → Prop) (St : Nat → Heap → Prop) (S : Led → Prop) (news : Led) (h1 : it = .ref I) (h2 : Walks P0 w A I fp [I] n P St) (h3 : n ≤ sizeLine) (h4 : ∀ i h, St i h → ∃ o, h.get? I = some o)
      (h5 : ∀ i h h' o nw, St i h → h.get? I = some o → h'.get? I = some o → (∀ b o, h₀.get? b = some o → h'.get? b = some o) → News h₀ L h' nw → S nw → St i h') (h6 : St 0 s₂.heap) (h7 : ∀ b ∈ fp, b < s₂.heap.objs.size) (h8 : Fr h₀ L s₂.heap m) (h9 : News h₀ L s₂.heap news)
      (h10 : L ≠ I) (h11 : h₀.get? I = none) (h12 : ∀ p ∈ news, p.1 ≠ I) (h13 : S news) (h14 : LCg.CompRest P0 w A h₀ L m env elt x scope cl s₂ S P (LCg.FinE h₀ L m s₂ Q) n 0 [] news) : LwIn w A h₀ L m env elt x scope cl Q it s₂
/-- a comprehension over whatever can be walked -/
theorem ListComp_W {Q : PQ} (hclos : closureFor scope env = pure cl) (hcell : ∀ y ∈ scope.names, y.2 ≠ .cell) (hkind : scope.kind = .function)
    (hnames : ∀ y ∈ scope.names, y.2 = .local → scope.names.lookup y.1 = some .local) (hx : scope.names.lookup x = some .local)
    (h : wpAny (model P0 w) A (eval iter env) (fun xv s₁ => wpAny (model P0 w) A (pyIter xv) (fun it s₂ => LwIn w A h₀ L m env elt x scope cl Q it s₂) E s₁) E s)
    (hs : ∀ x, foldedSetIterable iter env x = pure x := by intro _; rfl) :
    wpAny (model P0 w) A (eval (.ListComp elt [⟨.Name x px, iter, [], 0⟩] scope pos) env) Q E s := by
  rw [eval_ListComp]
  refine wpAny_comprehension_free (use := none) rfl hs hclos hkind hnames (wpAny_mono h (fun xv s₁ h₁ => wpAny_mono h₁ (fun it s₂ h₂ => ?_) fun _ _ e => e) fun _ _ e => e)
  obtain ⟨I, fp, n, P, St, S, news, rfl, W, hsz, hIo, hSt, hst, hfp, F, N, hIL, hI₀, off, hS, R⟩ := h₂
  refine LCg.block_U W hsz hIo hSt hcell hkind hx hst hfp F N hIL hI₀ off hS R ?_
  intro D C h tk m' ys news' F' N' o1 hn hC₀ hD₀ hCL hDL hCD offC fin
  refine ⟨m', hn, fun h'' hs'' => fin D h'' tk (F'.change hs'' hCL hC₀) (fun p hp => ?_) o1⟩
  refine ⟨hs''.extBut _ _ ?_ (N' p hp).1, (N' p hp).2⟩
  rcases List.mem_cons.mp hp with rfl | hp
  · exact Ne.symm hCD
  · exact offC p hp
end
end
section
open PySem PySem.W PyProof.Rows PySem.Spec PySem.Calls
set_option maxRecDepth 100000
set_option maxHeartbeats 4000000
section
variable {w : World} {A A₀ : Around} {base h₀ : Heap} {outer : List Env} {env : Env} {L : Addr} {m mg mb : LM} {news : Led} {s : Shared} {lo : List PySem.Str} {mean : ExcName → Option PySem.Value}
  {R : Result → Shared → Prop} {name qual : PySem.Str} {params : Arguments} {body : List Stmt} {scope : Scope} {dV kV doc pm cdv ct oc : PySem.Value} {an od : Option Addr} {osl : Array (Option PySem.Value)} {f : Addr} {args : Args}
/-- enterP for a def with cells of its own -/
theorem enterC (binds : List (PySem.Str × PySem.Value)) (own rest : Led) (B : Below A₀ base outer h₀) (F : Fr h₀ L s.heap m) (X₀ : (K w.params).In h₀) (N : News h₀ L s.heap news) (T : Top q0 lo mean mg mb h₀)
    (hA : A.frames = some (env :: outer)) (hf : env.frame = some L) (hke : env.scope.kind = .function)
    (hown : ∀ p ∈ own, p ∈ news) (hrest : ∀ p ∈ rest, p ∈ news) (hoff : ∀ p ∈ rest, p.1 ∉ own.map (·.1))
    (ho : (K w.params).lookup f = some ⟨oc, od, .func (fnOf name qual params body scope dV kV doc pm an cdv ct), osl⟩) (hcd : codeIn (K w.params) cdv qual = true) (hroom : A.depth < recursionLimit)
    (hbind : BindsTo s (fnOf name qual params body scope dV kV doc pm an cdv ct) args binds)
    (hkind : ∀ n, ∀ x ∈ binds, scope.names.lookup x.1 = some .local ∨ (scope.names.lookup x.1 = some .cell ∧ ((cellsFrom n scope.names []).lookup x.1).isSome = true))
    (hnd : ((cellsFrom 0 scope.names []).map (·.1)).Nodup)
    (hco : scope.isCoroutine = false) (hgen : scope.isGenerator = false) (hk : scope.kind = .function)
    (h : ∀ g L' h₁ tk cells, Fr h₀ L g m → Fr g L' h₁ (bindL (envOfC qual scope L' f cdv).kindOf binds fun _ => none) → News g L' h₁ (cells ++ own) →
      CellsAre (bindC (envOfC qual scope L' f cdv).kindOf binds fun _ => none) (cellsFrom (L' + 1) scope.names []) cells → Below A base (env :: outer) g → (K w.params).In g → Top q0 lo mean mg mb g → (∀ p ∈ rest, g.get? p.1 = some p.2) → h₀.StaysIn g → (∀ p ∈ own, p.1 < L') →
      wpAny (model P0 w) (A.deeper (envOfC qual scope L' f cdv)) (execs body (envOfC qual scope L' f cdv))
        (fun fl s' => LeaveK h₀ L m g (fun r s'' => News h₀ L s''.heap rest → R r s'') (match fl with | .ret v => v | _ => .none) s')
        (fun e s' => wpAny (model P0 w) (A.deeper (envOfC qual scope L' f cdv)) (leaving (envOfC qual scope L' f cdv) e) (fun _ s'' => R (.error e) s'') (fun e' s'' => R (.error e') s'') s')
        { s with heap := h₁, toks := tk }) :
    codeAny (model P0 w) A (.call (.ref f) args) R s := by
  have No : News h₀ L s.heap own := fun p hp => N p (hown p hp)
  obtain ⟨FG, BG, st, lv⟩ := groundX (R := fun r s'' => News h₀ L s''.heap rest → R r s'') B F No hA hf hke
  have hr : ∀ p ∈ rest, (hideAll s.heap (own.map (·.1))).get? p.1 = some p.2 := fun p hp => hideAll_get _ (N p (hrest p hp)).1 (hoff p hp)
  have XH := X₀.keeps F.keep
  refine codeAny_call_function hroom (XH _ _ ho) rfl hco hgen rfl (codeRec_of XH hcd) (hbind _ _ _ _ ?_)
  refine wpAny_newFunctionEnv_cells hk (hkind _) fun env' he s' x => ?_
  subst he
  refine ⟨(T.nolimit.keeps F.keep).keeps x.toInCall.keep, codeAny_func ?_⟩
  obtain ⟨h₁, tk, rfl, _⟩ := x.done
  have hk₁ := x.toInCall.keep
  obtain ⟨cells, NC, Y⟩ := Cl.news (h₀ := s.heap) (Nat.le_refl _) fun n c hm => ⟨x.cell n c (lookup_of_mem_nodup (cellsFrom_names scope.names 0 (s.heap.objs.size + 1) [] [] rfl ▸ hnd) hm), x.above n c hm⟩
  refine wpAny_mono (h _ s.heap.objs.size h₁ tk cells FG ⟨x.toInCall.ns, fun b o e => hk₁ b o (of_hideAll _ e), Nat.le_of_eq (hideAll_size _ _)⟩ (fun p hp => ?_) Y BG (X₀.keeps st) (T.keeps st) hr st (fun p hp => Heap.lt_size (No p hp).1)) (fun fl s' hl => ?_) fun _ _ y => y
  · rcases List.mem_append.mp hp with hp | hp
    · refine ⟨(NC p hp).1, (NC p hp).2.1, ?_⟩
      cases q : (hideAll s.heap (own.map (·.1))).get? p.1 with
      | none => rfl
      | some o => have := of_hideAll _ q; rw [(NC p hp).2.2] at this; cases this
    · exact ⟨hk₁ _ _ (No p hp).1, Nat.ne_of_lt (Heap.lt_size (No p hp).1), hideAll_none _ (List.mem_map_of_mem hp)⟩
  · refine lv _ _ hl ?_
    obtain ⟨L', m', news', F', N', k⟩ := hl
    exact fun p hp => ⟨F'.keep _ _ (hr p hp), (N p (hrest p hp)).2⟩
end
end
section
open PySem PySem.W PyProof.Rows PySem.Spec PySem.Calls
set_option maxRecDepth 100000
set_option maxHeartbeats 4000000
theorem frames_cons {env : Env} {outer : List Env} {L b : Addr} (hf : env.frame = some L) (hm : b ∈ (env :: outer).filterMap (·.frame)) : b = L ∨ b ∈ outer.filterMap (·.frame) := by
  obtain ⟨e, he, hb⟩ := List.mem_filterMap.mp hm
  rcases List.mem_cons.mp he with rfl | he
  · exact .inl (Option.some.inj (hf.symm.trans hb)).symm
  · exact .inr (List.mem_filterMap.mpr ⟨e, he, hb⟩)
/-- a callee that turned slots of the outer frames has left: the caller's base, turned alike -/
theorem backT {A₀ : Around} {base h₀ h h2 g' : Heap} {outer : List Env} {env : Env} {L L' : Addr} {m m' : LM} {own rest news' : Led} (B : Below A₀ base outer h₀) (F : Fr h₀ L h m) (N : News h₀ L h own) (Nr : News h₀ L h rest) (hf : env.frame = some L)
    (hr : ∀ p ∈ rest, (hideAll h (own.map (·.1))).get? p.1 = some p.2)
    (T' : KtsTurn ((env :: outer).filterMap (·.frame)) (hideAll h (own.map (·.1))) g') (F' : Fr g' L' h2 m') (N' : News g' L' h2 news') :
    ∃ h₀', KtsTurn (outer.filterMap (·.frame)) h₀ h₀' ∧ Fr h₀' L h2 m ∧ News h₀' L h2 (news' ++ rest) ∧ Below A₀ base outer h₀' := by
  have nm : ∀ b o, h₀.get? b = some o → b ∉ own.map (·.1) := fun b o e q => by
    obtain ⟨p, hp, rfl⟩ := List.mem_map.mp q
    rw [(N p hp).2.2] at e; cases e
  have st : h₀.StaysIn (hideAll h (own.map (·.1))) := fun b o e => hideAll_get _ (F.keep b o e) (nm b o e)
  obtain ⟨oL, es, ep, hL, hLd, hLk, hLf⟩ := F.ns
  have nL : L ∉ own.map (·.1) := fun q => by
    obtain ⟨p, hp, e⟩ := List.mem_map.mp q
    exact (N p hp).2.1 e
  have hLg := hideAll_get (own.map (·.1)) hL nL
  have nL₀ : h₀.get? L = none := kts_self F
  have no : ∀ b o, h₀.get? b = some o → b ∉ outer.filterMap (·.frame) → b ∉ (env :: outer).filterMap (·.frame) := fun b o e nmem q => by
    rcases frames_cons hf q with z | z
    · rw [z, nL₀] at e; cases e
    · exact nmem z
  obtain ⟨sl, hs⟩ := T'.up hLg
  obtain ⟨T₁, S₁⟩ := kts_turn_at (h := h2) (fs := outer.filterMap (·.frame)) (g := h₀)
    (fun b hb => by
      obtain ⟨_, o, ho', _⟩ := B.frames.mem hb
      exact ⟨o, ho'⟩)
    (fun b o e nmem => F'.keep b o (T'.other b o (st b o e) (no b o e nmem)))
    (fun b o e hm => by
      obtain ⟨sl', hs'⟩ := T'.up (st b o e)
      exact ⟨sl', F'.keep _ _ hs'⟩)
  have B₃ : Below A₀ base outer (ktsHeap h2 (outer.filterMap (·.frame)) h₀) := ⟨B.stack, fun b o e => T₁.other b o (B.stays b o e) (fun hm => by
    rw [(B.frames.mem hm).1] at e
    cases e), B.frames.of_keeps fun b o e _ => by
    obtain ⟨sl', hs'⟩ := T₁.up e
    exact ⟨_, hs', rfl⟩⟩
  refine ⟨_, T₁, ⟨⟨_, es, ep, F'.keep _ _ hs, hLd, hLk, hLf⟩, S₁, by rw [T₁.size]; exact F.above⟩, fun p hp => ?_, B₃⟩
  rcases List.mem_append.mp hp with hp | hp
  · refine ⟨(N' p hp).1, fun q => ?_, T₁.none_ _ ?_⟩
    · have := (N' p hp).2.2; rw [q, hs] at this; cases this
    · cases q : h₀.get? p.1 with
      | none => rfl
      | some o =>
        obtain ⟨sl', hs'⟩ := T'.up (st _ _ q)
        have := (N' p hp).2.2
        rw [hs'] at this
        cases this
  · refine ⟨F'.keep _ _ (T'.other _ _ (hr p hp) fun q => ?_), (Nr p hp).2.1, T₁.none_ _ (Nr p hp).2.2⟩
    rcases frames_cons hf q with z | z
    · exact (Nr p hp).2.1 z
    · obtain ⟨_, o, ho', _⟩ := B.frames.mem z
      rw [(Nr p hp).2.2] at ho'; cases ho'
/-- a def that has turned slots of the outer frames has come to its end -/
def LeaveT (A₀ : Around) (base : Heap) (outer : List Env) (env : Env) (h₀ : Heap) (L : Addr) (m : LM) (rest : Led) (g : Heap) (R : Result → Shared → Prop) (v : PySem.Value) (s' : Shared) : Prop :=
  ∃ g' L' m' news', KtsTurn ((env :: outer).filterMap (·.frame)) g g' ∧ Fr g' L' s'.heap m' ∧ News g' L' s'.heap news' ∧
    ∀ h₀', KtsTurn (outer.filterMap (·.frame)) h₀ h₀' → Fr h₀' L s'.heap m → News h₀' L s'.heap (news' ++ rest) → Below A₀ base outer h₀' → R (.ok (.ret v)) s'
theorem kdicts_push {outer : List Env} {env : Env} {h₀ h : Heap} {L : Addr} {m : LM} {own : Led} (F : Fr h₀ L h m) (N : News h₀ L h own) (hf : env.frame = some L) (D : KtsDicts (outer.filterMap (·.frame)) h₀) (st : h₀.StaysIn (hideAll h (own.map (·.1)))) :
    KtsDicts ((env :: outer).filterMap (·.frame)) (hideAll h (own.map (·.1))) := fun b hb => by
  rcases frames_cons hf hb with rfl | hb
  · obtain ⟨oL, es, ep, hL, hLd, hLk, hLf⟩ := F.ns
    exact ⟨oL, es, ep, hideAll_get _ hL (fun q => by
      obtain ⟨p, hp, e⟩ := List.mem_map.mp q
      exact (N p hp).2.1 e), hLd⟩
  · obtain ⟨o, es', n', ho', hd'⟩ := D b hb
    exact ⟨o, es', n', st b o ho', hd'⟩
section
variable {w : World} {A A₀ : Around} {base h₀ : Heap} {outer : List Env} {env : Env} {L : Addr} {m mg mb : LM} {news : Led} {s : Shared} {lo : List PySem.Str} {mean : ExcName → Option PySem.Value}
  {R : Result → Shared → Prop} {name qual : PySem.Str} {params : Arguments} {body : List Stmt} {scope : Scope} {dV kV doc pm cdv ct oc : PySem.Value} {an od : Option Addr} {osl : Array (Option PySem.Value)} {f : Addr} {args : Args}
/-- enterP for a def whose run may turn slots of the outer frames -/
theorem enterS (binds : List (PySem.Str × PySem.Value)) (own rest : Led) (B : Below A₀ base outer h₀) (F : Fr h₀ L s.heap m) (X₀ : (K w.params).In h₀) (N : News h₀ L s.heap news) (T : Top q0 lo mean mg mb h₀)
    (D : KtsDicts (outer.filterMap (·.frame)) h₀)
    (hA : A.frames = some (env :: outer)) (hf : env.frame = some L) (hke : env.scope.kind = .function)
    (hown : ∀ p ∈ own, p ∈ news) (hrest : ∀ p ∈ rest, p ∈ news) (hoff : ∀ p ∈ rest, p.1 ∉ own.map (·.1))
    (ho : (K w.params).lookup f = some ⟨oc, od, .func (fnOf name qual params body scope dV kV doc pm an cdv ct), osl⟩) (hcd : codeIn (K w.params) cdv qual = true) (hroom : A.depth < recursionLimit)
    (hbind : BindsTo s (fnOf name qual params body scope dV kV doc pm an cdv ct) args binds) (hloc : ∀ y ∈ binds, scope.names.lookup y.1 = some .local)
    (hco : scope.isCoroutine = false) (hgen : scope.isGenerator = false) (hk : scope.kind = .function)
    (hcell : ∀ x ∈ scope.names, x.2 ≠ .cell)
    (h : ∀ g L' h₁, Fr h₀ L g m → Fr g L' h₁ (fun y => binds.reverse.lookup y) → News g L' h₁ own → Below A base (env :: outer) g → (K w.params).In g → Top q0 lo mean mg mb g → KtsDicts ((env :: outer).filterMap (·.frame)) g → (∀ p ∈ rest, g.get? p.1 = some p.2) →
      wpAny (model P0 w) (A.deeper (envOf qual scope L' f cdv)) (execs body (envOf qual scope L' f cdv))
        (fun fl s' => LeaveT A₀ base outer env h₀ L m rest g R (match fl with | .ret v => v | _ => .none) s')
        (fun e s' => wpAny (model P0 w) (A.deeper (envOf qual scope L' f cdv)) (leaving (envOf qual scope L' f cdv) e) (fun _ s'' => R (.error e) s'') (fun e' s'' => R (.error e') s'') s')
        { s with heap := h₁, toks := s.toks + binds.length }) :
    codeAny (model P0 w) A (.call (.ref f) args) R s := by
  have No : News h₀ L s.heap own := fun p hp => N p (hown p hp)
  obtain ⟨FG, BG, st, lv⟩ := groundX (R := fun r s'' => News h₀ L s''.heap rest → R r s'') B F No hA hf hke
  have hr : ∀ p ∈ rest, (hideAll s.heap (own.map (·.1))).get? p.1 = some p.2 := fun p hp => hideAll_get _ (N p (hrest p hp)).1 (hoff p hp)
  have XH := X₀.keeps F.keep
  refine codeAny_call_def (fd := fnOf name qual params body scope dV kV doc pm an cdv ct) (body := body) (binds := binds) hroom (XH _ _ ho) rfl (T.nolimit.keeps F.keep) (codeRec_of XH hcd) rfl hbind hcell hloc (fun h₁ hns hk₁ => ?_) hco hgen hk
  refine wpAny_mono (h _ s.heap.objs.size h₁ FG ⟨hns, fun b o e => hk₁ b o (of_hideAll _ e), Nat.le_of_eq (hideAll_size _ _)⟩
    (fun p hp => ⟨hk₁ _ _ (No p hp).1, Nat.ne_of_lt (Heap.lt_size (No p hp).1), hideAll_none _ (List.mem_map_of_mem hp)⟩) BG (X₀.keeps st) (T.keeps st) (kdicts_push F No hf D st) hr) (fun fl s' hl => ?_) fun _ _ y => y
  obtain ⟨g', L', m', news', T', F', N', k⟩ := hl
  obtain ⟨h₀', t1, t2, t3, t4⟩ := backT B F No (fun p hp => N p (hrest p hp)) hf hr T' F' N'
  exact k h₀' t1 t2 t3 t4
/-- the same for a def with cells -/
theorem enterSC (binds : List (PySem.Str × PySem.Value)) (own rest : Led) (B : Below A₀ base outer h₀) (F : Fr h₀ L s.heap m) (X₀ : (K w.params).In h₀) (N : News h₀ L s.heap news) (T : Top q0 lo mean mg mb h₀)
    (D : KtsDicts (outer.filterMap (·.frame)) h₀)
    (hA : A.frames = some (env :: outer)) (hf : env.frame = some L) (hke : env.scope.kind = .function)
    (hown : ∀ p ∈ own, p ∈ news) (hrest : ∀ p ∈ rest, p ∈ news) (hoff : ∀ p ∈ rest, p.1 ∉ own.map (·.1))
    (ho : (K w.params).lookup f = some ⟨oc, od, .func (fnOf name qual params body scope dV kV doc pm an cdv ct), osl⟩) (hcd : codeIn (K w.params) cdv qual = true) (hroom : A.depth < recursionLimit)
    (hbind : BindsTo s (fnOf name qual params body scope dV kV doc pm an cdv ct) args binds)
    (hkind : ∀ n, ∀ x ∈ binds, scope.names.lookup x.1 = some .local ∨ (scope.names.lookup x.1 = some .cell ∧ ((cellsFrom n scope.names []).lookup x.1).isSome = true))
    (hnd : ((cellsFrom 0 scope.names []).map (·.1)).Nodup)
    (hco : scope.isCoroutine = false) (hgen : scope.isGenerator = false) (hk : scope.kind = .function)
    (h : ∀ g L' h₁ tk cells, Fr h₀ L g m → Fr g L' h₁ (bindL (envOfC qual scope L' f cdv).kindOf binds fun _ => none) → News g L' h₁ (cells ++ own) →
      CellsAre (bindC (envOfC qual scope L' f cdv).kindOf binds fun _ => none) (cellsFrom (L' + 1) scope.names []) cells → Below A base (env :: outer) g → (K w.params).In g → Top q0 lo mean mg mb g → KtsDicts ((env :: outer).filterMap (·.frame)) g → (∀ p ∈ rest, g.get? p.1 = some p.2) → h₀.StaysIn g → (∀ p ∈ own, p.1 < L') →
      wpAny (model P0 w) (A.deeper (envOfC qual scope L' f cdv)) (execs body (envOfC qual scope L' f cdv))
        (fun fl s' => LeaveT A₀ base outer env h₀ L m rest g R (match fl with | .ret v => v | _ => .none) s')
        (fun e s' => wpAny (model P0 w) (A.deeper (envOfC qual scope L' f cdv)) (leaving (envOfC qual scope L' f cdv) e) (fun _ s'' => R (.error e) s'') (fun e' s'' => R (.error e') s'') s')
        { s with heap := h₁, toks := tk }) :
    codeAny (model P0 w) A (.call (.ref f) args) R s := by
  have No : News h₀ L s.heap own := fun p hp => N p (hown p hp)
  obtain ⟨FG, BG, st, lv⟩ := groundX (R := fun r s'' => News h₀ L s''.heap rest → R r s'') B F No hA hf hke
  have hr : ∀ p ∈ rest, (hideAll s.heap (own.map (·.1))).get? p.1 = some p.2 := fun p hp => hideAll_get _ (N p (hrest p hp)).1 (hoff p hp)
  have XH := X₀.keeps F.keep
  refine codeAny_call_function hroom (XH _ _ ho) rfl hco hgen rfl (codeRec_of XH hcd) (hbind _ _ _ _ ?_)
  refine wpAny_newFunctionEnv_cells hk (hkind _) fun env' he s' x => ?_
  subst he
  refine ⟨(T.nolimit.keeps F.keep).keeps x.toInCall.keep, codeAny_func ?_⟩
  obtain ⟨h₁, tk, rfl, _⟩ := x.done
  have hk₁ := x.toInCall.keep
  obtain ⟨cells, NC, Y⟩ := Cl.news (h₀ := s.heap) (Nat.le_refl _) fun n c hm => ⟨x.cell n c (lookup_of_mem_nodup (cellsFrom_names scope.names 0 (s.heap.objs.size + 1) [] [] rfl ▸ hnd) hm), x.above n c hm⟩
  refine wpAny_mono (h _ s.heap.objs.size h₁ tk cells FG ⟨x.toInCall.ns, fun b o e => hk₁ b o (of_hideAll _ e), Nat.le_of_eq (hideAll_size _ _)⟩ (fun p hp => ?_) Y BG (X₀.keeps st) (T.keeps st) (kdicts_push F No hf D st) hr st (fun p hp => Heap.lt_size (No p hp).1)) (fun fl s' hl => ?_) fun _ _ y => y
  · rcases List.mem_append.mp hp with hp | hp
    · refine ⟨(NC p hp).1, (NC p hp).2.1, ?_⟩
      cases q : (hideAll s.heap (own.map (·.1))).get? p.1 with
      | none => rfl
      | some o => have := of_hideAll _ q; rw [(NC p hp).2.2] at this; cases this
    · exact ⟨hk₁ _ _ (No p hp).1, Nat.ne_of_lt (Heap.lt_size (No p hp).1), hideAll_none _ (List.mem_map_of_mem hp)⟩
  · obtain ⟨g', L', m', news', T', F', N', k⟩ := hl
    obtain ⟨h₀', t1, t2, t3, t4⟩ := backT B F No (fun p hp => N p (hrest p hp)) hf hr T' F' N'
    exact k h₀' t1 t2 t3 t4
end
end
section
open PySem PySem.W PyProof.Rows PySem.Spec PySem.Calls
set_option maxRecDepth 100000
set_option maxHeartbeats 0
section
variable {w : World} {A : Around} {base h₀ : Heap} {L : Addr} {m : LM} {news : Led} {s : Shared} {Q E : PQ}
theorem News.perm6 {h₀ h : Heap} {L : Addr} {a b c d e f : Addr × Obj} (N : News h₀ L h [f, e, c, d, a, b]) : News h₀ L h [a, b, c, d, e, f] := fun p hp => N p (by simp only [List.mem_cons, List.not_mem_nil, or_false] at hp ⊢; rcases hp with h | h | h | h | h | h <;> simp [h])
theorem rows25 : True := by
  k_with_none
  k_with "call ref" => (((with_reducible show wpAny _ _ (call (Value.ref 703) _ _) _ _ _); refine Here.of ?_))
  k_with "call type:collections.deque" => ((k_dflt (refine' call_dqK ?f ?n ?_; (case f => k_asm); (case n => k_asm); (intro _ _ _ _ zrltDq); (simp only [List.mem_cons, List.not_mem_nil, or_false, forall_eq_or_imp, forall_eq] at zrltDq); (have zrlt1 := zrltDq.1); (have zrlt2 := zrltDq.2.1); (have zrlt3 := zrltDq.2.2.1); (have zrlt4 := zrltDq.2.2.2); (try (have zrlt5 := zrlt4.1)); (try (have zrlt6 := zrlt4.2)); clear zrltDq)))
  exact trivial
theorem init_spec {y : PySem.Str} {t2 : Tok} {x d : Addr} {R : Result → Shared → Prop} (c : Cx w base h₀ L m [(x, instObj 796 d), (d, emptyDict)] s.heap 50 500 A) (hdx : LT.lt (α := Nat) d x)
    (hret : ∀ (n1 n2 n3 t1 t3 ss tt : Tok) (nk vt : Nat → Tok) (yy e pb fs : Addr), Ords d x e yy pb fs → Back h₀ L m [(x, instObj 796 d), (d, dictOf [⟨PyData.keyHash w.params (PySem.Str.ofString "instream"), .str (PySem.Str.ofString "instream") (nk 0), .ref yy⟩, ⟨PyData.keyHash w.params (PySem.Str.ofString "infile"), .str (PySem.Str.ofString "infile") (nk 1), .none⟩, ⟨PyData.keyHash w.params (PySem.Str.ofString "posix"), .str (PySem.Str.ofString "posix") (nk 2), .bool true⟩, ⟨PyData.keyHash w.params (PySem.Str.ofString "eof"), .str (PySem.Str.ofString "eof") (nk 3), .none⟩, ⟨PyData.keyHash w.params (PySem.Str.ofString "commenters"), .str (PySem.Str.ofString "commenters") (nk 4), .str (PySem.Str.ofString "#") (vt 4)⟩, ⟨PyData.keyHash w.params (PySem.Str.ofString "wordchars"), .str (PySem.Str.ofString "wordchars") (nk 5), .str (PySem.Str.ofString "abcdfeghijklmnopqrstuvwxyzABCDEFGHIJKLMNOPQRSTUVWXYZ0123456789_ßàáâãäåæçèéêëìíîïðñòóôõöøùúûüýþÿÀÁÂÃÄÅÆÇÈÉÊËÌÍÎÏÐÑÒÓÔÕÖØÙÚÛÜÝÞ") (vt 5)⟩, ⟨PyData.keyHash w.params (PySem.Str.ofString "whitespace"), .str (PySem.Str.ofString "whitespace") (nk 6), .str (PySem.Str.ofString " \t\r\n") (vt 6)⟩, ⟨PyData.keyHash w.params (PySem.Str.ofString "whitespace_split"), .str (PySem.Str.ofString "whitespace_split") (nk 7), .bool false⟩, ⟨PyData.keyHash w.params (PySem.Str.ofString "quotes"), .str (PySem.Str.ofString "quotes") (nk 8), .str (PySem.Str.ofString "'\"") (vt 8)⟩, ⟨PyData.keyHash w.params (PySem.Str.ofString "escape"), .str (PySem.Str.ofString "escape") (nk 9), .str (PySem.Str.ofString "\\") (vt 9)⟩, ⟨PyData.keyHash w.params (PySem.Str.ofString "escapedquotes"), .str (PySem.Str.ofString "escapedquotes") (nk 10), .str (PySem.Str.ofString "\"") (vt 10)⟩, ⟨PyData.keyHash w.params (PySem.Str.ofString "state"), .str (PySem.Str.ofString "state") (nk 11), .str (PySem.Str.ofString " ") ss⟩, ⟨PyData.keyHash w.params (PySem.Str.ofString "pushback"), .str (PySem.Str.ofString "pushback") (nk 12), .ref pb⟩, ⟨PyData.keyHash w.params (PySem.Str.ofString "lineno"), .str (PySem.Str.ofString "lineno") (nk 13), .int 1 (vt 13)⟩, ⟨PyData.keyHash w.params (PySem.Str.ofString "debug"), .str (PySem.Str.ofString "debug") (nk 14), .int 0 (vt 14)⟩, ⟨PyData.keyHash w.params (PySem.Str.ofString "token"), .str (PySem.Str.ofString "token") (nk 15), .str (PySem.Str.ofString "") tt⟩, ⟨PyData.keyHash w.params (PySem.Str.ofString "filestack"), .str (PySem.Str.ofString "filestack") (nk 16), .ref fs⟩, ⟨PyData.keyHash w.params (PySem.Str.ofString "source"), .str (PySem.Str.ofString "source") (nk 17), .none⟩, ⟨PyData.keyHash w.params (PySem.Str.ofString "_punctuation_chars"), .str (PySem.Str.ofString "_punctuation_chars") (nk 18), .str (PySem.Str.ofString "") (vt 18)⟩] 19), (yy, instObj 703 e), (e, dictOf [⟨PyData.keyHash w.params (PySem.Str.ofString "_StringIO__newline"), .str (PySem.Str.ofString "_StringIO__newline") n1, .str (PySem.Str.ofString "\n") t1⟩, ⟨PyData.keyHash w.params (PySem.Str.ofString "_StringIO__buf"), .str (PySem.Str.ofString "_StringIO__buf") n2, .str y t2⟩, ⟨PyData.keyHash w.params (PySem.Str.ofString "_StringIO__pos"), .str (PySem.Str.ofString "_StringIO__pos") n3, .int 0 t3⟩] 3), (pb, dqObj), (fs, dqObj)] s (fun v s' => R (.ok (.ret v)) s') .none) :
    codeAny (model P0 w) A (.call (.ref 720) ⟨[.ref x, .str y t2], [(PySem.Str.ofString "posix", .bool true)]⟩) R s := by
  rcases c with ⟨dp, un, gd, cn, cs, a, ccd, cl, outer, A₀, lo, mean, mg, mb, B, F, X, N, T, hk, hd, hu⟩
  k_dflt (refine' enterP [("self", .ref x), ("instream", .str y t2), ("infile", .none), ("posix", .bool true), ("punctuation_chars", .bool false)] [(x, instObj 796 d), (d, emptyDict)] [] ?k1 ?k2 ?k3 ?k4 ?k5 ?kA ?kF ?kK ?h1 ?h2 ?h3 ?k6 ?k7 ?k8 ?k9 ?kB ?c2 ?c3 ?c4 ?c5 ?kG)
  k_dflt ((case kA => exact rfl); (case kF => exact rfl); (case kK => first | exact rfl | assumption); (case k1 => k_asm); (case k2 => k_asm); (case k3 => k_asm); (case k4 => k_asm); (case k5 => k_asm); (case k6 => k_is); (case k7 => k_is); (case k8 => ktr_room); (case k9 => exact kp_binds (by k_in) (fun _ => by kernel_rfl)); (case kB => exact locs rfl); (case c2 => exact rfl); (case c3 => exact rfl); (case c4 => exact rfl); (case c5 => decide); (case h1 => exact fun _ h => h); (case h2 => exact fun _ h => nomatch h); (case h3 => exact fun _ h => nomatch h); (intro g' L' h' FG' F' N' B' X' T' R'); (try dsimp only [List.reverse_cons, List.reverse_nil, List.nil_append, List.cons_append] at F'); (try dsimp only); (try k_fold))
  k_steps
  unfold Here
  refine sio_make (Cx.mk _ _ _ _ _ _ _ _ _ _ _ _ _ _ (by assumption) (by assumption) (by assumption) (by assumption) (by assumption) rfl ?_ ?_) ?_
  · show dp + 1 + 30 < recursionLimit; omega
  · show un + 3 + 300 < cLine; omega
  intro x703 d703 n1' n2' n3' t1' t3' hdx703 hlt703 h703 tk703 F703 N703
  have q1 : LT.lt (α := Nat) x d703 := hlt703 _ (.head _)
  have q2 : LT.lt (α := Nat) d d703 := hlt703 _ (.tail _ (.head _))
  clear hlt703
  dsimp only [List.cons_append, List.nil_append] at N703
  k_steps
  rename News h₀ L _ [] => NR
  clear NR
  rename News h₀ L _ _ => NN
  rename News h₀ L _ _ => NN
  refine' hret n1' n2' n3' t1' t3' _ _ (fun i => [_, _, _, _, _, _, _, _, _, _, _, _, _, _, _, _, _, _, _].getD i 0) (fun i => [0, 0, 0, 0, _, _, _, 0, _, _, _, 0, 0, _, _, 0, 0, 0, _].getD i 0) x703 d703 _ _ ?_ _ _ (by assumption) (News.perm6 NN)
  constructor <;> omega
theorem shlex_make {y : PySem.Str} {t2 : Tok} (c : Cx w base h₀ L m [] s.heap 60 600 A)
    (hret : ∀ (x d : Addr) (n1 n2 n3 t1 t3 ss tt : Tok) (nk vt : Nat → Tok) (yy e pb fs : Addr), Ords d x e yy pb fs → Back h₀ L m [(x, instObj 796 d), (d, dictOf [⟨PyData.keyHash w.params (PySem.Str.ofString "instream"), .str (PySem.Str.ofString "instream") (nk 0), .ref yy⟩, ⟨PyData.keyHash w.params (PySem.Str.ofString "infile"), .str (PySem.Str.ofString "infile") (nk 1), .none⟩, ⟨PyData.keyHash w.params (PySem.Str.ofString "posix"), .str (PySem.Str.ofString "posix") (nk 2), .bool true⟩, ⟨PyData.keyHash w.params (PySem.Str.ofString "eof"), .str (PySem.Str.ofString "eof") (nk 3), .none⟩, ⟨PyData.keyHash w.params (PySem.Str.ofString "commenters"), .str (PySem.Str.ofString "commenters") (nk 4), .str (PySem.Str.ofString "#") (vt 4)⟩, ⟨PyData.keyHash w.params (PySem.Str.ofString "wordchars"), .str (PySem.Str.ofString "wordchars") (nk 5), .str (PySem.Str.ofString "abcdfeghijklmnopqrstuvwxyzABCDEFGHIJKLMNOPQRSTUVWXYZ0123456789_ßàáâãäåæçèéêëìíîïðñòóôõöøùúûüýþÿÀÁÂÃÄÅÆÇÈÉÊËÌÍÎÏÐÑÒÓÔÕÖØÙÚÛÜÝÞ") (vt 5)⟩, ⟨PyData.keyHash w.params (PySem.Str.ofString "whitespace"), .str (PySem.Str.ofString "whitespace") (nk 6), .str (PySem.Str.ofString " \t\r\n") (vt 6)⟩, ⟨PyData.keyHash w.params (PySem.Str.ofString "whitespace_split"), .str (PySem.Str.ofString "whitespace_split") (nk 7), .bool false⟩, ⟨PyData.keyHash w.params (PySem.Str.ofString "quotes"), .str (PySem.Str.ofString "quotes") (nk 8), .str (PySem.Str.ofString "'\"") (vt 8)⟩, ⟨PyData.keyHash w.params (PySem.Str.ofString "escape"), .str (PySem.Str.ofString "escape") (nk 9), .str (PySem.Str.ofString "\\") (vt 9)⟩, ⟨PyData.keyHash w.params (PySem.Str.ofString "escapedquotes"), .str (PySem.Str.ofString "escapedquotes") (nk 10), .str (PySem.Str.ofString "\"") (vt 10)⟩, ⟨PyData.keyHash w.params (PySem.Str.ofString "state"), .str (PySem.Str.ofString "state") (nk 11), .str (PySem.Str.ofString " ") ss⟩, ⟨PyData.keyHash w.params (PySem.Str.ofString "pushback"), .str (PySem.Str.ofString "pushback") (nk 12), .ref pb⟩, ⟨PyData.keyHash w.params (PySem.Str.ofString "lineno"), .str (PySem.Str.ofString "lineno") (nk 13), .int 1 (vt 13)⟩, ⟨PyData.keyHash w.params (PySem.Str.ofString "debug"), .str (PySem.Str.ofString "debug") (nk 14), .int 0 (vt 14)⟩, ⟨PyData.keyHash w.params (PySem.Str.ofString "token"), .str (PySem.Str.ofString "token") (nk 15), .str (PySem.Str.ofString "") tt⟩, ⟨PyData.keyHash w.params (PySem.Str.ofString "filestack"), .str (PySem.Str.ofString "filestack") (nk 16), .ref fs⟩, ⟨PyData.keyHash w.params (PySem.Str.ofString "source"), .str (PySem.Str.ofString "source") (nk 17), .none⟩, ⟨PyData.keyHash w.params (PySem.Str.ofString "_punctuation_chars"), .str (PySem.Str.ofString "_punctuation_chars") (nk 18), .str (PySem.Str.ofString "") (vt 18)⟩] 19), (yy, instObj 703 e), (e, dictOf [⟨PyData.keyHash w.params (PySem.Str.ofString "_StringIO__newline"), .str (PySem.Str.ofString "_StringIO__newline") n1, .str (PySem.Str.ofString "\n") t1⟩, ⟨PyData.keyHash w.params (PySem.Str.ofString "_StringIO__buf"), .str (PySem.Str.ofString "_StringIO__buf") n2, .str y t2⟩, ⟨PyData.keyHash w.params (PySem.Str.ofString "_StringIO__pos"), .str (PySem.Str.ofString "_StringIO__pos") n3, .int 0 t3⟩] 3), (pb, dqObj), (fs, dqObj)] s Q (.ref x)) :
    wpAny (model P0 w) A (call (.ref 796) [.str y t2] [(PySem.Str.ofString "posix", .bool true)]) Q E s := by
  rcases c with ⟨dp, un, gd, cn, cs, a, ccd, cl, outer, A₀, lo, mean, mg, mb, B, F, X, N, T, hk, hd, hu⟩
  refine wpAny_call ?_
  refine make_K (K := K w.params) (fI := 720) F N (X.keeps F.keep) (by kernel_rfl) (by kernel_rfl) (by kernel_rfl) (fun x dx h' F' N' _ hlt => ?_)
  rw [under_tc]
  refine init_spec (s := { s with heap := h' }) (Cx.mk _ _ _ _ _ _ _ _ _ _ _ _ _ _ B F' X N' T hk (by omega) (by omega)) hlt (fun n1 n2 n3 t1 t3 ss tt nk vt yy e pb fs o h'' tk'' F'' N'' => ⟨rfl, hret x dx n1 n2 n3 t1 t3 ss tt nk vt yy e pb fs o h'' tk'' F'' N''⟩)
end
end
section
open PySem PySem.W PyProof.Rows PySem.Spec PySem.Calls
set_option maxRecDepth 100000
set_option maxHeartbeats 0
section
variable {w : World} {A₀ : Around} {base h₀ : Heap} {L : Addr} {m : LM} {news : Led} {s : Shared} {Q E : PQ}
theorem rows26 : True := by
  k_with_none
  k_with "call ref" => (((with_reducible show wpAny _ _ (call (Value.ref 796) _ _) _ _ _); refine Here.of ?_))
  k_with "call type:list" => (refine Here.of ?_)
  exact trivial
theorem split_spec {y : PySem.Str} {tk : Tok} {dp un : Nat} {gd : Option (List Code)} {cn : PySem.Str} {cs : Scope} {a : Addr} {ccd : PySem.Value} {cl : List (PySem.Str × Addr)} {outer : List Env} {lo : List PySem.Str} {mean : ExcName → Option PySem.Value} {mg mb : LM} {ts : List (List Nat)}
    (B : Below A₀ base outer h₀) (F : Fr h₀ L s.heap m) (X : (K w.params).In h₀) (N : News h₀ L s.heap news) (T : Top q0 lo mean mg mb h₀) (hk : cs.kind = .function) (D : KtsDicts (outer.filterMap (·.frame)) h₀) (hd : dp + 120 < recursionLimit) (hu : un + 1200 < cLine)
    (hy : y.length ≤ 200) (hts : ts ≠ []) (hw : ∀ v ∈ ts, v ≠ [] ∧ ∀ c ∈ v, SignC c) (hlen : ts.length ≤ 900) (hcps : y.cps.toList = joinW ts)
    (hret : ∀ S vs c' h₀' h' tk', StrsAre vs (ts.map fun v => ⟨v.toArray⟩) → KtsTurn (outer.filterMap (·.frame)) h₀ h₀' → Fr h₀' L h' m → News h₀' L h' ((S, LObj vs.toArray c') :: news) → Below A₀ base outer h₀' → Q (.ref S) { s with heap := h', toks := tk' }) :
    wpAny (model P0 w) (ktrTop dp un gd cn cs L a ccd cl outer) (call (.ref 808) [.str y tk]) Q E s := by
  refine wpAny_call ?_
  k_dflt (refine' enterS [("s", .str y tk), ("comments", .bool false), ("posix", .bool true)] [] news ?k1 ?k2 ?k3 ?k4 ?k5 ?kD ?kA ?kF ?kK ?h1 ?h2 ?h3 ?k6 ?k7 ?k8 ?k9 ?kB ?c2 ?c3 ?c4 ?c5 ?kG)
  k_dflt ((case kA => exact rfl); (case kF => exact rfl); (case kK => first | exact rfl | assumption); (case k1 => k_asm); (case k2 => k_asm); (case k3 => k_asm); (case k4 => k_asm); (case k5 => k_asm); (case kD => k_asm); (case k6 => k_is); (case k7 => k_is); (case k8 => ktr_room); (case k9 => exact kp_binds (by k_in) (fun _ => by kernel_rfl)); (case kB => exact locs rfl); (case c2 => exact rfl); (case c3 => exact rfl); (case c4 => exact rfl); (case c5 => decide); (case h1 => exact fun _ h => nomatch h); (case h2 => exact fun _ h => h); (case h3 => exact fun _ _ h => nomatch h); (intro g' L' h' FG' F' N' B' X' T' D' R'); (try dsimp only [List.reverse_cons, List.reverse_nil, List.nil_append, List.cons_append] at F'); (try dsimp only); (try k_fold))
  k_steps
  unfold Here
  k_dflt (refine' shlex_make (Cx.mk _ _ _ _ _ _ _ _ _ _ _ _ _ _ ?b ?f ?x ?n ?t ?k ?d ?u) ?_; ((case b => k_asm); (case f => k_asm); (case x => k_asm); (case n => k_asm); (case t => k_asm); (case k => first | exact rfl | assumption); (case d => ktr_room); (case u => ktr_units)))
  intro x9 d9 n1' n2' n3' t1' t3' ss' tt' nk vt yy e9 pb fs o9 h9 tk9 F9 N9
  obtain ⟨o1, o2, o3, o4, o5⟩ := id o9
  k_steps
  unfold Here
  rename Fr _ _ _ _ => F8
  rename News _ _ _ _ => N8
  rename Below _ _ _ _ => B8
  rename Top _ _ _ _ _ _ => T8
  rename Frag.In _ _ => X8
  rename KtsDicts _ _ => D8
  refine lex_list (dp := dp + 1) (un := un + 3) (nk := nk) (vt := fun i => if i = 4 then _ else vt i) X8 T8 rfl (by omega) (by omega) B8 D8 (by assumption) hy hts hw F8 N8 (Int.le_refl 0) hlen (by simpa using hcps) (fun S vs tt3 t3' z2 c' h₀' h' tk' hvs hT hF hN hB => ?_)
  refine ⟨h₀', _, _, [(S, LObj vs.toArray c')], hT, hF, fun p hp => hN p (List.mem_append_right _ hp), fun h1 t1 t2 t3 t4 => hret S vs c' h1 _ _ hvs t1 t2 t3 t4⟩
end
end
section
open PySem PySem.W PyProof.Rows PySem.Spec PySem.Calls
/-- the text of these code points -/
def ofL (l : List Nat) : PySem.Str := ⟨l.toArray⟩
theorem ofL_toList (l : List Nat) : (ofL l).cps.toList = l := rfl
theorem ofL_len (l : List Nat) : (ofL l).length = l.length := rfl
theorem str_ext {x y : PySem.Str} (h : x.cps.toList = y.cps.toList) : x = y := by
  cases x; cases y
  exact congrArg Str.mk (Array.toList_inj.mp h)
theorem ofL_eq (x : PySem.Str) : x = ofL x.cps.toList := str_ext rfl
theorem ofL_inj {a b : List Nat} (h : ofL a = ofL b) : a = b := by
  have := congrArg (fun x : PySem.Str => x.cps.toList) h
  exact this
theorem ofL_append (a b : List Nat) : ofL a ++ ofL b = ofL (a ++ b) := str_ext (by
  show ((ofL a).cps ++ (ofL b).cps).toList = _
  simp [ofL])
theorem len_toList (x : PySem.Str) : x.cps.toList.length = x.length := rfl
theorem sl_to {x : PySem.Str} {j : Nat} (h : j ≤ x.length) : Txt.slice x none (some (j : Int)) = ofL (x.cps.toList.take j) := by
  have e := slice_closes_toL (x := x) (j := (j : Int)) (by (first | lia | omega)) (by (first | lia | omega))
  rw [beq_iff_eq.mp e]
  simp [ofL]
theorem sl_from {x : PySem.Str} {i : Nat} (h : i ≤ x.length) : Txt.slice x (some (i : Int)) none = ofL (x.cps.toList.drop i) := by
  have e := slice_closes_fromL (x := x) (i := (i : Int)) (b := (x.length : Int)) (by (first | lia | omega)) (by (first | lia | omega)) rfl
  rw [beq_iff_eq.mp e]
  apply str_ext
  show List.take _ _ = List.drop _ _
  rw [Int.toNat_natCast, List.take_of_length_le]
  rw [List.length_drop, len_toList]
  (first | lia | omega)
theorem sl_mid {x : PySem.Str} {i j : Nat} (h0 : i ≤ j) (h : j ≤ x.length) : Txt.slice x (some (i : Int)) (some (j : Int)) = ofL ((x.cps.toList.drop i).take (j - i)) := by
  have e := slice_closesL (x := x) (i := (i : Int)) (j := (j : Int)) (by (first | lia | omega)) (by (first | lia | omega)) (by (first | lia | omega))
  rw [beq_iff_eq.mp e]
  apply str_ext
  show List.take _ _ = List.take _ _
  rw [Int.toNat_natCast]
  congr 1
  (first | lia | omega)
theorem sl_to_len {x : PySem.Str} {j : Nat} (h : j ≤ x.length) : (Txt.slice x none (some (j : Int))).length = j := by
  rw [sl_to h, ofL_len, List.length_take, len_toList]; (first | lia | omega)
end
section
open PySem PySem.W PyProof.Rows PySem.Spec PySem.Calls
set_option maxRecDepth 100000
set_option maxHeartbeats 4000000
def Off4 (I C D c : Addr) (nw : Led) : Prop := ∀ p ∈ nw, p.1 ≠ I ∧ p.1 ≠ C ∧ p.1 ≠ D ∧ p.1 ≠ c
section
variable {w : World} {A : Around} {E : PQ} {s : Shared} {h₀ : Heap} {L : Addr} {m : LM} {env : Env} {elt iter : PySem.Expr} {x : PySem.Str} {px : Pos} {scope : Scope} {cl : List (PySem.Str × Addr)} {pos : Pos}
theorem nfe_cell {globals : Addr} {qual : PySem.Str} {Q : Env → Shared → Prop} (hcf : ∀ k, cellsFrom k scope.names cl = (x, k) :: cl) (hpc : ∀ h, pushCells h scope.names = h.push { cls := .type "cell", data := .cell none })
    (hQ : Q { scope := scope, locals := s.heap.objs.size, globals := globals, cells := (x, s.heap.objs.size + 1) :: cl, qual := qual, func := none, code := env.code, frame := env.frame, builtins := env.builtins }
      { s with heap := (s.heap.push { cls := .type "dict", data := .dict #[] }).push { cls := .type "cell", data := .cell none } }) :
    wpAny (model P0 w) A (newFunctionEnv scope globals cl [] qual none .none (some env)) Q E s := by
  simp only [newFunctionEnv, Option.isSome_some, if_true]
  refine wpAny_bind (wpAny_alloc ?_)
  refine wpAny_bind (wpAny_layCells _ (fun name kind cells => by cases hkc : kind == NameKind.cell <;> simp) _ _ _ _ ?_)
  rw [show ({ s with heap := s.heap.push { cls := .type "dict", data := .dict #[] } } : Shared).heap.objs.size = s.heap.objs.size + 1 from Heap.size_push .., hcf, hpc]
  refine wpAny_bind ?_
  rw [List.forIn_nil]
  exact wpAny_pure (wpAny_pure hQ)
theorem off1_of {D : Addr} : ∀ {l : Led}, (∀ p ∈ l, p.1 ≠ D) → LCg.Off1 D l
  | [], _ => trivial
  | _ :: _, h => ⟨h _ List.mem_cons_self, off1_of fun p hp => h p (List.mem_cons_of_mem _ hp)⟩
/-- what an element's walk hands back -/
inductive LcPost (h₀ : Heap) (L : Addr) (m : LM) (s₂ : Shared) (I C D c : Addr) (oI oC l oc : Obj) (Inv : Led → Prop) (s' : Shared) : Prop
  | mk (h' : Heap) (tk' : Nat) (nw' : Led) (h1 : s' = { s₂ with heap := h', toks := tk' }) (h2 : Fr h₀ L h' m) (h3 : News h₀ L h' ((I, oI) :: (C, oC) :: (D, l) :: (c, oc) :: nw')) (h4 : Off4 I C D c nw') (h5 : Inv nw') : LcPost h₀ L m s₂ I C D c oI oC l oc Inv s'
inductive LcIn (w : World) (A : Around) (h₀ : Heap) (L : Addr) (m : LM) (env : Env) (elt : PySem.Expr) (x : PySem.Str) (scope : Scope) (cl : List (PySem.Str × Addr)) (n : Nat) (Inv : Nat → List PySem.Value → Led → Prop) (news : Led) (Q : PQ) (it : PySem.Value) (s₂ : Shared) : Prop
  | mk (I : Addr) (P : Nat → PySem.Value → Prop) (St : Nat → Heap → Prop) (h1 : it = .ref I) (h2 : Walks P0 w A I [I] [I] n P St) (h3 : n ≤ sizeLine) (h4 : ∀ i h, St i h → ∃ o, h.get? I = some o)
      (h5 : ∀ i h h' o, St i h → h.get? I = some o → h'.get? I = some o → St i h') (h6 : St 0 s₂.heap) (h7 : I < s₂.heap.objs.size) (h8 : Fr h₀ L s₂.heap m) (h9 : News h₀ L s₂.heap news)
      (h10 : L ≠ I) (h11 : h₀.get? I = none) (h12 : ∀ p ∈ news, p.1 ≠ I) (h13 : Inv 0 [] news)
      (h14 : ∀ i ys nw v oI C oC D c oc h tk (E' : PQ), i < n → Inv i ys nw → P i v → oc.data = .cell (some v) → Fr h₀ L h m → News h₀ L h ((I, oI) :: (C, oC) :: (D, LCg.lst ys) :: (c, oc) :: nw) → Off4 I C D c nw →
        wpAny (model P0 w) A (eval elt (compEnvC scope ((x, c) :: cl) C env)) (fun y s' => LcPost h₀ L m s₂ I C D c oI oC (LCg.lst ys) oc (Inv (i + 1) (ys ++ [y])) s') E' { s₂ with heap := h, toks := tk })
      (h15 : ∀ ys nw, Inv n ys nw → LCg.FinE h₀ L m s₂ Q ys nw) : LcIn w A h₀ L m env elt x scope cl n Inv news Q it s₂
/-- the loop's state -/
inductive LcJ (h₀ : Heap) (L : Addr) (m : LM) (s₂ : Shared) (I C D c : Addr) (n : Nat) (St : Nat → Heap → Prop) (Inv : Nat → List PySem.Value → Led → Prop) (k : Nat) (s' : Shared) : Prop
  | mk (h' : Heap) (tk : Nat) (i : Nat) (ys : List PySem.Value) (m' : LM) (news' : Led) (oc : Obj) (v₀ : Option PySem.Value) (h1 : s' = { s₂ with heap := h', toks := tk }) (h2 : i ≤ n) (h3 : k = n + 1 - i) (h4 : ys.length = i) (h5 : St i h') (h6 : Fr h₀ L h' m) (h7 : h'.Ns C m') (h8 : oc.data = .cell v₀) (h9 : News h₀ L h' ((D, LCg.lst ys) :: (c, oc) :: news'))
      (h10 : Off4 I C D c news') (h11 : Inv i ys news') : LcJ h₀ L m s₂ I C D c n St Inv k s'
theorem ListComp_C {Q : PQ} {n : Nat} {Inv : Nat → List PySem.Value → Led → Prop} {news : Led} (_F₀ : Fr h₀ L s.heap m) (hclos : closureFor scope env = pure cl) (hcf : ∀ k, cellsFrom k scope.names cl = (x, k) :: cl) (hpc : ∀ h, pushCells h scope.names = h.push { cls := .type "cell", data := .cell none }) (hkind : scope.kind = .function)
    (hnames : ∀ y ∈ scope.names, y.2 = .local → scope.names.lookup y.1 = some .local) (hxc : ∀ C c, (compEnvC scope ((x, c) :: cl) C env).kindOf x = some .cell)
    (h : wpAny (model P0 w) A (eval iter env) (fun xv s₁ => wpAny (model P0 w) A (pyIter xv) (fun it s₂ => LcIn w A h₀ L m env elt x scope cl n Inv news Q it s₂) E s₁) E s)
    (hs : ∀ x, foldedSetIterable iter env x = pure x := by intro _; rfl) :
    wpAny (model P0 w) A (eval (.ListComp elt [⟨.Name x px, iter, [], 0⟩] scope pos) env) Q E s := by
  rw [eval_ListComp]
  refine wpAny_comprehension_free (use := none) rfl hs hclos hkind hnames (wpAny_mono h (fun xv s₁ h₁ => wpAny_mono h₁ (fun it s₂ h₂ => ?_) fun _ _ e => e) fun _ _ e => e)
  obtain ⟨I, P, St, rfl, W, hsz, hIo, hSt, hst, hI, F, N, hIL, hI₀, off, hInv, hstep, hfin⟩ := h₂
  refine wpAny_newObj_type (nfe_cell hcf hpc ?_)
  dsimp only
  generalize hH2 : s₂.heap.push { cls := .type "list", dict := none, data := .seq ([] : List PySem.Value).toArray } = H2
  generalize hH4 : (H2.push { cls := .type "dict", data := .dict #[] }).push { cls := .type "cell", data := .cell none } = H4
  have hCs : H2.objs.size = s₂.heap.objs.size + 1 := by rw [← hH2, Heap.size_push]
  have e1 : H4.get? (H2.objs.size + 1) = some { cls := .type "cell", data := .cell none } := by
    rw [← hH4, ← Heap.size_push H2 { cls := .type "dict", data := .dict #[] }]
    exact Heap.get?_push_size _ rfl
  have up2 : ∀ b o, s₂.heap.get? b = some o → H2.get? b = some o := fun b o e => hH2 ▸ Heap.get?_push_of_some _ e
  have up4 : ∀ b o, H2.get? b = some o → H4.get? b = some o := fun b o e => hH4 ▸ Heap.get?_push_of_some _ (Heap.get?_push_of_some _ e)
  have old : ∀ b o, s₂.heap.get? b = some o → H4.get? b = some o := fun b o e => up4 b o (up2 b o e)
  have hn4 : H4.Ns H2.objs.size (fun _ => none) := hH4 ▸ (Heap.Ns.new H2 (.type "dict")).keeps (fun b o e => Heap.get?_push_of_some _ e)
  have hacc : H4.get? s₂.heap.objs.size = some (LCg.lst []) := up4 _ _ (hH2 ▸ Heap.get?_push_size _ rfl)
  have hst4 : St 0 H4 := W.frame _ _ _ hst fun b _ o e => old b o e
  have fresh : ∀ a, s₂.heap.objs.size ≤ a → h₀.get? a = none := fun a ha => by
    cases e : h₀.get? a with
    | none => rfl
    | some o' => exact absurd (Heap.lt_size (F.keep a o' e)) (Nat.not_lt.mpr ha)
  have hD₀ : h₀.get? s₂.heap.objs.size = none := fresh _ (Nat.le_refl _)
  have hC₀ : h₀.get? H2.objs.size = none := fresh _ (by rw [hCs]; exact Nat.le_succ _)
  have hc₀ : h₀.get? (H2.objs.size + 1) = none := fresh _ (by rw [hCs]; exact Nat.le_trans (Nat.le_succ _) (Nat.le_succ _))
  have hLlt : L < s₂.heap.objs.size := F.ns.lt
  have below : ∀ b, b < s₂.heap.objs.size → b ≠ s₂.heap.objs.size ∧ b ≠ H2.objs.size ∧ b ≠ H2.objs.size + 1 := fun b hb =>
    ⟨Nat.ne_of_lt hb, by rw [hCs]; exact Nat.ne_of_lt (Nat.lt_succ_of_lt hb), by rw [hCs]; exact Nat.ne_of_lt (Nat.lt_succ_of_lt (Nat.lt_succ_of_lt hb))⟩
  have hDC : s₂.heap.objs.size ≠ H2.objs.size := by rw [hCs]; exact Nat.ne_of_lt (Nat.lt_succ_self _)
  have hDc : s₂.heap.objs.size ≠ H2.objs.size + 1 := by rw [hCs]; exact Nat.ne_of_lt (Nat.lt_succ_of_lt (Nat.lt_succ_self _))
  have hCc : H2.objs.size ≠ H2.objs.size + 1 := Nat.ne_of_lt (Nat.lt_succ_self _)
  obtain ⟨iD, iC, ic⟩ := below I hI
  obtain ⟨lD, lC, lc⟩ := below L hLlt
  generalize H2.objs.size + 1 = c at *
  generalize H2.objs.size = C at *
  have kx := hxc C c
  generalize hD : s₂.heap.objs.size = D at *
  have off0 : Off4 I C D c news := fun p hp => ⟨off p hp, (below _ (hD ▸ Heap.lt_size (N p hp).1)).2.1, (below _ (hD ▸ Heap.lt_size (N p hp).1)).1, (below _ (hD ▸ Heap.lt_size (N p hp).1)).2.2⟩
  have loop : ∀ s₃ : Shared, s₃ = { s₂ with heap := H4 } →
      codeAny (model P0 w) A (.compLoop (.ListComp elt [⟨.Name x px, iter, [], 0⟩] scope pos) 0 (.ref I) (.ref D) (compEnvC scope ((x, c) :: cl) C env)) (compPost (model P0 w) A E none Q (.ref D) C) s₃ := by
    rintro s₃ rfl
    refine codeAny_compLoop_tests
      (LcJ h₀ L m s₂ I C D c n St Inv) ?_ (n + 1)
      ⟨H4, _, 0, [], _, news, ({ cls := .type "cell", data := .cell none } : Obj), none, rfl, Nat.zero_le _, rfl, rfl, hst4, F.keeps old, hn4, rfl, fun p hp => ?_, off0, hInv⟩
    · rintro k s' ⟨h', tk, i, ys, m', news', oc, v₀, rfl, hi, rfl, hyl, hst', F', hn', hoc, N', off', hI'⟩
      have Nc := N' (c, oc) (.tail _ (.head _))
      by_cases hlt : i < n
      · refine W.item i _ _ _ hlt hst' fun v h₂ tk₂ hPv hst₂ hk₂ => ?_
        have F₂ : Fr h₀ L h₂ m := LCg.fr_but F' hk₂ hIL hI₀
        have N₂ : News h₀ L h₂ ((D, LCg.lst ys) :: (c, oc) :: news') := LCg.news_but N' hk₂ fun p hp => by
          rcases List.mem_cons.mp hp with rfl | hp
          · exact Ne.symm iD
          · rcases List.mem_cons.mp hp with rfl | hp
            · exact Ne.symm ic
            · exact (off' p hp).1
        refine wpAny_assign_Name (wpAny_storeName_cell (v₀ := v₀) hkind kx (by show ((x, c) :: cl).lookup x = some c; rw [List.lookup_cons]; simp) ⟨oc, (N₂ _ (.tail _ (.head _))).1, hoc⟩ fun h₃ hv₃ hs₃ => ?_)
        refine wpAny_tests_nil ?_
        simp only [if_true]
        obtain ⟨oc', hoc', hcd'⟩ := hv₃
        have hst₃ : St (i + 1) h₃ := W.frame _ _ _ hst₂ fun b hb o e => hs₃.extBut b o (fun q => ic (by rw [← List.mem_singleton.mp hb]; exact q)) e
        obtain ⟨oI, heI⟩ := hIo _ _ hst₃
        have hnC₃ : h₃.Ns C m' := (hn'.at' fun o e => hk₂ _ o (by simpa using Ne.symm iC) e).sameBut hs₃ hCc
        obtain ⟨oC, heC, hoC⟩ := LCg.ns_obj hnC₃
        have F₃ : Fr h₀ L h₃ m := F₂.change hs₃ (Ne.symm lc) hc₀
        have N₃ : News h₀ L h₃ ((I, oI) :: (C, oC) :: (D, LCg.lst ys) :: (c, oc') :: news') := fun p hp => by
          rcases List.mem_cons.mp hp with rfl | hp
          · exact ⟨heI, Ne.symm hIL, hI₀⟩
          rcases List.mem_cons.mp hp with rfl | hp
          · exact ⟨heC, Ne.symm lC, hC₀⟩
          rcases List.mem_cons.mp hp with rfl | hp
          · have z := N₂ _ (.head _)
            exact ⟨hs₃.extBut _ _ hDc z.1, z.2⟩
          rcases List.mem_cons.mp hp with rfl | hp
          · exact ⟨hoc', Ne.symm lc, hc₀⟩
          · have z := N₂ p (.tail _ (.tail _ hp))
            exact ⟨hs₃.extBut _ _ (off' p hp).2.2.2 z.1, z.2⟩
        refine wpAny_mono (hstep i ys news' v oI C oC D c oc' h₃ _ _ hlt hI' hPv hcd' F₃ N₃ off') (fun y s₄ h₄ => ?_) fun _ _ e => e
        obtain ⟨h₄, tk₄, news₄, rfl, F₄, N₄, off₄, hI₄⟩ := h₄
        have zI := (N₄ (I, oI) (.head _)).1
        have zC := (N₄ (C, oC) (.tail _ (.head _))).1
        have zD := (N₄ (D, LCg.lst ys) (.tail _ (.tail _ (.head _)))).1
        have zc := N₄ (c, oc') (.tail _ (.tail _ (.tail _ (.head _))))
        have hst₄ : St (i + 1) h₄ := hSt _ _ _ _ hst₃ heI zI
        refine append_at (hsz := by show ys.toArray.size ≤ sizeLine; rw [List.size_toArray, hyl]; exact Nat.le_trans hi hsz) zD fun h₅ hs₅ hD₅ => ?_
        refine ⟨n + 1 - (i + 1), by omega, h₅, tk₄, i + 1, ys ++ [y], m', news₄, oc', some v, rfl, hlt, rfl, by rw [List.length_append, List.length_singleton, hyl], W.frame _ _ _ hst₄ fun b hb o e => hs₅.extBut b o (fun q => iD (by rw [← List.mem_singleton.mp hb]; exact q)) e, F₄.change hs₅ (Ne.symm lD) hD₀,
          (hoC.ns zC).sameBut hs₅ (Ne.symm hDC), hcd', fun p hp => ?_, off₄, hI₄⟩
        rcases List.mem_cons.mp hp with rfl | hp
        · exact ⟨hD₅.trans (congrArg some (LCg.lst_snoc ys y)), Ne.symm lD, hD₀⟩
        rcases List.mem_cons.mp hp with rfl | hp
        · exact ⟨hs₅.extBut _ _ (Ne.symm hDc) zc.1, zc.2⟩
        · have z := N₄ p (.tail _ (.tail _ (.tail _ (.tail _ hp))))
          exact ⟨hs₅.extBut _ _ (off₄ p hp).2.2.1 z.1, z.2⟩
      · obtain rfl : i = n := Nat.le_antisymm hi (Nat.not_lt.mp hlt)
        refine W.done _ _ _ hst' fun h₂ tk₂ hk₂ => ?_
        have F₂ : Fr h₀ L h₂ m := LCg.fr_but F' hk₂ hIL hI₀
        have N₂ : News h₀ L h₂ ((D, LCg.lst ys) :: (c, oc) :: news') := LCg.news_but N' hk₂ fun p hp => by
          rcases List.mem_cons.mp hp with rfl | hp
          · exact Ne.symm iD
          · rcases List.mem_cons.mp hp with rfl | hp
            · exact Ne.symm ic
            · exact (off' p hp).1
        refine ⟨m', hn'.at' fun o e => hk₂ _ o (by simpa using Ne.symm iC) e, fun h'' hs'' => hfin ys news' hI' D h'' tk₂ (F₂.change hs'' (Ne.symm lC) hC₀) (fun p hp => ?_) ?_⟩
        · rcases List.mem_cons.mp hp with rfl | hp
          · have z := N₂ _ (.head _)
            exact ⟨hs''.extBut _ _ hDC z.1, z.2⟩
          · have z := N₂ p (.tail _ (.tail _ hp))
            exact ⟨hs''.extBut _ _ (off' p hp).2.1 z.1, z.2⟩
        · exact off1_of fun p hp => (off' p hp).2.2.1
    · rcases List.mem_cons.mp hp with rfl | hp
      · exact ⟨hacc, Ne.symm lD, hD₀⟩
      rcases List.mem_cons.mp hp with rfl | hp
      · exact ⟨e1, Ne.symm lc, hc₀⟩
      · exact ⟨old _ _ (N p hp).1, (N p hp).2⟩
  exact codeAny_compStart_list (loop _ rfl) (W.self 0 _ _ _ hst4 (loop _ rfl))
end
end
section
open PySem PySem.W PyProof.Rows PySem.Spec PySem.Calls
set_option maxRecDepth 100000
set_option maxHeartbeats 0
noncomputable def sixesOf : List Int → List Int
  | [a, b, c, d, e, f] => sixes a b c d e f
  | _ => []
/-- the eight signs of a word -/
noncomputable def wordCps (ns : List Int) : List Nat := (sixesOf ns).map fun i => (sgn i).toNat
noncomputable def wordText (ns : List Int) : PySem.Str := ⟨(wordCps ns).toArray⟩
noncomputable def lineOf (nss : List (List Int)) : PySem.Str := Txt.join (PySem.Str.ofString " ") (nss.map wordText)
/-- the words as they lie -/
inductive ListIn (rest : Led) (a : Addr) (items : Array PySem.Value) : Prop
  | mk (o : Obj) (c : Nat) (h1 : (a, o) ∈ rest) (h2 : o.cls = .type "list" ∧ o.data = .seq items c) : ListIn rest a items
inductive WordAt (rest : Led) (nss : List (List Int)) (i : Nat) (a : Addr) : Prop
  | mk (n0 n1 n2 n3 n4 n5 : Int) (vs : List PySem.Value) (h1 : nss[i]? = some [n0, n1, n2, n3, n4, n5]) (h2 : ∀ n ∈ [n0, n1, n2, n3, n4, n5], 0 ≤ n ∧ n < 256) (h3 : ListIn rest a vs.toArray) (h4 : IntsAre vs [n0, n1, n2, n3, n4, n5]) : WordAt rest nss i a
def WordsIn (rest : Led) (wd : List Addr) (nss : List (List Int)) : Prop := wd.length = nss.length ∧ ∀ (i : Nat) (a : Addr), wd[i]? = some a → WordAt rest nss i a
section
variable {w : World} {A : Around} {base h₀ : Heap} {L : Addr} {m : LM} {news : Led} {s : Shared} {Q E : PQ}
theorem b64_at (n0 n1 n2 n3 n4 n5 : Int) (i : Nat) (c : UInt8) (h : (b64bytes n0 n1 n2 n3 n4 n5)[i]? = some c) : (wordCps [n0, n1, n2, n3, n4, n5])[i]? = some c.toNat := by
  have h' : (((sixes n0 n1 n2 n3 n4 n5).map sgn).map fun n => n.toNat.toUInt8)[i]? = some c := by simpa [b64bytes] using h
  show ((sixes n0 n1 n2 n3 n4 n5).map fun i => (sgn i).toNat)[i]? = some c.toNat
  rw [List.getElem?_map, List.getElem?_map] at h'
  rw [List.getElem?_map]
  cases e : (sixes n0 n1 n2 n3 n4 n5)[i]? with
  | none => rw [e] at h'; cases h'
  | some k =>
    rw [e] at h'
    have h2 := Option.some.inj h'
    have h3 := sgn_in k
    show some _ = some _
    rw [← h2]
    show some (sgn k).toNat = some ((sgn k).toNat % 256)
    rw [Nat.mod_eq_of_lt (by (first | lia | omega))]
theorem strs_vals : ∀ {vs : List PySem.Value} {ts : List PySem.Str}, StrsAre vs ts → ∃ l : List (PySem.Str × Tok), vs = strValues l ∧ l.map (·.1) = ts
  | _, _, .nil => ⟨[], rfl, rfl⟩
  | _, _, .cons y t h => let ⟨l, h1, h2⟩ := strs_vals h; ⟨(y, t) :: l, congrArg (.str y t :: ·) h1, congrArg (y :: ·) h2⟩
theorem chars_fold : ∀ (cs : List Nat) (acc : Array Nat), (cs.map fun c => (⟨#[c]⟩ : PySem.Str)).foldl (fun acc p => acc ++ (PySem.Str.ofString "").cps ++ p.cps) acc = acc ++ cs.toArray
  | [], acc => by simp
  | c :: cs, acc => by
    rw [List.map_cons, List.foldl_cons, chars_fold cs]
    have : (PySem.Str.ofString "").cps = #[] := rfl
    rw [this]
    simp
theorem join_chars (cs : List Nat) : Txt.join (PySem.Str.ofString "") (cs.map fun c => ⟨#[c]⟩) = ⟨cs.toArray⟩ := by
  cases cs with
  | nil => rfl
  | cons c cs =>
    show (⟨(cs.map fun c => (⟨#[c]⟩ : PySem.Str)).foldl _ #[c]⟩ : PySem.Str) = _
    rw [chars_fold]
    simp
theorem sixes_in {a b c d e f i : Int} (h : i ∈ sixes a b c d e f) : 0 ≤ i ∧ i < 64 := by
  unfold sixes at h
  simp only [List.mem_cons, List.not_mem_nil, or_false] at h
  rcases h with h | h | h | h | h | h | h | h <;> (first | lia | omega)
theorem okCp_sgn : ∀ n : Fin 64, okCp (sigs.getD n.val 0).toNat = true := by decide +kernel
theorem sgn_ok {i : Int} (h0 : 0 ≤ i) (h1 : i < 64) : okCp (sgn i).toNat = true := okCp_sgn ⟨i.toNat, by (first | lia | omega)⟩
theorem wordCps_ok {a b c d e f : Int} {x : Nat} (h : x ∈ wordCps [a, b, c, d, e, f]) : okCp x = true := by
  obtain ⟨i, hi, rfl⟩ := List.mem_map.mp (show x ∈ (sixes a b c d e f).map fun i => (sgn i).toNat from h)
  exact sgn_ok (sixes_in hi).1 (sixes_in hi).2
theorem wordCps_len (a b c d e f : Int) : (wordCps [a, b, c, d, e, f]).length = 8 := rfl
theorem wordText_ok (a b c d e f : Int) : 1 ≤ (wordText [a, b, c, d, e, f]).length ∧ (wordText [a, b, c, d, e, f]).length ≤ 1000 ∧ ∀ i, i < (wordText [a, b, c, d, e, f]).cps.size → okCp ((wordText [a, b, c, d, e, f]).cps.getD i 0) = true := by
  have hl : (wordText [a, b, c, d, e, f]).length = 8 := wordCps_len a b c d e f
  refine ⟨by (first | lia | omega), by (first | lia | omega), fun i hi => ?_⟩
  refine wordCps_ok (a := a) (b := b) (c := c) (d := d) (e := e) (f := f) ?_
  have hi' : i < (wordCps [a, b, c, d, e, f]).length := hi
  show (wordCps [a, b, c, d, e, f]).toArray.getD i 0 ∈ _
  simp [Array.getD, hi']
theorem rows27 : True := by
  k_with_none
  k_with "eval ListComp" => (refine Here.of ?_)
  k_with "CompEnd" => (refine Here.of ?_)
  k_with "pyIter bytes" => (refine Here.of ?_)
  k_with "call type:bytes" => (k_extra "my word")
  k_with "call ref" => (((with_reducible show wpAny _ _ (call (Value.ref 150) _ _) _ _ _); k_dflt (refine' b64_spec (Cx.mk _ _ _ _ _ _ _ _ _ _ _ _ _ _ ?b ?f ?x ?n ?t ?k ?d ?u) ?_; ((case b => k_asm); (case f => k_asm); (case x => k_asm); (case n => k_asm); (case t => k_asm); (case k => first | exact rfl | assumption); (case d => ktr_room); (case u => ktr_units)); (intro _ _ _ _ _))))
  exact trivial
theorem word_elt {dp un : Nat} {gd : Option (List Code)} {cn : PySem.Str} {cs : Scope} {a : Addr} {ccd : PySem.Value} {ccl : List (PySem.Str × Addr)} {outer : List Env} {A₀ : Around} {lo : List PySem.Str} {mean : ExcName → Option PySem.Value} {mg mb : LM} {I C D wa : Addr} {oI oC oD : Obj} {nw : Led} {m₂ : LM} {vs : List PySem.Value} {n0 n1 n2 n3 n4 n5 : Int}
    (B : Below A₀ base outer h₀) (F : Fr h₀ L s.heap m) (X : (K w.params).In h₀) (N : News h₀ L s.heap ((I, oI) :: (C, oC) :: (D, oD) :: nw)) (T : Top q0 lo mean mg mb h₀) (hk : cs.kind = .function) (hd : dp + 20 < recursionLimit) (hu : un + 200 < cLine)
    (hC : LCg.NsObj oC m₂) (hw : m₂ "word" = some (.ref wa)) (hl : h₀.IsList wa vs.toArray) (hv : IntsAre vs [n0, n1, n2, n3, n4, n5]) (hr : ∀ n ∈ [n0, n1, n2, n3, n4, n5], 0 ≤ n ∧ n < 256)
    (hret : ∀ h' tk tk', Fr h₀ L h' m → News h₀ L h' ((I, oI) :: (C, oC) :: (D, oD) :: nw) → Q (.str (wordText [n0, n1, n2, n3, n4, n5]) tk) { s with heap := h', toks := tk' }) :
    wpAny (model P0 w) (ktrTop dp un gd cn cs L a ccd ccl outer) (eval (.Call (.Attribute (.Constant (.str "") 0 ⟨857, 23, 857, 25⟩) "join" ⟨857, 23, 857, 30⟩) [(.ListComp (.Call (.Name "chr" ⟨857, 32, 857, 35⟩) [.Name "octet" ⟨857, 36, 857, 41⟩] [] ⟨857, 32, 857, 42⟩) [⟨.Name "octet" ⟨857, 47, 857, 52⟩, .Call (.Name "b64encode" ⟨857, 56, 857, 65⟩) [.Call (.Name "bytes" ⟨857, 66, 857, 71⟩) [.Name "word" ⟨857, 72, 857, 76⟩] [] ⟨857, 66, 857, 77⟩] [] ⟨857, 56, 857, 78⟩, [], 0⟩] ⟨.function, [(".0", .local), ("octet", .local), ("chr", .globalImplicit)], false, false, []⟩ ⟨857, 31, 857, 79⟩)] [] ⟨857, 23, 857, 80⟩) (compEnvC ⟨.function, [(".0", .local), ("word", .local), ("b64encode", .globalImplicit), ("bytes", .globalImplicit)], false, false, []⟩ [] C (envOf "_law_line" ⟨.function, [("words", .local), ("join_shlex", .globalImplicit)], false, false, [("fast", .str "words"), ("fast", .str "word"), ("fast", .str "octet")]⟩ L 838 (.ref 837)))) Q E s := by
  k_with "my word" => (k_dflt (refine bytes_K (by k_asm) (by k_asm) (IsList.keep hl F) hv hr (by rw [hv.length]; decide) rfl ?_); intro h' t' k' F' N' hB')
  k_steps
  unfold Here
  refine ListComp_W (h₀ := h₀) (L := L) (m := m) rfl (by decide) rfl (by decide) rfl ?_
  k_steps
  unfold Here
  rename_i h5 tk5 F5 N5
  have eb : b64bytes ↑(n0.toNat.toUInt8).toNat ↑(n1.toNat.toUInt8).toNat ↑(n2.toNat.toUInt8).toNat ↑(n3.toNat.toUInt8).toNat ↑(n4.toNat.toUInt8).toNat ↑(n5.toNat.toUInt8).toNat = b64bytes n0 n1 n2 n3 n4 n5 := by
    have b := fun n hn => byte_back (hr n hn).1 (hr n hn).2
    rw [b n0 (.head _), b n1 (.tail _ (.head _)), b n2 (.tail _ (.tail _ (.head _))), b n3 (.tail _ (.tail _ (.tail _ (.head _)))), b n4 (.tail _ (.tail _ (.tail _ (.tail _ (.head _))))), b n5 (.tail _ (.tail _ (.tail _ (.tail _ (.tail _ (.head _))))))]
  show wpAny _ _ (pyIter (.bytes (b64bytes ↑(n0.toNat.toUInt8).toNat ↑(n1.toNat.toUInt8).toNat ↑(n2.toNat.toUInt8).toNat ↑(n3.toNat.toUInt8).toNat ↑(n4.toNat.toUInt8).toNat ↑(n5.toNat.toUInt8).toNat) _)) _ _ _
  rw [eb]
  have hat := b64_at n0 n1 n2 n3 n4 n5
  have hbz : (b64bytes n0 n1 n2 n3 n4 n5).size = (wordCps [n0, n1, n2, n3, n4, n5]).length := rfl
  generalize hbs : b64bytes n0 n1 n2 n3 n4 n5 = bs at hat hbz ⊢
  refine KBw.pyIter_bytes ?_
  refine ⟨h5.objs.size, [h5.objs.size], bs.size, _, _, fun _ => True, (I, oI) :: (C, oC) :: (D, oD) :: nw, rfl, KBw.walks rfl _ bs _, by rw [hbz]; exact (by decide : 8 ≤ sizeLine), fun i h st => let ⟨o, ho, _⟩ := st; ⟨o, ho⟩,
    fun i h h' o nw st e e' _ _ _ => by obtain ⟨o', q, r⟩ := st; rw [e] at q; cases q; exact ⟨o, e', r⟩, ⟨_, Heap.get?_push_size _ rfl, rfl, rfl⟩, fun b hb => ?_, F5.push _, fun p hp => ⟨Heap.get?_push_of_some _ (N5 p hp).1, (N5 p hp).2⟩,
    Nat.ne_of_lt F5.ns.lt, next_is_new F5, fun p hp => Nat.ne_of_lt (Heap.lt_size (N5 p hp).1), trivial,
    comp_ind (fun i ys nw' => nw' = (I, oI) :: (C, oC) :: (D, oD) :: nw ∧ StrsAre ys (((wordCps [n0, n1, n2, n3, n4, n5]).take i).map fun c => ⟨#[c]⟩)) ?_ ?_ bs.size 0 [] _ (Nat.zero_add _) ⟨rfl, .nil⟩⟩
  · show b < (h5.objs.push _).size
    rw [Array.size_push, List.mem_singleton.mp hb]; exact Nat.lt_succ_self _
  · rintro ys _ ⟨rfl, hs⟩ D' h' tk' F6 N6 o1
    rw [hbz, List.take_length] at hs
    obtain ⟨l, rfl, hl2⟩ := strs_vals hs
    refine args_nil ?_
    refine SC.join (x := PySem.Str.ofString "") (l := l) ⟨_, (N6 _ (.head _)).1, rfl, _, rfl⟩ hl2 (by kernel_rfl) fun t' k' => ?_
    rw [join_chars]
    exact hret h' t' k' F6 fun p hp => N6 p (.tail _ hp)
  · rintro i ys _ v I6 o6 C6 oC6 D6 m6 h6 tk6 E6 hi ⟨rfl, hs⟩ ⟨c, u, hc, rfl⟩ hC6 hx6 F6 N6 off6 ne6
    k_steps
    have hlt := c.toNat_lt
    refine chr_of_range (by (first | lia | omega)) (by (first | lia | omega)) ?_
    refine LCg.CompEnd.intro (all := (I6, o6) :: (C6, oC6) :: (D6, LCg.lst ys) :: (I, oI) :: (C, oC) :: (D, oD) :: nw) F6 N6 _ (fun _ h => h) off6 trivial ⟨rfl, ?_⟩
    rw [List.take_add_one, List.map_append, hat i c hc]
    exact strsAre_append hs (.cons _ _ .nil)
end
end
section
open PySem PySem.W PyProof.Rows PySem.Spec PySem.Calls
set_option maxRecDepth 100000
set_option maxHeartbeats 0
section
variable {w : World} {A : Around} {base h₀ : Heap} {L : Addr} {m : LM} {news : Led} {s : Shared} {Q E : PQ}
theorem rows28 : True := by
  k_with_none
  k_with "eval ListComp" => (refine Here.of ?_)
  k_with "CompEnd" => (refine Here.of ?_)
  k_with "pyIter bytes" => (refine Here.of ?_)
  k_with "call type:type" => (((with_reducible show wpAny _ _ (call (Value.type "type") [Value.bytes _ _]) _ _ _); refine type_bytes ?_))
  exact trivial
theorem line_spec {ps : Array PySem.Value} {wd : List Addr} {nss : List (List Int)} {W : Addr} {rest : Led} (c : Cx w base h₀ L m ((810, PySem.W.X.tableObj ps) :: rest) s.heap 60 600 A) (hoff : ∀ p ∈ rest, p.1 ≠ 810) (hW : ListIn rest W (wd.map PySem.Value.ref).toArray)
    (hwd : WordsIn rest wd nss) (htr : TriplesOk ps.toList) (hG : AllBare s.gens) (hsz : nss.length ≤ 100)
    (hret : ∀ s' more tk, Fr h₀ L s'.heap m → News h₀ L s'.heap ((810, PySem.W.X.tableObj (ps ++ more)) :: rest) → TriplesOk (ps ++ more).toList → AllBare s'.gens → s'.os = s.os → Q (.str (lineOf nss) tk) s') :
    wpAny (model P0 w) A (call (.ref 838) [.ref W]) Q E s := by
  rcases c with ⟨dp, un, gd, cn, cs, a, ccd, cl, outer, A₀, lo, mean, mg, mb, B, F, X, N, T, hk, hd, hu⟩
  refine wpAny_call ?_
  k_dflt (refine' enterP [("words", .ref W)] [(810, PySem.W.X.tableObj ps)] rest ?k1 ?k2 ?k3 ?k4 ?k5 ?kA ?kF ?kK ?h1 ?h2 ?h3 ?k6 ?k7 ?k8 ?k9 ?kB ?c2 ?c3 ?c4 ?c5 ?kG)
  k_dflt ((case kA => exact rfl); (case kF => exact rfl); (case kK => first | exact rfl | assumption); (case k1 => k_asm); (case k2 => k_asm); (case k3 => k_asm); (case k4 => k_asm); (case k5 => k_asm); (case k6 => k_is); (case k7 => k_is); (case k8 => ktr_room); (case k9 => exact kp_binds (by k_in) (fun _ => by kernel_rfl)); (case kB => exact locs rfl); (case c2 => exact rfl); (case c3 => exact rfl); (case c4 => exact rfl); (case c5 => decide); (case h1 => exact fun _ h => by rw [List.mem_singleton.mp h]; exact List.mem_cons_self); (case h2 => exact fun _ h => List.mem_cons_of_mem _ h); (case h3 => exact offOne (by assumption)); (intro g' L' h' FG' F' N' B' X' T' R'); (try dsimp only [List.reverse_cons, List.reverse_nil, List.nil_append, List.cons_append] at F'); (try dsimp only); (try k_fold))
  k_steps
  unfold Here
  have hl : g'.IsList W (wd.map PySem.Value.ref).toArray := (let ⟨o, c, h1, h2, h3⟩ := hW; ⟨o, R' _ h1, h2, c, h3⟩)
  have hwn : (wd.map PySem.Value.ref).toArray.size = nss.length := by simpa using hwd.1
  refine LCg.ListComp_U (h₀ := g') (L := L') (m := fun y => List.lookup y [(PySem.Str.ofString "words", PySem.Value.ref W)].reverse) F' rfl (by decide) rfl (by decide) rfl ?_
  refine nameG_L (C := L') (v := .ref W) F'.ns rfl rfl ?_ (by kernel_rfl) (by kernel_rfl) (by decide)
  refine LCg.CompSrc.base (its := (wd.map PySem.Value.ref).toArray) rfl F' N' hl (Nat.le_trans (by rw [hwn]; exact hsz) (by decide : 100 ≤ sizeLine)) fun g => comp_ind (fun i ys nw => nw = [(810, PySem.W.X.tableObj ps)] ∧ StrsAre ys ((nss.take i).map wordText)) ?_ ?_ _ 0 [] _ (Nat.zero_add _) ⟨rfl, .nil⟩
  · rintro ys _ ⟨rfl, hs⟩ D h6 tk6 F6 N6 o1
    rw [hwn, List.take_length] at hs
    refine args_nil ⟨X'.keeps F6.keep, ?_⟩
    refine join_spec (rest := [(D, LCg.lst ys)]) (cc := ys.length) (ps := ps) (vs := ys) (ts := nss.map wordText) (Cx.mk (dp + 1) (un + 3) _ _ _ _ _ _ _ _ _ _ _ _ B' F6 X' (fun p hp => N6 p (by
      rcases List.mem_cons.mp hp with rfl | hp
      · exact .tail _ (.head _)
      · rw [List.mem_singleton.mp hp]; exact .head _)) T' rfl (by (first | lia | omega)) (by (first | lia | omega))) (fun p hp => by rw [List.mem_singleton.mp hp]; exact fun e => o1.1 e.symm) (.head _) htr hG hs ?_ (by rw [List.length_map]; exact hsz) ?_
    · intro t ht
      obtain ⟨ns, hn, rfl⟩ := List.mem_map.mp ht
      obtain ⟨i, hi⟩ := List.getElem?_of_mem hn
      have hiw : i < wd.length := by rw [hwd.1]; exact (List.getElem?_eq_some_iff.mp hi).1
      obtain ⟨n0, n1, n2, n3, n4, n5, vs, h1, _⟩ := hwd.2 i _ (List.getElem?_eq_getElem hiw)
      rw [hi] at h1
      rw [Option.some.inj h1]
      exact wordText_ok ..
    · intro s' more tk F7 N7 htr7 G7 os7
      refine leaveK_ (news' := [(810, PySem.W.X.tableObj (ps ++ more))]) F7 (fun p hp => N7 p (by rw [List.mem_singleton.mp hp]; exact .head _)) (fun F8 N8 NR => hret s' more tk F8 (fun p hp => ?_) htr7 G7 os7)
      rcases List.mem_cons.mp hp with rfl | hp
      · exact N8 _ (.head _)
      · exact NR _ hp
  · rintro i ys _ v I oI C oC D m₂ h6 tk6 E6 hi ⟨rfl, hs⟩ hv hC hx F6 N6 off6 ne6
    obtain ⟨a6, ha, rfl⟩ : ∃ a6, wd[i]? = some a6 ∧ v = .ref a6 := by
      have : (wd.map PySem.Value.ref)[i]? = some v := by simpa using hv
      rw [List.getElem?_map] at this
      cases e : wd[i]? with
      | none => rw [e] at this; cases this
      | some b => rw [e] at this; exact ⟨b, rfl, (Option.some.inj this).symm⟩
    obtain ⟨n0, n1, n2, n3, n4, n5, vs, h1, h2, h3, h4⟩ := hwd.2 i a6 ha
    refine word_elt (dp := dp + 1) (un := un + 3) (vs := vs) (n0 := n0) (n1 := n1) (n2 := n2) (n3 := n3) (n4 := n4) (n5 := n5) (wa := a6) (m₂ := m₂) B' F6 X' N6 T' rfl (by (first | lia | omega)) (by (first | lia | omega)) hC hx (let ⟨o, c, k1, k2, k3⟩ := h3; ⟨o, R' _ k1, k2, c, k3⟩) h4 h2 fun h7 tk7 tk8 F7 N7 => ?_
    refine LCg.CompEnd.intro F7 N7 _ (fun _ h => h) off6 (.inl hl) ⟨rfl, ?_⟩
    rw [List.take_add_one, List.map_append, h1]
    exact strsAre_append hs (.cons _ _ .nil)
end
end
section
open PySem PySem.W PyProof.Rows PySem.Spec PySem.Calls
set_option maxRecDepth 100000
set_option maxHeartbeats 4000000
section
variable {w : World} {A : Around} {E : PQ} {s : Shared} {h₀ : Heap} {env : Env} {iter : PySem.Expr} {x : PySem.Str} {px pos : Pos} {body : List Stmt} {Q : Flow → Shared → Prop}
inductive ForPost (h₀ : Heap) (L I : Addr) (s₂ : Shared) (oI : Obj) (J : LM → Heap → Prop) (f : Flow) (s₃ : Shared) : Prop
  | mk (h1 : f = .next) (h' : Heap) (tk' : Nat) (m₂ : LM) (h2 : s₃ = { s₂ with heap := h', toks := tk' }) (h3 : Fr h₀ L h' m₂) (h4 : J m₂ h') (h5 : h'.get? I = some oI) : ForPost h₀ L I s₂ oI J f s₃
inductive ForIn (w : World) (A : Around) (E : PQ) (h₀ : Heap) (env : Env) (x : PySem.Str) (body : List Stmt) (Q : Flow → Shared → Prop) (J : Addr → Nat → LM → Heap → Prop) (it : PySem.Value) (s₂ : Shared) : Prop
  | mk (I : Addr) (n : Nat) (P : Nat → PySem.Value → Prop) (St : Nat → Heap → Prop) (m : LM) (h1 : it = .ref I) (h2 : Walks P0 w A I [I] [I] n P St) (h3 : ∀ i h, St i h → ∃ o, h.get? I = some o)
      (h4 : ∀ i h h' o, St i h → h.get? I = some o → h'.get? I = some o → St i h') (h5 : St 0 s₂.heap) (h6 : Fr h₀ env.locals s₂.heap m) (h7 : env.locals ≠ I) (h8 : h₀.get? I = none) (h9 : J I 0 m s₂.heap)
      (h10 : ∀ i m h h', J I i m h → (∀ b o, b ≠ I → b ≠ env.locals → h.get? b = some o → h'.get? b = some o) → J I i m h')
      (h11 : ∀ i v m₁ oI h tk, i < n → P i v → J I i m₁ h → Fr h₀ env.locals h (fun y => if y = x then some v else m₁ y) → h.get? I = some oI →
        wpAny (model P0 w) A (execs body env) (ForPost h₀ env.locals I s₂ oI (J I (i + 1))) E { s₂ with heap := h, toks := tk })
      (h12 : ∀ h tk m, J I n m h → Fr h₀ env.locals h m → Q .next { s₂ with heap := h, toks := tk }) : ForIn w A E h₀ env x body Q J it s₂
inductive ForJ (h₀ : Heap) (L I : Addr) (s₂ : Shared) (n : Nat) (St : Nat → Heap → Prop) (J : Addr → Nat → LM → Heap → Prop) (k : Nat) (s' : Shared) : Prop
  | mk (h' : Heap) (tk : Nat) (i : Nat) (m' : LM) (h1 : s' = { s₂ with heap := h', toks := tk }) (h2 : i ≤ n) (h3 : k = n - i) (h4 : St i h') (h5 : Fr h₀ L h' m') (h6 : J I i m' h') : ForJ h₀ L I s₂ n St J k s'
/-- a for loop by an invariant on the names and the heap -/
theorem For_inv (J : Addr → Nat → LM → Heap → Prop) (hx : env.kindOf x = some .local) (hp : (env.scope.kind == .class || (env.scope.kind == .module && env.locals != env.globals)) = false)
    (h : wpAny (model P0 w) A (eval iter env) (fun xv s₁ => wpAny (model P0 w) A (pyIter xv) (fun it s₂ => ForIn w A E h₀ env x body Q J it s₂) E s₁) E s)
    (hs : ∀ x, foldedSetIterable iter env x = pure x := by intro _; rfl)
    (hE : PassesOwn (model P0 w) A env E := by passes_own) :
    wpAny (model P0 w) A (exec (.For (.Name x px) iter body [] pos) env) Q E s := by
  refine wpAny_For (wpAny_mono h (fun xv s₁ h₁ => wpAny_mono h₁ (fun it s₂ h₂ => ?_) fun _ _ e => e) fun _ _ e => e) hs
  obtain ⟨I, n, P, St, m, rfl, W, hIo, hSt, hst, F, hLI, hI0, h0, hmono, step, fin⟩ := h₂
  refine codeAny_forLoop (ForJ h₀ env.locals I s₂ n St J) ?_ n ⟨_, _, 0, m, rfl, Nat.zero_le _, rfl, hst, F, h0⟩
  rintro k s' ⟨h', tk, i, m', rfl, hi, rfl, hst', F', hJ⟩
  by_cases hlt : i < n
  · refine W.item i _ _ _ hlt hst' fun v h₂ tk₂ hPv hst₂ hk₂ => ?_
    have F₂ : Fr h₀ env.locals h₂ m' := LCg.fr_but F' hk₂ hLI hI0
    refine wpAny_assign_Name (wpAny_storeName_local hx F₂.ns (fun h₃ hn₃ hs₃ => ?_) hp)
    have F₃ : Fr h₀ env.locals h₃ (fun y => if y = x then some v else m' y) := F₂.set hn₃ hs₃
    obtain ⟨oI, hoI⟩ := hIo _ _ hst₂
    have hoI3 : h₃.get? I = some oI := hs₃.extBut _ _ (Ne.symm hLI) hoI
    refine wpAny_passesOwn hE (wpAny_mono (step i v m' oI h₃ _ hlt hPv (hmono _ _ _ _ hJ fun b o hb hbL e => hs₃.extBut b o hbL (hk₂ b o (by simpa using hb) e)) F₃ hoI3) (fun f s₃ hf => ?_) fun _ _ e => e)
    obtain ⟨rfl, h₄, tk₄, m₂, rfl, F₄, hJ₄, hoI4⟩ := hf
    exact ⟨n - (i + 1), by omega, h₄, tk₄, i + 1, m₂, rfl, hlt, rfl, hSt _ _ _ _ (hSt _ _ _ _ hst₂ hoI hoI3) hoI3 hoI4, F₄, hJ₄⟩
  · obtain rfl : i = n := Nat.le_antisymm hi (Nat.not_lt.mp hlt)
    refine W.done _ _ _ hst' fun h₂ tk₂ hk₂ => ?_
    refine wpAny_execs_nil ?_
    exact fin h₂ tk₂ m' (hmono _ _ _ _ hJ fun b o hb _ e => hk₂ b o (by simpa using hb) e) (LCg.fr_but F' hk₂ hLI hI0)
end
end
section
open PySem PySem.W PyProof.Rows PySem.Spec PySem.Calls
set_option maxRecDepth 100000
set_option maxHeartbeats 0
theorem split_maxK {w : World} {A : Around} {E Q : PQ} {s : Shared} {h₀ : Heap} {L : Addr} {m : LM} {news : Led} {x y : PySem.Str} {t u v : Tok} (hF : Fr h₀ L s.heap m) (hN : News h₀ L s.heap news) (hy : (y.length == 0) = false)
    (h : ∀ D l h' k, l.map (·.1) = Txt.splitMax x y 1 → Fr h₀ L h' m → News h₀ L h' ((D, listOf (strValues l).toArray 0) :: news) → (∀ p ∈ news, LT.lt (α := Nat) p.1 D) → Q (.ref D) { s with heap := h', toks := k }) (hsz : x.length + 2 ≤ sizeLine) :
    wpAny (model P0 w) A (call (.builtin "str.split") [.str x t, .str y u, .int 1 v]) Q E s :=
  splitN2A hF hN hy (by decide) (fun l h' k e _ _ _ F N => h _ l h' k e F N fun p hp => Heap.lt_size (hN p hp).1) hsz
theorem noteq_slice {w : World} {A : Around} {E Q : PQ} {s : Shared} {W B : PySem.Str} {t u : Tok} {i j i' j' : Int} (h : Txt.slice W (some i) (some j) = B) (hi : i' = i) (hj : j' = j) (hq : Q (.bool false) s) :
    wpAny (model P0 w) A (compareOp .NotEq (.str (Txt.slice W (some i') (some j')) t) (.str B u)) Q E s := by
  subst hi; subst hj
  refine PyProof.Rows.ne_str ?_
  rw [h]
  simpa using hq
theorem strs_vals2 {a0 a1 : PySem.Str} {l : List (PySem.Str × Tok)} (h : l.map (·.1) = [a0, a1]) : ∃ t0 t1, l = [(a0, t0), (a1, t1)] := by
  match l, h with
  | [(x0, t0), (x1, t1)], h =>
    simp at h
    obtain ⟨rfl, rfl⟩ := h
    exact ⟨t0, t1, rfl⟩
section
variable {w : World} {A : Around} {base h₀ : Heap} {L : Addr} {m : LM} {news : Led} {s : Shared} {Q E : PQ}
theorem strs_of : ∀ {l : List (PySem.Str × Tok)} {ys : List PySem.Str}, l.map (·.1) = ys → StrsAre (strValues l) ys
  | [], _, h => by subst h; exact .nil
  | (y, t) :: l, _, h => by subst h; exact .cons y t (strs_of rfl)
/-- a part of a report, and where it lies in its line -/
inductive FitPart (W : PySem.Str) (i : Nat) (S : PySem.Str) (p p' : Int) : Prop
  | zero (h : i = 0) (h5 : S.length ≤ 200) (e : Txt.slice W (some p) (some (p + S.length)) = S) (hp : p' = p + S.length) : FitPart W i S p p'
  | succ (j : Nat) (h : i = j + 1) (D B : PySem.Str) (n : Int) (h1 : Txt.splitMax S (PySem.Str.ofString " chars]") 1 = [D, B]) (h2 : PySem.intText? D = some n) (h3 : D.length ≤ 80) (h4 : 0 ≤ n) (h5 : S.length ≤ 80) (h6 : B.length ≤ 200) (e : Txt.slice W (some (p + n)) (some (p + n + B.length)) = B) (hp : p' = p + n + B.length) : FitPart W i S p p'
inductive FtJ (g : Heap) (L D : Addr) (R W : PySem.Str) (tr tw : Tok) (l : List (PySem.Str × Tok)) (pos : Nat → Int) (I : Addr) (i : Nat) (m : LM) (h : Heap) : Prop
  | mk (h1 : LT.lt (α := Nat) D I) (h2 : I ≠ L) (h3 : g.get? I = none) (h4 : News g L h [(D, listOf (strValues l).toArray 0)]) (nR : m "report" = some (.str R tr)) (nW : m "whole" = some (.str W tw)) (nP : m "parts" = some (.ref D)) (t : Tok) (nL : m "place" = some (.int (pos i) t)) : FtJ g L D R W tr tw l pos I i m h
theorem loadG_L {C : Addr} {x : PySem.Str} {env : Env} {v : PySem.Value} (hn : s.heap.Ns C m) (hC : env.locals = C) (hv : m x = some v) (h : Q v s) (hk : env.scope.kind = .function) (hx : env.kindOf x = some .local) : wpAny (model P0 w) A (loadName env x) Q E s := wpAny_loadName_local hk hx (hC ▸ hn) hv h
theorem rows29 : True := by
  k_with_none
  k_with "call builtin:str.split" => (refine Here.of ?_)
  k_with "compareOp NotEq str str" => (((with_reducible show wpAny _ _ (compareOp CmpOp.NotEq (Value.str _ _) (Value.str _ _)) _ _ _); k_dflt (refine' noteq_slice ?i0 ?i1 ?i2 ?_; (case i0 => assumption); (case i1 => first | lia | omega); (case i2 => first | lia | omega))))
  exact trivial
theorem fits_gen {R W : PySem.Str} {parts : List PySem.Str} {pos : Nat → Int} {tr tw : Tok} (c : Cx w base h₀ L m news s.heap 8 80 A) (hR : R.length ≤ 80) (hW : W.length ≤ 200) (hs : Txt.split R (PySem.Str.ofString "[") = parts) (hn : parts.length ≤ 100)
    (h0 : pos 0 = 0) (hp : ∀ i S, parts[i]? = some S → FitPart W i S (pos i) (pos (i + 1))) (hpos : ∀ i, 0 ≤ pos i) (hend : pos parts.length = W.length) (hret : Back h₀ L m news s Q (.bool true)) :
    wpAny (model P0 w) A (call (.ref 845) [.str R tr, .str W tw]) Q E s := by
  rcases c with ⟨dp, un, gd, cn, cs, a, ccd, cl, outer, A₀, lo, mean, mg, mb, B, F, X, N, T, hk, hd, hu⟩
  refine wpAny_call ?_
  k_dflt (refine' enterP [("report", .str R tr), ("whole", .str W tw)] [] news ?k1 ?k2 ?k3 ?k4 ?k5 ?kA ?kF ?kK ?h1 ?h2 ?h3 ?k6 ?k7 ?k8 ?k9 ?kB ?c2 ?c3 ?c4 ?c5 ?kG)
  k_dflt ((case kA => exact rfl); (case kF => exact rfl); (case kK => first | exact rfl | assumption); (case k1 => k_asm); (case k2 => k_asm); (case k3 => k_asm); (case k4 => k_asm); (case k5 => k_asm); (case k6 => k_is); (case k7 => k_is); (case k8 => ktr_room))
  case k9 => exact kp_binds (by k_in) (fun _ => by kernel_rfl)
  case kB => exact locs rfl
  case c2 => exact rfl
  case c3 => exact rfl
  case c4 => exact rfl
  case c5 => decide
  case h1 => exact fun _ h => nomatch h
  case h2 => exact fun _ h => h
  case h3 => exact fun _ _ h => nomatch h
  intro g' L' h' FG' F' N' B' X' T' R'
  (try dsimp only [List.reverse_cons, List.reverse_nil, List.nil_append, List.cons_append] at F'); (try dsimp only); (try k_fold)
  k_steps
  unfold Here
  refine KSpl.split1 (by assumption) (by assumption) (by decide) (fun D7 l h7 k7 hl _ F7 N7 lt7 => ?_) (Nat.le_trans (Nat.add_le_add_right hR 2) (by decide))
  have hst := strs_of (hl.trans hs)
  clear hl lt7
  k_with "exec For Name Call cons nil" => refine Here.of ?_
  k_steps
  unfold Here
  rename Fr _ _ _ _ => F8
  rename News _ _ _ _ => N8
  generalize hM : (fun z => if z = PySem.Str.ofString "parts" then _ else _) = M at F8
  have nR : M "report" = some (.str R tr) := by rw [← hM]; rfl
  have nW : M "whole" = some (.str W tw) := by rw [← hM]; rfl
  have nP : M "parts" = some (.ref D7) := by rw [← hM]; rfl
  obtain ⟨t0, nL⟩ : ∃ t0, M "place" = some (.int (pos 0) t0) := ⟨_, by rw [← hM, h0]; rfl⟩
  clear hM
  refine For_inv (h₀ := g') (FtJ g' L' D7 R W tr tw l pos) (by kernel_rfl) (by kernel_rfl) ?_
  k_with "eval Name" => ((with_reducible show wpAny _ _ (eval (Expr.Name (PySem.Str.ofString "parts") _) _) _ _ _); k_dflt (refine nameG_L (C := L') (Fr.ns (by assumption)) rfl nP ?_ (by kernel_rfl) (by kernel_rfl) (by decide)))
  k_with "call builtin:len" => ((with_reducible show wpAny _ _ (call (Value.builtin "len") [Value.ref _]) _ _ _); refine Here.of ?_)
  k_with "pyIter ref" => refine Here.of ?_
  k_steps
  unfold Here
  refine len_strsA (News.isList N8 (.head _)) hst (by first | lia | omega) ?_
  k_steps
  unfold Here
  rename IsRange _ _ _ _ _ _ _ _ => hr9
  rename Fr g' L' _ _ => F9
  rename News g' L' _ _ => N9
  have rs : Builtin.Range.rangeSize 0 (parts.length : Int) 1 = ((parts.length : Nat) : Int) := by rw [rangeSize_one]; split <;> first | lia | omega
  refine wpAny_pyIter_range hr9 (small_one (by decide) (by decide) (by first | lia | omega) (by first | lia | omega)) ?_
  clear hr9
  rename Heap => h9
  have hlt : LT.lt (α := Nat) D7 h9.objs.size := Heap.lt_size (N9 _ (.head _)).1
  refine ⟨h9.objs.size, parts.length, _, _, M, rfl, LCg.range_walks rfl 0 parts.length, fun i h st => ⟨_, st⟩, fun i h h' o st e e' => ?_, ?_, F9.push _, Nat.ne_of_lt F9.ns.lt, next_is_new F9, ⟨hlt, Ne.symm (Nat.ne_of_lt F9.ns.lt), next_is_new F9, fun p hp => ⟨Heap.get?_push_of_some _ (N9 p hp).1, (N9 p hp).2⟩, nR, nW, nP, t0, nL⟩, ?_, ?_, ?_⟩
  · have st' : h.get? _ = some _ := st
    show h'.get? _ = some _
    rw [e', ← e]; exact st'
  · show (h9.push _).get? h9.objs.size = some _
    rw [rs]
    exact Heap.get?_push_size h9 rfl
  · rintro i m h h' ⟨a1, a2, a3, a4, a5, a6, a7, t, a8⟩ kk
    exact ⟨a1, a2, a3, fun p hp => ⟨kk _ _ (by rw [List.mem_singleton.mp hp]; exact Nat.ne_of_lt a1) (a4 p hp).2.1 (a4 p hp).1, (a4 p hp).2⟩, a5, a6, a7, t, a8⟩
  · generalize h9.objs.size = I9
    clear F9 N9 nR nW nP nL hlt rs
    rintro i v m₁ oI h10 tk10 hi ⟨t10, rfl⟩ ⟨a1, a2, a3, a4, nR, nW, nP, t, nL⟩ F10 hoI
    rw [Int.zero_add] at F10
    replace F10 : Fr g' L' h10 _ := F10
    have N10 : News g' L' h10 [(I9, oI), (D7, listOf (strValues l).toArray 0)] := fun p hp => by
      rcases List.mem_cons.mp hp with rfl | hp
      · exact ⟨hoI, a2, a3⟩
      · exact a4 p hp
    clear a4
    have mR : (fun y => if y = PySem.Str.ofString "k" then some (PySem.Value.int (i : Int) t10) else m₁ y) "report" = some (.str R tr) := nR
    have mW : (fun y => if y = PySem.Str.ofString "k" then some (PySem.Value.int (i : Int) t10) else m₁ y) "whole" = some (.str W tw) := nW
    have mP : (fun y => if y = PySem.Str.ofString "k" then some (PySem.Value.int (i : Int) t10) else m₁ y) "parts" = some (.ref D7) := nP
    have mL : (fun y => if y = PySem.Str.ofString "k" then some (PySem.Value.int (i : Int) t10) else m₁ y) "place" = some (.int (pos i) t) := nL
    have mK : (fun y => if y = PySem.Str.ofString "k" then some (PySem.Value.int (i : Int) t10) else m₁ y) "k" = some (.int (i : Int) t10) := rfl
    generalize (fun y => if y = PySem.Str.ofString "k" then some (PySem.Value.int (i : Int) t10) else m₁ y) = M1 at F10 mR mW mP mL mK
    clear nR nW nP nL
    obtain ⟨S, hS⟩ : ∃ S, parts[i]? = some S := ⟨_, List.getElem?_eq_getElem hi⟩
    have hSd : parts.getD i PySem.Str.empty = S := by rw [List.getD_eq_getElem?_getD, hS]; rfl
    k_with "eval Name" => (first | ((with_reducible show wpAny _ _ (eval (Expr.Name (PySem.Str.ofString "report") _) _) _ _ _); k_dflt (refine nameG_L (C := L') (Fr.ns (by assumption)) rfl (by repeat (first | exact mR | refine (if_neg (by decide)).trans ?_)) ?_ (by kernel_rfl) (by kernel_rfl) (by decide))) | ((with_reducible show wpAny _ _ (eval (Expr.Name (PySem.Str.ofString "whole") _) _) _ _ _); k_dflt (refine nameG_L (C := L') (Fr.ns (by assumption)) rfl (by repeat (first | exact mW | refine (if_neg (by decide)).trans ?_)) ?_ (by kernel_rfl) (by kernel_rfl) (by decide))) | ((with_reducible show wpAny _ _ (eval (Expr.Name (PySem.Str.ofString "parts") _) _) _ _ _); k_dflt (refine nameG_L (C := L') (Fr.ns (by assumption)) rfl (by repeat (first | exact mP | refine (if_neg (by decide)).trans ?_)) ?_ (by kernel_rfl) (by kernel_rfl) (by decide))) | ((with_reducible show wpAny _ _ (eval (Expr.Name (PySem.Str.ofString "place") _) _) _ _ _); k_dflt (refine nameG_L (C := L') (Fr.ns (by assumption)) rfl (by repeat (first | exact mL | refine (if_neg (by decide)).trans ?_)) ?_ (by kernel_rfl) (by kernel_rfl) (by decide))) | ((with_reducible show wpAny _ _ (eval (Expr.Name (PySem.Str.ofString "k") _) _) _ _ _); k_dflt (refine nameG_L (C := L') (Fr.ns (by assumption)) rfl (by repeat (first | exact mK | refine (if_neg (by decide)).trans ?_)) ?_ (by kernel_rfl) (by kernel_rfl) (by decide))))
    k_with "subscriptTail" => ((with_reducible show wpAny _ _ (subscriptTail _ _ (Value.ref _) (Value.int _ _)) _ _ _); refine Here.of ?_)
    k_with "subscriptTail Name Name ref int" => refine Here.of ?_
    k_with "ForPost" => refine Here.of ?_
    k_with "loadName" => (k_dflt (refine loadG_L (C := L') (Fr.ns (by assumption)) rfl (by repeat (first | exact mL | refine (if_neg (by decide)).trans ?_)) ?_ (by kernel_rfl) (by kernel_rfl)))
    k_steps
    unfold Here
    refine item_strsA (l := strValues l) (ys := parts) (News.isList (by assumption) (.tail _ (.head _))) hst (Int.natCast_nonneg _) (by first | lia | omega) (by first | lia | omega) (fun tS => ?_)
    rw [Int.toNat_natCast, hSd]
    rcases hp i S hS with ⟨rfl, h5, e0, ep⟩ | ⟨j, rfl, D, Bt, n, h1, h2, h3, h4, h5, h6, e, ep⟩
    · have hq := hpos 0
      k_steps
      unfold Here
      rename Fr g' L' _ _ => FZ
      rename News g' L' _ _ => NZ
      exact ⟨rfl, _, _, _, rfl, FZ, ⟨a1, a2, a3, fun p hp => NZ p (.tail _ hp), (by repeat (first | exact mR | refine (if_neg (by decide)).trans ?_)), (by repeat (first | exact mW | refine (if_neg (by decide)).trans ?_)), (by repeat (first | exact mP | refine (if_neg (by decide)).trans ?_)), _, (if_pos rfl).trans (congrArg (fun x : Int => some (PySem.Value.int x _)) ep.symm)⟩, (NZ _ (.head _)).1⟩
    · have hq := hpos (j + 1)
      k_steps
      unfold Here
      refine split_maxK (by assumption) (by assumption) (by decide) (fun E1 l1 h11 k11 hl F11 N11 lt11 => ?_) (Nat.le_trans (Nat.add_le_add_right h5 2) (by decide))
      obtain ⟨u1, v1, rfl⟩ := strs_vals2 (hl.trans h1)
      clear hl
      simp only [List.mem_cons, List.not_mem_nil, or_false, forall_eq_or_imp, forall_eq] at lt11
      rw [show strValues [(D, u1), (Bt, v1)] = [.str D u1, .str Bt v1] from rfl] at N11
      k_steps
      unfold Here
      rename Fr g' L' _ _ => FZ
      rename News g' L' _ _ => NZ
      exact ⟨rfl, _, _, _, rfl, FZ, ⟨a1, a2, a3, fun p hp => NZ p (.tail _ (.tail _ hp)), (by repeat (first | exact mR | refine (if_neg (by decide)).trans ?_)), (by repeat (first | exact mW | refine (if_neg (by decide)).trans ?_)), (by repeat (first | exact mP | refine (if_neg (by decide)).trans ?_)), _, (if_pos rfl).trans (congrArg (fun x : Int => some (PySem.Value.int x _)) ep.symm)⟩, (NZ _ (.tail _ (.head _))).1⟩
  · rintro h10 tk10 m10 ⟨_, _, _, a4, mR, mW, _, t, mL⟩ F10
    replace F10 : Fr g' L' h10 m10 := F10
    rw [hend] at mL
    clear F9 N9 nR nW nP nL
    dsimp only
    k_with "eval Name" => (first | ((with_reducible show wpAny _ _ (eval (Expr.Name (PySem.Str.ofString "report") _) _) _ _ _); k_dflt (refine nameG_L (C := L') (Fr.ns (by assumption)) rfl mR ?_ (by kernel_rfl) (by kernel_rfl) (by decide))) | ((with_reducible show wpAny _ _ (eval (Expr.Name (PySem.Str.ofString "whole") _) _) _ _ _); k_dflt (refine nameG_L (C := L') (Fr.ns (by assumption)) rfl mW ?_ (by kernel_rfl) (by kernel_rfl) (by decide))) | ((with_reducible show wpAny _ _ (eval (Expr.Name (PySem.Str.ofString "place") _) _) _ _ _); k_dflt (refine nameG_L (C := L') (Fr.ns (by assumption)) rfl mL ?_ (by kernel_rfl) (by kernel_rfl) (by decide))))
    k_steps
    · exact (congrArg (fun b => Q (PySem.Value.bool b) _) (decide_eq_true (Int.ofNat_le.mpr hR) : decide ((R.length : Int) ≤ 80) = true)).mpr (hret _ _ (by k_asm) (by k_asm))
    · exact absurd rfl (by assumption)
end
end
section
open PySem PySem.W PyProof.Rows PySem.Spec PySem.Calls
set_option maxRecDepth 100000
set_option maxHeartbeats 0
theorem ints_at : ∀ {vs : List PySem.Value} {ns : List Int}, IntsAre vs ns → ∀ {i : Nat}, i < ns.length → ∃ t, vs[i]? = some (.int (ns.getD i 0) t)
  | _, _, .nil, i, h => absurd h (Nat.not_lt_zero _)
  | _, _, .cons n t _, 0, _ => ⟨t, rfl⟩
  | _, _, .cons n t h, i + 1, hi => ints_at h (i := i) (Nat.lt_of_succ_lt_succ hi)
def WordOk (ns : List Int) : Prop := ns.length = 6 ∧ ∀ n ∈ ns, 0 ≤ n ∧ n < 256
inductive PoAt (g : Heap) (L : Addr) (h : Heap) (nss : List (List Int)) (i : Nat) (a : Addr) : Prop
  | mk (ns : List Int) (vs : List PySem.Value) (h1 : nss[i]? = some ns) (h2 : WordOk ns) (h3 : h.IsList a vs.toArray) (h4 : IntsAre vs ns ∧ g.get? a = none ∧ a ≠ L) : PoAt g L h nss i a
inductive LoAt (nss : List (List Int)) (nw : Led) (j : Nat) (a : Addr) : Prop
  | mk (ns : List Int) (vs : List PySem.Value) (c : Nat) (h1 : nss[j]? = some ns) (h2 : WordOk ns) (h3 : (a, LObj vs.toArray c) ∈ nw) (h4 : IntsAre vs ns) : LoAt nss nw j a
inductive LoI (nss : List (List Int)) (i : Nat) (ys : List PySem.Value) (nw : Led) : Prop
  | mk (wd2 : List Addr) (h1 : ys = List.map PySem.Value.ref wd2) (h2 : wd2.Nodup) (h3 : wd2.length = i) (h4 : ∀ p ∈ nw, p.1 ∈ wd2) (h5 : ∀ (j : Nat) (a : Addr), wd2[j]? = some a → LoAt nss nw j a) : LoI nss i ys nw
/-- words of one's own, apart from one another -/
structure PO (g : Heap) (L : Addr) (h : Heap) (O : Addr) (wd : List Addr) (nss : List (List Int)) : Prop where
  list : h.IsList O (wd.map PySem.Value.ref).toArray
  of : g.get? O = none ∧ O ≠ L
  len : wd.length = nss.length
  nd : (O :: wd).Nodup
  at_ : ∀ (i : Nat) (a : Addr), wd[i]? = some a → PoAt g L h nss i a
theorem PO.keeps {g h h' : Heap} {L O : Addr} {wd : List Addr} {nss : List (List Int)} (x : PO g L h O wd nss) (k : ∀ b o, b = O ∨ b ∈ wd → h.get? b = some o → h'.get? b = some o) : PO g L h' O wd nss :=
  ⟨(let ⟨o, e, r⟩ := x.list; ⟨o, k _ _ (.inl rfl) e, r⟩), x.of, x.len, x.nd, fun i a hi => let ⟨ns, vs, h1, h2, ⟨o, e, r⟩, h4⟩ := x.at_ i a hi; ⟨ns, vs, h1, h2, ⟨o, k _ _ (.inr (List.mem_of_getElem? hi)) e, r⟩, h4⟩⟩
noncomputable def stOther (nss : List (List Int)) (word octet : Nat) (bits : Int) (turned : Bool) (lim : Nat) : List (List Int) :=
  nss.mapIdx fun i r => if i = word then r.set octet (Builtin.bitXor (r.getD octet 0) bits) else if word < i ∧ i < lim ∧ turned = true then r.reverse else r
noncomputable def otherOf (nss : List (List Int)) (word octet : Nat) (bits : Int) (turned : Bool) : List (List Int) := stOther nss word octet bits turned nss.length
theorem LCg_off1 {D : Addr} : ∀ {l : Led}, LCg.Off1 D l → ∀ p ∈ l, p.1 ≠ D
  | [], _, _, h => nomatch h
  | _ :: _, x, p, h => by
    rcases List.mem_cons.mp h with rfl | h
    · exact x.1
    · exact LCg_off1 x.2 p h
theorem six_of {ns : List Int} (h : ns.length = 6) : ∃ n0 n1 n2 n3 n4 n5, ns = [n0, n1, n2, n3, n4, n5] := by
  match ns, h with
  | [a, b, c, d, e, f], _ => exact ⟨a, b, c, d, e, f, rfl⟩
theorem pick_rev {ns : List Int} (h : ns.length = 6) : pickNums ns none none (some (-1)) = ns.reverse := by
  obtain ⟨n0, n1, n2, n3, n4, n5, rfl⟩ := six_of h
  have e : sliceRange (sliceBounds none none (some (-1)) 6).1 (sliceBounds none none (some (-1)) 6).2.1 (sliceBounds none none (some (-1)) 6).2.2 = [5, 4, 3, 2, 1, 0] := by decide +kernel
  show (sliceRange (sliceBounds none none (some (-1)) 6).1 (sliceBounds none none (some (-1)) 6).2.1 (sliceBounds none none (some (-1)) 6).2.2).filterMap _ = _
  rw [e]
  rfl
theorem tail_list {A : Around} {E : PQ} {value slice : PySem.Expr} {l : Addr} {items : Array PySem.Value} {k : Int} {t : Tok} {x : PySem.Value} {Q : PQ} {w : World} {s : Shared} (hl : s.heap.IsList l items) (h0 : 0 ≤ k) (hfit : k < 2 ^ 63) (hx : items[k.toNat]? = some x) (h : Q x s)
    (hs : subscripted slice false (.ref l) (.int k t) = operate [.ref l, .int k t] (getItem (.ref l) (.int k t)) := by with_unfolding_all rfl) :
    wpAny (model P0 w) A (subscriptTail value slice (.ref l) (.int k t)) Q E s := by
  have hT := hl.typeIs
  unfold subscriptTail
  refine wpAny_bind ?_
  rw [getitemInPython_of_ne hT.not_modules]
  refine wpAny_bind (wpAny_specialOf hT slot_list_getitem.lookup ?_)
  have fin : wpAny (model P0 w) A (subscripted slice false (.ref l) (.int k t)) (fun r s₃ => wpAny (model P0 w) A (letTemporaryGo value (.ref l) r >>= fun _ => pure r) Q E s₃) E s := by
    rw [hs]
    exact wpAny_operating (wpAny_mono (wpAny_getItem_list (Q := Q) hl h0 hfit hx h) (fun r s₃ h₃ => wpAny_bind (wpAny_letTemporaryGo (wpAny_pure h₃))) fun _ _ x => x)
  first
    | exact wpAny_pure (wpAny_bind fin)
    | exact wpAny_bind (wpAny_pure (wpAny_bind fin))
    | exact wpAny_bind fin
theorem PO.turn {g h h' : Heap} {L O a : Addr} {wd : List Addr} {nss : List (List Int)} {k : Nat} {vs' : List PySem.Value} {ns' : List Int} (x : PO g L h O wd nss) (hk : wd[k]? = some a) (l : h'.IsList a vs'.toArray) (hs : Heap.SameBut a h h') (hi : IntsAre vs' ns') (hok : WordOk ns') : PO g L h' O wd (nss.set k ns') := by
  have hO : O ≠ a := fun e => (List.nodup_cons.mp x.nd).1 (e ▸ List.mem_of_getElem? hk)
  have hnd := (List.nodup_cons.mp x.nd).2
  refine ⟨(let ⟨o, e, r⟩ := x.list; ⟨o, hs.extBut _ _ hO e, r⟩), x.of, by rw [List.length_set]; exact x.len, x.nd, fun i b hb => ?_⟩
  by_cases hik : i = k
  · subst hik
    rw [hk] at hb
    obtain rfl := Option.some.inj hb
    obtain ⟨ns, vs, h1, h2, h3, h4, h5⟩ := x.at_ i a hk
    exact ⟨ns', vs', by rw [List.getElem?_set_self (List.getElem?_eq_some_iff.mp h1).1], hok, l, hi, h5⟩
  · obtain ⟨ns, vs, h1, h2, ⟨o, e, r⟩, h4⟩ := x.at_ i b hb
    have hba : b ≠ a := fun e => hik (by
      subst e
      obtain ⟨p1, e1⟩ := List.getElem?_eq_some_iff.mp hb
      obtain ⟨p2, e2⟩ := List.getElem?_eq_some_iff.mp hk
      exact (List.getElem_inj hnd).mp (e1.trans e2.symm))
    exact ⟨ns, vs, by rw [List.getElem?_set_ne (Ne.symm hik)]; exact h1, h2, ⟨o, hs.extBut _ _ hba e, r⟩, h4⟩
theorem PO.swap {g h h' : Heap} {L O b : Addr} {wd : List Addr} {nss : List (List Int)} {k : Nat} {vs' : List PySem.Value} {ns' : List Int} (x : PO g L h O wd nss) (hk : k < wd.length) (l : h'.IsList O ((wd.set k b).map PySem.Value.ref).toArray) (keep : ∀ c o, c ∈ wd → h.get? c = some o → h'.get? c = some o)
    (hb : h'.IsList b vs'.toArray) (hi : IntsAre vs' ns') (hok : WordOk ns') (hbn : b ∉ O :: wd) (hbg : g.get? b = none ∧ b ≠ L) : PO g L h' O (wd.set k b) (nss.set k ns') := by
  obtain ⟨hO, hnd⟩ := List.nodup_cons.mp x.nd
  have hbO : b ≠ O := fun e => hbn (e ▸ List.mem_cons_self)
  have hbw : b ∉ wd := fun e => hbn (List.mem_cons_of_mem _ e)
  refine ⟨l, x.of, by rw [List.length_set, List.length_set]; exact x.len, List.nodup_cons.mpr ⟨fun hm => ?_, ?_⟩, fun i c hc => ?_⟩
  · rcases List.mem_or_eq_of_mem_set hm with hm | hm
    · exact hO hm
    · exact hbO hm.symm
  · rw [List.nodup_iff_pairwise_ne, List.pairwise_iff_getElem]
    intro i j hi hj hij he
    rw [List.length_set] at hi hj
    rw [List.getElem_set, List.getElem_set] at he
    by_cases h1 : k = i <;> by_cases h2 : k = j
    · (first | lia | omega)
    · rw [if_pos h1, if_neg h2] at he
      exact hbw (he ▸ List.getElem_mem _)
    · rw [if_neg h1, if_pos h2] at he
      exact hbw (he ▸ List.getElem_mem _)
    · rw [if_neg h1, if_neg h2] at he
      exact absurd ((List.getElem_inj hnd).mp he) (Nat.ne_of_lt hij)
  · rw [List.getElem?_set] at hc
    by_cases hki : k = i
    · subst hki
      rw [if_pos rfl, if_pos hk] at hc
      obtain rfl := Option.some.inj hc
      exact ⟨ns', vs', by rw [List.getElem?_set_self (by rw [← x.len]; exact hk)], hok, hb, hi, hbg⟩
    · rw [if_neg hki] at hc
      obtain ⟨ns, vs, h1, h2, ⟨o, e, r⟩, h4⟩ := x.at_ i c hc
      exact ⟨ns, vs, by rw [List.getElem?_set_ne hki]; exact h1, h2, ⟨o, keep _ _ (List.mem_of_getElem? hc) e, r⟩, h4⟩
theorem ints_set : ∀ {vs : List PySem.Value} {ns : List Int}, IntsAre vs ns → ∀ (i : Nat) (n : Int) (t : Tok), IntsAre (vs.set i (.int n t)) (ns.set i n)
  | _, _, .nil, _, _, _ => .nil
  | _, _, .cons _ _ h, 0, n, t => .cons n t h
  | _, _, .cons m u h, i + 1, n, t => .cons m u (ints_set h i n t)
theorem wordOk_set {ns : List Int} {i : Nat} {n : Int} (h : WordOk ns) (h0 : 0 ≤ n) (h1 : n < 256) : WordOk (ns.set i n) :=
  ⟨by rw [List.length_set]; exact h.1, fun m hm => (List.mem_or_eq_of_mem_set hm).elim (h.2 m) fun e => e ▸ ⟨h0, h1⟩⟩
theorem st_first {nss : List (List Int)} {word octet : Nat} {bits : Int} {turned : Bool} {ns : List Int} (h : nss[word]? = some ns) :
    nss.set word (ns.set octet (Builtin.bitXor (ns.getD octet 0) bits)) = stOther nss word octet bits turned (word + 1) := by
  apply List.ext_getElem?
  intro i
  unfold stOther
  rw [List.getElem?_mapIdx, List.getElem?_set]
  by_cases hi : word = i
  · subst hi
    rw [if_pos rfl, if_pos (List.getElem?_eq_some_iff.mp h).1, h]
    simp
  · rw [if_neg hi]
    cases e : nss[i]? with
    | none => rfl
    | some r =>
      simp only [Option.map_some]
      rw [if_neg (Ne.symm hi), if_neg (by (first | lia | omega))]
theorem st_next {nss : List (List Int)} {word octet k : Nat} {bits : Int} {turned : Bool} {ns : List Int} (hk : word < k) (h : (stOther nss word octet bits turned k)[k]? = some ns) :
    stOther nss word octet bits turned (k + 1) = if turned = true then (stOther nss word octet bits turned k).set k ns.reverse else stOther nss word octet bits turned k := by
  have h0 : nss[k]? = some ns := by
    unfold stOther at h
    rw [List.getElem?_mapIdx] at h
    cases e : nss[k]? with
    | none => rw [e] at h; cases h
    | some r => rw [e] at h; simp only [Option.map_some] at h; rw [if_neg (by (first | lia | omega)), if_neg (by (first | lia | omega))] at h; exact h
  apply List.ext_getElem?
  intro i
  cases turned with
  | false => simp [stOther]
  | true =>
    rw [if_pos rfl, List.getElem?_set]
    have hl : k < (stOther nss word octet bits true k).length := (List.getElem?_eq_some_iff.mp h).1
    by_cases hi : k = i
    · subst hi
      rw [if_pos rfl, if_pos hl]
      unfold stOther
      rw [List.getElem?_mapIdx, h0]
      simp only [Option.map_some]
      rw [if_neg (by (first | lia | omega)), if_pos ⟨hk, Nat.lt_succ_self _, trivial⟩]
    · rw [if_neg hi]
      unfold stOther
      rw [List.getElem?_mapIdx, List.getElem?_mapIdx]
      cases e : nss[i]? with
      | none => rfl
      | some r =>
        simp only [Option.map_some]
        by_cases hw : i = word
        · rw [if_pos hw, if_pos hw]
        · rw [if_neg hw, if_neg hw]
          by_cases hc : word < i ∧ i < k
          · rw [if_pos ⟨hc.1, by (first | lia | omega), trivial⟩, if_pos ⟨hc.1, hc.2, trivial⟩]
          · rw [if_neg (fun z => hc ⟨z.1, by (first | lia | omega)⟩), if_neg (fun z => hc ⟨z.1, z.2.1⟩)]
theorem tail_slice {A : Around} {E : PQ} {value slice : PySem.Expr} {l : Addr} {items : Array PySem.Value} {vl vu vk : PySem.Value} {lo hi st : Option Int} {ops : List PySem.Value} {Q : PQ} {w : World} {s : Shared} (hl : s.heap.IsList l items) (pl : IsPart vl lo) (pu : IsPart vu hi) (pk : IsPart vk st) (h0 : st ≠ some 0)
    (h : ∀ h', (∀ b o, s.heap.get? b = some o → h'.get? b = some o) → h'.IsList (s.heap.objs.size + 1) (slicePick items lo hi st) → Q (.ref (s.heap.objs.size + 1)) { s with heap := h' }) (hsz : items.size ≤ sizeLine)
    (hs : subscripted slice false (.ref l) (.ref s.heap.objs.size) = operate ops (getItem (.ref l) (.ref s.heap.objs.size)) := by with_unfolding_all rfl) :
    wpAny (model P0 w) A (subscriptTail value slice (.ref l) (.ref s.heap.objs.size)) Q E { s with heap := s.heap.push { cls := .type "slice", data := .fields #[vl, vu, vk] } } := by
  have hT := Heap.IsList.typeIs (s := { s with heap := s.heap.push { cls := .type "slice", data := .fields #[vl, vu, vk] } }) (hl.push _)
  unfold subscriptTail
  refine wpAny_bind ?_
  rw [getitemInPython_of_ne hT.not_modules]
  refine wpAny_bind (wpAny_specialOf hT list_getitem_lookup ?_)
  have fin : wpAny (model P0 w) A (subscripted slice false (.ref l) (.ref s.heap.objs.size)) (fun r s₃ => wpAny (model P0 w) A (letTemporaryGo value (.ref l) r >>= fun _ => pure r) Q E s₃) E { s with heap := s.heap.push { cls := .type "slice", data := .fields #[vl, vu, vk] } } := by
    rw [hs]
    refine wpAny_operating (wpAny_mono (wpAny_getItem_list_slice (Q := Q) (hl.push _) (Heap.IsSliceOf.new ..) pl pu pk h0 ?_ hsz) (fun r s₃ h₃ => wpAny_bind (wpAny_letTemporaryGo (wpAny_pure h₃))) fun _ _ x => x)
    show Q (.ref (s.heap.push _).objs.size) _
    rw [Heap.size_push]
    refine h _ (fun b o e => Heap.get?_push_of_some _ (Heap.get?_push_of_some _ e)) ?_
    have := Heap.get?_push_size (s.heap.push { cls := .type "slice", data := .fields #[vl, vu, vk] }) (o := { cls := .type "list", data := .seq (slicePick items lo hi st) }) rfl
    rw [Heap.size_push] at this
    exact ⟨_, this, rfl, _, rfl⟩
  first
    | exact wpAny_pure (wpAny_bind fin)
    | exact wpAny_bind (wpAny_pure (wpAny_bind fin))
    | exact wpAny_bind fin
theorem PO.own {g h : Heap} {L O : Addr} {wd : List Addr} {nss : List (List Int)} (x : PO g L h O wd nss) : ∃ own, News g L h own ∧ ListIn own O (wd.map PySem.Value.ref).toArray ∧ WordsIn own wd nss := by
  obtain ⟨oO, e1, e2, cO, e3⟩ := x.list
  refine ⟨(O, oO) :: wd.map (fun a => (a, (h.get? a).getD default)), fun p hp => ?_, ⟨oO, cO, .head _, e2, e3⟩, x.len, fun i a hi => ?_⟩
  · rcases List.mem_cons.mp hp with rfl | hp
    · exact ⟨e1, x.of.2, x.of.1⟩
    · obtain ⟨a, ha, rfl⟩ := List.mem_map.mp hp
      obtain ⟨i, hi⟩ := List.getElem?_of_mem ha
      obtain ⟨ns, vs, h1, h2, ⟨o, k1, k2⟩, h4, h5, h6⟩ := x.at_ i a hi
      exact ⟨by show h.get? a = some ((h.get? a).getD default); rw [k1]; rfl, h6, h5⟩
  · obtain ⟨ns, vs, h1, h2, ⟨o, k1, k2, c, k3⟩, h4, h5, h6⟩ := x.at_ i a hi
    obtain ⟨n0, n1, n2, n3, n4, n5, rfl⟩ := six_of h2.1
    exact ⟨n0, n1, n2, n3, n4, n5, vs, h1, h2.2, ⟨o, c, .tail _ (List.mem_map.mpr ⟨a, List.mem_of_getElem? hi, by rw [k1]; rfl⟩), k2, k3⟩, h4⟩
theorem wordOk_rev {ns : List Int} (h : WordOk ns) : WordOk ns.reverse := ⟨by rw [List.length_reverse]; exact h.1, fun n hn => h.2 n (List.mem_reverse.mp hn)⟩
section
variable {w : World} {A : Around} {base h₀ : Heap} {L : Addr} {m : LM} {news : Led} {s : Shared} {Q E : PQ}
inductive LoJ (g : Heap) (L D : Addr) (M : LM) (nss : Nat → List (List Int)) (I : Addr) (i : Nat) (m : LM) (h : Heap) : Prop
  | mk (h1 : I ≠ D) (h2 : m "other" = M "other") (h3 : m "turned" = M "turned") (wd3 : List Addr) (h4 : ∀ b ∈ wd3, b ≠ I) (h5 : PO g L h D wd3 (nss i)) : LoJ g L D M nss I i m h
theorem rows30 : True := by
  k_with_none
  k_with "pyIter ref" => (refine Here.of ?_)
  k_with "ForPost" => (refine Here.of ?_)
  k_with "exec Assign cons Subscript" => (refine Here.of ?_)
  k_with "subscriptTail" => (refine Here.of ?_)
  k_with "exec Assign cons ListComp" => (refine Here.of ?_)
  k_with "call type:list" => (refine Here.of ?_)
  k_with "exec Assign cons BinOp" => (refine Here.of ?_)
  k_with "exec For Name Call cons nil" => (refine Here.of ?_)
  k_with "call type:type" => (((with_reducible show wpAny _ _ (call (Value.type "type") [Value.bytes _ _]) _ _ _); refine type_bytes ?_))
  exact trivial
theorem other_spec {W : Addr} {wd : List Addr} {nss : List (List Int)} {word octet : Nat} {bits : Int} {turned : Bool} {t1 t2 t3 : Tok} (c : Cx w base h₀ L m news s.heap 40 400 A) (hW : ListIn news W (wd.map PySem.Value.ref).toArray) (hwd : WordsIn news wd nss) (hlen : nss.length = 10) (hw : word < 10) (ho : octet < 6)
    (hxr : ∀ n : Int, 0 ≤ n → n < 256 → 0 ≤ Builtin.bitXor n bits ∧ Builtin.bitXor n bits < 256)
    (hret : ∀ W own wd h' tk', Fr h₀ L h' m → News h₀ L h' (own ++ news) → ListIn own W (wd.map PySem.Value.ref).toArray → WordsIn own wd (otherOf nss word octet bits turned) → (∀ p ∈ own, ∀ r ∈ news, p.1 ≠ r.1) → Q (.ref W) { s with heap := h', toks := tk' }) :
    wpAny (model P0 w) A (call (.ref 833) [.ref W, .int (word : Int) t1, .int (octet : Int) t2, .int bits t3, .bool turned]) Q E s := by
  rcases c with ⟨dp, un, gd, cn, cs, a, ccd, cl, outer, A₀, lo, mean, mg, mb, B, F, X, N, T, hk, hd, hu⟩
  refine wpAny_call ?_
  k_dflt (refine' enterP [("words", .ref W), ("word", .int (word : Int) t1), ("octet", .int (octet : Int) t2), ("bits", .int bits t3), ("turned", .bool turned)] [] news ?k1 ?k2 ?k3 ?k4 ?k5 ?kA ?kF ?kK ?h1 ?h2 ?h3 ?k6 ?k7 ?k8 ?k9 ?kB ?c2 ?c3 ?c4 ?c5 ?kG)
  k_dflt ((case kA => exact rfl); (case kF => exact rfl); (case kK => first | exact rfl | assumption); (case k1 => k_asm); (case k2 => k_asm); (case k3 => k_asm); (case k4 => k_asm); (case k5 => k_asm); (case k6 => k_is); (case k7 => k_is); (case k8 => ktr_room); (case k9 => exact kp_binds (by k_in) (fun _ => by kernel_rfl)); (case kB => exact locs rfl); (case c2 => exact rfl); (case c3 => exact rfl); (case c4 => exact rfl); (case c5 => decide); (case h1 => exact fun _ h => nomatch h); (case h2 => exact fun _ h => h); (case h3 => exact fun _ _ h => nomatch h); (intro g' L' h' FG' F' N' B' X' T' R'); (try dsimp only [List.reverse_cons, List.reverse_nil, List.nil_append, List.cons_append] at F'); (try dsimp only); (try k_fold))
  k_steps
  unfold Here
  have hl : g'.IsList W (wd.map PySem.Value.ref).toArray := (let ⟨o, c, h1, h2, h3⟩ := hW; ⟨o, R' _ h1, h2, c, h3⟩)
  have hwn : (wd.map PySem.Value.ref).toArray.size = 10 := by simpa using hwd.1.trans hlen
  refine LCg.Assign_ListComp_U F' rfl (by kernel_rfl) rfl (by decide) rfl (by decide) rfl rfl rfl ?_
  refine nameG_L (C := L') (v := .ref W) F'.ns rfl rfl ?_ (by kernel_rfl) (by kernel_rfl) (by decide)
  refine LCg.CompSrc.base (its := (wd.map PySem.Value.ref).toArray) rfl F' N' hl (by rw [hwn]; decide) fun g => comp_ind (LoI nss) ?_ ?_ _ 0 [] _ (Nat.zero_add _) ⟨[], rfl, .nil, rfl, (fun _ h => nomatch h), (fun _ _ h => nomatch h)⟩
  · rintro ys nw ⟨wd2, rfl, hnd, hl2, hin, hat⟩ D h6 tk6 F6 N6 o1
    have po : PO g' L' h6 D wd2 nss := ⟨⟨_, (N6 _ (.head _)).1, rfl, _, rfl⟩, ⟨(N6 _ (.head _)).2.2, (N6 _ (.head _)).2.1⟩, by rw [hl2, hwn, hlen], List.nodup_cons.mpr ⟨fun hm => by
        obtain ⟨j, hj⟩ := List.getElem?_of_mem hm
        obtain ⟨ns, vs, c, _, _, hmem, _⟩ := hat j D hj
        exact (LCg_off1 o1 _ hmem) rfl, hnd⟩, fun i a hi => by
        obtain ⟨ns, vs, c, h1, h2, hmem, h4⟩ := hat i a hi
        have z := N6 _ (.tail _ hmem)
        exact ⟨ns, vs, h1, h2, ⟨_, z.1, rfl, c, rfl⟩, h4, z.2.2, z.2.1⟩⟩
    clear N6 o1 hat hin
    dsimp only
    k_steps
    unfold Here
    obtain ⟨aw, haw⟩ : ∃ aw, wd2[word]? = some aw := ⟨_, List.getElem?_eq_getElem (by rw [hl2, hwn]; exact hw)⟩
    obtain ⟨nsw, vsw, z1, z2, z3, z4, z5, z6⟩ := po.at_ word aw haw
    have hol : octet < vsw.length := by rw [z4.length, z2.1]; exact ho
    obtain ⟨tw, hvw⟩ := ints_at z4 (i := octet) (by rw [z2.1]; exact ho)
    refine wpAny_Assign_Subscript ?_ (by rfl)
    refine wpAny_BinOp ?_
    refine Subscript_ (Subscript_ ?_)
    refine nameG_L (C := L') (v := .ref D) F6.ns rfl (by kernel_rfl) ?_ (by kernel_rfl) (by kernel_rfl) (by decide)
    refine nameG_L (C := L') (v := .int (word : Int) t1) F6.ns rfl (by kernel_rfl) ?_ (by kernel_rfl) (by kernel_rfl) (by decide)
    refine tail_list po.list (by (first | lia | omega)) (by (first | lia | omega)) (x := .ref aw) (by simp [haw]) ?_
    refine nameG_L (C := L') (v := .int (octet : Int) t2) F6.ns rfl (by kernel_rfl) ?_ (by kernel_rfl) (by kernel_rfl) (by decide)
    refine tail_list z3 (by (first | lia | omega)) (by (first | lia | omega)) (x := .int (nsw.getD octet 0) tw) (by simpa using hvw) ?_
    refine nameG_L (C := L') (v := .int bits t3) F6.ns rfl (by kernel_rfl) ?_ (by kernel_rfl) (by kernel_rfl) (by decide)
    refine xor_int ?_
    refine Subscript_ ?_
    refine nameG_L (C := L') (v := .ref D) F6.ns rfl (by kernel_rfl) ?_ (by kernel_rfl) (by kernel_rfl) (by decide)
    refine nameG_L (C := L') (v := .int (word : Int) t1) F6.ns rfl (by kernel_rfl) ?_ (by kernel_rfl) (by kernel_rfl) (by decide)
    refine tail_list po.list (by (first | lia | omega)) (by (first | lia | omega)) (x := .ref aw) (by simp [haw]) ?_
    refine nameG_L (C := L') (v := .int (octet : Int) t2) F6.ns rfl (by kernel_rfl) ?_ (by kernel_rfl) (by kernel_rfl) (by decide)
    refine wpAny_setItem_list z3 (by (first | lia | omega)) (by (first | lia | omega)) (by simp; (first | lia | omega)) (fun h7 hl7 hs7 => ?_)
    have po7 : PO g' L' h7 D wd2 (stOther nss word octet bits turned (word + 1)) := by
      rw [← st_first z1]
      refine po.turn haw ?_ hs7 (ints_set z4 octet (Builtin.bitXor (nsw.getD octet 0) bits) tk6) (wordOk_set z2 (hxr _ ?_ ?_).1 (hxr _ ?_ ?_).2)
      · simpa using hl7
      all_goals (have zz := z2.2 (nsw.getD octet 0) (by rw [List.getD_eq_getElem?_getD, List.getElem?_eq_getElem (by rw [z2.1]; exact ho)]; exact List.getElem_mem _); (first | lia | omega))
    have F7 := F6.change hs7 z6 z5
    have N7 : News g' L' h7 [] := fun _ h => nomatch h
    clear hl7 hs7 z1 z2 z3 z4 z5 z6 hvw hol po F6
    dsimp only
    k_steps
    unfold Here
    rename Fr _ _ _ _ => F7
    rename News _ _ _ _ => N7
    generalize hM : (fun z => if z = PySem.Str.ofString "other" then some (PySem.Value.ref D) else _) = M at F7
    have mo : M "other" = some (.ref D) := by rw [← hM]; rfl
    have mt : M "turned" = some (.bool turned) := by rw [← hM]; rfl
    have mw : M "word" = some (.int (word : Int) t1) := by rw [← hM]; rfl
    clear hM
    refine For_inv (h₀ := g') (LoJ g' L' D M fun i => stOther nss word octet bits turned (word + 1 + i)) (by kernel_rfl) (by kernel_rfl) ?_
    k_steps
    rename Fr _ _ _ _ => F7
    refine nameG_L (C := L') (v := .int (word : Int) t1) F7.ns rfl mw ?_ (by kernel_rfl) (by kernel_rfl) (by decide)
    k_steps
    unfold Here
    rename_i h8 tk8 t8 u8 v8 hr8 F8 N8 k8
    have rs : Builtin.Range.rangeSize ((word : Int) + 1) 10 1 = ((9 - word : Nat) : Int) := by rw [rangeSize_one]; split <;> (first | lia | omega)
    refine wpAny_pyIter_range hr8 (small_one (by (first | lia | omega)) (by (first | lia | omega)) (by (first | lia | omega)) (by (first | lia | omega))) ?_
    have po8 : PO g' L' h8 D wd2 (stOther nss word octet bits turned (word + 1)) := po7.keeps fun b o _ e => k8 b o e
    have fr8 : ∀ b ∈ D :: wd2, b ≠ h8.objs.size := fun b hb e => by
      rcases List.mem_cons.mp hb with rfl | hb
      · obtain ⟨o, e1, _⟩ := po8.list
        exact Nat.lt_irrefl _ (e ▸ Heap.lt_size e1)
      · obtain ⟨j, hj⟩ := List.getElem?_of_mem hb
        obtain ⟨_, _, _, _, ⟨o, e1, _⟩, _⟩ := po8.at_ j b hj
        exact Nat.lt_irrefl _ (e ▸ Heap.lt_size e1)
    refine ⟨h8.objs.size, 9 - word, _, _, M, rfl, LCg.range_walks rfl ((word : Int) + 1) (9 - word), fun i h st => ⟨_, st⟩, fun i h h' o st e e' => ?_, ?_, F8.push _, Nat.ne_of_lt F8.ns.lt, next_is_new F8, ⟨fun e => fr8 D (.head _) e.symm, rfl, rfl, wd2, fun b hb => fr8 b (.tail _ hb), ?_⟩, ?_, ?_, ?_⟩
    · have st' : h.get? _ = some _ := st
      show h'.get? _ = some _
      rw [e', ← e]; exact st'
    · show (h8.push _).get? h8.objs.size = some _
      rw [rs]
      have := Heap.get?_push_size h8 (o := { cls := .type "range_iterator", data := .fields #[rawInt ((word : Int) + 1), rawInt ((9 - word : Nat) : Int), rawInt 1] }) rfl
      simpa using this
    · exact po8.keeps fun b o _ e => Heap.get?_push_of_some _ e
    · rintro i m h h' ⟨a1, a2, a3, wd3, a4, a5⟩ kk
      refine ⟨a1, a2, a3, wd3, a4, a5.keeps fun b o hb e => kk b o ?_ ?_ e⟩
      · rcases hb with rfl | hb
        · exact Ne.symm a1
        · exact a4 b hb
      · rcases hb with rfl | hb
        · exact a5.of.2
        · obtain ⟨j, hj⟩ := List.getElem?_of_mem hb
          obtain ⟨_, _, _, _, _, _, _, e1⟩ := a5.at_ j b hj
          exact e1
    · rintro i v m₁ oI h9 tk9 hi ⟨t9, rfl⟩ ⟨a1, a2, a3, wd3, a4, a5⟩ F9 hoI
      have N9 : News g' L' h9 [] := fun _ h => nomatch h
      replace F9 : Fr g' L' h9 _ := F9
      have n1 : (fun y => if y = PySem.Str.ofString "k" then some (PySem.Value.int ((word : Int) + 1 + (i : Int)) t9) else m₁ y) "turned" = some (.bool turned) := a3.trans mt
      have n2 : (fun y => if y = PySem.Str.ofString "k" then some (PySem.Value.int ((word : Int) + 1 + (i : Int)) t9) else m₁ y) "other" = some (.ref D) := a2.trans mo
      have n3 : (fun y => if y = PySem.Str.ofString "k" then some (PySem.Value.int ((word : Int) + 1 + (i : Int)) t9) else m₁ y) "k" = some (.int ((word : Int) + 1 + (i : Int)) t9) := rfl
      generalize hM9 : (fun y => if y = PySem.Str.ofString "k" then some (PySem.Value.int ((word : Int) + 1 + (i : Int)) t9) else m₁ y) = M9 at F9 n1 n2 n3
      have q1 : M9 "other" = M "other" := n2.trans mo.symm
      have q2 : M9 "turned" = M "turned" := n1.trans mt.symm
      clear hM9 hr8 k8 F8 N8 fr8 po8 po7
      have hki : word + 1 + i < wd3.length := by rw [a5.len]; simp only [stOther, List.length_mapIdx, hlen]; (first | lia | omega)
      obtain ⟨ak, hak⟩ : ∃ ak, wd3[word + 1 + i]? = some ak := ⟨_, List.getElem?_eq_getElem hki⟩
      obtain ⟨nsk, vsk, y1, y2, y3, y4, y5, y6⟩ := a5.at_ _ ak hak
      have sn := st_next (nss := nss) (octet := octet) (bits := bits) (turned := turned) (by (first | lia | omega) : word < word + 1 + i) y1
      have ei : ((word : Int) + 1 + (i : Int)) = ((word + 1 + i : Nat) : Int) := by (first | lia | omega)
      cases turned with
      | false =>
        k_steps
        have F9 : Fr g' L' h9 M9 := by assumption
        refine nameG_L (C := L') (v := .bool false) F9.ns rfl n1 ?_ (by kernel_rfl) (by kernel_rfl) (by decide)
        k_steps
        unfold Here
        exact ⟨rfl, h9, _, M9, rfl, by assumption, ⟨a1, q1, q2, wd3, a4, by rw [show word + 1 + (i + 1) = word + 1 + i + 1 by (first | lia | omega), sn]; exact a5⟩, hoI⟩
      | true =>
        k_steps
        have F9 : Fr g' L' h9 M9 := by assumption
        refine nameG_L (C := L') (v := .bool true) F9.ns rfl n1 ?_ (by kernel_rfl) (by kernel_rfl) (by decide)
        k_steps
        unfold Here
        have F9 : Fr g' L' h9 M9 := by assumption
        have N9 : News g' L' h9 [] := fun _ h => nomatch h
        refine wpAny_Assign_Subscript ?_ (by rfl)
        refine Subscript_ (Subscript_ ?_)
        refine nameG_L (C := L') (v := .ref D) F9.ns rfl n2 ?_ (by kernel_rfl) (by kernel_rfl) (by decide)
        refine nameG_L (C := L') (v := .int ((word : Int) + 1 + (i : Int)) t9) F9.ns rfl n3 ?_ (by kernel_rfl) (by kernel_rfl) (by decide)
        refine tail_list a5.list (by (first | lia | omega)) (by (first | lia | omega)) (x := .ref ak) (by rw [ei, Int.toNat_natCast]; simp [hak]) ?_
        k_steps
        unfold Here
        refine tail_slice y3 .none .none (.int _ _) (by decide) (fun h10 kp10 hb10 => ?_) (by rw [List.size_toArray, y4.length, y2.1]; decide)
        have F10 : Fr g' L' h10 M9 := F9.keeps kp10
        have po10 := a5.keeps (fun b o _ e => kp10 b o e)
        refine nameG_L (C := L') (v := .ref D) F10.ns rfl n2 ?_ (by kernel_rfl) (by kernel_rfl) (by decide)
        refine nameG_L (C := L') (v := .int ((word : Int) + 1 + (i : Int)) t9) F10.ns rfl n3 ?_ (by kernel_rfl) (by kernel_rfl) (by decide)
        refine wpAny_setItem_list po10.list (by (first | lia | omega)) (by (first | lia | omega)) (by rw [ei]; simp; (first | lia | omega)) (fun h11 hl11 hs11 => ?_)
        have F11 := F10.change hs11 a5.of.2 a5.of.1
        have hfr : h9.objs.size + 1 ∉ D :: wd3 := fun hb => by
          rcases List.mem_cons.mp hb with e | hb
          · obtain ⟨o, e1, _⟩ := a5.list
            have := Heap.lt_size e1
            exact Nat.lt_irrefl _ (Nat.lt_trans (Nat.lt_succ_self _) (e ▸ this))
          · obtain ⟨j, hj⟩ := List.getElem?_of_mem hb
            obtain ⟨_, _, _, _, ⟨o, e1, _⟩, _⟩ := a5.at_ j _ hj
            exact Nat.lt_irrefl _ (Nat.lt_trans (Nat.lt_succ_self _) (Heap.lt_size e1))
        have hbD : h9.objs.size + 1 ≠ D := fun e => hfr (e ▸ List.mem_cons_self)
        have hrv : IntsAre (slicePick vsk.toArray none none (some (-1))).toList nsk.reverse := by
          have := y4.pick none none (some (-1))
          rw [pick_rev y2.1] at this
          exact this
        have po11 : PO g' L' h11 D (wd3.set (word + 1 + i) (h9.objs.size + 1)) ((stOther nss word octet bits true (word + 1 + i)).set (word + 1 + i) nsk.reverse) := by
          refine po10.swap hki ?_ (fun c o hc e => hs11.extBut _ _ (fun z => (List.nodup_cons.mp a5.nd).1 (z ▸ hc)) e) (vs' := (slicePick vsk.toArray none none (some (-1))).toList) ?_ hrv (wordOk_rev y2) hfr ⟨?_, ?_⟩
          · rw [ei, Int.toNat_natCast] at hl11
            simpa [List.map_set] using hl11
          · obtain ⟨o, e1, e2⟩ := hb10
            exact ⟨o, hs11.extBut _ _ hbD e1, by simpa using e2⟩
          · cases e : g'.get? (h9.objs.size + 1) with
            | none => rfl
            | some o => exact absurd (Heap.lt_size (F9.keep _ _ e)) (Nat.not_lt.mpr (Nat.le_succ _))
          · exact fun e => absurd (e ▸ F9.ns.lt) (Nat.not_lt.mpr (Nat.le_succ _))
        clear hl11 hb10
        dsimp only
        k_steps
        unfold Here
        refine ⟨rfl, h11, _, M9, rfl, by assumption, ⟨a1, q1, q2, _, fun b hb => ?_, by rw [show word + 1 + (i + 1) = word + 1 + i + 1 by (first | lia | omega), sn, if_pos rfl]; exact po11⟩, hs11.extBut _ _ a1 (kp10 _ _ hoI)⟩
        rcases List.mem_or_eq_of_mem_set hb with hb | rfl
        · exact a4 b hb
        · exact fun e => Nat.lt_irrefl _ (Nat.lt_trans (Nat.lt_succ_self _) (e ▸ Heap.lt_size hoI))
    · rintro h9 tk9 m9 ⟨a1, a2, a3, wd3, a4, a5⟩ F9
      replace F9 : Fr g' L' h9 m9 := F9
      have n2 : m9 "other" = some (.ref D) := a2.trans mo
      have hlim : word + 1 + (9 - word) = nss.length := by (first | lia | omega)
      rw [hlim] at a5
      have N9 : News g' L' h9 [] := fun _ h => nomatch h
      clear hr8 k8 F8 N8 fr8 po8 po7 a2 a3
      dsimp only
      k_steps
      have F9 : Fr g' L' h9 m9 := by assumption
      refine nameG_L (C := L') (v := .ref D) F9.ns rfl n2 ?_ (by kernel_rfl) (by kernel_rfl) (by decide)
      obtain ⟨own, No, hO, hWo⟩ := a5.own
      refine leaveK_ (news' := own) F9 No (fun F' N' NR => hret D own wd3 _ _ F' (News.app N' NR) hO hWo fun p hp r hr e => ?_)
      have z := (No p hp).2.2
      rw [e, R' r hr] at z; cases z
  · rintro i ys nw v I oI C oC D m₂ h6 tk6 E6 hi ⟨wd2, rfl, hnd, hl2, hin, hat⟩ hv hC hx F6 N6 off6 ne6
    obtain ⟨a6, ha, rfl⟩ : ∃ a6, wd[i]? = some a6 ∧ v = .ref a6 := by
      have : (wd.map PySem.Value.ref)[i]? = some v := by simpa using hv
      rw [List.getElem?_map] at this
      cases e : wd[i]? with
      | none => rw [e] at this; cases this
      | some b => rw [e] at this; exact ⟨b, rfl, (Option.some.inj this).symm⟩
    obtain ⟨n0, n1, n2, n3, n4, n5, vs, h1, h2, ⟨o3, c3, k1, k2, k3⟩, h4⟩ := hwd.2 i a6 ha
    have e3 := F6.keep _ _ (R' _ k1)
    k_steps
    unfold Here
    refine call_list_seq a6 (.inl rfl) e3 k2 k3 (fun h7 c7 kp hD => ?_) (by rw [List.size_toArray, h4.length]; exact (by decide : 6 ≤ sizeLine))
    have fresh : ∀ b o, h6.get? b = some o → @Ne Nat b h6.objs.size := fun b o e => Nat.ne_of_lt (Heap.lt_size e)
    have F7 := F6.keeps kp
    refine LCg.CompEnd.intro (all := (I, oI) :: (C, oC) :: (D, LCg.lst (wd2.map PySem.Value.ref)) :: (h6.objs.size, LObj vs.toArray c7) :: nw) F7 (fun p hp => ?_) ((h6.objs.size, LObj vs.toArray c7) :: nw) (fun _ h => h) ?_ (.inl hl) ⟨wd2 ++ [h6.objs.size], by simp, ?_, by simp [hl2], ?_, ?_⟩
    · have up : ∀ p ∈ (I, oI) :: (C, oC) :: (D, LCg.lst (wd2.map PySem.Value.ref)) :: nw, h7.get? p.1 = some p.2 ∧ p.1 ≠ L' ∧ g'.get? p.1 = none := fun p hp => ⟨kp _ _ (N6 p hp).1, (N6 p hp).2⟩
      simp only [List.mem_cons] at hp up
      rcases hp with hp | hp | hp | hp | hp
      · exact up p (.inl hp)
      · exact up p (.inr (.inl hp))
      · exact up p (.inr (.inr (.inl hp)))
      · rw [hp]; exact ⟨hD, fun e => Nat.lt_irrefl _ (e ▸ F6.ns.lt), next_is_new F6⟩
      · exact up p (.inr (.inr (.inr hp)))
    · exact ⟨⟨Ne.symm (fresh _ _ (N6 _ (.head _)).1), Ne.symm (fresh _ _ (N6 _ (.tail _ (.head _))).1), Ne.symm (fresh _ _ (N6 _ (.tail _ (.tail _ (.head _)))).1)⟩, off6⟩
    · refine List.nodup_append.mpr ⟨hnd, List.nodup_cons.mpr ⟨List.not_mem_nil, .nil⟩, fun a ha' b hb e => ?_⟩
      obtain ⟨j, hj⟩ := List.getElem?_of_mem ha'
      obtain ⟨ns, vs', c, _, _, hmem, _⟩ := hat j a hj
      exact fresh _ _ (N6 _ (.tail _ (.tail _ (.tail _ hmem)))).1 (e.trans (List.mem_singleton.mp hb))
    · intro p hp
      rcases List.mem_cons.mp hp with rfl | hp
      · exact List.mem_append_right _ (.head _)
      · exact List.mem_append_left _ (hin p hp)
    · intro j a hj
      by_cases hji : j < wd2.length
      · rw [List.getElem?_append_left hji] at hj
        obtain ⟨ns, vs', c, z1, z2, z3, z4⟩ := hat j a hj
        exact ⟨ns, vs', c, z1, z2, .tail _ z3, z4⟩
      · have hjl := (List.getElem?_eq_some_iff.mp hj).1
        rw [List.length_append, List.length_singleton] at hjl
        obtain rfl : j = wd2.length := by (first | lia | omega)
        rw [List.getElem?_append_right (Nat.le_refl _), Nat.sub_self] at hj
        obtain rfl : h6.objs.size = a := Option.some.inj hj
        exact ⟨_, vs, c7, hl2 ▸ h1, ⟨rfl, h2⟩, .head _, h4⟩
end
end
section
open PySem PySem.W PyProof.Rows PySem.Spec PySem.Calls
set_option maxRecDepth 100000
set_option maxHeartbeats 4000000
theorem paired_ints {p : PySem.Value → Bool} {tst : Nat → Bool} (hp : ∀ (k : Nat) t, p (.int (k : Int) t) = tst k) : ∀ (vs : List PySem.Value) (a : Nat) (ys : List PySem.Value), (∀ (j : Nat) (v : PySem.Value), vs[j]? = some v → ∃ t, v = PySem.Value.int ((a + j : Nat) : Int) t) →
    Paired (fun v y => v = y) (vs.filter p) ys → IntsAre ys (((List.range' a vs.length).filter tst).map Int.ofNat)
  | [], a, ys, _, h => by cases h; exact .nil
  | v :: vs, a, ys, hv, h => by
    obtain ⟨t, rfl⟩ := hv 0 v rfl
    have ih := fun ys h => paired_ints hp vs (a + 1) ys (fun j w hw => by
      obtain ⟨t, e⟩ := hv (j + 1) w hw
      exact ⟨t, by rw [e]; congr 2; (first | lia | omega)⟩) h
    rw [List.filter_cons] at h
    rw [List.length_cons, List.range'_succ, List.filter_cons]
    rw [show p (.int ((a + 0 : Nat) : Int) t) = tst a from hp a t] at h
    cases ht : tst a with
    | true =>
      rw [ht] at h
      simp only [if_true] at h ⊢
      cases h with
      | cons e h =>
        subst e
        exact .cons _ t (ih _ h)
    | false =>
      rw [ht] at h
      simp only [Bool.false_eq_true, if_false] at h ⊢
      exact ih _ h
section
variable {w : World} {A : Around} {E : PQ} {s : Shared} {h₀ : Heap} {L : Addr} {m : LM} {env : Env} {test iter : PySem.Expr} {x : PySem.Str} {px pe : Pos} {scope : Scope} {cl : List (PySem.Str × Addr)} {pos : Pos}
inductive FrIn (w : World) (A : Around) (h₀ : Heap) (L : Addr) (m : LM) (env : Env) (test : PySem.Expr) (x : PySem.Str) (scope : Scope) (cl : List (PySem.Str × Addr)) (n : Nat) (tst : Nat → Bool) (Q : PQ) (xv : PySem.Value) (s₁ : Shared) : Prop
  | mk (r : Addr) (t u v : Tok) (news : Led) (h1 : xv = .ref r) (h2 : IsRange s₁.heap r 0 (n : Int) 1 t u v) (h3 : Builtin.Range.small 0 (n : Int) 1 = true) (h4 : Builtin.Range.rangeSize 0 (n : Int) 1 = (n : Int)) (h5 : Fr h₀ L s₁.heap m) (h6 : News h₀ L s₁.heap news) (h7 : n ≤ sizeLine)
      (h8 : ∀ C i tk (s₃ : Shared) m₃ E', i < n → s₃.heap.Ns C m₃ → m₃ x = some (.int (i : Int) tk) → (∀ p ∈ news, s₃.heap.get? p.1 = some p.2) → (∀ b o, h₀.get? b = some o → s₃.heap.get? b = some o) →
        wpAny (model P0 w) A (isTrue test (compEnvC scope cl C env) (eval test (compEnvC scope cl C env))) (fun b s' => b = tst i ∧ Keeps s₃ s') E' s₃)
      (h9 : ∀ D h' tk c (ys : Array PySem.Value), Fr h₀ L h' m → News h₀ L h' ((D, ({ cls := .type "list", data := .seq ys c } : Obj)) :: news) → (∀ p ∈ news, @Ne Nat p.1 D) → IntsAre ys.toList (((List.range n).filter tst).map Int.ofNat) → Q (.ref D) { s₁ with heap := h', toks := tk }) : FrIn w A h₀ L m env test x scope cl n tst Q xv s₁
/-- [x for x in range(n) if test] -/
theorem filter_range {Q : PQ} {n : Nat} (tst : Nat → Bool) (hh : A.handled = none) (hclos : closureFor scope env = pure cl) (hcell : ∀ y ∈ scope.names, y.2 ≠ .cell) (hkind : scope.kind = .function)
    (hnames : ∀ y ∈ scope.names, y.2 = .local → scope.names.lookup y.1 = some .local) (hx : scope.names.lookup x = some .local) (hd : (x == ("__debug__" : PySem.Str)) = false)
    (h : wpAny (model P0 w) A (eval iter env) (fun xv s₁ => FrIn w A h₀ L m env test x scope cl n tst Q xv s₁) E s)
    (hs : ∀ x, foldedSetIterable iter env x = pure x := by intro _; rfl) :
    wpAny (model P0 w) A (eval (.ListComp (.Name x pe) [⟨.Name x px, iter, [test], 0⟩] scope pos) env) Q E s := by
  let p : PySem.Value → Bool := fun v => match v with | .int k _ => tst k.toNat | _ => false
  have hp : ∀ (k : Nat) t, p (.int (k : Int) t) = tst k := fun k t => by show tst (k : Int).toNat = _; rw [Int.toNat_natCast]
  refine wpAny_ListComp_free p (fun v y => v = y) hclos hcell hkind hnames hx (wpAny_mono h (fun xv s₁ h₁ => ?_) fun _ _ e => e) hs
  obtain ⟨r, t, u, v, news, rfl, hr, hsm, hn, F, N, hsz, ht, hQ⟩ := h₁
  refine wpAny_pyIter_range hr hsm ?_
  have W := (Walks.range (prog := P0) (w := w) hh s₁.heap.objs.size 0 1 n).bound
  have hLlt : L < s₁.heap.objs.size := F.ns.lt
  refine ⟨_, _, _, n, _, _, rfl, W, hsz, ?_, ?_, ⟨?_, ?_⟩, ?_⟩
  · have z := Heap.get?_push_size s₁.heap (o := { cls := .type "range_iterator", data := .fields #[rawInt 0, rawInt (Builtin.Range.rangeSize 0 (n : Int) 1), rawInt 1] }) rfl
    rw [hn] at z
    rw [hn]
    show IsRangeIter _ _ _ _ _
    simpa using z
  · intro b hb
    rw [List.mem_singleton.mp hb]
    show s₁.heap.objs.size < (s₁.heap.push _).objs.size
    rw [Heap.size_push]; exact Nat.lt_succ_self _
  · rintro C i v s₃ m₃ E' hC ⟨hi, t, rfl⟩ hn₃ hm hk _
    rw [show (0 : Int) + i * 1 = i by (first | lia | omega)] at hm ⊢
    refine wpAny_tests_one (wpAny_mono (ht C i t s₃ m₃ E' hi hn₃ hm (fun q hq => hk _ _ (fun z => ?_) (Heap.get?_push_of_some _ (N q hq).1)) (fun b o e => hk b o (fun z => ?_) (Heap.get?_push_of_some _ (F.keep b o e)))) (fun b s₄ hb => ⟨?_, hb.2⟩) fun _ _ e => e)
    · have := Heap.lt_size (N q hq).1
      rw [List.mem_singleton.mp z] at this; exact Nat.lt_irrefl _ this
    · have := Heap.lt_size (F.keep b o e)
      rw [List.mem_singleton.mp z] at this; exact Nat.lt_irrefl _ this
    · rw [hb.1]; exact (hp i t).symm
  · rintro C i v s₃ m₃ E' hC ⟨hi, t, rfl⟩ hpv hn₃ hm hk _
    exact wpAny_Name (wpAny_loadName_local (by simp [compEnvC, relabel, hkind]) (lookup_relabel_local hx) hn₃ hm ⟨rfl, s₃.heap, s₃.toks, rfl, fun _ _ e => e⟩) hd
  · intro D h' tk ys vs hD hl hpl hlen hP hF hk
    obtain ⟨c, hDo⟩ := hpl
    have kp : ∀ b o, s₁.heap.get? b = some o → h'.get? b = some o := fun b o e => hk b o (fun z => by
      have := Heap.lt_size e
      rw [List.mem_singleton.mp z] at this; exact Nat.lt_irrefl _ this) (Heap.get?_push_of_some _ e)
    have hDs : s₁.heap.get? D = none := by
      cases e : s₁.heap.get? D with
      | none => rfl
      | some o => rw [Heap.get?_push_of_some _ e] at hD; cases hD
    have hDne : ∀ b o, s₁.heap.get? b = some o → @Ne Nat b D := fun b o e z => by rw [z, hDs] at e; cases e
    obtain ⟨oL, _, _, hoL, _⟩ := F.ns
    refine hQ D h' tk c ys (F.keeps kp) (fun q hq => ?_) (fun q hq => hDne _ _ (N q hq).1) ?_
    · rcases List.mem_cons.mp hq with rfl | hq
      · refine ⟨hDo, Ne.symm (hDne _ _ hoL), ?_⟩
        cases e : h₀.get? D with
        | none => rfl
        | some o => have := F.keep _ _ e; rw [hDs] at this; cases this
      · exact ⟨kp _ _ (N q hq).1, (N q hq).2⟩
    · have z := paired_ints hp vs 0 ys.toList (fun j v hv => by
        obtain ⟨_, t, e⟩ := hP j v hv
        exact ⟨t, e.trans (by rw [show (0 : Int) + j * 1 = ((0 + j : Nat) : Int) by (first | lia | omega)])⟩) hF
      rw [hlen, ← List.range_eq_range'] at z
      exact z
end
end
section
open PySem PySem.W PyProof.Rows PySem.Spec PySem.Calls
set_option maxRecDepth 100000
set_option maxHeartbeats 0
section
variable {w : World} {A : Around} {s : Shared} {Q E : PQ} {lo : List PySem.Str} {mean : ExcName → Option PySem.Value} {mg mb : LM}
theorem rows31 : True := by
  k_with_none
  k_with "LeaveL" => ((k_dflt (refine' LeaveL.intro ?F ?_; (case F => k_asm)); (try dsimp only)))
  k_with "binaryOp Mod str ref" => (((with_reducible show wpAny _ _ (binaryOp Operator.Mod (Value.str _ _) (Value.ref _)) _ _ _); k_dflt (refine' KPt.mod_tuple ?kptN ?kptb ?kptF (fmt_chars ?ha ?hb ?hc ?hd) ?_; (case kptN => k_asm); (case kptb => k_mem); (case kptF => kpt_eq); (case ha => omega); (case hb => omega); (case hc => omega); (case hd => omega)); intro _ _))
  exact trivial
theorem shorten_leaf {x : PySem.Str} {tk tp tq : Tok} {pl sl : Int} (X : (K w.params).In s.heap) (T : Top q0 lo mean mg mb s.heap) (hd : A.depth + 8 < recursionLimit) (hu : A.units + 80 < cLine) (h1 : x.length ≤ 200) (hp0 : 0 ≤ pl) (hp1 : pl ≤ 200) (hq0 : 0 ≤ sl) (hq1 : sl ≤ 200) (hret : ∀ t h' tk', (∀ b o, s.heap.get? b = some o → h'.get? b = some o) → Q (.str (short x pl sl) t) { s with heap := h', toks := tk' }) :
    wpAny (model P0 w) A (call (.ref 51) [.str x tk, .int pl tp, .int sl tq]) Q E s := by
  refine wpAny_call ?_
  k_dflt (refine' enterL [("s", .str x tk), ("prefixlen", .int pl tp), ("suffixlen", .int sl tq)] ?k3 ?k5 ?k6 ?k7 ?k8 ?k9 ?kB ?c2 ?c3 ?c4 ?c5 ?kG)
  k_dflt ((case k3 => k_asm); (case k5 => k_asm); (case k6 => k_is); (case k7 => k_is); (case k8 => first | assumption | omega); (case k9 => exact kp_binds (by k_in) (fun _ => by kernel_rfl)); (case kB => exact locs rfl); (case c2 => exact rfl); (case c3 => exact rfl); (case c4 => exact rfl); (case c5 => decide); (intro g' L' h' gE F' N' X' T'); subst gE; (try dsimp only [List.reverse_cons, List.reverse_nil, List.nil_append, List.cons_append] at F'); (try dsimp only); (try k_fold))
  have e1 : 12 < (x.length : Int) - pl - sl → ∀ t h' tk', (∀ b o, s.heap.get? b = some o → h'.get? b = some o) → Q (.str (chars (Txt.slice x none (some pl)) (Txt.slice x (some ((x.length : Int) - sl)) none) ((x.length : Int) - pl - sl)) t) { s with heap := h', toks := tk' } := fun h t => by
    have e := hret t
    rwa [short, if_pos h] at e
  have e2 : ¬ 12 < (x.length : Int) - pl - sl → ∀ t h' tk', (∀ b o, s.heap.get? b = some o → h'.get? b = some o) → Q (.str x t) { s with heap := h', toks := tk' } := fun h t => by
    have e := hret t
    rwa [short, if_neg h] at e
  k_steps
  · exact e1 (by assumption) _ _ _ (Fr.keep (by k_asm))
  · exact e2 (by omega) _ _ _ (Fr.keep (by k_asm))
end
end
section
open PySem PySem.W PyProof.Rows PySem.Spec PySem.Calls
set_option maxRecDepth 100000
set_option maxHeartbeats 4000000
theorem kept_from (h₀ : Heap) : KeptH (fun h => ∀ b o, h₀.get? b = some o → h.get? b = some o) := fun _ _ k b o e => Heap.get?_push_of_some _ (k b o e)
section
variable {w : World} {A : Around} {s : Shared} {Q E : PQ} {lo : List PySem.Str} {mean : ExcName → Option PySem.Value} {mg mb : LM} {env : Env} {x : PySem.Str} {pos : Pos} {v : PySem.Value} {m : LM}
theorem nameG_F {c : Addr} (hc : env.cells.lookup x = some c) (hv : s.heap.IsCell c (some v)) (h : Q v s)
    (hk : env.scope.kind = .function) (hx : env.kindOf x = some .free) (hd : (x == ("__debug__" : PySem.Str)) = false) (hn : (x == ("__classdict__" : PySem.Str)) = false) : wpAny (model P0 w) A (eval (.Name x pos) env) Q E s :=
  wpAny_Name (wpAny_loadName_free hk hx hc hv h hn) hd
abbrev scopeA : Scope := { kind := .function, names := [(".0", .local), ("s", .local), ("prefix", .free), ("prefixlen", .free)], isGenerator := true, isCoroutine := false }
abbrev scopeB : Scope := { kind := .function, names := [(".0", .local), ("s", .local), ("prefix", .free), ("prefixlen", .free), ("_shorten", .globalImplicit), ("_MIN_DIFF_LEN", .globalImplicit), ("_MIN_END_LEN", .globalImplicit)], isGenerator := true, isCoroutine := false }
/-- s[prefixlen:] in the frame of a generator expression -/
theorem slice_from {c : Addr} {C : Addr} {z : PySem.Str} {tk t : Tok} {n : Int} {p1 p2 p3 p4 : Pos} (hn : s.heap.Ns C m) (hC : env.locals = C) (hm : m "s" = some (.str z tk)) (hk : env.scope.kind = .function) (hx1 : env.kindOf "s" = some .local) (hx2 : env.kindOf "prefixlen" = some .free)
    (hc : env.cells.lookup ("prefixlen" : PySem.Str) = some c) (hv : s.heap.IsCell c (some (.int n t))) (hz : z.length ≤ 200)
    (h : ∀ t' h' k, (∀ b o, s.heap.get? b = some o → h'.get? b = some o) → Q (.str (Txt.slice z (some n) none) t') { s with heap := h', toks := k }) :
    wpAny (model P0 w) A (eval (.Subscript (.Name "s" p1) (.Slice (some (.Name "prefixlen" p2)) none none p3) p4) env) Q E s := by
  refine Subscript_ ?_
  refine nameG_L (C := C) (v := .str z tk) hn hC hm ?_ hk hx1 (by decide)
  refine wpAny_Slice ?_
  refine nameG_F hc hv ?_ hk hx2 (by decide) (by decide)
  refine wpAny_pure ?_
  refine wpAny_pure ?_
  exact tail_of_ItemOn (SBH.sliceItem_sn (s := s) (kept_from s.heap) (fun _ _ e => e) (fun h' t' k a => h t' h' k a) (Nat.le_trans hz (by decide))) (by with_unfolding_all rfl) (fun _ => by with_unfolding_all rfl)
theorem elt_a {c1 c2 C : Addr} {cv : PySem.Value} {z pre : PySem.Str} {tk t1 t2 : Tok} {n : Int} {env : Env} {p1 p2 p3 p4 p5 p6 : Pos} (hn : s.heap.Ns C m) (hm : m "s" = some (.str z tk))
    (hc1 : s.heap.IsCell c1 (some (.str pre t1))) (hc2 : s.heap.IsCell c2 (some (.int n t2))) (hz : z.length ≤ 200) (hp : pre.length ≤ 1000) :
    wpAny (model P0 w) A (eval (.BinOp (.Name "prefix" p1) .Add (.Subscript (.Name "s" p2) (.Slice (some (.Name "prefixlen" p3)) none none p4) p5) p6) (genEnv scopeA [("prefixlen", c2), ("prefix", c1)] C cv builtinsNs env))
      (fun y s₃ => (∃ t, y = .str (pre ++ Txt.slice z (some n) none) t) ∧ Keeps s s₃) E s := by
  refine wpAny_BinOp ?_
  refine nameG_F (c := c1) (by kernel_rfl) hc1 ?_ (by kernel_rfl) (by kernel_rfl) (by decide) (by decide)
  refine slice_from (c := c2) (C := C) hn rfl hm (by kernel_rfl) (by kernel_rfl) (by kernel_rfl) (by kernel_rfl) hc2 hz (fun t' h' k a => ?_)
  exact PyProof.Rows.add_str (fun t'' k' => ⟨⟨t'', rfl⟩, h', k', rfl, a⟩) (Nat.le_trans (Nat.add_le_add hp (Nat.le_trans (Txt.slice_le z _ _) hz)) (by decide))
theorem short_len {z : PySem.Str} {a b : Int} (hz : z.length ≤ 200) (ha : 0 ≤ a) (hb : 0 ≤ b) : (short z a b).length ≤ 1000 := by
  unfold short
  split
  · have h1 := Txt.slice_le z none (some a)
    have h2 := Txt.slice_le z (some ((z.length : Int) - b)) none
    have h3 := len_str_of_int ((z.length : Int) - a - b)
    have e1 : (⟨#[91]⟩ : PySem.Str).length = 1 := rfl
    have e2 : (⟨#[32, 99, 104, 97, 114, 115, 93]⟩ : PySem.Str).length = 7 := rfl
    simp only [chars, Str.length_append, e1, e2]
    omega
  · omega
theorem elt_b {c1 c2 C : Addr} {cv : PySem.Value} {z pre : PySem.Str} {tk t1 t2 : Tok} {n : Int} {env : Env} {p1 p2 p3 p4 p5 p6 p7 p8 p9 pa : Pos} (X : (K w.params).In s.heap) (T : Top q0 lo mean mg mb s.heap) (hd : A.depth + 8 < recursionLimit) (hu : A.units + 80 < cLine) (hg : env.globals = mainGlobals) (hn : s.heap.Ns C m) (hm : m "s" = some (.str z tk))
    (hc1 : s.heap.IsCell c1 (some (.str pre t1))) (hc2 : s.heap.IsCell c2 (some (.int n t2))) (hz : z.length ≤ 200) (hp : pre.length ≤ 1000) :
    wpAny (model P0 w) A (eval (.BinOp (.Name "prefix" p1) .Add (.Call (.Name "_shorten" p7) [.Subscript (.Name "s" p2) (.Slice (some (.Name "prefixlen" p3)) none none p4) p5, .Name "_MIN_DIFF_LEN" p8, .Name "_MIN_END_LEN" p9] [] pa) p6) (genEnv scopeB [("prefixlen", c2), ("prefix", c1)] C cv builtinsNs env))
      (fun y s₃ => (∃ t, y = .str (pre ++ short (Txt.slice z (some n) none) 41 5) t) ∧ Keeps s s₃) E s := by
  refine wpAny_BinOp ?_
  refine nameG_F (c := c1) (by kernel_rfl) hc1 ?_ (by kernel_rfl) (by kernel_rfl) (by decide) (by decide)
  refine Call_ ?_
  refine nameG_K (v := .ref 51) X T hg (by k_is) ?_ (by kernel_rfl) (by kernel_rfl) (by decide)
  refine callWith_K X (by kernel_rfl) ?_
  refine args_cons ?_
  refine slice_from (c := c2) (C := C) hn rfl hm (by kernel_rfl) (by kernel_rfl) (by kernel_rfl) (by kernel_rfl) hc2 hz (fun t' h' k a => ?_)
  refine args_cons ?_
  refine nameG_K (v := .int 41 347) (X.keeps a) (T.keeps a) hg (by k_is) ?_ (by kernel_rfl) (by kernel_rfl) (by decide)
  refine args_cons ?_
  refine nameG_K (v := .int 5 339) (X.keeps a) (T.keeps a) hg (by k_is) ?_ (by kernel_rfl) (by kernel_rfl) (by decide)
  refine args_nil ?_
  refine ⟨X.keeps a, ?_⟩
  have hsl : (Txt.slice z (some n) none).length ≤ 200 := Nat.le_trans (Txt.slice_le z _ _) hz
  refine shorten_leaf (s := { s with heap := h', toks := k }) (X.keeps a) (T.keeps a) hd hu hsl (by decide) (by decide) (by decide) (by decide) ?_
  intro t2' h2 k2 a2
  exact PyProof.Rows.add_str (fun t'' k' => ⟨⟨t'', rfl⟩, h2, k', rfl, fun b o e => a2 b o (a b o e)⟩) (Nat.le_trans (Nat.add_le_add hp (short_len hsl (by decide) (by decide))) (by decide))
end
end
section
open PySem PySem.W PyProof.Rows PySem.Spec PySem.Calls
set_option maxRecDepth 100000
set_option maxHeartbeats 0
theorem ints_snoc : ∀ {vs : List PySem.Value} {ns : List Int} {n : Int} {t : Tok}, IntsAre vs ns → IntsAre (vs ++ [.int n t]) (ns ++ [n])
  | _, _, _, _, .nil => .cons _ _ .nil
  | _, _, _, _, .cons n t h => .cons n t (ints_snoc h)
theorem pow_ne {k : Nat} (h : k < 6) : ¬(((256 : Int) ^ ((k : Int).toNat)) == 0) = true := by
  rw [Int.toNat_natCast]
  rcases (by (first | lia | omega) : k = 0 ∨ k = 1 ∨ k = 2 ∨ k = 3 ∨ k = 4 ∨ k = 5) with rfl | rfl | rfl | rfl | rfl | rfl <;> decide
theorem pow_py {a : Int} {k : Nat} (h : k < 6) : ¬(Builtin.divisionGoesByPylong a ((256 : Int) ^ ((k : Int).toNat))) = true := by
  rw [Int.toNat_natCast]
  have e : ∀ b : Int, (decide ((if b == 0 then 0 else b.natAbs.log2 / 30 + 1) > 300)) = false → ¬(Builtin.divisionGoesByPylong a b) = true := fun b hb hc => by
    unfold Builtin.divisionGoesByPylong at hc
    simp only [Bool.and_eq_true] at hc
    rw [hb] at hc; exact Bool.false_ne_true hc.1
  refine e _ ?_
  rcases (by (first | lia | omega) : k = 0 ∨ k = 1 ∨ k = 2 ∨ k = 3 ∨ k = 4 ∨ k = 5) with rfl | rfl | rfl | rfl | rfl | rfl <;> decide +kernel
/-- the octets of a word by its place -/
noncomputable def rowOf (nums : List Int) (i : Nat) : List Int := (List.range 6).map fun (k : Nat) => ((nums.getD i 0).fdiv ((256 : Int) ^ k) + 37 * (i : Int) + 11 * (k : Int)).fmod 256
noncomputable def numsOf6 (ns : List Int) : List Int := ns.take 6 ++ [0, 1, 70000, 255, 12345678, 99, 7, 31, 2718, 3141]
noncomputable def wordsOf (ns : List Int) : List (List Int) := (List.range 10).map (rowOf (numsOf6 ns))
section
variable {w : World} {A : Around} {base h₀ : Heap} {L : Addr} {m : LM} {news : Led} {s : Shared} {Q E : PQ}
theorem rows32 : True := by
  k_with_none
  k_with "eval ListComp" => (refine Here.of ?_)
  k_with "CompEnd" => (refine Here.of ?_)
  k_with "pyIter bytes" => (refine Here.of ?_)
  k_with "binaryOp FloorDiv" => (((refine AutoIntOps.floordiv_1 (pow_ne (by assumption)) (pow_py (by assumption)) ?_); (try dsimp only [Made.post])))
  k_with "eval Name" => (((with_reducible show wpAny _ _ (eval (Expr.Name (PySem.Str.ofString "numbers") _) _) _ _ _); k_dflt (refine lcf_cell (by assumption) rfl (by assumption) (by assumption) ?_ (by kernel_rfl) (by kernel_rfl) (by decide))))
  k_with "eval Name" => (((with_reducible show wpAny _ _ (eval (Expr.Name (PySem.Str.ofString "place") _) _) _ _ _); k_dflt (refine lcf_cell (by assumption) rfl (by assumption) (by assumption) ?_ (by kernel_rfl) (by kernel_rfl) (by decide))))
  k_with "CompSrc" => (refine Here.of ?_)
  exact trivial
theorem words_elt {dp un : Nat} {gd : Option (List Code)} {cn : PySem.Str} {cs : Scope} {a : Addr} {ccd : PySem.Value} {ccl : List (PySem.Str × Addr)} {outer : List Env} {lo : List PySem.Str} {mean : ExcName → Option PySem.Value} {mg mb : LM} {C c D' : Addr} {oc oN : Obj} {nw : Led} {i : Nat} {t : Tok} {ws : List PySem.Value} {nums : List Int}
    (F : Fr h₀ L s.heap m) (X : (K w.params).In h₀) (T : Top q0 lo mean mg mb h₀) (N : News h₀ L s.heap nw) (hcm : (c, oc) ∈ nw) (hoc : oc.data = .cell (some (.int (i : Int) t))) (hnm : (L + 1, oN) ∈ nw) (hoN : oN.data = .cell (some (.ref D'))) (hDm : (D', listOf ws.toArray 0) ∈ nw) (hI : IntsAre ws nums) (hnl : 10 ≤ nums.length) (hnu : nums.length ≤ 100) (hi : i < 10)
    (hret : ∀ D h' tk' vs, Fr h₀ L h' m → News h₀ L h' ((D, LCg.lst vs) :: nw) → LCg.Off1 D nw → IntsAre vs (rowOf nums i) → Q (.ref D) { s with heap := h', toks := tk' }) :
    wpAny (model P0 w) (ktrTop dp un gd cn cs L a ccd ccl outer) (eval (.ListComp (.BinOp (.BinOp (.BinOp (.BinOp (.Subscript (.Name "numbers" ⟨848, 14, 848, 21⟩) (.Name "place" ⟨848, 22, 848, 27⟩) ⟨848, 14, 848, 28⟩) .FloorDiv (.BinOp (.Constant (.int 256) 0 ⟨848, 32, 848, 35⟩) .Pow (.Name "k" ⟨848, 39, 848, 40⟩) ⟨848, 32, 848, 40⟩) ⟨848, 14, 848, 40⟩) .Add (.BinOp (.Constant (.int 37) 0 ⟨848, 43, 848, 45⟩) .Mult (.Name "place" ⟨848, 48, 848, 53⟩) ⟨848, 43, 848, 53⟩) ⟨848, 14, 848, 53⟩) .Add (.BinOp (.Constant (.int 11) 0 ⟨848, 56, 848, 58⟩) .Mult (.Name "k" ⟨848, 61, 848, 62⟩) ⟨848, 56, 848, 62⟩) ⟨848, 14, 848, 62⟩) .Mod (.Constant (.int 256) 0 ⟨848, 66, 848, 69⟩) ⟨848, 13, 848, 69⟩) [⟨(.Name "k" ⟨848, 74, 848, 75⟩), .Call (.Name "range" ⟨848, 79, 848, 84⟩) [(.Constant (.int 6) 0 ⟨848, 85, 848, 86⟩)] [] ⟨848, 79, 848, 87⟩, [], 0⟩] ⟨.function, [(".0", .local), ("k", .local), ("numbers", .free), ("place", .free)], false, false, []⟩ ⟨848, 12, 848, 88⟩) (compEnvC ⟨.function, [(".0", .local), ("place", .cell), ("range", .globalImplicit), ("numbers", .free)], false, false, []⟩ [("place", c), ("numbers", L + 1)] C (envOfC "_law_words" ⟨.function, [("script", .local), ("numbers", .cell), ("range", .globalImplicit)], false, false, [("fast", .str "script"), ("fast", .str "numbers"), ("fast", .str "place"), ("fast", .str "k")]⟩ L 828 (.ref 827)))) Q E s := by
  refine LCg.ListComp_U (cl := [("place", c), ("numbers", L + 1)]) F (by kernel_rfl) (by decide) rfl (by decide) rfl ?_
  k_steps
  unfold Here
  rename_i h6 tk6 t1 u1 v1 hr6 F6 N6 k6
  refine LCg.CompSrc.range (n := 6) rfl F6 N6 hr6 (by decide) (by decide) (by decide) fun g => comp_ind (fun j ys nw' => nw = nw' ∧ IntsAre ys ((rowOf nums i).take j)) ?_ ?_ 6 0 [] _ (Nat.zero_add _) ⟨rfl, .nil⟩
  · rintro ys _ ⟨rfl, hs⟩ D h7 tk7 F7 N7 o7
    exact hret D h7 tk7 ys F7 N7 o7 (by rw [List.take_of_length_le (by simp [rowOf])] at hs; exact hs)
  · rintro k ys _ v I6 o6 C6 oC6 D6 m6 h8 tk8 E8 hk6 ⟨rfl, hs⟩ ⟨t8, rfl⟩ hC8 hx8 F8 N8 off8 ne8
    clear hr6 F6 N6 k6
    have hcm' : (c, oc) ∈ (I6, o6) :: (C6, oC6) :: (D6, LCg.lst ys) :: nw := .tail _ (.tail _ (.tail _ hcm))
    have hnm' : (L + 1, oN) ∈ (I6, o6) :: (C6, oC6) :: (D6, LCg.lst ys) :: nw := .tail _ (.tail _ (.tail _ hnm))
    have hDm' : (D', listOf ws.toArray 0) ∈ (I6, o6) :: (C6, oC6) :: (D6, LCg.lst ys) :: nw := .tail _ (.tail _ (.tail _ hDm))
    rw [Int.zero_add] at hx8
    k_steps
    unfold Here
    refine LCg.CompEnd.intro F8 N8 _ (fun _ h => h) off8 trivial ⟨rfl, ?_⟩
    rw [List.take_add_one, Int.toNat_natCast, Int.toNat_natCast]
    have e : (rowOf nums i)[k]? = some (((nums.getD i 0).fdiv ((256 : Int) ^ k) + 37 * (i : Int) + 11 * (k : Int)).fmod 256) := by
      unfold rowOf
      rw [List.getElem?_map, List.getElem?_range hk6]; rfl
    rw [e]
    exact ints_snoc hs
end
end
section
open PySem PySem.W PyProof.Rows PySem.Spec PySem.Calls
set_option maxRecDepth 100000
set_option maxHeartbeats 400000
theorem p2_ne {d : Nat} (h : d ≤ 7) : ¬(((2 : Int) ^ d) == 0) = true := by
  rcases (by (first | lia | omega) : d = 0 ∨ d = 1 ∨ d = 2 ∨ d = 3 ∨ d = 4 ∨ d = 5 ∨ d = 6 ∨ d = 7) with rfl | rfl | rfl | rfl | rfl | rfl | rfl | rfl <;> decide
theorem p2_py {v : Int} {d : Nat} (h : d ≤ 7) : ¬(Builtin.divisionGoesByPylong v ((2 : Int) ^ d)) = true := by
  have e : ∀ b : Int, (decide ((if b == 0 then 0 else b.natAbs.log2 / 30 + 1) > 300)) = false → ¬(Builtin.divisionGoesByPylong v b) = true := fun b hb hc => by
    unfold Builtin.divisionGoesByPylong at hc
    simp only [Bool.and_eq_true] at hc
    rw [hb] at hc; exact Bool.false_ne_true hc.1
  refine e _ ?_
  rcases (by (first | lia | omega) : d = 0 ∨ d = 1 ∨ d = 2 ∨ d = 3 ∨ d = 4 ∨ d = 5 ∨ d = 6 ∨ d = 7) with rfl | rfl | rfl | rfl | rfl | rfl | rfl | rfl <;> decide
/-- a number's bit -/
def bitAt (v : Int) (d : Nat) : Bool := (v.fdiv (2 ^ d)).fmod 2 == 1
section
variable {w : World} {A : Around} {s : Shared} {E : PQ} {env : Env}
theorem rows33 : True := by
  k_with_none
  exact trivial
theorem bit_test {nm : PySem.Str} {v : Int} {a i : Nat} {tv ti : Tok} {c C : Addr} {m : LM} {p1 p2 p3 p4 p5 p6 p7 p8 p9 pa pb : Pos} (ha : a ≤ 7) (hi : i ≤ a) (hv0 : 0 ≤ v) (hv1 : v < 256)
    (hn : s.heap.Ns C m) (hC : env.locals = C) (hm : m "k" = some (.int (i : Int) ti)) (hk : env.scope.kind = .function) (hx1 : env.kindOf nm = some .cell) (hx2 : env.kindOf "k" = some .local) (hd : (nm == ("__debug__" : PySem.Str)) = false) (hc : env.cells.lookup nm = some c) (hcell : s.heap.IsCell c (some (.int v tv))) :
    wpAny (model P0 w) A (isTrue (.Compare (.BinOp (.BinOp (.Name nm p1) .FloorDiv (.BinOp (.Constant (.int 2) 0 p2) .Pow (.BinOp (.Constant (.int (a : Int)) 0 p3) .Sub (.Name "k" p4) p5) p6) p7) .Mod (.Constant (.int 2) 0 p8) p9) [.Eq] [.Constant (.int 1) 0 pa] pb) env (eval (.Compare (.BinOp (.BinOp (.Name nm p1) .FloorDiv (.BinOp (.Constant (.int 2) 0 p2) .Pow (.BinOp (.Constant (.int (a : Int)) 0 p3) .Sub (.Name "k" p4) p5) p6) p7) .Mod (.Constant (.int 2) 0 p8) p9) [.Eq] [.Constant (.int 1) 0 pa] pb) env))
      (fun b s' => b = bitAt v (a - i) ∧ Keeps s s') E s := by
  k_with_none
  k_with "eval Name" => (first | ((with_reducible show wpAny _ _ (eval (Expr.Name (PySem.Str.ofString "k") _) _) _ _ _); k_dflt (refine nameG_L (C := C) hn hC hm ?_ hk hx2 (by decide))) | (k_dflt (refine wpAny_Name (wpAny_loadName_cell hk hx1 hc hcell ?_) hd)))
  k_with "And" => refine Here.of ?_
  k_with "binaryOp Pow int int" => refine Here.of ?_
  k_with "binaryOp FloorDiv int int" => refine Here.of ?_
  k_with "binaryOp Mod int int" => refine Here.of ?_
  k_steps
  unfold Here
  have e : ((a : Int) - i).toNat = a - i := by (first | lia | omega)
  refine PyProof.Rows.pow_int (by (first | lia | omega)) ?_ ?_
  · rw [show Builtin.Int.intBits 2 = 2 by decide]; (first | lia | omega)
  rw [e]
  have hd7 : a - i ≤ 7 := by (first | lia | omega)
  generalize a - i = d at hd7
  k_steps
  unfold Here
  refine AutoIntOps.floordiv_1 (p2_ne hd7) (p2_py hd7) ?_
  dsimp only [Made.post]
  k_steps
  unfold Here
  refine AutoIntOps.mod_1 (by decide) ?_
  dsimp only [Made.post]
  k_steps
  unfold Here
  exact ⟨rfl, s.heap, _, rfl, fun _ _ e => e⟩
end
end
section
open PySem PySem.W PyProof.Rows PySem.Spec PySem.Calls
set_option maxRecDepth 100000
set_option maxHeartbeats 0
abbrev signs64 : PySem.Str := PySem.Str.ofString "ABCDEFGHIJKLMNOPQRSTUVWXYZabcdefghijklmnopqrstuvwxyz0123456789+/"
/-- where the place is read -/
inductive PlaceCase (F1 : PySem.Str) (z pl : Nat) : Prop
  | inl (h1 : (Builtin.Str.occurrences (Txt.slice F1 none (some (z : Int))) (PySem.Str.ofString "[") 0 (Txt.slice F1 none (some (z : Int))).length 1).isEmpty = true) (h2 : (pl : Int) = z - 1) : PlaceCase F1 z pl
  | inr (h1 : (Builtin.Str.occurrences (Txt.slice F1 none (some (z : Int))) (PySem.Str.ofString "[") 0 (Txt.slice F1 none (some (z : Int))).length 1).isEmpty = false) (i1 i2 : Nat) (r1 r2 : List Nat) (D1 D2 : PySem.Str) (n : Int)
      (h2 : Builtin.Str.occurrences F1 (PySem.Str.ofString "[") 0 F1.length 1 = i1 :: r1) (h3 : Builtin.Str.occurrences F1 (PySem.Str.ofString "]") 0 F1.length 1 = i2 :: r2) (h4 : i1 ≤ 80) (h5 : i2 ≤ 80)
      (h6 : Txt.split (Txt.slice (Txt.slice F1 (some (i1 : Int)) (some ((i2 : Int) + 1))) (some 1) none) (PySem.Str.ofString " ") = [D1, D2]) (h7 : PySem.intText? D1 = some n) (h8 : D1.length ≤ 80) (h9 : 0 ≤ n) (h10 : n ≤ 100)
      (h11 : (pl : Int) = z - 1 - (Txt.slice F1 (some (i1 : Int)) (some ((i2 : Int) + 1))).length + n) : PlaceCase F1 z pl
inductive UnA (g : Heap) (L : Addr) (M : LM) (s : Shared) (z : Nat) (NB : Led) (f : Flow) (s' : Shared) : Prop
  | mk (h1 : f = .next) (h' : Heap) (tk : Nat) (t : Tok) (h2 : s' = { s with heap := h', toks := tk }) (h3 : Fr g L h' (bindM M "shown" (some (.int (z : Int) t)))) (h4 : News g L h' NB) : UnA g L M s z NB f s'
inductive UnB (g : Heap) (L : Addr) (F1 F2 Ln : PySem.Str) (t1 t2 tl tg t9 : Tok) (z pl : Nat) (s : Shared) (NB : Led) (f : Flow) (s' : Shared) : Prop
  | mk (h1 : f = .next) (h' : Heap) (tk : Nat) (M3 : LM) (tp : Tok) (h2 : s' = { s with heap := h', toks := tk }) (h3 : Fr g L h' M3) (h4 : News g L h' NB) (h5 : M3 "first" = some (.str F1 t1)) (h6 : M3 "second" = some (.str F2 t2)) (h7 : M3 "line" = some (.str Ln tl)) (h8 : M3 "signs" = some (.str signs64 tg)) (h9 : M3 "shown" = some (.int (z : Int) t9)) (h10 : M3 "place" = some (.int (pl : Int) tp)) : UnB g L F1 F2 Ln t1 t2 tl tg t9 z pl s NB f s'
theorem bindM_again (m : LM) (x : PySem.Str) (v v' : Option PySem.Value) : (fun z => if z = x then v' else bindM m x v z) = bindM m x v' := by
  funext z
  unfold bindM
  split <;> rfl
theorem item_of {x : PySem.Str} {i : Nat} (h : i < x.length) : Txt.item x (i : Int) = ⟨#[x.cps.getD i 0]⟩ := by
  have := PySem.W.item_meets (x := x) (i := (i : Int)) ⟨by (first | lia | omega), by (first | lia | omega)⟩
  rwa [Int.toNat_natCast] at this
theorem ints_head {ys : Array PySem.Value} {a : Int} {r : List Int} (h : IntsAre ys.toList (a :: r)) : ∃ t, ys[(0 : Int).toNat]? = some (.int a t) := by
  obtain ⟨l⟩ := ys
  cases h with
  | cons _ t _ => exact ⟨t, rfl⟩
section
variable {w : World} {A₀ : Around} {base h₀ : Heap} {L : Addr} {m : LM} {news : Led} {s : Shared} {Q E : PQ}
theorem rows34 : True := by
  k_with_none
  exact trivial
theorem unlike_spec {F1 F2 Ln : PySem.Str} {t1 t2 tl : Tok} {dp un : Nat} {gd : Option (List Code)} {cn : PySem.Str} {cs : Scope} {a : Addr} {ccd : PySem.Value} {cl : List (PySem.Str × Addr)} {outer : List Env} {lo : List PySem.Str} {mean : ExcName → Option PySem.Value} {mg mb : LM} {z : Nat}
    (XB : (K w.params).In base) (TB : Top q0 lo mean mg mb base) (B : Below A₀ base outer h₀) (F : Fr h₀ L s.heap m) (X : (K w.params).In h₀) (N : News h₀ L s.heap news) (T : Top q0 lo mean mg mb h₀) (hk : cs.kind = .function) (D : KtsDicts (outer.filterMap (·.frame)) h₀) (hd : dp + 130 < recursionLimit) (hu : un + 1300 < cLine)
    (h1 : F1.length ≤ 80) (h2 : F2.length ≤ 80) (hz1 : z < F1.length) (hz2 : z < F2.length) (heq : ∀ j, j < z → F1.cps.getD j 0 = F2.cps.getD j 0) (hne : F1.cps.getD z 0 ≠ F2.cps.getD z 0)
    (hLn : Ln.length ≤ 100) {pl : Nat} (hcase : PlaceCase F1 z pl)
    {ts : List (List Nat)} (hyl : (Txt.slice Ln none (some (pl : Int)) ++ PySem.Str.ofString "x").length ≤ 200) (hts : ts ≠ []) (hw : ∀ v ∈ ts, v ≠ [] ∧ ∀ c ∈ v, SignC c) (hlen : ts.length ≤ 900) (hcps : (Txt.slice Ln none (some (pl : Int)) ++ PySem.Str.ofString "x").cps.toList = joinW ts)
    {ia ib : Nat} {ra rb : List Nat} (hia : Builtin.Str.occurrences signs64 (Txt.item F1 (z : Int)) 0 signs64.length 1 = ia :: ra) (hib : Builtin.Str.occurrences signs64 (Txt.item F2 (z : Int)) 0 signs64.length 1 = ib :: rb) (hia64 : ia < 64) (hib64 : ib < 64)
    (hxor : 0 ≤ Builtin.bitXor (ia : Int) ib ∧ Builtin.bitXor (ia : Int) ib < 64) {rf : Int} (hrf : Txt.rfind (Txt.slice Ln none (some (pl : Int))) (PySem.Str.ofString " ") = rf) (hrf0 : -1 ≤ rf) {b6 : Nat} {r6 : List Int} (hb6 : ((List.range 6).filter (fun i => bitAt (Builtin.bitXor (ia : Int) ib) (5 - i))).map Int.ofNat = Int.ofNat b6 :: r6) (hb6l : b6 < 6) (hrf1 : rf ≤ 100) (hpl1 : pl ≤ 100)
    (hret : ∀ R c tw ta tb h₀' h' tk', KtsTurn (outer.filterMap (·.frame)) h₀ h₀' → Fr h₀' L h' m → News h₀' L h' ((R, listOf #[.int ((ts.length : Int) - 1) tw, .int ((6 * ((pl : Int) - 1 - rf) + b6).fdiv 8) ta, .int ((6 * ((pl : Int) - 1 - rf) + b6).fmod 8) tb] c) :: news) → Below A₀ base outer h₀' → Q (.ref R) { s with heap := h', toks := tk' }) :
    wpAny (model P0 w) (ktrTop dp un gd cn cs L a ccd cl outer) (call (.ref 850) [.str F1 t1, .str F2 t2, .str Ln tl]) Q E s := by
  refine wpAny_call ?_
  k_dflt (refine' enterSC [("first", .str F1 t1), ("second", .str F2 t2), ("line", .str Ln tl)] [] news ?k1 ?k2 ?k3 ?k4 ?k5 ?kD ?kA ?kF ?kK ?h1 ?h2 ?h3 ?k6 ?k7 ?k8 ?k9 ?hkd ?hnd ?c2 ?c3 ?c4 ?kG)
  k_dflt ((case kA => exact rfl); (case kF => exact rfl); (case kK => first | exact rfl | assumption); (case k1 => k_asm); (case k2 => k_asm); (case k3 => k_asm); (case k4 => k_asm); (case k5 => k_asm); (case kD => k_asm); (case k6 => k_is); (case k7 => k_is); (case k8 => ktr_room))
  case k9 => exact kp_binds (by k_in) (fun _ => by kernel_rfl)
  case c2 => exact rfl
  case c3 => exact rfl
  case c4 => exact rfl
  case hkd => exact fun n => by intro x hx; simp at hx; rcases hx with rfl | rfl | rfl <;> (left; rfl)
  case hnd => decide
  case h1 => exact fun _ h => nomatch h
  case h2 => exact fun _ h => h
  case h3 => exact fun _ _ h => nomatch h
  intro g' L' h' tk' cells FG' F' N' Y' B' X' T' D' R' st' _
  obtain ⟨o1, rfl, d1'⟩ := CellsAre.one Y'
  clear Y'
  (try dsimp only [List.reverse_cons, List.reverse_nil, List.nil_append, List.cons_append] at F' N'); (try dsimp only); (try k_fold)
  k_with "exec While Compare cons nil" => refine Here.of ?_
  k_steps
  unfold Here
  rename Fr g' L' _ _ => F9
  rename News g' L' _ _ => N9
  generalize hM : (fun z => if z = PySem.Str.ofString "shown" then _ else _) = M at F9
  have nF : M "first" = some (.str F1 t1) := by rw [← hM]; rfl
  have nS : M "second" = some (.str F2 t2) := by rw [← hM]; rfl
  have nL : M "line" = some (.str Ln tl) := by rw [← hM]; rfl
  obtain ⟨tg, nG⟩ : ∃ tg, M "signs" = some (.str signs64 tg) := ⟨_, by rw [← hM]; rfl⟩
  obtain ⟨tz, nZ⟩ : ∃ tz, M "shown" = some (.int 0 tz) := ⟨_, by rw [← hM]; rfl⟩
  clear hM
  refine wpAny_mono (Q := UnA g' L' M s z [(L' + 1, o1)])
    (While_inv (fun n m₁ news₁ => ∃ (k : Nat) (t : Tok), k ≤ z ∧ m₁ = bindM M "shown" (some (.int (k : Int) t)) ∧ [(L' + 1, o1)] = news₁ ∧ n = z - k) F9 N9 ⟨0, tz, Nat.zero_le _, by rw [Int.ofNat_zero, ← nZ]; exact bindM_start M "shown", rfl, rfl⟩ ?_) (fun f s' hx => ?_) (fun _ _ e => e)
  · rintro n m₁ news₁ h₁ tk₁ F₁ N₁ ⟨k, t, hk1, rfl, rfl, rfl⟩
    have nF' : bindM M "shown" (some (.int (k : Int) t)) "first" = some (.str F1 t1) := (if_neg (by decide)).trans nF
    have nS' : bindM M "shown" (some (.int (k : Int) t)) "second" = some (.str F2 t2) := (if_neg (by decide)).trans nS
    have nK' : bindM M "shown" (some (.int (k : Int) t)) "shown" = some (.int (k : Int) t) := if_pos rfl
    clear F9 N9
    k_with "eval Name" => (k_dflt (first | (refine nameG_L (C := L') (Fr.ns (by assumption)) rfl nF' ?_ (by kernel_rfl) (by kernel_rfl) (by decide)) | (refine nameG_L (C := L') (Fr.ns (by assumption)) rfl nS' ?_ (by kernel_rfl) (by kernel_rfl) (by decide)) | (refine nameG_L (C := L') (Fr.ns (by assumption)) rfl nK' ?_ (by kernel_rfl) (by kernel_rfl) (by decide))))
    k_with "WhileStep" => refine Here.of ?_
    k_with "Exists" => refine Here.of ?_
    k_with "UnA" => refine Here.of ?_
    k_steps
    · unfold Here
      rename Fr g' L' _ _ => FA
      rename News g' L' _ _ => NA
      have hb : (Txt.item F1 (k : Int) == Txt.item F2 (k : Int)) = true := by assumption
      have hlt : k < z := by
        refine Nat.lt_of_le_of_ne hk1 fun e => ?_
        subst e
        rw [item_of hz1, item_of hz2] at hb
        exact hne (by simpa using hb)
      rw [bindM_again] at FA
      exact WhileStep.intro FA NA (n' := z - (k + 1)) (by (first | lia | omega)) ⟨k + 1, _, hlt, rfl, rfl, rfl⟩
    · unfold Here
      rename Fr g' L' _ _ => FA
      rename News g' L' _ _ => NA
      have hb : (Txt.item F1 (k : Int) == Txt.item F2 (k : Int)) = false := by assumption
      have he : k = z := by
        refine Nat.le_antisymm hk1 (Nat.not_lt.mp fun hlt => ?_)
        rw [item_of (by (first | lia | omega)), item_of (by (first | lia | omega)), heq k hlt] at hb
        simp at hb
      subst he
      exact ⟨rfl, _, _, t, rfl, FA, NA⟩
  · obtain ⟨rfl, h9, tk9, t9, rfl, F10, N10⟩ := hx
    obtain ⟨M1, hM1⟩ : ∃ M1 : LM, M1 = bindM M "shown" (some (.int (z : Int) t9)) := ⟨_, rfl⟩
    rw [← hM1] at F10
    have nF1 : M1 "first" = some (.str F1 t1) := by rw [hM1]; exact (if_neg (by decide)).trans nF
    have nS1 : M1 "second" = some (.str F2 t2) := by rw [hM1]; exact (if_neg (by decide)).trans nS
    have nL1 : M1 "line" = some (.str Ln tl) := by rw [hM1]; exact (if_neg (by decide)).trans nL
    have nG1 : M1 "signs" = some (.str signs64 tg) := by rw [hM1]; exact (if_neg (by decide)).trans nG
    have nZ1 : M1 "shown" = some (.int (z : Int) t9) := by rw [hM1]; exact if_pos rfl
    clear hM1 nF nS nL nG nZ F9 N9
    dsimp only
    k_with_none
    k_with "exec If" => refine Here.of ?_
    k_with "eval Name" => ((rename Fr _ _ _ _ => kF9); k_dflt (first | (refine nameG_L (C := L') kF9.ns rfl nF1 ?_ (by kernel_rfl) (by kernel_rfl) (by decide)) | (refine nameG_L (C := L') kF9.ns rfl nS1 ?_ (by kernel_rfl) (by kernel_rfl) (by decide)) | (refine nameG_L (C := L') kF9.ns rfl nL1 ?_ (by kernel_rfl) (by kernel_rfl) (by decide)) | (refine nameG_L (C := L') kF9.ns rfl nG1 ?_ (by kernel_rfl) (by kernel_rfl) (by decide)) | (refine nameG_L (C := L') kF9.ns rfl nZ1 ?_ (by kernel_rfl) (by kernel_rfl) (by decide))))
    k_steps
    unfold Here
    rename Fr g' L' _ _ => F11
    rename News g' L' _ _ => N11
    generalize hM2 : (fun y => if y = PySem.Str.ofString "place" then _ else M1 y) = M2 at F11
    have nF2 : M2 "first" = some (.str F1 t1) := by rw [← hM2]; exact (if_neg (by decide)).trans nF1
    have nS2 : M2 "second" = some (.str F2 t2) := by rw [← hM2]; exact (if_neg (by decide)).trans nS1
    have nL2 : M2 "line" = some (.str Ln tl) := by rw [← hM2]; exact (if_neg (by decide)).trans nL1
    have nG2 : M2 "signs" = some (.str signs64 tg) := by rw [← hM2]; exact (if_neg (by decide)).trans nG1
    have nZ2 : M2 "shown" = some (.int (z : Int) t9) := by rw [← hM2]; exact (if_neg (by decide)).trans nZ1
    obtain ⟨tp, nP2⟩ : ∃ tp, M2 "place" = some (.int ((z : Int) - 1) tp) := ⟨_, by rw [← hM2]; exact if_pos rfl⟩
    clear hM2 nF1 nS1 nL1 nG1 nZ1
    refine wpAny_mono (Q := UnB g' L' F1 F2 Ln t1 t2 tl tg t9 z pl s [(L' + 1, o1)]) ?_ (fun f s' hx => ?_) (fun _ _ e => e)
    · k_with_none
      k_with "eval Name" => ((rename Fr _ _ _ _ => kF9); k_dflt (first | (refine nameG_L (C := L') kF9.ns rfl nF2 ?_ (by kernel_rfl) (by kernel_rfl) (by decide)) | (refine nameG_L (C := L') kF9.ns rfl nZ2 ?_ (by kernel_rfl) (by kernel_rfl) (by decide)) | (refine nameG_L (C := L') kF9.ns rfl nP2 ?_ (by kernel_rfl) (by kernel_rfl) (by decide))))
      k_with "compareOp In str str" => refine Here.of ?_
      k_with "UnB" => refine Here.of ?_
      k_with "call builtin:str.index" => refine Here.of ?_
      k_with "call builtin:str.split" => refine Here.of ?_
      k_with "subscriptTail Name Slice str ref" => refine Here.of ?_
      k_steps
      unfold Here
      refine slice_strN_ns (by assumption) (by assumption) (fun hS tS kS FS NS => ?_) (hsz := Nat.le_trans h1 (by decide))
      k_steps
      unfold Here
      refine PyProof.Rows.in_str ?_
      rcases hcase with ⟨hin, hpl⟩ | ⟨hin, i1, i2, r1, r2, D1, D2, n, hi1, hi2, hi1s, hi2s, hsp, hD1, hD1l, hn0, hn1, hpl⟩
      · rw [hin]
        k_steps
        unfold Here
        exact ⟨rfl, _, _, M2, tp, rfl, by assumption, by assumption, nF2, nS2, nL2, nG2, nZ2, hpl ▸ nP2⟩
      · rw [hin]
        k_steps
        unfold Here
        refine PySem.SC.index hi1 ?_
        k_steps
        unfold Here
        refine PySem.SC.index hi2 ?_
        k_steps
        unfold Here
        refine slice_strN_ss (by assumption) (by assumption) (fun hS tS kS FS NS => ?_) (hsz := Nat.le_trans h1 (by decide))
        k_steps
        unfold Here
        refine slice_strN_sn (by assumption) (by assumption) (fun hS tS kS FS NS => ?_) (hsz := Nat.le_trans (Txt.slice_le _ _ _) (Nat.le_trans h1 (by decide)))
        k_steps
        unfold Here
        have hmk : (Txt.slice (Txt.slice F1 (some (i1 : Int)) (some ((i2 : Int) + 1))) (some 1) none).length ≤ 80 := Nat.le_trans (Txt.slice_le _ _ _) (Nat.le_trans (Txt.slice_le _ _ _) h1)
        refine KSpl.split1 (by assumption) (by assumption) (by decide) (fun D7 l h7 k7 hl _ F7 N7 lt7 => ?_) (Nat.le_trans (Nat.add_le_add_right hmk 2) (by decide))
        obtain ⟨w0, w1, rfl⟩ := strs_vals2 (hl.trans hsp)
        clear hl lt7
        simp only [strValues, List.map_cons, List.map_nil] at N7
        k_with "subscriptTail Call Attribute cons nil Constant ref int" => refine Here.of ?_
        k_steps
        unfold Here
        refine tail_list (items := #[.str D1 w0, .str D2 w1]) (x := .str D1 w0) (News.isList (by assumption) (.head _)) (by decide) (by decide) rfl ?_
        k_steps
        unfold Here
        rename Fr g' L' _ _ => FZ
        rename News g' L' _ _ => NZ
        exact ⟨rfl, _, _, _, _, rfl, FZ, fun p hp => NZ p (by rw [List.mem_singleton.mp hp]; simp), nF2, nS2, nL2, nG2, nZ2, (if_pos rfl).trans (congrArg (fun x : Int => some (PySem.Value.int x _)) hpl.symm)⟩
    · obtain ⟨rfl, h11, tk11, M3, tp3, rfl, F12, N12, nF3, nS3, nL3, nG3, nZ3, nP3⟩ := hx
      clear nF2 nS2 nL2 nG2 nZ2 nP2 F11 N11
      dsimp only
      k_with_none
      k_with "eval Name" => ((rename Fr _ _ _ _ => kF9); k_dflt (first | (refine nameG_L (C := L') kF9.ns rfl nF3 ?_ (by kernel_rfl) (by kernel_rfl) (by decide)) | (refine nameG_L (C := L') kF9.ns rfl nS3 ?_ (by kernel_rfl) (by kernel_rfl) (by decide)) | (refine nameG_L (C := L') kF9.ns rfl nL3 ?_ (by kernel_rfl) (by kernel_rfl) (by decide)) | (refine nameG_L (C := L') kF9.ns rfl nG3 ?_ (by kernel_rfl) (by kernel_rfl) (by decide)) | (refine nameG_L (C := L') kF9.ns rfl nZ3 ?_ (by kernel_rfl) (by kernel_rfl) (by decide)) | (refine nameG_L (C := L') kF9.ns rfl nP3 ?_ (by kernel_rfl) (by kernel_rfl) (by decide))))
      k_with "call builtin:str.index" => refine Here.of ?_
      k_with "subscriptTail Name Slice str ref" => refine Here.of ?_
      k_with "call ref" => ((with_reducible show wpAny _ _ (call (Value.ref 808) _ _) _ _ _); refine Here.of ?_)
      k_with "eval ListComp" => refine Here.of ?_
      k_with "call builtin:str.rfind" => refine Here.of ?_
      k_with "call builtin:len" => ((with_reducible show wpAny _ _ (call (Value.builtin "len") [Value.ref _]) _ _ _); refine Here.of ?_)
      k_steps
      unfold Here
      refine slice_strN_ns (by assumption) (by assumption) (fun hS tS kS FS NS => ?_) (hsz := Nat.le_trans hLn (by decide))
      k_steps
      unfold Here
      rename Fr g' L' _ _ => F13
      rename News g' L' _ _ => N13
      refine split_spec (dp := dp + 1) (un := un + 3) (ts := ts) B' F13 X' N13 T' rfl D' (by (first | lia | omega)) (by (first | lia | omega)) hyl hts hw hlen hcps (fun S vs c' g2 h' tk' hvs hT2 hF2 hN2 hB2 => ?_)
      have X2 := XB.keeps hB2.stays
      have T2 := TB.keeps hB2.stays
      have hvl : vs.length = ts.length := by rw [strs_len hvs, List.length_map]
      clear X' T' D' B' F13 N13
      try clear F12
      try clear N12
      try clear FG'
      k_steps
      unfold Here
      refine len_strsA (News.isList hN2 (.head _)) hvs ?_ ?_
      · rw [List.length_map]; (first | lia | omega)
      rw [List.length_map]
      k_steps
      unfold Here
      refine PySem.SC.index hia ?_
      k_steps
      unfold Here
      refine PySem.SC.index hib ?_
      k_steps
      unfold Here
      refine slice_strN_ns (by assumption) (by assumption) (fun hS tS kS FS NS => ?_) (hsz := Nat.le_trans hLn (by decide))
      k_steps
      unfold Here
      refine PySem.SC.rfind ?_
      rw [hrf]
      k_steps
      unfold Here
      rename _ = Data.cell (some (.int _ _)) => hcS
      rename Fr g2 L' _ _ => F20
      rename News g2 L' _ _ => N20
      generalize hM5 : (fun y => if y = PySem.Str.ofString "word" then _ else M3 y) = M5 at F20
      obtain ⟨tw5, nW5⟩ : ∃ tw5, M5 "word" = some (.int ((ts.length : Int) - 1) tw5) := ⟨_, by rw [← hM5]; exact if_pos rfl⟩
      clear hM5
      refine filter_range (h₀ := g2) (L := L') (m := M5) (n := 6) (cl := [("six", L' + 1)]) (fun i => bitAt (Builtin.bitXor (ia : Int) ib) (5 - i)) rfl (by kernel_rfl) (by decide) rfl (by decide) rfl (by decide) ?_
      k_with "FrIn" => refine Here.of ?_
      k_steps
      unfold Here
      refine ⟨_, _, _, _, _, rfl, by assumption, by decide, by decide, by assumption, by assumption, by decide, ?_, ?_⟩
      · intro C i tk s₃ m₃ E' hi hn hm hk hb
        have hcell : s₃.heap.IsCell (L' + 1) (some (.int (Builtin.bitXor (ia : Int) ib) _)) := ⟨_, hk _ (.tail _ (.head _)), hcS⟩
        exact bit_test (a := 5) (by (first | lia | omega)) (by (first | lia | omega)) hxor.1 (Int.lt_trans hxor.2 (by decide)) hn rfl hm (by kernel_rfl) (by kernel_rfl) (by kernel_rfl) (by decide) (by kernel_rfl) hcell
      · intro D9 h9' tk9' c9 ys9 F21 N21 off21 hys
        rw [hb6] at hys
        obtain ⟨t6, ht6⟩ := ints_head hys
        k_with_none
        k_with "subscriptTail ListComp Name cons Constant ref int" => refine Here.of ?_
        k_with "LeaveT" => refine Here.of ?_
        k_with "eval Name" => ((with_reducible show wpAny _ _ (eval (Expr.Name (PySem.Str.ofString "word") _) _) _ _ _); (rename Fr _ _ _ _ => kF9); k_dflt (refine nameG_L (C := L') kF9.ns rfl nW5 ?_ (by kernel_rfl) (by kernel_rfl) (by decide)))
        k_steps
        unfold Here
        refine tail_list (items := ys9) (x := .int (b6 : Int) t6) ⟨_, (N21 _ (.head _)).1, rfl, c9, rfl⟩ (by decide) (by decide) ht6 ?_
        k_steps
        unfold Here
        rename Fr g2 L' _ _ => FZ
        rename News g2 L' _ _ => NZ
        exact ⟨g2, _, _, [_], hT2, FZ, fun p hp => NZ p (by rw [List.mem_singleton.mp hp]; exact .head _), fun h0' q1 q2 q3 q4 => hret _ _ _ _ _ h0' _ _ q1 q2 q3 q4⟩
end
end
section
open PySem PySem.W PyProof.Rows PySem.Spec PySem.Calls
set_option maxRecDepth 100000
set_option maxHeartbeats 4000000
section
variable {w : World} {A : Around} {E : PQ} {s : Shared} {Q : PQ} {a : Addr} {x y : PySem.Str} {t u : Tok}
def pick2 (x y : PySem.Str) : Nat → PySem.Str
  | 0 => x
  | _ => y
theorem two_at {i : Nat} {v : PySem.Value} (h : (#[.str x t, .str y u] : Array PySem.Value)[i]? = some v) : ∃ tk, v = .str (pick2 x y i) tk := by
  match i, h with
  | 0, h => exact ⟨t, (Option.some.inj h).symm⟩
  | 1, h => exact ⟨u, (Option.some.inj h).symm⟩
theorem min_strs (hh : A.handled = none) (hT : s.heap.IsTuple a #[.str x t, .str y u])
    (hQ : ∀ tz h' tk, (∀ b o, s.heap.get? b = some o → h'.get? b = some o) → Q (.str (if y.cps.toList < x.cps.toList then y else x) tz) { s with heap := h', toks := tk }) :
    wpAny (model P0 w) A (call (.builtin "min") [.ref a]) Q E s := by
  refine call_min_walk (wpAny_pyIter_tuple hT ?_)
  have hlt : a < s.heap.objs.size := by obtain ⟨o, e, _⟩ := hT; exact Heap.lt_size e
  refine ⟨_, [_, a], [_], 2, _, _, fun i j => decide ((pick2 x y i).cps.toList < (pick2 x y j).cps.toList), rfl, Walks.tuple (A := A.in1) hh _ a (Nat.ne_of_lt hlt) #[.str x t, .str y u],
    ⟨⟨_, Heap.get?_push_size _ rfl, rfl, rfl⟩, hT.push _⟩, fun c hc => ?_, by decide, ?_, fun v h' tk hP hk => ?_⟩
  · show c < (s.heap.push _).objs.size
    rw [Heap.size_push]
    rcases List.mem_cons.mp hc with rfl | hc
    · exact Nat.lt_succ_self _
    · rw [List.mem_singleton.mp hc]; exact Nat.lt_succ_of_lt hlt
  · intro i j vi vj s Q E hi hj hQ
    obtain ⟨_, rfl⟩ := two_at hi
    obtain ⟨_, rfl⟩ := two_at hj
    exact lt_str hQ
  · obtain ⟨tz, rfl⟩ := two_at hP
    have e : pick2 x y (argBest (fun i j => decide ((pick2 x y i).cps.toList < (pick2 x y j).cps.toList)) (2 - 1)) = if y.cps.toList < x.cps.toList then y else x := by
      show pick2 x y (if decide (y.cps.toList < x.cps.toList) = true then 1 else 0) = _
      by_cases h : y.cps.toList < x.cps.toList
      · rw [if_pos h, if_pos (decide_eq_true h)]; rfl
      · rw [if_neg h, if_neg (by simpa using h)]; rfl
    rw [e]
    exact hQ tz h' tk fun b o e' => hk b o (fun hm => Nat.ne_of_lt (Heap.lt_size e') (List.mem_singleton.mp hm)) (Heap.get?_push_of_some _ e')
theorem max_strs (hh : A.handled = none) (hT : s.heap.IsTuple a #[.str x t, .str y u])
    (hQ : ∀ tz h' tk, (∀ b o, s.heap.get? b = some o → h'.get? b = some o) → Q (.str (if y.cps.toList > x.cps.toList then y else x) tz) { s with heap := h', toks := tk }) :
    wpAny (model P0 w) A (call (.builtin "max") [.ref a]) Q E s := by
  refine call_max_walk (wpAny_pyIter_tuple hT ?_)
  have hlt : a < s.heap.objs.size := by obtain ⟨o, e, _⟩ := hT; exact Heap.lt_size e
  refine ⟨_, [_, a], [_], 2, _, _, fun i j => decide ((pick2 x y i).cps.toList > (pick2 x y j).cps.toList), rfl, Walks.tuple (A := A.in1) hh _ a (Nat.ne_of_lt hlt) #[.str x t, .str y u],
    ⟨⟨_, Heap.get?_push_size _ rfl, rfl, rfl⟩, hT.push _⟩, fun c hc => ?_, by decide, ?_, fun v h' tk hP hk => ?_⟩
  · show c < (s.heap.push _).objs.size
    rw [Heap.size_push]
    rcases List.mem_cons.mp hc with rfl | hc
    · exact Nat.lt_succ_self _
    · rw [List.mem_singleton.mp hc]; exact Nat.lt_succ_of_lt hlt
  · intro i j vi vj s Q E hi hj hQ
    obtain ⟨_, rfl⟩ := two_at hi
    obtain ⟨_, rfl⟩ := two_at hj
    exact P.gt_str hQ
  · obtain ⟨tz, rfl⟩ := two_at hP
    have e : pick2 x y (argBest (fun i j => decide ((pick2 x y i).cps.toList > (pick2 x y j).cps.toList)) (2 - 1)) = if y.cps.toList > x.cps.toList then y else x := by
      show pick2 x y (if decide (y.cps.toList > x.cps.toList) = true then 1 else 0) = _
      by_cases h : y.cps.toList > x.cps.toList
      · rw [if_pos h, if_pos (decide_eq_true h)]; rfl
      · rw [if_neg h, if_neg (by simpa using h)]; rfl
    rw [e]
    exact hQ tz h' tk fun b o e' => hk b o (fun hm => Nat.ne_of_lt (Heap.lt_size e') (List.mem_singleton.mp hm)) (Heap.get?_push_of_some _ e')
end
end
section
open PySem PySem.W PyProof.Rows PySem.Spec PySem.Calls
set_option maxRecDepth 100000
set_option maxHeartbeats 4000000
section
variable {w : World} {A : Around} {E : PQ} {s : Shared} {h₀ : Heap} {env : Env} {iter target : PySem.Expr} {pos : Pos} {body : List Stmt} {Q : Flow → Shared → Prop}
inductive FaNext (h₀ : Heap) (L : Addr) (s₂ : Shared) (fp : List Addr) (h : Heap) (J : LM → Heap → Prop) (s₄ : Shared) : Prop
  | mk (h' : Heap) (tk' : Nat) (m₂ : LM) (h1 : s₄ = { s₂ with heap := h', toks := tk' }) (h2 : Fr h₀ L h' m₂) (h3 : J m₂ h') (h4 : ∀ b ∈ fp, ∀ o, h.get? b = some o → h'.get? b = some o) : FaNext h₀ L s₂ fp h J s₄
inductive FaIn (w : World) (A : Around) (E : PQ) (h₀ : Heap) (env : Env) (target : PySem.Expr) (body : List Stmt) (Q : Flow → Shared → Prop) (J : Addr → Nat → LM → Heap → Prop) (it : PySem.Value) (s₂ : Shared) : Prop
  | mk (I : Addr) (fp wr : List Addr) (n : Nat) (P : Nat → PySem.Value → Heap → Prop) (Md : Nat → PySem.Value → Heap → Prop) (St : Nat → Heap → Prop) (m : LM) (h1 : it = .ref I) (h2 : KTurns P0 w A target I fp wr n P Md St) (h3 : St 0 s₂.heap) (h4 : Fr h₀ env.locals s₂.heap m) (h5 : env.locals ∉ wr) (h6 : ∀ b ∈ wr, h₀.get? b = none) (h7 : J I 0 m s₂.heap)
      (h8 : ∀ i m h h', J I i m h → (∀ b o, b ∉ wr → h.get? b = some o → h'.get? b = some o) → J I i m h')
      (h9 : ∀ i v m₁ h tk, i < n → P i v h → J I i m₁ h → Fr h₀ env.locals h m₁ →
        wpAny (model P0 w) A (assign target env v) (fun _ s₃ => wpAny (model P0 w) A (execs body env) (fun f s₄ => match f with
          | .ret v => Q (.ret v) s₄
          | .brk => Q .next s₄
          | _ => FaNext h₀ env.locals s₂ fp h (J I (i + 1)) s₄) E s₃) E { s₂ with heap := h, toks := tk })
      (h10 : ∀ h tk m, J I n m h → Fr h₀ env.locals h m → Q .next { s₂ with heap := h, toks := tk }) : FaIn w A E h₀ env target body Q J it s₂
inductive FaJ (h₀ : Heap) (L I : Addr) (s₂ : Shared) (n : Nat) (St : Nat → Heap → Prop) (J : Addr → Nat → LM → Heap → Prop) (k : Nat) (s' : Shared) : Prop
  | mk (h' : Heap) (tk : Nat) (i : Nat) (m' : LM) (h1 : s' = { s₂ with heap := h', toks := tk }) (h2 : i ≤ n) (h3 : k = n - i) (h4 : St i h') (h5 : Fr h₀ L h' m') (h6 : J I i m' h') : FaJ h₀ L I s₂ n St J k s'
/-- a for loop by an invariant on the names and the heap; the body may return -/
theorem For_any (J : Addr → Nat → LM → Heap → Prop)
    (h : wpAny (model P0 w) A (eval iter env) (fun xv s₁ => wpAny (model P0 w) A (pyIter xv) (fun it s₂ => FaIn w A E h₀ env target body Q J it s₂) E s₁) E s)
    (hs : ∀ x, foldedSetIterable iter env x = pure x := by intro _; rfl)
    (hE : PassesOwn (model P0 w) A env E := by passes_own) :
    wpAny (model P0 w) A (exec (.For target iter body [] pos) env) Q E s := by
  refine wpAny_For (wpAny_mono h (fun xv s₁ h₁ => wpAny_mono h₁ (fun it s₂ h₂ => ?_) fun _ _ e => e) fun _ _ e => e) hs
  obtain ⟨I, fp, wr, n, P, Md, St, m, rfl, W, hst, F, hL, hwr, h0, hmono, step, fin⟩ := h₂
  have next : ∀ (h' h₁ : Heap) m', Fr h₀ env.locals h' m' → (∀ b o, b ∉ wr → h'.get? b = some o → h₁.get? b = some o) → Fr h₀ env.locals h₁ m' := fun h' h₁ m' F' hk => ⟨F'.ns.at' fun o e => hk _ o hL e, fun b o e => hk b o (fun hb => by rw [hwr b hb] at e; cases e) (F'.keep b o e), F'.above⟩
  refine codeAny_forLoop_any (FaJ h₀ env.locals I s₂ n St J) ?_ n ⟨_, _, 0, m, rfl, Nat.zero_le _, rfl, hst, F, h0⟩
  rintro k s' ⟨h', tk, i, m', rfl, hi, rfl, hst', F', hJ⟩
  by_cases hlt : i < n
  · refine W.item i _ _ _ hlt hst' fun v h₁ tk₁ hMd hk₁ => ?_
    refine W.go i v _ _ _ hMd fun h₂ hP hst₂ hk₂ => ?_
    have kk : ∀ b o, b ∉ wr → h'.get? b = some o → h₂.get? b = some o := fun b o hb x => hk₂ b o hb (hk₁ b o hb x)
    refine wpAny_passesOwn hE (wpAny_mono (step i v m' h₂ tk₁ hlt hP (hmono _ _ _ _ hJ kk) (next _ _ _ F' kk)) (fun _ s₃ h₃ => wpAny_passesOwn hE (wpAny_mono h₃ (fun f s₄ h₄ => ?_) fun _ _ e => e)) fun _ _ e => e)
    cases f with
    | ret v => exact h₄
    | brk => exact h₄
    | cont =>
      obtain ⟨h₅, tk₅, m₂, rfl, F₅, hJ₅, kf⟩ := h₄
      exact ⟨n - (i + 1), by omega, h₅, tk₅, i + 1, m₂, rfl, hlt, rfl, W.frame _ _ _ hst₂ kf, F₅, hJ₅⟩
    | next =>
      obtain ⟨h₅, tk₅, m₂, rfl, F₅, hJ₅, kf⟩ := h₄
      exact ⟨n - (i + 1), by omega, h₅, tk₅, i + 1, m₂, rfl, hlt, rfl, W.frame _ _ _ hst₂ kf, F₅, hJ₅⟩
  · obtain rfl : i = n := Nat.le_antisymm hi (Nat.not_lt.mp hlt)
    refine W.done _ _ _ hst' fun h₂ tk₂ hk₂ => ?_
    refine wpAny_execs_nil ?_
    exact fin h₂ tk₂ m' (hmono _ _ _ _ hJ hk₂) (next _ _ _ F' hk₂)
end
end
section
open PySem PySem.W PyProof.Rows PySem.Spec PySem.Calls
set_option maxRecDepth 100000
set_option maxHeartbeats 0
theorem minmax_cases {x y s1 s2 : PySem.Str} {p : Nat} (h1 : s1 = (if y.cps.toList < x.cps.toList then y else x)) (h2 : s2 = (if y.cps.toList > x.cps.toList then y else x)) (hxy : x.length = y.length) (hp : p < x.length) (heq : ∀ j, j < p → x.cps[j]? = y.cps[j]?) (hne : x.cps[p]? ≠ y.cps[p]?) :
    p < s1.length ∧ s1.length = s2.length ∧ (∀ j, j < p → s1.cps[j]? = s2.cps[j]?) ∧ s1.cps[p]? ≠ s2.cps[p]? := by
  by_cases a : y.cps.toList < x.cps.toList
  · rw [if_pos a] at h1
    rw [if_neg (fun b => List.lt_irrefl _ (List.lt_trans a b))] at h2
    subst h1; subst h2
    exact ⟨hxy ▸ hp, hxy.symm, fun j hj => (heq j hj).symm, Ne.symm hne⟩
  · rw [if_neg a] at h1
    by_cases b : x.cps.toList < y.cps.toList
    · rw [if_pos b] at h2
      subst h1; subst h2
      exact ⟨hp, hxy, heq, hne⟩
    · exact absurd (by rw [Array.toList_inj.mp (List.le_antisymm (List.not_lt.mp a) (List.not_lt.mp b))]) hne
theorem draws_str {w : World} {A : Around} (hh : A.handled = none) (it : Addr) (x : PySem.Str) (t : Tok) :
    Draws P0 w A it [it] x.cps.size (fun i v => ∃ c u, x.cps[i]? = some c ∧ v = .str ⟨#[c]⟩ u) (fun i h => h.IsStrIter it (strIterType x) x t i) := by
  have e : strIterType x = "str_ascii_iterator" ∨ strIterType x = "str_iterator" := by
    unfold strIterType
    split
    · exact .inl rfl
    · exact .inr rfl
  rcases e with e | e
  · rw [e]; exact Draws.strAscii hh it x t
  · rw [e]; exact Draws.strWide hh it x t
section
variable {w : World} {A : Around} {base h₀ : Heap} {L : Addr} {m : LM} {news : Led} {s : Shared} {Q E : PQ}
theorem rows35 : True := by
  k_with_none
  k_with "FaNext" => (refine Here.of ?_)
  k_with "call builtin:min" => (k_extra "my min")
  k_with "call builtin:max" => (k_extra "my max")
  k_with "exec For Tuple Call cons nil" => (refine Here.of ?_)
  k_with "call type:enumerate" => (refine Here.of ?_)
  k_with "subscriptTail" => (refine Here.of ?_)
  k_with "compareOp" => (refine Here.of ?_)
  k_with "eval Name" => (k_extra "my nm")
  k_with "call type:type" => (((with_reducible show wpAny _ _ (call (Value.type "type") [Value.bytes _ _]) _ _ _); refine type_bytes ?_))
  exact trivial
theorem prefix_spec {tp : Addr} {x y : PySem.Str} {tx ty : Tok} {p : Nat} (c : Cx w base h₀ L m news s.heap 20 200 A) (hT : ∃ o, (tp, o) ∈ news ∧ o.cls = .type "tuple" ∧ ∃ c, o.data = .seq #[.str x tx, .str y ty] c) (hx : x.length ≤ 200) (hxy : x.length = y.length) (hp : p < x.length) (heq : ∀ j, j < p → x.cps[j]? = y.cps[j]?) (hne : x.cps[p]? ≠ y.cps[p]?)
    (hret : ∀ t, Back h₀ L m news s Q (.str (Txt.slice (if y.cps.toList < x.cps.toList then y else x) none (some (p : Int))) t)) :
    wpAny (model P0 w) A (call (.ref 100) [.ref tp]) Q E s := by
  rcases c with ⟨dp, un, gd, cn, cs, a, ccd, cl, outer, A₀, lo, mean, mg, mb, B, F, X, N, T, hk, hd, hu⟩
  refine wpAny_call ?_
  k_dflt (refine' enterP [("m", .ref tp)] [] news ?k1 ?k2 ?k3 ?k4 ?k5 ?kA ?kF ?kK ?h1 ?h2 ?h3 ?k6 ?k7 ?k8 ?k9 ?kB ?c2 ?c3 ?c4 ?c5 ?kG)
  k_dflt ((case kA => exact rfl); (case kF => exact rfl); (case kK => first | exact rfl | assumption); (case k1 => k_asm); (case k2 => k_asm); (case k3 => k_asm); (case k4 => k_asm); (case k5 => k_asm); (case k6 => k_is); (case k7 => k_is); (case k8 => ktr_room); (case k9 => exact kp_binds (by k_in) (fun _ => by kernel_rfl)); (case kB => exact locs rfl); (case c2 => exact rfl); (case c3 => exact rfl); (case c4 => exact rfl); (case c5 => decide); (case h1 => exact fun _ h => nomatch h); (case h2 => exact fun _ h => h); (case h3 => exact fun _ _ h => nomatch h); (intro g' L' h' FG' F' N' B' X' T' R'); (try dsimp only [List.reverse_cons, List.reverse_nil, List.nil_append, List.cons_append] at F'); (try dsimp only); (try k_fold))
  obtain ⟨oT, hT1, hT2, cT, hT3⟩ := hT
  have hTg : IsTup g' tp #[.str x tx, .str y ty] := ⟨_, R' _ hT1, hT2, cT, hT3⟩
  k_with "my min" => (k_dflt (refine min_strs rfl (let ⟨o, e, r⟩ := hTg; ⟨o, Fr.keep (by assumption) _ _ e, r⟩) ?_); intro tz' h' tk' kp'; (rename Fr _ _ _ _ => F'); replace F' := Fr.keeps F' kp')
  k_with "my max" => (k_dflt (refine max_strs rfl (let ⟨o, e, r⟩ := hTg; ⟨o, Fr.keep (by assumption) _ _ e, r⟩) ?_); intro tz' h' tk' kp'; (rename Fr _ _ _ _ => F'); replace F' := Fr.keeps F' kp')
  clear N'
  k_steps
  unfold Here
  rename Fr _ _ _ _ => F9
  obtain ⟨s1, hs1⟩ : ∃ s1, s1 = (if y.cps.toList < x.cps.toList then y else x) := ⟨_, rfl⟩
  obtain ⟨s2, hs2⟩ : ∃ s2, s2 = (if y.cps.toList > x.cps.toList then y else x) := ⟨_, rfl⟩
  rw [← hs1] at F9 hret
  rw [← hs2] at F9
  obtain ⟨e1, e2, e3, e4⟩ := minmax_cases hs1 hs2 hxy hp heq hne
  generalize hM : (fun z => if z = PySem.Str.ofString "s2" then _ else _) = M at F9
  have ms1 : ∃ t1, M "s1" = some (.str s1 t1) := ⟨_, by rw [← hM]; rfl⟩
  have ms2 : ∃ t2, M "s2" = some (.str s2 t2) := ⟨_, by rw [← hM]; rfl⟩
  obtain ⟨t1, ms1⟩ := ms1
  obtain ⟨t2, ms2⟩ := ms2
  clear hM
  refine For_any (h₀ := g') (fun I i m h => m "s1" = M "s1" ∧ m "s2" = M "s2" ∧ i ≤ p) ?_
  k_with "my nm" => (k_dflt (refine nameG_L (C := L') (Fr.ns (by assumption)) rfl ms1 ?_ (by kernel_rfl) (by kernel_rfl) (by decide)))
  k_steps
  unfold Here
  rename_i h5
  refine call_enumerate_str (fun h6 he hit hsz6 k6 => ?_)
  have W := fun (A' : Around) (hA : A'.handled = none) => (WalksT.enumerateD (A := A') (draws_str (w := w) (A := A'.in1) hA h5.objs.size s1 t1) (h5.objs.size + 1) (Nat.succ_ne_self _) (by simp) (by simp)).toU
  refine (W _ rfl).self 0 _ _ _ ⟨⟨.none, he⟩, hit⟩ ?_
  have hL5 : L' < h5.objs.size := F9.ns.lt
  have fr5 : ∀ b, h5.objs.size ≤ b → g'.get? b = none := fun b hb => by
    cases e : g'.get? b with
    | none => rfl
    | some o => exact absurd (Heap.lt_size (F9.keep _ _ e)) (Nat.not_lt.mpr hb)
  refine ⟨h5.objs.size + 1, _, _, _, _, _, _, M, rfl, KTurns.ofWalksU (W _ rfl), ⟨⟨.none, he⟩, hit⟩, F9.keeps k6, fun hm => ?_, fun b hb => ?_, ⟨rfl, rfl, Nat.zero_le _⟩, fun i m h h' J _ => J, ?_, ?_⟩
  · rcases List.mem_cons.mp hm with e | hm
    · have : L' = h5.objs.size + 1 := e
      exact Nat.lt_irrefl _ (Nat.lt_trans (Nat.lt_succ_self _) (this ▸ hL5))
    · have : L' = h5.objs.size := List.mem_singleton.mp hm
      exact Nat.lt_irrefl _ (this ▸ hL5)
  · rcases List.mem_cons.mp hb with rfl | hb
    · exact fr5 _ (Nat.le_succ _)
    · rw [List.mem_singleton.mp hb]; exact fr5 _ (Nat.le_refl _)
  · rintro i v m₁ h7 tk7 hi ⟨T7, vals, rfl, ⟨ti, xv, ⟨c7, u7, hc7, rfl⟩, rfl⟩, hT7⟩ ⟨j1, j2, j3⟩ F7
    refine assign_Tuple_tuple rfl hT7 rfl rfl (fun h8 he8 => ?_)
    have F8 := F7.extBut he8 (Nat.le_refl _)
    refine assignInOrder_cons (wpAny_assign_Name (wpAny_storeName_local (by kernel_rfl) F8.ns (fun h9 hn9 hs9 => ?_) (by kernel_rfl)))
    have F10 := F8.set hn9 hs9
    refine assignInOrder_cons (wpAny_assign_Name (wpAny_storeName_local (by kernel_rfl) F10.ns (fun h11 hn11 hs11 => ?_) (by kernel_rfl)))
    have F12 := F10.set hn11 hs11
    refine assignInOrder_nil ?_
    have keepF : ∀ b o, h7.get? b = some o → b ≠ L' → h11.get? b = some o := fun b o e hb => hs11.extBut _ _ hb (hs9.extBut _ _ hb (he8 _ _ (Nat.ne_of_lt (Heap.lt_size e)) e))
    clear hn9 hs9 hn11 hs11 he8 F8 F10 hT7 F7
    obtain ⟨M2, hM2⟩ : ∃ M2 : LM, M2 = (fun z => if z = PySem.Str.ofString "c" then some (.str ⟨#[c7]⟩ u7) else if z = PySem.Str.ofString "i" then some (.int (i : Int) ti) else m₁ z) := ⟨_, rfl⟩
    replace F12 : Fr g' L' h11 M2 := hM2 ▸ F12
    have nS1 : M2 "s1" = some (.str s1 t1) := by rw [hM2]; exact j1.trans ms1
    have nS2 : M2 "s2" = some (.str s2 t2) := by rw [hM2]; exact j2.trans ms2
    have nI : M2 "i" = some (.int (i : Int) ti) := by rw [hM2]; rfl
    have nC : M2 "c" = some (.str ⟨#[c7]⟩ u7) := by rw [hM2]; rfl
    clear hM2
    k_with "my nm" => (k_dflt (first | (refine nameG_L (C := L') (Fr.ns (by assumption)) rfl nS2 ?_ (by kernel_rfl) (by kernel_rfl) (by decide)) | (refine nameG_L (C := L') (Fr.ns (by assumption)) rfl nI ?_ (by kernel_rfl) (by kernel_rfl) (by decide)) | (refine nameG_L (C := L') (Fr.ns (by assumption)) rfl nC ?_ (by kernel_rfl) (by kernel_rfl) (by decide)) | (refine nameG_L (C := L') (Fr.ns (by assumption)) rfl nS1 ?_ (by kernel_rfl) (by kernel_rfl) (by decide))))
    have hi' : i < s2.length := by
      have : i < s1.length := hi
      (first | lia | omega)
    have hit7 : Txt.item s2 (i : Int) = ⟨#[s2.cps.getD i 0]⟩ := by
      have := PySem.W.item_meets (x := s2) (i := (i : Int)) ⟨by (first | lia | omega), by (first | lia | omega)⟩
      rwa [Int.toNat_natCast] at this
    have hc2 : s2.cps[i]? = some (s2.cps.getD i 0) := by
      have : i < s2.cps.size := hi'
      simp [Array.getD, this]
    k_steps
    · unfold Here
      rename_i hb
      have hip : i = p := by
        refine Nat.le_antisymm j3 (Nat.not_lt.mp fun hlt => ?_)
        have h1 := e3 i hlt
        rw [hc7, hc2] at h1
        rw [hit7, ← Option.some.inj h1] at hb
        simp at hb
      subst hip
      refine slice_str_ns (h₀ := g') (L := L') (m := M2) (by assumption) (fun h' t' k' F' => ?_) (hsz := ?_)
      · refine leaveK_ (news' := []) F' (fun _ h => nomatch h) (fun F8 N8 NR => hret _ _ _ F8 NR)
      · have : s1.length ≤ 200 := by rw [hs1]; split <;> (first | lia | omega)
        exact Nat.le_trans this (by decide)
    · unfold Here
      rename_i hb
      refine ⟨h11, _, M2, rfl, by assumption, ⟨nS1.trans ms1.symm, nS2.trans ms2.symm, ?_⟩, fun b hb7 o e => keepF b o e ?_⟩
      · refine Nat.lt_of_le_of_ne j3 fun hip => ?_
        subst hip
        refine e4 ?_
        rw [hc7, hc2]
        rw [hit7] at hb
        simpa using hb
      · intro e7
        rcases List.mem_cons.mp hb7 with e8 | hm
        · have : L' = h5.objs.size + 1 := e7.symm.trans e8
          exact Nat.lt_irrefl _ (Nat.lt_trans (Nat.lt_succ_self _) (this ▸ hL5))
        · have : L' = h5.objs.size := e7.symm.trans (List.mem_singleton.mp hm)
          exact Nat.lt_irrefl _ (this ▸ hL5)
  · rintro h7 tk7 m7 ⟨_, _, j3⟩ _
    have : s1.cps.size ≤ p := j3
    exact absurd e1 (Nat.not_lt.mpr this)
end
end
section
open PySem PySem.W PyProof.Rows PySem.Spec PySem.Calls
set_option maxRecDepth 100000
set_option maxHeartbeats 0
theorem strs_two {ys : List PySem.Value} {x y : PySem.Str} (h : StrsAre ys (List.take 2 [x, y])) : ∃ t u, ys = [.str x t, .str y u] := by
  cases h with
  | cons _ t h => cases h with
    | cons _ u h => cases h; exact ⟨t, u, rfl⟩
section
variable {w : World} {A : Around} {base h₀ : Heap} {L : Addr} {m : LM} {news : Led} {s : Shared} {Q E : PQ}
theorem rows36 : True := by
  k_with_none
  k_with "eval ListComp" => (refine Here.of ?_)
  k_with "call type:tuple" => (refine Here.of ?_)
  k_with "call type:type" => (((with_reducible show wpAny _ _ (call (Value.type "type") [Value.bytes _ _]) _ _ _); refine type_bytes ?_))
  k_with "call ref" => (((with_reducible show wpAny _ _ (call (Value.ref 58) _ _) _ _ _); k_dflt (refine' kind_spec (Cx.mk _ _ _ _ _ _ _ _ _ _ _ _ _ _ ?b ?f ?x ?n ?t ?k ?d ?u) ?_; ((case b => k_asm); (case f => k_asm); (case x => k_asm); (case n => k_asm); (case t => k_asm); (case k => first | exact rfl | assumption); (case d => ktr_room); (case u => ktr_units)); (intro _ _ _ _ _))))
  k_with "call ref" => (((with_reducible show wpAny _ _ (call (Value.ref 65) _ _) _ _ _); k_dflt (refine' fspath_spec (Cx.mk _ _ _ _ _ _ _ _ _ _ _ _ _ _ ?b ?f ?x ?n ?t ?k ?d ?u) ?_; ((case b => k_asm); (case f => k_asm); (case x => k_asm); (case n => k_asm); (case t => k_asm); (case k => first | exact rfl | assumption); (case d => ktr_room); (case u => ktr_units)); (intro _ _ _ _))))
  exact trivial
theorem common_spec {tp : Addr} {x y : PySem.Str} {tx ty : Tok} {p : Nat} {rest : Led} (c : Cx w base h₀ L m ((tp, { cls := .type "tuple", data := .seq [.str x tx, .str y ty].toArray }) :: rest) s.heap 30 300 A) (hoff : ∀ p ∈ rest, p.1 ≠ tp) (hx : x.length ≤ 200) (hxy : x.length = y.length) (hp : p < x.length) (heq : ∀ j, j < p → x.cps[j]? = y.cps[j]?) (hne : x.cps[p]? ≠ y.cps[p]?)
    (hret : ∀ t, Back h₀ L m ((tp, { cls := .type "tuple", data := .seq [.str x tx, .str y ty].toArray }) :: rest) s Q (.str (Txt.slice (if y.cps.toList < x.cps.toList then y else x) none (some (p : Int))) t)) :
    wpAny (model P0 w) A (call (.ref 105) [.ref tp]) Q E s := by
  rcases c with ⟨dp, un, gd, cn, cs, a, ccd, cl, outer, A₀, lo, mean, mg, mb, B, F, X, N, T, hk, hd, hu⟩
  refine wpAny_call ?_
  k_dflt (refine' enterP [("m", .ref tp)] [(tp, { cls := .type "tuple", data := .seq [.str x tx, .str y ty].toArray })] rest ?k1 ?k2 ?k3 ?k4 ?k5 ?kA ?kF ?kK ?h1 ?h2 ?h3 ?k6 ?k7 ?k8 ?k9 ?kB ?c2 ?c3 ?c4 ?c5 ?kG)
  k_dflt ((case kA => exact rfl); (case kF => exact rfl); (case kK => first | exact rfl | assumption); (case k1 => k_asm); (case k2 => k_asm); (case k3 => k_asm); (case k4 => k_asm); (case k5 => k_asm); (case k6 => k_is); (case k7 => k_is); (case k8 => ktr_room); (case k9 => exact kp_binds (by k_in) (fun _ => by kernel_rfl)); (case kB => exact locs rfl); (case c2 => exact rfl); (case c3 => exact rfl); (case c4 => exact rfl); (case c5 => decide); (case h1 => exact fun _ h => by rw [List.mem_singleton.mp h]; exact List.mem_cons_self); (case h2 => exact fun _ h => List.mem_cons_of_mem _ h); (case h3 => exact offOne (by assumption)); (intro g' L' h' FG' F' N' B' X' T' R'); (try dsimp only [List.reverse_cons, List.reverse_nil, List.nil_append, List.cons_append] at F'); (try dsimp only); (try k_fold))
  k_steps
  unfold Here
  rename Fr _ _ _ _ => F9
  rename News _ _ _ _ => N9
  rename_i h5 tk5
  generalize hM : (fun z => if z = PySem.Str.ofString "x" then _ else _) = M at F9
  have nM : M "m" = some (.ref tp) := by rw [← hM]; rfl
  clear hM
  replace F9 : Fr g' L' h5 M := F9
  have hTu : ∀ h, News g' L' h [(tp, ({ cls := .type "tuple", data := .seq [.str x tx, .str y ty].toArray } : Obj))] → h.IsTuple tp #[.str x tx, .str y ty] := fun h N => ⟨_, (N _ (.head _)).1, rfl, _, rfl⟩
  have hlt5 : tp < h5.objs.size := Heap.lt_size (N9 _ (.head _)).1
  refine ListComp_W (h₀ := g') (L := L') (m := M) rfl (by decide) rfl (by decide) rfl ?_
  refine nameG_L (C := L') (v := .ref tp) F9.ns rfl nM ?_ (by kernel_rfl) (by kernel_rfl) (by decide)
  refine wpAny_pyIter_tuple (hTu _ N9) ?_
  refine ⟨h5.objs.size, _, 2, _, _, fun nw => nw = [(tp, ({ cls := .type "tuple", data := .seq [.str x tx, .str y ty].toArray } : Obj))], [(tp, ({ cls := .type "tuple", data := .seq [.str x tx, .str y ty].toArray } : Obj))], rfl, Walks.tuple rfl _ tp (Nat.ne_of_lt hlt5) #[.str x tx, .str y ty], by decide, fun i h st => ?_, fun i h h' o nw st e e' k N hnw => ?_, ⟨⟨_, Heap.get?_push_size _ rfl, rfl, rfl⟩, (hTu _ N9).push _⟩, fun b hb => ?_, F9.push _, fun p hp => ⟨Heap.get?_push_of_some _ (N9 p hp).1, (N9 p hp).2⟩,
    Nat.ne_of_lt F9.ns.lt, next_is_new F9, fun p hp => Nat.ne_of_lt (Heap.lt_size (N9 p hp).1), rfl,
    comp_ind (fun i ys nw' => nw' = [(tp, ({ cls := .type "tuple", data := .seq [.str x tx, .str y ty].toArray } : Obj))] ∧ StrsAre ys ([x, y].take i)) ?_ ?_ 2 0 [] _ (Nat.zero_add _) ⟨rfl, .nil⟩⟩
  · obtain ⟨⟨o, e, _⟩, _⟩ := st; exact ⟨o, e⟩
  · subst hnw
    obtain ⟨⟨o', q, r⟩, _⟩ := st
    rw [e] at q; cases q
    exact ⟨⟨o, e', r⟩, hTu _ N⟩
  · show b < (h5.objs.push _).size
    rw [Array.size_push]
    rcases List.mem_cons.mp hb with rfl | hb
    · exact Nat.lt_succ_self _
    · rw [List.mem_singleton.mp hb]; exact Nat.lt_succ_of_lt hlt5
  · rintro ys _ ⟨rfl, hs⟩ D h6 tk6 F6 N6 o6
    refine args_nil ?_
    obtain ⟨u1, u2, rfl⟩ := strs_two hs
    refine call_tuple_list ⟨_, (N6 _ (.head _)).1, rfl, _, rfl⟩ (fun h7 kp7 => ?_) (by exact (by decide : 2 ≤ sizeLine))
    have F8 : Fr g' L' (h7.push { cls := .type "tuple", data := .seq [.str x u1, .str y u2].toArray }) M := (F6.keeps kp7).push _
    have N8 : News g' L' (h7.push { cls := .type "tuple", data := .seq [.str x u1, .str y u2].toArray }) [(h7.objs.size, ({ cls := .type "tuple", data := .seq [.str x u1, .str y u2].toArray } : Obj)), (tp, ({ cls := .type "tuple", data := .seq [.str x tx, .str y ty].toArray } : Obj))] := fun p hp => by
      rcases List.mem_cons.mp hp with rfl | hp
      · exact ⟨Heap.get?_push_size _ rfl, Nat.ne_of_gt (F6.keeps kp7).ns.lt, next_is_new (F6.keeps kp7)⟩
      · have z := N6 p (.tail _ hp)
        exact ⟨Heap.get?_push_of_some _ (kp7 _ _ z.1), z.2⟩
    refine args_nil ⟨X'.keeps F8.keep, ?_⟩
    refine prefix_spec (x := x) (y := y) (tx := u1) (ty := u2) (p := p) (Cx.mk (dp + 1) (un + 3) _ _ _ _ _ _ _ _ _ _ _ _ B' F8 X' N8 T' rfl (by omega) (by omega)) ⟨_, .head _, rfl, _, rfl⟩ hx hxy hp heq hne (fun t h9 tk9 F9' N9' => ?_)
    refine leaveK_ (news' := [(tp, ({ cls := .type "tuple", data := .seq [.str x tx, .str y ty].toArray } : Obj))]) F9' (fun p hp => N9' p (.tail _ hp)) (fun FA NA NR => hret _ _ _ FA fun p hp => ?_)
    rcases List.mem_cons.mp hp with rfl | hp
    · exact NA _ (.head _)
    · exact NR _ hp
  · rintro i ys _ v I oI C oC D m₂ h6 tk6 E6 hi ⟨rfl, hs⟩ hv hC hx6 F6 N6 off6 ne6
    obtain ⟨tv, rfl⟩ := two_at hv
    k_steps
    refine LCg.CompEnd.intro (all := (I, oI) :: (C, oC) :: (D, LCg.lst ys) :: [(tp, ({ cls := .type "tuple", data := .seq [.str x tx, .str y ty].toArray } : Obj))]) (by assumption) (by assumption) _ (fun _ h => h) off6 rfl ⟨rfl, ?_⟩
    match i, hi with
    | 0, _ => exact strsAre_append hs (.cons _ _ .nil)
    | 1, _ => exact strsAre_append hs (.cons _ _ .nil)
end
end
section
open PySem PySem.W PyProof.Rows PySem.Spec PySem.Calls
set_option maxRecDepth 100000
set_option maxHeartbeats 4000000
section
variable {w : World} {A A₀ : Around} {base h₀ : Heap} {outer : List Env} {env : Env} {L : Addr} {m mg mb : LM} {news : Led} {s : Shared} {lo : List PySem.Str} {mean : ExcName → Option PySem.Value}
  {R : Result → Shared → Prop} {name qual : PySem.Str} {params : Arguments} {body : List Stmt} {scope : Scope} {dV kV doc pm cdv ct oc : PySem.Value} {an od : Option Addr} {osl : Array (Option PySem.Value)} {f : Addr} {args : Args}
/-- the frame of a def with cells and a rest of its arguments (`*args`) -/
theorem enterCV {g₁ : Addr → Option (List (PySem.Str × PySem.Value))} (vs : List PySem.Value) (binds : Addr → List (PySem.Str × PySem.Value)) (own rest : Led) (B : Below A₀ base outer h₀) (F : Fr h₀ L s.heap m) (X₀ : (K w.params).In h₀) (N : News h₀ L s.heap news) (T : Top q0 lo mean mg mb h₀)
    (hA : A.frames = some (env :: outer)) (hf : env.frame = some L) (hke : env.scope.kind = .function)
    (hown : ∀ p ∈ own, p ∈ news) (hrest : ∀ p ∈ rest, p ∈ news) (hoff : ∀ p ∈ rest, p.1 ∉ own.map (·.1))
    (ho : (K w.params).lookup f = some ⟨oc, od, .func (fnOf name qual params body scope dV kV doc pm an cdv ct), osl⟩) (hcd : codeIn (K w.params) cdv qual = true) (hroom : A.depth < recursionLimit)
    (hp : peek1 (K w.params) ⟨P0, w.params⟩ (bindArgs (fnOf name qual params body scope dV kV doc pm an cdv ct) args) = some (({ cls := .type "tuple", data := .seq vs.toArray } : Obj), g₁))
    (hg : ∀ D, g₁ D = some (binds D))
    (hkind : ∀ D n, ∀ x ∈ binds D, scope.names.lookup x.1 = some .local ∨ (scope.names.lookup x.1 = some .cell ∧ ((cellsFrom n scope.names []).lookup x.1).isSome = true))
    (hnd : ((cellsFrom 0 scope.names []).map (·.1)).Nodup)
    (hco : scope.isCoroutine = false) (hgen : scope.isGenerator = false) (hk : scope.kind = .function)
    (h : ∀ D g L' h₁ tk cells, Fr h₀ L g m → Fr g L' h₁ (bindL (envOfC qual scope L' f cdv).kindOf (binds D) fun _ => none) → News g L' h₁ (cells ++ (D, ({ cls := .type "tuple", data := .seq vs.toArray } : Obj)) :: own) →
      CellsAre (bindC (envOfC qual scope L' f cdv).kindOf (binds D) fun _ => none) (cellsFrom (L' + 1) scope.names []) cells → Below A base (env :: outer) g → (K w.params).In g → Top q0 lo mean mg mb g → (∀ p ∈ rest, g.get? p.1 = some p.2) → h₀.StaysIn g → (∀ p ∈ own, p.1 < D) → D < L' →
      wpAny (model P0 w) (A.deeper (envOfC qual scope L' f cdv)) (execs body (envOfC qual scope L' f cdv))
        (fun fl s' => LeaveK h₀ L m g (fun r s'' => News h₀ L s''.heap rest → R r s'') (match fl with | .ret v => v | _ => .none) s')
        (fun e s' => wpAny (model P0 w) (A.deeper (envOfC qual scope L' f cdv)) (leaving (envOfC qual scope L' f cdv) e) (fun _ s'' => R (.error e) s'') (fun e' s'' => R (.error e') s'') s')
        { s with heap := h₁, toks := tk }) :
    codeAny (model P0 w) A (.call (.ref f) args) R s := by
  have XH := X₀.keeps F.keep
  refine codeAny_call_function hroom (XH _ _ ho) rfl hco hgen rfl (codeRec_of XH hcd) ?_
  refine wp_of_peek1 (o := ({ cls := .type "tuple", data := .seq vs.toArray } : Obj)) F N XH rfl (r := binds) (fun D hD FD ND lD => ?_) _ g₁ hp hg
  have No : News h₀ L hD ((D, ({ cls := .type "tuple", data := .seq vs.toArray } : Obj)) :: own) := fun p hp => by
    rcases List.mem_cons.mp hp with rfl | hp
    · exact ND _ (.head _)
    · exact ND _ (.tail _ (hown p hp))
  have XD := X₀.keeps FD.keep
  obtain ⟨FG, BG, st, lv⟩ := groundX (s := { s with heap := hD }) (R := fun r s'' => News h₀ L s''.heap rest → R r s'') B FD No hA hf hke
  have hr : ∀ p ∈ rest, (hideAll hD (((D, ({ cls := .type "tuple", data := .seq vs.toArray } : Obj)) :: own).map (·.1))).get? p.1 = some p.2 := fun p hp => hideAll_get _ (ND p (.tail _ (hrest p hp))).1 (fun hm => by
    rcases List.mem_cons.mp hm with e | hm
    · exact absurd (lD p (hrest p hp)) (e ▸ Nat.lt_irrefl _)
    · exact hoff p hp hm)
  refine wpAny_newFunctionEnv_cells hk (hkind D _) fun env' he s' x => ?_
  subst he
  refine ⟨(T.nolimit.keeps FD.keep).keeps x.toInCall.keep, codeAny_func ?_⟩
  obtain ⟨h₁, tk, rfl, _⟩ := x.done
  have hk₁ := x.toInCall.keep
  obtain ⟨cells, NC, Y⟩ := Cl.news (h₀ := hD) (Nat.le_refl _) fun n c hm => ⟨x.cell n c (lookup_of_mem_nodup (cellsFrom_names scope.names 0 (hD.objs.size + 1) [] [] rfl ▸ hnd) hm), x.above n c hm⟩
  refine wpAny_mono (h D _ hD.objs.size h₁ tk cells FG ⟨x.toInCall.ns, fun b o e => hk₁ b o (of_hideAll _ e), Nat.le_of_eq (hideAll_size _ _)⟩ (fun p hp => ?_) Y BG (X₀.keeps st) (T.keeps st) hr st (fun p hp => lD p (hown p hp)) (Heap.lt_size (No _ (.head _)).1)) (fun fl s' hl => ?_) fun _ _ y => y
  · rcases List.mem_append.mp hp with hp | hp
    · refine ⟨(NC p hp).1, (NC p hp).2.1, ?_⟩
      cases q : (hideAll hD (((D, ({ cls := .type "tuple", data := .seq vs.toArray } : Obj)) :: own).map (·.1))).get? p.1 with
      | none => rfl
      | some o => have := of_hideAll _ q; rw [(NC p hp).2.2] at this; cases this
    · exact ⟨hk₁ _ _ (No p hp).1, Nat.ne_of_lt (Heap.lt_size (No p hp).1), hideAll_none _ (List.mem_map_of_mem hp)⟩
  · refine lv _ _ hl ?_
    obtain ⟨L', m', news', F', N', k⟩ := hl
    exact fun p hp => ⟨F'.keep _ _ (hr p hp), (ND p (.tail _ (hrest p hp))).2⟩
end
end
section
open PySem PySem.W PyProof.Rows PySem.Spec PySem.Calls
open Sem (wp)
open AutoSeq1 (wpAny_loadPart')
set_option maxRecDepth 100000
set_option maxHeartbeats 4000000
theorem mro_map : mroOf (.type "map") = pure [.type "map", .type "object"] := by rw [mroOf_type]; kernel_rfl
theorem lookup_map_new : typeLookup (.type "map") "__new__" = pure (some (.builtin "map.__new__")) := by rw [typeLookup_type, builtinLookup_eq_fast]; kernel_rfl
theorem slot_map_init : Slot "map" "__init__" "object.__init__" := .of (owner := "object") (n := "__init__") (by rw [typeLookup_type, builtinLookup_eq_fast]; kernel_rfl) (by decide +kernel) (by decide +kernel) (by decide +kernel) (by first | exact .inl (by decide +kernel) | exact .inr (by decide +kernel)) (by rw [isSubtype_type]; kernel_rfl)
theorem slot_map_next : Slot "map" "__next__" "map.__next__" := .of (owner := "map") (n := "__next__") (by rw [typeLookup_type, builtinLookup_eq_fast]; kernel_rfl) (by decide +kernel) (by decide +kernel) (by decide +kernel) (by first | exact .inl (by decide +kernel) | exact .inr (by decide +kernel)) (by rw [isSubtype_type]; kernel_rfl)
theorem slot_map_iter : Slot "map" "__iter__" "map.__iter__" := .of (owner := "map") (n := "__iter__") (by rw [typeLookup_type, builtinLookup_eq_fast]; kernel_rfl) (by decide +kernel) (by decide +kernel) (by decide +kernel) (by first | exact .inl (by decide +kernel) | exact .inr (by decide +kernel)) (by rw [isSubtype_type]; kernel_rfl)
theorem called_map : TypeCalled "map" "map.__new__" "object.__init__" :=
  ⟨by decide +kernel, by decide +kernel, ⟨_, _, mro_map⟩, madeBy_type mro_map lookup_map_new (by decide +kernel), by decide +kernel, by rw [isSubtype_type]; kernel_rfl, slot_map_init⟩
theorem typeCall_map (a b : PySem.Value) : checkTypeCall "map" ⟨[a, b], []⟩ = pure () := by kernel_rfl
theorem newCall_map (a b : PySem.Value) : checkBuiltinCall "map.__new__" ⟨[.type "map", a, b], []⟩ = pure () := by kernel_rfl
theorem entry_map_new : entryFor table "map.__new__" = some Builtin.«map.__new__» := entryFor_of_tree (by kernel_rfl)
theorem entry_map_next : entryFor table "map.__next__" = some Builtin.«map.__next__» := entryFor_of_tree (by kernel_rfl)
theorem args_map_next (a : PySem.Value) : argsOk "map.__next__" ⟨[a], []⟩ := by unfold argsOk; kernel_rfl
theorem args_init3 (a b c : PySem.Value) : argsOk "object.__init__" ⟨[a, b, c], []⟩ := PySem.F.initArgs_range_2 a b c
theorem sub_map : isSubtype (.type "map") (.type "map") = pure true := by rw [isSubtype_type]; kernel_rfl
theorem meets_map_new (f : PySem.Value) (t : Addr) (items : Array PySem.Value) (n : Nat) (dct : Option Addr) (sl : Array (Option PySem.Value)) :
    Meets (Builtin.«map.__new__» ⟨[.type "map", f, .ref t], []⟩) (fun _ R s => s.heap.get? t = some { cls := .type "tuple", dict := dct, data := .seq items n, slots := sl } ∧
      R (.ok (.ret (.ref (s.heap.objs.size + 1 + 1))))
        { s with heap := ((s.heap.push { cls := .type "tuple_iterator", data := .fields #[.ref t, .int 0 0] }).push { cls := .type "tuple", data := .seq #[.ref s.heap.objs.size] }).push { cls := .type "map", data := .fields #[.ref (s.heap.objs.size + 1), f] } }) :=
  .of_wp fun prog w A R s h => by
    obtain ⟨hp, g, d, tk, os⟩ := s; obtain ⟨hl, h⟩ := h
    have hsub := sub_map
    have hL : Heap.IsTuple (Shared.heap ⟨hp, g, d, tk, os⟩) t items := ⟨_, hl, rfl, n, rfl⟩
    wp_walk using wpAny_loadPart' hl, wpAny_pyIter_tuple hL
    refine ⟨_, rfl, ?_⟩
    rw [Heap.size_push, Heap.size_push]
    exact h
theorem call_map {w : World} {A : Around} {E : PQ} {s : Shared} {f : PySem.Value} {t : Addr} {items : Array PySem.Value} {Q : PQ} (hT : s.heap.IsTuple t items)
    (h : ∀ h', (∀ b o, s.heap.get? b = some o → h'.get? b = some o) → h'.IsTupleIter s.heap.objs.size t 0 → h'.get? (s.heap.objs.size + 1) = some { cls := .type "tuple", data := .seq #[.ref s.heap.objs.size] } → h'.get? (s.heap.objs.size + 2) = some { cls := .type "map", data := .fields #[.ref (s.heap.objs.size + 1), f] } → h'.objs.size = s.heap.objs.size + 3 → Q (.ref (s.heap.objs.size + 2)) { s with heap := h' }) :
    wpAny (model P0 w) A (call (.type "map") [f, .ref t]) Q E s := by
  obtain ⟨⟨c, dct, dt, sl⟩, hl, hc, n, hd⟩ := hT
  replace hc : c = .type "tuple" := hc
  replace hd : dt = .seq items n := hd
  subst hc hd
  have e1 : (s.heap.push { cls := .type "tuple_iterator", data := .fields #[.ref t, .int 0 0] }).objs.size = s.heap.objs.size + 1 := Heap.size_push ..
  have g2 := Heap.get?_push_size (s.heap.push { cls := .type "tuple_iterator", data := .fields #[.ref t, .int 0 0] }) (o := { cls := .type "tuple", data := .seq #[.ref s.heap.objs.size] }) rfl
  rw [e1] at g2
  have e2 : ((s.heap.push { cls := .type "tuple_iterator", data := .fields #[.ref t, .int 0 0] }).push { cls := .type "tuple", data := .seq #[.ref s.heap.objs.size] }).objs.size = s.heap.objs.size + 2 := by rw [Heap.size_push, e1]
  have g3 := Heap.get?_push_size ((s.heap.push { cls := .type "tuple_iterator", data := .fields #[.ref t, .int 0 0] }).push { cls := .type "tuple", data := .seq #[.ref s.heap.objs.size] }) (o := { cls := .type "map", data := .fields #[.ref (s.heap.objs.size + 1), f] }) rfl
  rw [e2] at g3
  refine callType_new called_map (by decide) (typeCall_map _ _) (newCall_map _ _) (fun obj => args_init3 obj _ _) entry_map_new (meets_map_new f t items n dct sl) ⟨hl, ?_⟩
  refine ⟨⟨_, g3, rfl⟩, h _ (fun b o e => Heap.get?_push_of_some _ (Heap.get?_push_of_some _ (Heap.get?_push_of_some _ e))) ⟨_, Heap.get?_push_of_some _ (Heap.get?_push_of_some _ (Heap.get?_push_size _ rfl)), rfl, rfl⟩ (Heap.get?_push_of_some _ g2) g3 (by rw [Heap.size_push, e2])⟩
end
section
open PySem PySem.W PyProof.Rows PySem.Spec PySem.Calls
open Sem (wp)
set_option maxRecDepth 100000
set_option maxHeartbeats 4000000
section
variable {w : World} {A : Around} {E : PQ} {s : Shared}
theorem nextOf_tuple_item {it t : Addr} {i : Nat} {items : Array PySem.Value} {x : PySem.Value} {Q : PQ} (hit : s.heap.IsTupleIter it t i)
    (ht : s.heap.IsTuple t items) (hx : items[i]? = some x)
    (hQ : ∀ h', h'.IsTupleIter it t (i + 1) → Heap.SameBut it s.heap h' → Q x { s with heap := h' }) :
    wpAny (model P0 w) A (Builtin.SmallTypes.nextOf (.ref it)) Q E s := by
  obtain ⟨o, ho, hc, hd⟩ := id hit
  obtain ⟨ol, hol, _, nl, hdl⟩ := ht
  unfold Builtin.SmallTypes.nextOf
  refine wpAny_bind (wpAny_callSpecial?_slot (name := Str.ofString "__next__") hit.typeIs F.slot_tuple_iterator_next
    (wpAny_call_entry F.slot_tuple_iterator_next hit.typeIs F.entry_tuple_iterator_next ?_ (F.args_tuple_iterator_next_1 _)))
  show wpAny _ _ (field (.ref it) 0 >>= _) _ _ s
  refine wpAny_bind (wpAny_field ho hd (x := .ref t) rfl ?_)
  show wpAny _ _ (if (Value.ref t == Value.none) = true then _ else _) _ _ s
  rw [if_neg (show ¬ ((Value.ref t == Value.none) = true) from Bool.false_ne_true)]
  show wpAny _ _ (field (.ref it) 1 >>= _) _ _ s
  refine wpAny_bind (wpAny_field ho hd (x := .int i 0) rfl ?_)
  show wpAny _ _ (seqItems? (.ref t) >>= _) _ _ s
  refine wpAny_bind (wpAny_seqItems hol hdl ?_)
  simp only [Int.toNat_natCast, hx]
  refine wpAny_bind (wpAny_setField ho hd (by simp) (wpAny_pure ⟨x, rfl, wpAny_pure (hQ _ ?_ (Heap.SameBut.update ..))⟩))
  exact ⟨_, Heap.get?_update_self _ ho (Obj.isFreed_of_fields (Obj.data_mapFields hd _)), (Obj.cls_mapFields ..).trans hc, by
    rw [Obj.data_mapFields hd]; simp [rawInt]⟩
theorem nextOf_tuple_end {it t : Addr} {i : Nat} {items : Array PySem.Value} {Q : PQ} (hh : A.handled = none)
    (hit : s.heap.IsTupleIter it t i) (ht : s.heap.IsTuple t items) (hx : items[i]? = none)
    (hE : ∀ h' e, Heap.ExtBut it s.heap h' → (∃ o, h'.get? e = some o ∧ o.cls = .type "StopIteration") → E (.ref e) { s with heap := h' }) :
    wpAny (model P0 w) A (Builtin.SmallTypes.nextOf (.ref it)) Q E s := by
  obtain ⟨o, ho, hc, hd⟩ := id hit
  obtain ⟨ol, hol, _, nl, hdl⟩ := ht
  unfold Builtin.SmallTypes.nextOf
  refine wpAny_bind (wpAny_callSpecial?_slot (name := Str.ofString "__next__") hit.typeIs F.slot_tuple_iterator_next
    (wpAny_call_entry F.slot_tuple_iterator_next hit.typeIs F.entry_tuple_iterator_next ?_ (F.args_tuple_iterator_next_1 _)))
  show wpAny _ _ (field (.ref it) 0 >>= _) _ _ s
  refine wpAny_bind (wpAny_field ho hd (x := .ref t) rfl ?_)
  show wpAny _ _ (if (Value.ref t == Value.none) = true then _ else _) _ _ s
  rw [if_neg (show ¬ ((Value.ref t == Value.none) = true) from Bool.false_ne_true)]
  show wpAny _ _ (field (.ref it) 1 >>= _) _ _ s
  refine wpAny_bind (wpAny_field ho hd (x := .int i 0) rfl ?_)
  show wpAny _ _ (seqItems? (.ref t) >>= _) _ _ s
  refine wpAny_bind (wpAny_seqItems hol hdl ?_)
  simp only [Int.toNat_natCast, hx]
  refine wpAny_bind (wpAny_rule (wpAny_bind (wpAny_setField ho hd (by simp) ?_)))
  show wpAny _ _ (newExc (.type "StopIteration") [] >>= _) _ _ _
  refine wpAny_bind ?_
  simp only [newExc, newTuple]
  refine wpAny_bind (wpAny_newObj_type ?_ (by size_fits))
  refine wpAny_bind (m := firstArgMember _ _) (wpAny_of_eq (a := Value.none) (by first | rfl | (simp only [firstArgMember]; rfl)) ?_)
  refine wpAny_newObj_type ?_ (by size_fits)
  simp only [raiseNew]
  refine wpAny_bind (wpAny_handled ?_)
  first | rw [show A.in1.handled = none from hh] | rw [hh]
  refine wpAny_bind (wpAny_pure (wpAny_throw ?_))
  exact hE _ _ (((Heap.SameBut.update ..).extBut.push _).push _) ⟨_, Heap.get?_push_size _ rfl, rfl⟩
end
end
section
open PySem PySem.W PyProof.Rows PySem.Spec PySem.Calls
open Sem (wp)
set_option maxRecDepth 100000
set_option maxHeartbeats 4000000
section
variable {w : World} {A : Around} {E : PQ} {s : Shared}
theorem pyNext_map_item {M T it t : Addr} {i : Nat} {items : Array PySem.Value} {x f : PySem.Value} {om oT : Obj} {nT : Nat} {Q : Option PySem.Value → Shared → Prop} (hM : s.heap.get? M = some om) (hM1 : om.cls = .type "map") (hM2 : om.data = .fields #[.ref T, f]) (hT : s.heap.get? T = some oT) (hT1 : oT.data = .seq #[.ref it] nT) (hMi : M ≠ it) (hTi : T ≠ it)
    (hit : s.heap.IsTupleIter it t i) (ht : s.heap.IsTuple t items) (hx : items[i]? = some x)
    (hQ : ∀ h', h'.IsTupleIter it t (i + 1) → Heap.SameBut it s.heap h' → wpAny (model P0 w) A.in1 (call f [x]) (fun y s' => Q (some y) s') (fun _ _ => False) { s with heap := h' }) :
    wpAny (model P0 w) A (pyNext (.ref M)) Q E s := by
  have hty : s.TypeIs (.ref M) "map" := ⟨om, hM, hM1⟩
  unfold pyNext
  refine wpAny_bind (wpAny_attempt (wpAny_callSpecial?_slot (name := Str.ofString "__next__") hty slot_map_next
    (wpAny_call_entry slot_map_next hty entry_map_next ?_ (args_map_next _))))
  show wpAny _ _ (field (.ref M) 0 >>= _) _ _ s
  refine wpAny_bind (wpAny_field hM hM2 (x := .ref T) rfl ?_)
  show wpAny _ _ (seqItems? (.ref T) >>= _) _ _ s
  refine wpAny_bind (wpAny_seqItems hT hT1 ?_)
  dsimp only
  rw [← Array.forIn_toList]
  rw [List.forIn_cons]
  refine wpAny_bind ?_
  refine wpAny_bind ?_
  refine wpAny_bind (wpAny_holding (nextOf_tuple_item hit ht hx fun h' hit' hs' => ?_))
  refine wpAny_pure ?_
  dsimp only
  rw [List.forIn_nil]
  refine wpAny_pure ?_
  refine wpAny_bind (wpAny_field (hs'.extBut _ _ hMi hM) hM2 (x := f) rfl ?_)
  refine wpAny_bind (wpAny_holding (wpAny_mono (hQ h' hit' hs') (fun y s' hy => ?_) fun _ _ e => e.elim))
  refine wpAny_bind (wpAny_letGo ?_)
  exact wpAny_pure ⟨_, rfl, wpAny_pure hy⟩
theorem pyNext_map_end {M T it t : Addr} {i : Nat} {items : Array PySem.Value} {f : PySem.Value} {om oT : Obj} {nT : Nat} {Q : Option PySem.Value → Shared → Prop} (hh : A.handled = none) (hM : s.heap.get? M = some om) (hM1 : om.cls = .type "map") (hM2 : om.data = .fields #[.ref T, f]) (hT : s.heap.get? T = some oT) (hT1 : oT.data = .seq #[.ref it] nT)
    (hit : s.heap.IsTupleIter it t i) (ht : s.heap.IsTuple t items) (hx : items[i]? = none)
    (hQ : ∀ h', Heap.ExtBut it s.heap h' → Q none { s with heap := h' }) :
    wpAny (model P0 w) A (pyNext (.ref M)) Q E s := by
  have hty : s.TypeIs (.ref M) "map" := ⟨om, hM, hM1⟩
  unfold pyNext
  refine wpAny_bind (wpAny_attempt (wpAny_callSpecial?_slot (name := Str.ofString "__next__") hty slot_map_next
    (wpAny_call_entry slot_map_next hty entry_map_next ?_ (args_map_next _))))
  show wpAny _ _ (field (.ref M) 0 >>= _) _ _ s
  refine wpAny_bind (wpAny_field hM hM2 (x := .ref T) rfl ?_)
  show wpAny _ _ (seqItems? (.ref T) >>= _) _ _ s
  refine wpAny_bind (wpAny_seqItems hT hT1 ?_)
  dsimp only
  rw [← Array.forIn_toList]
  rw [List.forIn_cons]
  refine wpAny_bind ?_
  refine wpAny_bind ?_
  refine wpAny_bind (wpAny_holding (nextOf_tuple_end hh hit ht hx fun h' e he' hx' => ?_))
  obtain ⟨o, ho, hc⟩ := hx'
  refine wpAny_bind (wpAny_isInstance (T := "StopIteration") (b := true) ⟨o, ho, hc⟩ isSubtype_stop ?_)
  exact wpAny_pure (hQ _ he')
end
end
section
open PySem PySem.W PyProof.Rows PySem.Spec PySem.Calls
open Sem (wp)
set_option maxRecDepth 100000
set_option maxHeartbeats 4000000
section
variable {w : World} {A : Around}
theorem slotI_map : argsOk "map.__iter__" ⟨[.none], []⟩ := by unfold argsOk; kernel_rfl
theorem args_map_iter (a : PySem.Value) : argsOk "map.__iter__" ⟨[a], []⟩ := by unfold argsOk; kernel_rfl
theorem entry_map_iter : entryFor table "map.__iter__" = some Builtin.«dict_keyiterator.__iter__» := entryFor_alias (id' := "dict_keyiterator.__iter__") (by kernel_rfl) (by first | rfl | decide +kernel) (by decide +kernel) (by kernel_rfl)
theorem pyIter_map {E : PQ} {s : Shared} {M : Addr} {om : Obj} {Q : PQ} (hM : s.heap.get? M = some om) (hM1 : om.cls = .type "map") (h : Q (.ref M) s) : wpAny (model P0 w) A (pyIter (.ref M)) Q E s := by
  have hT : s.TypeIs (.ref M) "map" := ⟨om, hM, hM1⟩
  refine wpAny_pyIter_slot hT slot_map_iter (wpAny_call_entry slot_map_iter hT entry_map_iter ?_ (args_map_iter _))
  show wpAny _ _ (ret (.ref M)) _ _ s
  exact wpAny_pure ⟨_, rfl, "map", _, hT, slot_map_next.lookup, h⟩
/-- a map over a tuple, by a function that keeps what stands -/
theorem map_walks (hh : A.handled = none) {H : Heap} {M T it t : Addr} {items : Array PySem.Value} {f : PySem.Value} (G : PySem.Value → PySem.Value → Prop)
    (hM : H.get? M = some { cls := .type "map", data := .fields #[.ref T, f] }) (hT : H.get? T = some { cls := .type "tuple", data := .seq #[.ref it] }) (ht : H.IsTuple t items) (hMi : M ≠ it) (hTi : T ≠ it) (hti : t ≠ it) (hi : it < H.objs.size)
    (hf : ∀ (s : Shared) x (Q : PQ) (E : PQ), x ∈ items → (∀ b o, b ≠ it → H.get? b = some o → s.heap.get? b = some o) → (∀ y h' tk, G x y → (∀ b o, s.heap.get? b = some o → h'.get? b = some o) → Q y { s with heap := h', toks := tk }) → wpAny (model P0 w) A.in1 (call f [x]) Q E s) :
    Walks P0 w A M (List.range H.objs.size) [it] items.size (fun i y => ∃ x, items[i]? = some x ∧ G x y) (fun i h => (∀ b o, b ≠ it → H.get? b = some o → h.get? b = some o) ∧ h.IsTupleIter it t i) where
  sub := fun b hb => by rw [List.mem_singleton.mp hb]; exact List.mem_range.mpr hi
  frame := fun i h h' st hk => ⟨fun b o hb e => hk b (List.mem_range.mpr (Heap.lt_size e)) o (st.1 b o hb e), let ⟨o, e, r⟩ := st.2; ⟨o, hk it (List.mem_range.mpr hi) o e, r⟩⟩
  item := fun i s Q E hlt st hQ => by
    obtain ⟨oT, t1, t2⟩ := ht
    refine pyNext_map_item (x := items[i]) (items := items) (st.1 _ _ hMi hM) rfl rfl (st.1 _ _ hTi hT) rfl hMi hTi st.2 ⟨oT, st.1 _ _ hti t1, t2⟩ (by simp [hlt]) (fun h' hit' hs' => ?_)
    refine hf _ _ _ _ (Array.getElem_mem hlt) (fun b o hb e => hs'.extBut _ _ hb (st.1 b o hb e)) (fun y h2 tk hg kp => ?_)
    exact hQ y h2 tk ⟨items[i], by simp [hlt], hg⟩ ⟨fun b o hb e => kp _ _ (hs'.extBut _ _ hb (st.1 b o hb e)), let ⟨o, e, r⟩ := hit'; ⟨o, kp _ _ e, r⟩⟩ fun b o hb e => kp _ _ (hs'.extBut _ _ (fun z => hb (z ▸ List.mem_singleton.mpr rfl)) e)
  done := fun s Q E st hQ => by
    obtain ⟨oT, t1, t2⟩ := ht
    exact pyNext_map_end hh (items := items) (st.1 _ _ hMi hM) rfl rfl (st.1 _ _ hTi hT) rfl st.2 ⟨oT, st.1 _ _ hti t1, t2⟩ (by simp) fun h' he' => hQ h' s.toks fun b o hb e => he' b o (fun z => hb (z ▸ List.mem_singleton.mpr rfl)) e
  self := fun i s Q E st hQ => pyIter_map (st.1 _ _ hMi hM) rfl hQ
end
end
section
open PySem PySem.W PyProof.Rows PySem.Spec PySem.Calls
open Sem (wp)
open AutoSeq1 (wpAny_loadPart')
set_option maxRecDepth 100000
set_option maxHeartbeats 4000000
theorem nolen_map : typeLookup (.type "map") "__len__" = pure none := by rw [typeLookup_type, builtinLookup_eq_fast]; kernel_rfl
theorem nohint_map : typeLookup (.type "map") "__length_hint__" = pure none := by rw [typeLookup_type, builtinLookup_eq_fast]; kernel_rfl
section
variable {prog : Program} {w : World} {A : Around} {E : Value → Shared → Prop} {s : Shared} {I : Addr} {fp wr : List Addr} {G : Array GenState → Array GenState → Prop} {n : Nat} {P : Nat → Value → Prop} {St : Nat → Shared → Prop}
theorem collect_map {Q : List Value → Shared → Prop}
    (W : WalksS prog w A.in1 I fp wr G n P St) (hT : ∀ i s, St i s → s.TypeIs (.ref I) "map") (hst : St 0 s) (hfp : ∀ b ∈ fp, b < s.heap.objs.size) (hI : I ∈ fp)
    (hQ : ∀ s' acc, Moved wr G s s' → ItemsOf P acc n → Q acc.toList s') (hn : n ≤ sizeLine) : wpAny (model prog w) A (collect (.ref I)) Q E s := by
  have hSf : s.heap.objs.size ∉ fp := fun hm => Nat.lt_irrefl _ (hfp _ hm)
  have hSI : s.heap.objs.size ≠ I := fun e => hSf (e ▸ hI)
  unfold collect
  refine wpAny_bind (wpAny_runValue (codeAny_builtin F.entry_proto_collect ?_))
  rw [Around.under_plainId F.plain_proto_collect _]
  show wpAny _ A.in1 (newList [] >>= fun l => again (.builtin "list.__iadd__" ⟨[l, .ref I], []⟩)) _ _ s
  refine wpAny_bind (wpAny_newObj_type ?_)
  refine wpAny_pure ⟨plainId_quiet F.plain_list_iadd _, codeAny_builtin F.entry_list_iadd ?_⟩
  rw [Around.under_plainId F.plain_list_iadd _]
  have hst₁ := W.frame 0 s (s.heap.push { cls := .type "list", data := .seq ([] : List Value).toArray }) s.toks hst (Nat.le_refl _) fun b _ o e => Heap.get?_push_of_some _ e
  have hS₁ : (s.heap.push { cls := .type "list", data := .seq ([] : List Value).toArray }).get? s.heap.objs.size = some { cls := .type "list", data := .seq ([] : List Value).toArray } := Heap.get?_push_size _ rfl
  have h1 : Builtin.List.listSameRef (.ref s.heap.objs.size) (.ref I) = false := by simp [Builtin.List.listSameRef, hSI]
  show wpAny _ A.in1 (Builtin.List.listExtendWith (.ref s.heap.objs.size) (.ref I) (.ref s.heap.objs.size)) _ _ _
  unfold Builtin.List.listExtendWith
  refine wpAny_bind (wpAny_typeOf (hT 0 _ hst₁) ?_)
  rw [if_neg (by rw [h1]; decide)]
  refine wpAny_bind (W.self 0 _ _ _ hst₁ ?_)
  refine wpAny_bind (wpAny_holding ?_)
  unfold Builtin.List.listLengthHint
  refine wpAny_bind (wpAny_specialOf (hT 0 _ hst₁) nolen_map ?_)
  show wpAny _ A.in1 (specialOf (Value.ref I) (Str.ofString "__length_hint__") >>= _) _ _ _
  refine wpAny_bind (wpAny_specialOf (hT 0 _ hst₁) nohint_map ?_)
  refine wpAny_pure ?_
  show wpAny _ A.in1 (rule "list.extend.makes-room" >>= fun _ => Builtin.List.listTouch (.ref s.heap.objs.size) >>= fun _ => again (.builtin "list.extend.loop" ⟨[.ref s.heap.objs.size, .ref I, .ref s.heap.objs.size], []⟩)) _ _ _
  refine wpAny_bind (wpAny_rule ?_)
  refine wpAny_bind ?_
  show wpAny _ _ (updateSeq s.heap.objs.size (·.push .none) >>= fun _ => updateSeq s.heap.objs.size (·.pop)) _ _ _
  refine wpAny_bind (wpAny_updateSeq hS₁ rfl ?_)
  have hS₂ := Heap.get?_update_self (Obj.mapSeq (·.push Value.none)) hS₁ rfl
  refine wpAny_updateSeq (hz := by seq_fits) hS₂ rfl ?_
  have hS₃ := Heap.get?_update_self (Obj.mapSeq (·.pop)) hS₂ rfl
  have keep : ∀ b o, b ≠ s.heap.objs.size → (s.heap.push { cls := .type "list", data := .seq ([] : List Value).toArray }).get? b = some o → (((s.heap.push { cls := .type "list", data := .seq ([] : List Value).toArray }).update s.heap.objs.size (Obj.mapSeq (·.push Value.none))).update s.heap.objs.size (Obj.mapSeq (·.pop))).get? b = some o := fun b o hb e =>
    (Heap.get?_update_other _ _ (Ne.symm hb)).trans ((Heap.get?_update_other _ _ (Ne.symm hb)).trans e)
  have hst₃ := W.frame 0 _ (((s.heap.push { cls := .type "list", data := .seq ([] : List Value).toArray }).update s.heap.objs.size (Obj.mapSeq (·.push Value.none))).update s.heap.objs.size (Obj.mapSeq (·.pop))) s.toks hst₁ (Nat.le_refl _) fun b hb o e => keep b o (fun z => hSf (z ▸ hb)) e
  refine wpAny_pure ⟨plainId_quiet F.plain_extend_loop _, codeAny_extend_loopS W hn _ hSf _ n 0 _ _ _ rfl (Nat.zero_le _) hst₃ hS₃ (ItemsOf.nil P) fun s' acc' c' hm hS' hacc => ?_⟩
  show wpAny _ A (load s.heap.objs.size >>= _) _ _ s'
  refine wpAny_bind (wpAny_load hS' ?_)
  refine wpAny_pure (hQ s' acc' ⟨fun b ob hb e => ?_, hm.gens, hm.drawn, hm.os, hm.toks⟩ hacc)
  have hbS : b ≠ s.heap.objs.size := Nat.ne_of_lt (Heap.lt_size e)
  refine hm.heap b ob (fun hmem => ?_) (keep b ob hbS (Heap.get?_push_of_some _ e))
  rcases List.mem_cons.mp hmem with e1 | hmem
  · exact hbS e1
  · exact hb hmem
theorem code_tuple_new_map {Q₁ : Value → Shared → Prop} (W : WalksS prog w A.in1.in1 I fp wr G n P St) (hT : ∀ i s, St i s → s.TypeIs (.ref I) "map") (hst : St 0 s) (hfp : ∀ b ∈ fp, b < s.heap.objs.size) (hI : I ∈ fp)
    (h : ∀ s' acc, Moved wr G s s' → ItemsOf P acc n → Q₁ (.ref s'.heap.objs.size) { s' with heap := s'.heap.push { cls := .type "tuple", data := .seq acc } }) (hsz : n ≤ sizeLine) :
    codeAny (model prog w) A (.call (.builtin "tuple.__new__") ⟨[.type "tuple", .ref I], []⟩) (wants Q₁ E) s := by
  refine codeAny_of_tree ?_
  show wpAny _ A.in1 (do checkBuiltinCall "tuple.__new__" ⟨[.type "tuple", .ref I], []⟩; again (.builtin "tuple.__new__" ⟨[.type "tuple", .ref I], []⟩)) _ _ s
  refine wpAny_bind (wpAny_of_eq (F.newCall_tuple_1 _) (wpAny_pure ⟨plainId_quiet F.plain_tuple_new _, codeAny_builtin F.entry_tuple_new ?_⟩))
  rw [Around.under_plainId F.plain_tuple_new _]
  have hsub := sub_tuple_self
  have hinit := init_tuple_lookup
  have hmh := madeHere_tuple
  have hTI := hT 0 s hst
  wp_walk using wpAny_typeOf hTI, collect_map (hn := hsz) W hT hst hfp hI
  intro s' acc hm hacc
  show wpAny _ _ (Builtin.Tuple.tupleExact acc.toList.toArray >>= fun v => ret v) _ _ _
  unfold Builtin.Tuple.tupleExact
  refine wpAny_bind (wpAny_newObj_type ?_ (by show acc.toList.toArray.size ≤ sizeLine; simp only [Array.toArray_toList]; rw [hacc.1]; exact hsz))
  refine wpAny_pure ?_
  have e : acc.toList.toArray = acc := by simp
  rw [e]
  exact h s' acc hm hacc
theorem call_tuple_map {Q : Value → Shared → Prop} (W : WalksS prog w A.in1.in1.in1 I fp wr G n P St) (hT : ∀ i s, St i s → s.TypeIs (.ref I) "map") (hst : St 0 s) (hfp : ∀ b ∈ fp, b < s.heap.objs.size) (hI : I ∈ fp)
    (hQ : ∀ s' acc, Moved wr G s s' → ItemsOf P acc n → Q (.ref s'.heap.objs.size) { s' with heap := s'.heap.push { cls := .type "tuple", data := .seq acc } }) (hsz : n ≤ sizeLine) :
    wpAny (model prog w) A (call (.type "tuple") [.ref I]) Q E s := by
  refine callType_codes (Q₁ := fun obj s₁ => s₁.TypeIs obj "tuple" ∧ Q obj s₁) F.called_tuple (F.typeCall_tuple_1 _) F.entry_object_init
    (code_tuple_new_map (hsz := hsz) W hT hst hfp hI fun s' acc hm hacc => ⟨⟨_, Heap.get?_push_size _ rfl, rfl⟩, hQ s' acc hm hacc⟩) fun obj s₁ h₁ => ?_
  exact ⟨h₁.1, F.args_object_init_2 obj _, object_init_meets F.called_tuple.init.lookup F.called_tuple.made (by decide) prog w A.in1 _ s₁ ⟨h₁.1, rfl, h₁.2⟩⟩
end
end
section
open PySem PySem.W PyProof.Rows PySem.Spec PySem.Calls
set_option maxRecDepth 100000
set_option maxHeartbeats 0
section
variable {w : World} {A : Around} {s : Shared} {Q E : PQ} {lo : List PySem.Str} {mean : ExcName → Option PySem.Value} {mg mb : LM}
theorem rows37 : True := by
  k_with_none
  k_with "LeaveL" => ((k_dflt (refine' LeaveL.intro ?F ?_; (case F => k_asm)); (try dsimp only)))
  k_with "call builtin:repr" => (((with_reducible show wpAny _ _ (call (Value.builtin "repr") [Value.str _ _]) _ _ _); refine PySem.P.repr_of_str ?_ (by assumption)))
  exact trivial
theorem srepr_leaf {x : PySem.Str} {tk : Tok} (X : (K w.params).In s.heap) (T : Top q0 lo mean mg mb s.heap) (hd : A.depth + 8 < recursionLimit) (hu : A.units + 80 < cLine) (hr : (PySem.reprText x).length ≤ sizeLine) (hret : ∀ t h' tk', (∀ b o, s.heap.get? b = some o → h'.get? b = some o) → Q (.str (PySem.reprText x) t) { s with heap := h', toks := tk' }) :
    wpAny (model P0 w) A (call (.ref 120) [.str x tk]) Q E s := by
  refine wpAny_call ?_
  k_dflt (refine' enterL [("obj", .str x tk), ("short", .bool false)] ?k3 ?k5 ?k6 ?k7 ?k8 ?k9 ?kB ?c2 ?c3 ?c4 ?c5 ?kG)
  k_dflt ((case k3 => k_asm); (case k5 => k_asm); (case k6 => k_is); (case k7 => k_is); (case k8 => first | assumption | omega); (case k9 => exact kp_binds (by k_in) (fun _ => by kernel_rfl)); (case kB => exact locs rfl); (case c2 => exact rfl); (case c3 => exact rfl); (case c4 => exact rfl); (case c5 => decide); (intro g' L' h' gE F' N' X' T'); subst gE; (try dsimp only [List.reverse_cons, List.reverse_nil, List.nil_append, List.cons_append] at F'); (try dsimp only); (try k_fold))
  k_steps
  exact hret _ _ _ (Fr.keep (by k_asm))
end
end
section
open PySem PySem.W PyProof.Rows PySem.Spec PySem.Calls
open Sem (wp)
set_option maxRecDepth 100000
set_option maxHeartbeats 4000000
section
variable {w : World} {A : Around} {E : PQ} {s : Shared}
theorem tuple_of_map (hh : A.handled = none) {H : Heap} {M T it t : Addr} {items : Array PySem.Value} {f : PySem.Value} {Q : PQ} (G : PySem.Value → PySem.Value → Prop) (hH : s.heap = H)
    (hM : H.get? M = some { cls := .type "map", data := .fields #[.ref T, f] }) (hT : H.get? T = some { cls := .type "tuple", data := .seq #[.ref it] }) (hIt : H.IsTupleIter it t 0) (ht : H.IsTuple t items) (hMi : M ≠ it) (hTi : T ≠ it) (hti : t ≠ it) (hsz : items.size ≤ sizeLine)
    (hf : ∀ (s : Shared) x (Q : PQ) (E : PQ), x ∈ items → (∀ b o, b ≠ it → H.get? b = some o → s.heap.get? b = some o) → (∀ y h' tk, G x y → (∀ b o, s.heap.get? b = some o → h'.get? b = some o) → Q y { s with heap := h', toks := tk }) → wpAny (model P0 w) A.in1.in1.in1.in1 (call f [x]) Q E s)
    (hQ : ∀ (h' : Heap) tk acc, (∀ b o, b ≠ it → H.get? b = some o → h'.get? b = some o) → ItemsOf (fun i y => ∃ x, items[i]? = some x ∧ G x y) acc items.size → Q (.ref h'.objs.size) { s with heap := h'.push { cls := .type "tuple", data := .seq acc }, toks := tk }) :
    wpAny (model P0 w) A (call (.type "tuple") [.ref M]) Q E s := by
  subst hH
  have hi : it < s.heap.objs.size := by obtain ⟨o, e, _⟩ := hIt; exact Heap.lt_size e
  refine call_tuple_map (fp := List.range s.heap.objs.size) (wr := [it]) (map_walks (A := A.in1.in1.in1) hh G hM hT ht hMi hTi hti hi hf).toS (fun i s' st => ⟨_, st.1 _ _ hMi hM, rfl⟩) ⟨fun _ _ _ e => e, hIt⟩ (fun b hb => List.mem_range.mp hb) (List.mem_range.mpr (Heap.lt_size hM)) (fun s' acc hm hacc => ?_) hsz
  obtain ⟨h1, h2, h3, h4, h5⟩ := hm
  have e : s' = { s with heap := s'.heap, toks := s'.toks } := by
    cases s'; cases s
    simp_all
  rw [e]
  exact hQ s'.heap s'.toks acc (fun b o hb e => h1 b o (by simpa using hb) e) hacc
theorem max_of_map (hh : A.handled = none) {H : Heap} {M T it t : Addr} {items : Array PySem.Value} {f : PySem.Value} {Q : PQ} {n1 : Int} (hH : s.heap = H)
    (hM : H.get? M = some { cls := .type "map", data := .fields #[.ref T, f] }) (hT : H.get? T = some { cls := .type "tuple", data := .seq #[.ref it] }) (hIt : H.IsTupleIter it t 0) (ht : H.IsTuple t items) (hMi : M ≠ it) (hTi : T ≠ it) (hti : t ≠ it) (hn : 0 < items.size)
    (hf : ∀ (s : Shared) x (Q : PQ) (E : PQ), x ∈ items → (∀ b o, b ≠ it → H.get? b = some o → s.heap.get? b = some o) → (∀ y h' tk, (∃ u, y = .int n1 u) → (∀ b o, s.heap.get? b = some o → h'.get? b = some o) → Q y { s with heap := h', toks := tk }) → wpAny (model P0 w) A.in1.in1 (call f [x]) Q E s)
    (hQ : ∀ (h' : Heap) tk u, (∀ b o, b ≠ it → H.get? b = some o → h'.get? b = some o) → Q (.int n1 u) { s with heap := h', toks := tk }) :
    wpAny (model P0 w) A (call (.builtin "max") [.ref M]) Q E s := by
  subst hH
  have hi : it < s.heap.objs.size := by obtain ⟨o, e, _⟩ := hIt; exact Heap.lt_size e
  have W := map_walks (w := w) (A := A.in1) hh (fun _ y => ∃ u, y = PySem.Value.int n1 u) hM hT ht hMi hTi hti hi hf
  refine call_max_walk ?_
  refine pyIter_map hM rfl ?_
  refine ⟨M, _, _, _, _, _, fun _ _ => false, rfl, W, ⟨fun _ _ _ e => e, hIt⟩, fun b hb => List.mem_range.mp hb, hn, ?_, fun v h' tk hP hk => ?_⟩
  · rintro i j vi vj s Q E ⟨_, _, u, rfl⟩ ⟨_, _, v, rfl⟩ hQ
    refine gt_int ?_
    simpa using hQ
  · obtain ⟨_, _, u, rfl⟩ := hP
    exact hQ h' tk u fun b o hb e => hk b o (by simpa using hb) e
end
end
section
open PySem PySem.W PyProof.Rows PySem.Spec PySem.Calls
set_option maxRecDepth 100000
set_option maxHeartbeats 2000000
/-- tuple of a generator -/
theorem tuple_rowsK {w : World} {A : Around} {E : PQ} {s : Shared} {h₀ : Heap} {L Kb a : Addr} {m : LM} {n : Nat} {F : Nat → PySem.Value → Prop} {Q : PQ} (Fh : Fr h₀ L s.heap m) (G : AllBare s.gens) (X : Gen P0 w A Kb a n F s) (hLK : L ≤ Kb)
    (hQ : ∀ (s' : Shared) acc, Fr h₀ L s'.heap m → AllBare s'.gens → s'.os = s.os → (∀ b o, b ≤ Kb → s.heap.get? b = some o → s'.heap.get? b = some o) → ItemsOf F acc n →
      Q (.ref s'.heap.objs.size) { s' with heap := s'.heap.push { cls := .type "tuple", data := .seq acc } })
    (hsz : n ≤ sizeLine) : wpAny (model P0 w) A (call (.type "tuple") [.ref a]) Q E s := by
  obtain ⟨fp, wr, g, St, W, hst, hT, hI, hfp, hwr⟩ := X
  refine call_tuple_gen (hsz := hsz) W.in4_3 hT hst hfp hI fun s' acc hm hacc => ?_
  exact hQ s' acc (Fh.moved hm fun b hb => Nat.lt_of_le_of_lt hLK (hwr b hb)) (G.movedS hm) hm.os (fun b o hb e => hm.heap b o (fun hmem => Nat.lt_irrefl _ (Nat.lt_of_lt_of_le (hwr b hmem) hb)) e) hacc
end
section
open PySem PySem.W PyProof.Rows PySem.Spec PySem.Calls
set_option maxRecDepth 100000
set_option maxHeartbeats 4000000
section
variable {w : World} {A : Around} {s : Shared} {Q E : PQ} {lo : List PySem.Str} {mean : ExcName → Option PySem.Value} {mg mb : LM} {env : Env} {m : LM}
/-- a generator expression over a tuple of two, in _common_shorten_repr -/
theorem gen_pair {g' : Heap} {L' tp : Addr} {v1 v2 : PySem.Value} {ps : Array PySem.Value} {news : Led} {elt : PySem.Expr} {px pi : Pos} {pos : Pos} {scope : Scope} {cl : List (PySem.Str × Addr)} (f : Nat → PySem.Str)
    (T : Top q0 lo mean mg mb g') (X : (K w.params).In g') (F : Fr g' L' s.heap m) (N : News g' L' s.heap news) (hP : (107, PySem.W.X.tableObj ps) ∈ news) (hT : (tp, ({ cls := .type "tuple", data := .seq [v1, v2].toArray } : Obj)) ∈ news) (htp : tp ≠ 107) (htr : TriplesOk ps.toList)
    (hm : m "args" = some (.ref tp)) (hlo : env.locals = L') (hsk : env.scope.kind = .function) (hka : env.kindOf "args" = some .local) (hcode : env.code = .ref 111) (hgl : env.globals = mainGlobals)
    (hh : A.handled = none) (hco : scope.isCoroutine = false) (hclos : closureFor scope env = pure cl) (hcell : ∀ y ∈ scope.names, y.2 ≠ .cell) (h0 : scope.names.lookup (".0" : PySem.Str) = some NameKind.local)
    (hx : scope.names.lookup ("s" : PySem.Str) = some .local) (hkind : scope.kind = .function) (hroom : A.depth < recursionLimit)
    (helt : ∀ (C : Addr) (cv : PySem.Value) (A' : Around) E' i v (t : Shared) m₂, #[v1, v2][i]? = some v → A'.handled = none → A'.depth ≤ A.depth + 1 → A'.units ≤ A.units + 8 → t.heap.Ns C m₂ → m₂ "s" = some v →
      (∀ p ∈ news, p.1 ≠ 107 → t.heap.get? p.1 = some p.2) → (∀ b o, g'.get? b = some o → t.heap.get? b = some o) →
      wpAny (model P0 w) A' (eval elt (genEnv scope cl C cv builtinsNs env)) (fun y s₃ => (∃ tk, y = .str (f i) tk) ∧ Keeps t s₃) E' t)
    (hQ : ∀ (s5 : Shared) (a Kb : Addr) more, Fr g' L' s5.heap m → s5.heap.get? 107 = some (PySem.W.X.tableObj (ps ++ more)) → TriplesOk (ps ++ more).toList → (AllBare s.gens → AllBare s5.gens) → s5.os = s.os → L' ≤ Kb → 107 ≤ Kb →
      Gen P0 w A Kb a 2 (fun j y => ∃ tk, y = .str (f j) tk) s5 → Q (.ref a) s5) :
    wpAny (model P0 w) A (eval (.GeneratorExp elt [⟨.Name "s" px, .Name "args" pi, [], 0⟩] scope pos) env) Q E s := by
  have h8 := N _ hP
  have h8l : (107 : Nat) < s.heap.objs.size := Heap.lt_size h8.1
  have hTg := N _ hT
  have hlt : L' < s.heap.objs.size := F.ns.lt
  have hTu : s.heap.IsTuple tp #[v1, v2] := ⟨_, hTg.1, rfl, _, rfl⟩
  refine gen_make (h₀ := g') (L := L') (m := m) (P := 107) (c := 111) (cl := cl) T X (code_csr w) hcode hgl hh hco hclos hcell h0 hx hkind hroom ?_ (fun _ => rfl)
  refine nameG_L (C := L') (v := .ref tp) F.ns hlo hm ?_ hsk hka (by decide)
  refine wpAny_pyIter_tuple hTu ?_
  refine ⟨F.push _, ps, s.heap.objs.size, [s.heap.objs.size, tp], [s.heap.objs.size], 2, _, _, s.heap.objs.size - 1, fun j y => ∃ tk, y = .str (f j) tk, Heap.get?_push_of_some _ h8.1, htr, h8.2.2, h8.2.1, Nat.le_sub_one_of_lt hlt, ?_, rfl,
    fun A' hA => Walks.tuple hA _ tp (Nat.ne_of_lt (Heap.lt_size hTg.1)) #[v1, v2], ⟨⟨_, Heap.get?_push_size _ rfl, rfl, rfl⟩, hTu.push _⟩, ?_, ?_, ?_, ?_, ?_⟩
  · show _ < (s.heap.objs.push _).size
    rw [Array.size_push]; exact Nat.lt_succ_of_le (Nat.sub_le _ _)
  · intro b hb
    show b < (s.heap.objs.push _).size
    rw [Array.size_push]
    rcases List.mem_cons.mp hb with rfl | hb
    · exact Nat.lt_succ_self _
    · rw [List.mem_singleton.mp hb]; exact Nat.lt_succ_of_lt (Heap.lt_size hTg.1)
  · intro hb
    rcases List.mem_cons.mp hb with e | hb
    · exact Nat.ne_of_lt h8l e
    · exact htp (List.mem_singleton.mp hb).symm
  · intro b hb
    rw [List.mem_singleton.mp hb]; exact Nat.sub_lt (Nat.lt_of_le_of_lt (Nat.zero_le _) h8l) Nat.one_pos
  · intro C cv A' E' i v t m₂ hA hD hU hp hn hm2 hC hkp
    refine helt C cv A' E' i v t m₂ (by simpa using hp) hA hD hU hn hm2 (fun p hp' h107 => hkp p.1 p.2 h107 (fun z => ?_) (Heap.get?_push_of_some _ (N p hp').1)) (fun b o e => hkp b o (fun z => by rw [z, h8.2.2] at e; cases e) (fun z => ?_) (Heap.get?_push_of_some _ (F.keep _ _ e)))
    · have := Heap.lt_size (N p hp').1
      rw [List.mem_singleton.mp z] at this; exact Nat.lt_irrefl _ this
    · have := Heap.lt_size (F.keep _ _ e)
      rw [List.mem_singleton.mp z] at this; exact Nat.lt_irrefl _ this
  · intro a gs5 gs more h₅ tk hgb he F₅ hk₅ hP5 htr5 hge G
    subst he
    exact hQ _ a _ more F₅ hP5 htr5 (fun hG => hG.push hgb) rfl (Nat.le_sub_one_of_lt hlt) (Nat.le_sub_one_of_lt h8l) G
end
end
section
open PySem PySem.W PyProof.Rows PySem.Spec PySem.Calls
set_option maxRecDepth 100000
set_option maxHeartbeats 0
local macro_rules | `(tactic| walk_at "call ref") => `(tactic| ((with_reducible show wpAny _ _ (call (Value.ref 51) _ _) _ _ _); k_dflt (refine' shorten_spec (Cx.mk _ _ _ _ _ _ _ _ _ _ _ _ _ _ ?b ?f ?x ?n ?t ?k ?d ?u) ?q1 ?q2 ?q3 ?q4 ?q5 ?_; ((case b => k_asm); (case f => k_asm); (case x => k_asm); (case n => k_asm); (case t => k_asm); (case k => first | exact rfl | assumption); (case d => ktr_room); (case u => ktr_units)); (case q1 => omega); (case q2 => omega); (case q3 => omega); (case q4 => omega); (case q5 => omega)); (intro t51 h51 tk51 F51 N51)))
theorem pre_len {rx ry : PySem.Str} {p : Nat} (hx : rx.length = 91) (hy : ry.length = 91) (hp : p < 91) : (Txt.slice (if ry.cps.toList < rx.cps.toList then ry else rx) none (some (p : Int))).length = p := by
  split
  · exact sl_to_len (by (first | lia | omega))
  · exact sl_to_len (by (first | lia | omega))
/-- what _common_shorten_repr makes of a text, p the length of the common part -/
def csrOf (p : Nat) (pre z : PySem.Str) : PySem.Str := if 33 < p then short pre 5 ((p : Int) - 28) ++ Txt.slice z (some (p : Int)) none else short pre 5 5 ++ short (Txt.slice z (some (p : Int)) none) 41 5
theorem pair_items {acc : Array PySem.Value} {f : Nat → PySem.Str} (h : ItemsOf (fun j y => ∃ tk, y = .str (f j) tk) acc 2) : ∃ t u, acc = #[.str (f 0) t, .str (f 1) u] := by
  obtain ⟨h1, h2⟩ := h
  obtain ⟨l⟩ := acc
  match l, h1 with
  | [a, b], _ =>
    obtain ⟨t, rfl⟩ := h2 0 a rfl
    obtain ⟨u, rfl⟩ := h2 1 b rfl
    exact ⟨t, u, rfl⟩
theorem Fr.but {g h h' : Heap} {L it : Addr} {m : LM} (F : Fr g L h m) (hL : LT.lt (α := Nat) L it) (k : ∀ b o, b ≠ it → h.get? b = some o → h'.get? b = some o) : Fr g L h' m :=
  ⟨F.ns.at' fun o e => k L o (Nat.ne_of_lt hL) e, fun b o e => k b o (Nat.ne_of_lt (Nat.lt_of_lt_of_le (Heap.lt_size e) (Nat.le_trans F.above (Nat.le_of_lt hL)))) (F.keep b o e), F.above⟩
theorem two_strs {acc : Array PySem.Value} {x y : PySem.Str} {tx ty : Tok} (h : ItemsOf (fun i z => ∃ v, #[PySem.Value.str x tx, .str y ty][i]? = some v ∧ ∀ c tc, v = .str c tc → ∃ tk, z = .str (PySem.reprText c) tk) acc 2) : ∃ t u, acc = #[.str (PySem.reprText x) t, .str (PySem.reprText y) u] := by
  obtain ⟨h1, h2⟩ := h
  obtain ⟨l⟩ := acc
  match l, h1 with
  | [a, b], _ =>
    obtain ⟨v, hv, ha⟩ := h2 0 a rfl
    obtain ⟨v', hv', hb⟩ := h2 1 b rfl
    simp at hv hv'
    obtain ⟨t, rfl⟩ := ha _ _ hv.symm
    obtain ⟨u, rfl⟩ := hb _ _ hv'.symm
    exact ⟨t, u, rfl⟩
section
variable {w : World} {A : Around} {base h₀ : Heap} {L : Addr} {m : LM} {news : Led} {s : Shared} {Q E : PQ}
theorem rows38 : True := by
  k_with_none
  k_with "call type:map" => (refine Here.of ?_)
  k_with "call type:tuple" => (refine Here.of ?_)
  k_with "call builtin:max" => (refine Here.of ?_)
  k_with "eval GeneratorExp" => (refine Here.of ?_)
  k_with "call ref" => (((with_reducible show wpAny _ _ (call (Value.ref 105) _ _) _ _ _); refine Here.of ?_))
  exact trivial
theorem cs_spec {ps : Array PySem.Value} {x y : PySem.Str} {tx ty : Tok} {rx ry : PySem.Str} {p : Nat} {rest : Led} (c : Cx w base h₀ L m ((107, PySem.W.X.tableObj ps) :: rest) s.heap 60 600 A) (hoff : ∀ p ∈ rest, p.1 ≠ 107) (hrx : PySem.reprText x = rx) (hry : PySem.reprText y = ry) (hxl : rx.length = 91) (hyl : ry.length = 91) (hp0 : 0 < p) (hp : p < 91) (heq : ∀ j, j < p → rx.cps[j]? = ry.cps[j]?) (hne : rx.cps[p]? ≠ ry.cps[p]?) (htr : TriplesOk ps.toList) (hG : AllBare s.gens)
    (hret : ∀ (s' : Shared) (D : Addr) more t u, Fr h₀ L s'.heap m → News h₀ L s'.heap ((D, ({ cls := .type "tuple", data := .seq [.str (csrOf p (Txt.slice (if ry.cps.toList < rx.cps.toList then ry else rx) none (some (p : Int))) rx) t, .str (csrOf p (Txt.slice (if ry.cps.toList < rx.cps.toList then ry else rx) none (some (p : Int))) ry) u].toArray } : Obj)) :: (107, PySem.W.X.tableObj (ps ++ more)) :: rest) →
      TriplesOk (ps ++ more).toList → AllBare s'.gens → s'.os = s.os → (∀ q ∈ rest, LT.lt (α := Nat) q.1 D) → Q (.ref D) s') :
    wpAny (model P0 w) A (call (.ref 112) [.str x tx, .str y ty]) Q E s := by
  rcases c with ⟨dp, un, gd, cn, cs, a, ccd, cl, outer, A₀, lo, mean, mg, mb, B, F, X, N, T, hk, hd, hu⟩
  refine wpAny_call ?_
  k_dflt (refine' enterCV [.str x tx, .str y ty] (fun D => [("args", .ref D)]) [(107, PySem.W.X.tableObj ps)] rest ?k1 ?k2 ?k3 ?k4 ?k5 ?kA ?kF ?kK ?h1 ?h2 ?h3 ?k6 ?k7 ?k8 ?k9 ?kg ?hkd ?hnd ?c2 ?c3 ?c4 ?kG)
  k_dflt ((case kA => exact rfl); (case kF => exact rfl); (case kK => first | exact rfl | assumption); (case k1 => k_asm); (case k2 => k_asm); (case k3 => k_asm); (case k4 => k_asm); (case k5 => k_asm); (case k6 => k_is); (case k7 => k_is); (case k8 => ktr_room); (case k9 => exact rfl); (case kg => exact fun _ => rfl); (case c2 => exact rfl); (case c3 => exact rfl); (case c4 => exact rfl); (case hkd => exact fun D n => by intro x hx; simp at hx; subst hx; left; rfl); (case hnd => decide); (case h1 => exact fun _ h => by rw [List.mem_singleton.mp h]; exact List.mem_cons_self); (case h2 => exact fun _ h => List.mem_cons_of_mem _ h); (case h3 => exact offOne (by assumption)))
  intro D g' L' h' tk' cells' FG' F' N' Y' B' X' T' R' st' hOD hDL
  obtain ⟨o1, o2, rfl, d1', d2'⟩ := CellsAre.two Y'
  clear Y'
  (try dsimp only [List.reverse_cons, List.reverse_nil, List.nil_append, List.cons_append] at F' N'); (try dsimp only); (try k_fold)
  k_steps
  unfold Here
  rename Fr _ _ _ _ => F9
  rename News _ _ _ _ => N9
  obtain ⟨h5, hh5⟩ : ∃ h5 : Heap, Fr g' L' h5 _ := ⟨_, F9⟩
  have hTu := N9 _ (.tail _ (.tail _ (.head _)))
  refine call_map (items := #[.str x tx, .str y ty]) ⟨_, hTu.1, rfl, _, rfl⟩ (fun h6 k6 hit6 hT6 hM6 hz6 => ?_)
  have F10 : Fr g' L' h6 _ := F9.keeps k6
  have hlt5 := Heap.lt_size hTu.1
  k_steps
  unfold Here
  refine tuple_of_map (H := h6) (items := #[.str x tx, .str y ty]) rfl (fun v z => ∀ c tc, v = .str c tc → ∃ tk, z = .str (PySem.reprText c) tk) rfl hM6 hT6 hit6 ⟨_, k6 _ _ hTu.1, rfl, _, rfl⟩ (by simp) (by simp) (Nat.ne_of_lt hlt5) (by exact (by decide : 2 ≤ sizeLine)) ?_ ?_
  · intro s7 v7 Q7 E7 hv7 k7 hq7
    have k8 : ∀ b o, g'.get? b = some o → s7.heap.get? b = some o := fun b o e => k7 b o (fun z => Nat.lt_irrefl _ (z ▸ Heap.lt_size (F9.keep _ _ e))) (F10.keep _ _ e)
    rcases List.mem_cons.mp (show v7 ∈ [PySem.Value.str x tx, .str y ty] by simpa using hv7) with e | e
    · subst e
      refine srepr_leaf (X'.keeps k8) (T'.keeps k8) (by show dp + 1 + 8 < recursionLimit; (first | lia | omega)) ?_ (by rw [hrx, hxl]; decide) (fun t h8 tk8 kp => hq7 _ _ _ (fun c' tc' e' => by cases e'; exact ⟨t, rfl⟩) kp)
      simp only [units_deeper, units_in1, units_caller]; (first | lia | omega)
    · obtain rfl := List.mem_singleton.mp e
      refine srepr_leaf (X'.keeps k8) (T'.keeps k8) (by show dp + 1 + 8 < recursionLimit; (first | lia | omega)) ?_ (by rw [hry, hyl]; decide) (fun t h8 tk8 kp => hq7 _ _ _ (fun c' tc' e' => by cases e'; exact ⟨t, rfl⟩) kp)
      simp only [units_deeper, units_in1, units_caller]; (first | lia | omega)
  · intro h7 tk7 acc7 k7 hacc7
    obtain ⟨t7, u7, e7⟩ := two_strs hacc7
    rw [hrx, hry] at e7
    subst e7
    dsimp only at k7
    have F11 : Fr g' L' h7 _ := Fr.but F10 F9.ns.lt k7
    have N11 : News g' L' (h7.push { cls := .type "tuple", data := .seq #[.str rx t7, .str ry u7] }) ((h7.objs.size, ({ cls := .type "tuple", data := .seq [.str rx t7, .str ry u7].toArray } : Obj)) :: _ :: _ :: _ :: _ :: []) := fun p hp => by
      rcases List.mem_cons.mp hp with rfl | hp
      · exact ⟨Heap.get?_push_size _ rfl, Nat.ne_of_gt F11.ns.lt, next_is_new F11⟩
      · have z := N9 p hp
        exact ⟨Heap.get?_push_of_some _ (k7 _ _ (Nat.ne_of_lt (Heap.lt_size z.1)) (k6 _ _ z.1)), z.2⟩
    have hq7 : ∀ q : Addr × Obj, q ∈ ([_, _, _, _] : Led) → LT.lt (α := Nat) q.1 h7.objs.size := fun q hq => Heap.lt_size (k7 _ _ (Nat.ne_of_lt (Heap.lt_size (N9 q hq).1)) (k6 _ _ (N9 q hq).1))
    have q1 := hq7 _ (.head _)
    have q2 := hq7 _ (.tail _ (.head _))
    have q3 := hq7 _ (.tail _ (.tail _ (.head _)))
    have q4 := hq7 _ (.tail _ (.tail _ (.tail _ (.head _))))
    clear hq7
    dsimp only at q1 q2 q3 q4
    have F12 := F11.push { cls := .type "tuple", data := .seq #[.str rx t7, .str ry u7] }
    clear hacc7 k7 F11 F10 N9 F9 hit6 hT6 hM6 hz6 k6 hTu hlt5
    generalize h7.objs.size = tp at N11 q1 q2 q3 q4 ⊢
    k_steps
    unfold Here
    rename Fr g' L' _ _ => F13
    rename News g' L' _ _ => N13
    have hTu2 := N13 _ (.head _)
    refine call_map (items := #[.str rx t7, .str ry u7]) ⟨_, hTu2.1, rfl, _, rfl⟩ (fun h14 k14 hit14 hT14 hM14 hz14 => ?_)
    have F14 : Fr g' L' h14 _ := F13.keeps k14
    k_steps
    unfold Here
    refine max_of_map (n1 := 91) (H := h14) (items := #[.str rx t7, .str ry u7]) rfl rfl hM14 hT14 hit14 ⟨_, k14 _ _ hTu2.1, rfl, _, rfl⟩ (by simp) (by simp) (Nat.ne_of_lt (Heap.lt_size hTu2.1)) Nat.two_pos ?_ ?_
    · intro s7 v7 Q7 E7 hv7 k7 hq7
      rcases List.mem_cons.mp (show v7 ∈ [PySem.Value.str rx t7, .str ry u7] by simpa using hv7) with e | e
      · subst e
        exact PySem.P.len_str (by rw [hxl]; decide) (hq7 _ _ _ ⟨_, by rw [hxl]; rfl⟩ fun _ _ e => e)
      · obtain rfl := List.mem_singleton.mp e
        exact PySem.P.len_str (by rw [hyl]; decide) (hq7 _ _ _ ⟨_, by rw [hyl]; rfl⟩ fun _ _ e => e)
    · intro h15 tk15 u15 k15
      have F15 : Fr g' L' h15 _ := Fr.but F14 F13.ns.lt k15
      have N15 : News g' L' h15 (_ :: _ :: _ :: _ :: _ :: []) := fun p hp => by
        have z := N13 p hp
        exact ⟨k15 _ _ (Nat.ne_of_lt (Heap.lt_size z.1)) (k14 _ _ z.1), z.2⟩
      clear k15 F14 hit14 hT14 hM14 hz14 k14 N13 F13
      k_steps
      unfold Here
      rename Fr g' L' _ _ => F16
      rename News g' L' _ _ => N16
      refine common_spec (p := p) (Cx.mk (dp + 1) (un + 3) _ _ _ _ _ _ _ _ _ _ _ _ B' F16 X' N16 T' rfl (by (first | lia | omega)) (by (first | lia | omega))) (fun q hq => ?_) (by (first | lia | omega)) (by (first | lia | omega)) (by (first | lia | omega)) heq hne (fun t17 h17 tk17 F17 N17 => ?_)
      · simp only [List.mem_cons, List.not_mem_nil, or_false] at hq
        rcases hq with rfl | rfl | rfl | rfl <;> (show @Ne Nat _ _; first | exact Nat.ne_of_lt q1 | exact Nat.ne_of_lt q2 | exact Nat.ne_of_lt q3 | exact Nat.ne_of_lt q4)
      have hpl := pre_len (ry := ry) (rx := rx) hxl hyl hp
      generalize hpre : Txt.slice (if ry.cps.toList < rx.cps.toList then ry else rx) none (some (p : Int)) = pre at hpl
      rw [hpre] at hret
      clear F16 N16
      k_steps
      · have e33 : 33 < p := by (first | lia | omega)
        unfold Here
        rename Fr g' L' _ _ => F20
        rename News g' L' _ _ => N20
        rename _ = Data.cell (some (.str (short pre 5 _) _)) => hcP
        rename _ = Data.cell (some (.int _ _)) => hcN
        rw [hpl] at hcN
        rw [show (80 - (91 - (pre.length : Int) + 5 + 12) : Int) = (p : Int) - 28 by (first | lia | omega)] at hcP
        have hL107 : LT.lt (α := Nat) 107 L' := Nat.lt_trans (hOD _ (.head _)) hDL
        refine gen_pair (tp := tp) (v1 := .str rx t7) (v2 := .str ry u7) (ps := ps) (cl := [("prefixlen", L' + 1 + 1), ("prefix", L' + 1)]) (fun j => short pre 5 ((p : Int) - 28) ++ Txt.slice (if j = 0 then rx else ry) (some (p : Int)) none) T' X' F20 N20 (.tail _ (.tail _ (.tail _ (.tail _ (.head _))))) (.head _) (Nat.ne_of_gt q4) htr rfl rfl rfl rfl rfl rfl rfl rfl rfl (by decide) rfl rfl rfl (by show dp + 1 < recursionLimit; (first | lia | omega)) ?_ ?_
        · intro C cv A' E' i v t m₂ hi hA hD hU hn hm2 hkn hkb
          have c1 := hkn _ (.tail _ (.tail _ (.head _))) (Nat.ne_of_gt (Nat.lt_succ_of_lt hL107))
          have c2 := hkn _ (.tail _ (.head _)) (Nat.ne_of_gt (Nat.lt_succ_of_lt (Nat.lt_succ_of_lt hL107)))
          have hD' : A'.depth ≤ dp + 2 := hD
          have hU' : A'.units ≤ un + 100 := Nat.le_trans hU (by simp only [units_deeper, units_caller]; (first | lia | omega))
          match i, hi with
          | 0, hi =>
            obtain rfl : PySem.Value.str rx t7 = v := by simpa using hi
            exact elt_a  hn hm2 ⟨_, c1, hcP⟩ ⟨_, c2, hcN⟩ (Nat.le_trans (Nat.le_of_eq hxl) (by decide)) (short_len (by rw [hpl]; (first | lia | omega)) (by (first | lia | omega)) (by (first | lia | omega)))
          | 1, hi =>
            obtain rfl : PySem.Value.str ry u7 = v := by simpa using hi
            exact elt_a  hn hm2 ⟨_, c1, hcP⟩ ⟨_, c2, hcN⟩ (Nat.le_trans (Nat.le_of_eq hyl) (by decide)) (short_len (by rw [hpl]; (first | lia | omega)) (by (first | lia | omega)) (by (first | lia | omega)))
          | n + 2, hi => simp at hi
        · intro s5 ga Kb more F5 hP5 htr5 hG5 os5 hLK h107K G5
          refine args_nil ?_
          refine tuple_rowsK F5 (hG5 hG) G5 hLK (fun s6 acc F6 G6 os6 k6 hacc => ?_) (by decide)
          obtain ⟨t8, u8, rfl⟩ := pair_items hacc
          have h6 := k6 _ _ h107K hP5
          refine leaveK_ (news' := [(s6.heap.objs.size, ({ cls := .type "tuple", data := .seq [.str (short pre 5 ((p : Int) - 28) ++ Txt.slice rx (some (p : Int)) none) t8, .str (short pre 5 ((p : Int) - 28) ++ Txt.slice ry (some (p : Int)) none) u8].toArray } : Obj)), (107, PySem.W.X.tableObj (ps ++ more))]) (F6.push _) (fun q hq => ?_) (fun F7 N7 NR => hret _ _ more t8 u8 F7 (fun q hq => ?_) htr5 G6 (os6.trans os5) (fun q hq => Heap.lt_size (F6.keep _ _ (R' q hq))))
          · rcases List.mem_cons.mp hq with rfl | hq
            · exact ⟨Heap.get?_push_size _ rfl, Nat.ne_of_gt F6.ns.lt, next_is_new F6⟩
            · rw [List.mem_singleton.mp hq]
              exact ⟨Heap.get?_push_of_some _ h6, (N20 _ (.tail _ (.tail _ (.tail _ (.tail _ (.head _)))))).2⟩
          · rcases List.mem_cons.mp hq with rfl | hq
            · have e := N7 _ (.head _)
              simp only [csrOf, if_pos e33]
              exact e
            · rcases List.mem_cons.mp hq with rfl | hq
              · exact N7 _ (.tail _ (.head _))
              · exact NR _ hq
      · have e33 : ¬ 33 < p := by (first | lia | omega)
        unfold Here
        rename Fr g' L' _ _ => F20
        rename News g' L' _ _ => N20
        rename _ = Data.cell (some (.str (short pre 5 _) _)) => hcP
        rename _ = Data.cell (some (.int _ _)) => hcN
        rw [hpl] at hcN
        have hL107 : LT.lt (α := Nat) 107 L' := Nat.lt_trans (hOD _ (.head _)) hDL
        refine gen_pair (tp := tp) (v1 := .str rx t7) (v2 := .str ry u7) (ps := ps) (cl := [("prefixlen", L' + 1 + 1), ("prefix", L' + 1)]) (fun j => short pre 5 5 ++ short (Txt.slice (if j = 0 then rx else ry) (some (p : Int)) none) 41 5) T' X' F20 N20 (.tail _ (.tail _ (.tail _ (.tail _ (.head _))))) (.head _) (Nat.ne_of_gt q4) htr rfl rfl rfl rfl rfl rfl rfl rfl rfl (by decide) rfl rfl rfl (by show dp + 1 < recursionLimit; (first | lia | omega)) ?_ ?_
        · intro C cv A' E' i v t m₂ hi hA hD hU hn hm2 hkn hkb
          have c1 := hkn _ (.tail _ (.tail _ (.head _))) (Nat.ne_of_gt (Nat.lt_succ_of_lt hL107))
          have c2 := hkn _ (.tail _ (.head _)) (Nat.ne_of_gt (Nat.lt_succ_of_lt (Nat.lt_succ_of_lt hL107)))
          have hD' : A'.depth ≤ dp + 2 := hD
          have hU' : A'.units ≤ un + 100 := Nat.le_trans hU (by simp only [units_deeper, units_caller]; (first | lia | omega))
          match i, hi with
          | 0, hi =>
            obtain rfl : PySem.Value.str rx t7 = v := by simpa using hi
            exact elt_b (X'.keeps hkb) (T'.keeps hkb) (by (first | lia | omega)) (by (first | lia | omega)) rfl hn hm2 ⟨_, c1, hcP⟩ ⟨_, c2, hcN⟩ (Nat.le_trans (Nat.le_of_eq hxl) (by decide)) (short_len (by rw [hpl]; (first | lia | omega)) (by (first | lia | omega)) (by (first | lia | omega)))
          | 1, hi =>
            obtain rfl : PySem.Value.str ry u7 = v := by simpa using hi
            exact elt_b (X'.keeps hkb) (T'.keeps hkb) (by (first | lia | omega)) (by (first | lia | omega)) rfl hn hm2 ⟨_, c1, hcP⟩ ⟨_, c2, hcN⟩ (Nat.le_trans (Nat.le_of_eq hyl) (by decide)) (short_len (by rw [hpl]; (first | lia | omega)) (by (first | lia | omega)) (by (first | lia | omega)))
          | n + 2, hi => simp at hi
        · intro s5 ga Kb more F5 hP5 htr5 hG5 os5 hLK h107K G5
          refine args_nil ?_
          refine tuple_rowsK F5 (hG5 hG) G5 hLK (fun s6 acc F6 G6 os6 k6 hacc => ?_) (by decide)
          obtain ⟨t8, u8, rfl⟩ := pair_items hacc
          have h6 := k6 _ _ h107K hP5
          refine leaveK_ (news' := [(s6.heap.objs.size, ({ cls := .type "tuple", data := .seq [.str (short pre 5 5 ++ short (Txt.slice rx (some (p : Int)) none) 41 5) t8, .str (short pre 5 5 ++ short (Txt.slice ry (some (p : Int)) none) 41 5) u8].toArray } : Obj)), (107, PySem.W.X.tableObj (ps ++ more))]) (F6.push _) (fun q hq => ?_) (fun F7 N7 NR => hret _ _ more t8 u8 F7 (fun q hq => ?_) htr5 G6 (os6.trans os5) (fun q hq => Heap.lt_size (F6.keep _ _ (R' q hq))))
          · rcases List.mem_cons.mp hq with rfl | hq
            · exact ⟨Heap.get?_push_size _ rfl, Nat.ne_of_gt F6.ns.lt, next_is_new F6⟩
            · rw [List.mem_singleton.mp hq]
              exact ⟨Heap.get?_push_of_some _ h6, (N20 _ (.tail _ (.tail _ (.tail _ (.tail _ (.head _)))))).2⟩
          · rcases List.mem_cons.mp hq with rfl | hq
            · have e := N7 _ (.head _)
              simp only [csrOf, if_neg e33]
              exact e
            · rcases List.mem_cons.mp hq with rfl | hq
              · exact N7 _ (.tail _ (.head _))
              · exact NR _ hq
end
end
section
open PySem PySem.W PyProof.Rows PySem.Spec PySem.Calls
/-- the eight six-bit numbers of six octets -/
def sx (a b c d e f : Nat) : List Nat := [a / 4, a % 4 * 16 + b / 16, b % 16 * 4 + c / 64, c % 64, d / 4, d % 4 * 16 + e / 16, e % 16 * 4 + f / 64, f % 64]
theorem lc_nonneg (l : List Int) : 0 ≤ lc l := by
  unfold lc
  suffices ∀ (l : List Int) (a : Int), 0 ≤ a → 0 ≤ l.foldl (fun a b => (a * 256 + b) % 65536) a from this l 0 (Int.le_refl _)
  intro l
  induction l with
  | nil => intro a ha; exact ha
  | cons b l ih => intro a _; exact ih _ (Int.emod_nonneg _ (by decide))
theorem lc_two (l : List Int) {p n : Nat} (hp : p < 256) (hn : n < 256) : lc (l ++ [(p : Int), (n : Int)]) = ((p * 256 + n : Nat) : Int) := by
  unfold lc
  rw [List.foldl_append]
  generalize l.foldl (fun a b => (a * 256 + b) % 65536) 0 = z
  show ((z * 256 + (p : Int)) % 65536 * 256 + (n : Int)) % 65536 = _
  (first | lia | omega)
theorem lc_one {n : Nat} (hn : n < 256) : lc [(n : Int)] = (n : Int) := by
  show (0 * 256 + (n : Int)) % 65536 = _
  (first | lia | omega)
theorem s_cut (v k : Nat) : (v : Int).fdiv (k : Int) % 64 = ((v / k % 64 : Nat) : Int) := by
  rw [Int.fdiv_eq_ediv_of_nonneg _ (Int.natCast_nonneg k)]; rfl
theorem c4 {n : Nat} (h : n < 256) : n / 4 % 64 = n / 4 := by (first | lia | omega)
theorem c4' (p : Nat) {n : Nat} (h : n < 256) : (p * 256 + n) / 4 % 64 = n / 4 := by (first | lia | omega)
theorem c16 (p : Nat) {n : Nat} (h : n < 256) : (p * 256 + n) / 16 % 64 = p % 4 * 16 + n / 16 := by (first | lia | omega)
theorem c64 (p : Nat) {n : Nat} (h : n < 256) : (p * 256 + n) / 64 % 64 = p % 16 * 4 + n / 64 := by (first | lia | omega)
theorem c1 (p n : Nat) : (p * 256 + n) / 1 % 64 = n % 64 := by (first | lia | omega)
theorem sixes_sx {a b c d e f : Nat} (ha : a < 256) (hb : b < 256) (hc : c < 256) (hd : d < 256) (he : e < 256) (hf : f < 256) : sixes a b c d e f = (sx a b c d e f).map Int.ofNat := by
  unfold sixes
  have k4 := fun v => s_cut v 4
  have k16 := fun v => s_cut v 16
  have k64 := fun v => s_cut v 64
  have k1 := fun v => s_cut v 1
  simp only [Int.cast_ofNat_Int] at k4 k16 k64 k1
  rw [lc_one ha, show lc [(a : Int), (b : Int)] = _ from lc_two [] ha hb, show lc [(a : Int), (b : Int), (c : Int)] = _ from lc_two [(a : Int)] hb hc, show lc [(a : Int), (b : Int), (c : Int), (d : Int)] = _ from lc_two [(a : Int), (b : Int)] hc hd,
    show lc [(a : Int), (b : Int), (c : Int), (d : Int), (e : Int)] = _ from lc_two [(a : Int), (b : Int), (c : Int)] hd he, show lc [(a : Int), (b : Int), (c : Int), (d : Int), (e : Int), (f : Int)] = _ from lc_two [(a : Int), (b : Int), (c : Int), (d : Int)] he hf]
  rw [k4, k16, k64, k1, k4, k16, k64, k1, c4 ha, c16 a hb, c64 b hc, c1, c4' c hd, c16 d he, c64 e hf, c1]
  rfl
theorem xor_div (a x : Nat) (k : Nat) : (a ^^^ x) / 2 ^ k = (a / 2 ^ k) ^^^ (x / 2 ^ k) := by
  rw [← Nat.shiftRight_eq_div_pow, ← Nat.shiftRight_eq_div_pow, ← Nat.shiftRight_eq_div_pow, Nat.shiftRight_xor_distrib]
theorem xor_self2 (a x : Nat) : a ^^^ (a ^^^ x) = x := by rw [← Nat.xor_assoc, Nat.xor_self, Nat.zero_xor]
theorem hi16 : ∀ u u' : Fin 4, ∀ v : Fin 16, (u.val * 16 + v.val) ^^^ (u'.val * 16 + v.val) = (u.val ^^^ u'.val) * 16 := by decide +kernel
theorem lo16 : ∀ u : Fin 4, ∀ v v' : Fin 16, (u.val * 16 + v.val) ^^^ (u.val * 16 + v'.val) = v.val ^^^ v'.val := by decide +kernel
theorem hi4 : ∀ u u' : Fin 16, ∀ v : Fin 4, (u.val * 4 + v.val) ^^^ (u'.val * 4 + v.val) = (u.val ^^^ u'.val) * 4 := by decide +kernel
theorem lo4 : ∀ u : Fin 16, ∀ v v' : Fin 4, (u.val * 4 + v.val) ^^^ (u.val * 4 + v'.val) = v.val ^^^ v'.val := by decide +kernel
/-- what turns at the first sextet that an octet reaches, and at the next -/
theorem t_div (k : Nat) (n x : Nat) : (n / 2 ^ k) ^^^ ((n ^^^ x) / 2 ^ k) = x / 2 ^ k := by rw [xor_div, xor_self2]
theorem t_mod (k : Nat) (n x : Nat) : (n % 2 ^ k) ^^^ ((n ^^^ x) % 2 ^ k) = x % 2 ^ k := by rw [Nat.xor_mod_two_pow, xor_self2]
theorem xor_lt {n x : Nat} (hn : n < 256) (hx : x < 256) : n ^^^ x < 256 := Nat.xor_lt_two_pow (n := 8) hn hx
theorem ne_of_xor {a b t : Nat} (h : a ^^^ b = t) (ht : t ≠ 0) : a ≠ b := fun e => ht (by rw [← h, e, Nat.xor_self])
/-- the shape of the first place that turns -/
def Turns (s s' : List Nat) (q : Nat) : Prop := (∀ i, i < q / 6 → s[i]? = s'[i]?) ∧ ∃ u v, s[q / 6]? = some u ∧ s'[q / 6]? = some v ∧ u < 64 ∧ v < 64 ∧ u ≠ v ∧ (u ^^^ v) < 64 ∧ 0 < (u ^^^ v) ∧ (u ^^^ v).log2 = 5 - q % 6
end
section
open PySem PySem.W PyProof.Rows PySem.Spec PySem.Calls
noncomputable def sxL : List Nat → List Nat
  | [a, b, c, d, e, f] => sx a b c d e f
  | _ => []
theorem Turns.of {s s' : List Nat} {j u v t q : Nat} (hq : q / 6 = j) (pre : ∀ i, i < j → s[i]? = s'[i]?) (hu : s[j]? = some u) (hv : s'[j]? = some v) (ht : u ^^^ v = t) (hu64 : u < 64) (hv64 : v < 64) (ht0 : t ≠ 0) (hlog : t.log2 = 5 - q % 6) : Turns s s' q := by
  subst hq
  exact ⟨pre, u, v, hu, hv, hu64, hv64, ne_of_xor ht ht0, Nat.xor_lt_two_pow (n := 6) hu64 hv64, by rw [ht]; exact Nat.pos_of_ne_zero ht0, by rw [ht]; exact hlog⟩
theorem eq_of_xor0 {a b : Nat} (h : a ^^^ b = 0) : a = b := by
  have e : a ^^^ (a ^^^ b) = b := xor_self2 a b
  rw [h, Nat.xor_zero] at e
  exact e
theorem x1_0 (n x : Nat) : n / 4 ^^^ (n ^^^ x) / 4 = x / 4 := t_div 2 n x
theorem x2_0 (n x m : Nat) (hm : m < 256) : (n % 4 * 16 + m / 16) ^^^ ((n ^^^ x) % 4 * 16 + m / 16) = x % 4 * 16 := by
  have e := hi16 ⟨n % 4, by (first | lia | omega)⟩ ⟨(n ^^^ x) % 4, by (first | lia | omega)⟩ ⟨m / 16, by (first | lia | omega)⟩
  simp only at e
  rw [e, show n % 4 ^^^ (n ^^^ x) % 4 = x % 4 from t_mod 2 n x]
theorem x1_1 (n x p : Nat) (hn : n < 256) (hx : x < 256) : (p % 4 * 16 + n / 16) ^^^ (p % 4 * 16 + (n ^^^ x) / 16) = x / 16 := by
  have h := xor_lt hn hx
  have e := lo16 ⟨p % 4, by (first | lia | omega)⟩ ⟨n / 16, by (first | lia | omega)⟩ ⟨(n ^^^ x) / 16, by (first | lia | omega)⟩
  simp only at e
  rw [e]; exact t_div 4 n x
theorem x2_1 (n x m : Nat) (hm : m < 256) : (n % 16 * 4 + m / 64) ^^^ ((n ^^^ x) % 16 * 4 + m / 64) = x % 16 * 4 := by
  have e := hi4 ⟨n % 16, by (first | lia | omega)⟩ ⟨(n ^^^ x) % 16, by (first | lia | omega)⟩ ⟨m / 64, by (first | lia | omega)⟩
  simp only at e
  rw [e, show n % 16 ^^^ (n ^^^ x) % 16 = x % 16 from t_mod 4 n x]
theorem x1_2 (n x p : Nat) (hn : n < 256) (hx : x < 256) : (p % 16 * 4 + n / 64) ^^^ (p % 16 * 4 + (n ^^^ x) / 64) = x / 64 := by
  have h := xor_lt hn hx
  have e := lo4 ⟨p % 16, by (first | lia | omega)⟩ ⟨n / 64, by (first | lia | omega)⟩ ⟨(n ^^^ x) / 64, by (first | lia | omega)⟩
  simp only at e
  rw [e]; exact t_div 6 n x
theorem x2_2 (n x : Nat) : n % 64 ^^^ (n ^^^ x) % 64 = x % 64 := t_mod 6 n x
theorem log0 : ∀ x : Fin 256, x.val ≠ 0 → (x.val / 4 ≠ 0 → (7 - x.val.log2) / 6 = 0 ∧ (x.val / 4).log2 = 5 - (7 - x.val.log2) % 6) ∧ (x.val / 4 = 0 → x.val % 4 * 16 ≠ 0 ∧ (7 - x.val.log2) / 6 = 1 ∧ (x.val % 4 * 16).log2 = 5 - (7 - x.val.log2) % 6) := by decide +kernel
theorem log1 : ∀ x : Fin 256, x.val ≠ 0 → (x.val / 16 ≠ 0 → (2 + (7 - x.val.log2)) / 6 = 0 ∧ (x.val / 16).log2 = 5 - (2 + (7 - x.val.log2)) % 6) ∧ (x.val / 16 = 0 → x.val % 16 * 4 ≠ 0 ∧ (2 + (7 - x.val.log2)) / 6 = 1 ∧ (x.val % 16 * 4).log2 = 5 - (2 + (7 - x.val.log2)) % 6) := by decide +kernel
theorem log2' : ∀ x : Fin 256, x.val ≠ 0 → (x.val / 64 ≠ 0 → (4 + (7 - x.val.log2)) / 6 = 0 ∧ (x.val / 64).log2 = 5 - (4 + (7 - x.val.log2)) % 6) ∧ (x.val / 64 = 0 → x.val % 64 ≠ 0 ∧ (4 + (7 - x.val.log2)) / 6 = 1 ∧ (x.val % 64).log2 = 5 - (4 + (7 - x.val.log2)) % 6) := by decide +kernel
theorem div_six (j w : Nat) : (6 * j + w) / 6 = j + w / 6 ∧ (6 * j + w) % 6 = w % 6 := by (first | lia | omega)
theorem turn_two {s s' : List Nat} {j w u u' v v' t1 t2 : Nat} (pre : ∀ i, i < j → s[i]? = s'[i]?) (hu : s[j]? = some u) (hu' : s'[j]? = some u') (hv : s[j + 1]? = some v) (hv' : s'[j + 1]? = some v') (e1 : u ^^^ u' = t1) (e2 : v ^^^ v' = t2)
    (bu : u < 64) (bu' : u' < 64) (bv : v < 64) (bv' : v' < 64) (f1 : t1 ≠ 0 → w / 6 = 0 ∧ t1.log2 = 5 - w % 6) (f2 : t1 = 0 → t2 ≠ 0 ∧ w / 6 = 1 ∧ t2.log2 = 5 - w % 6) : Turns s s' (6 * j + w) := by
  obtain ⟨d1, d2⟩ := div_six j w
  by_cases h : t1 = 0
  · obtain ⟨g1, g2, g3⟩ := f2 h
    refine Turns.of (j := j + 1) (by rw [d1, g2]) (fun i hi => ?_) hv hv' e2 bv bv' g1 (by rw [d2]; exact g3)
    rcases Nat.lt_succ_iff_lt_or_eq.mp hi with hi | rfl
    · exact pre i hi
    · rw [hu, hu', eq_of_xor0 (e1.trans h)]
  · obtain ⟨g1, g2⟩ := f1 h
    exact Turns.of (by rw [d1, g1]; rfl) pre hu hu' e1 bu bu' h (by rw [d2]; exact g2)
theorem b4 {n : Nat} (h : n < 256) : n / 4 < 64 := by (first | lia | omega)
theorem b16 (p : Nat) {n : Nat} (h : n < 256) : p % 4 * 16 + n / 16 < 64 := by (first | lia | omega)
theorem b64 (p : Nat) {n : Nat} (h : n < 256) : p % 16 * 4 + n / 64 < 64 := by (first | lia | omega)
theorem bm (n : Nat) : n % 64 < 64 := Nat.mod_lt _ (by decide)
theorem six_turns {a b c d e f x o : Nat} (ha : a < 256) (hb : b < 256) (hc : c < 256) (hd : d < 256) (he : e < 256) (hf : f < 256) (hx0 : x ≠ 0) (hx : x < 256) (ho : o < 6) :
    Turns (sx a b c d e f) (sxL ([a, b, c, d, e, f].set o ([a, b, c, d, e, f].getD o 0 ^^^ x))) (8 * o + (7 - x.log2)) := by
  obtain ⟨p0, q0⟩ := log0 ⟨x, hx⟩ hx0
  obtain ⟨p1, q1⟩ := log1 ⟨x, hx⟩ hx0
  obtain ⟨p2, q2⟩ := log2' ⟨x, hx⟩ hx0
  match o, ho with
  | 0, _ => exact turn_two (s' := sx (a ^^^ x) b c d e f) (j := 0) (fun i hi => nomatch hi) rfl rfl rfl rfl (x1_0 a x) (x2_0 a x b hb) (b4 ha) (b4 (xor_lt ha hx)) (b16 _ hb) (b16 _ hb) p0 q0
  | 1, _ => rw [show 8 * 1 + (7 - x.log2) = 6 * 1 + (2 + (7 - x.log2)) by (first | lia | omega)]; exact turn_two (s' := sx a (b ^^^ x) c d e f) (j := 1) (fun i hi => by match i, hi with | 0, _ => rfl) rfl rfl rfl rfl (x1_1 b x a hb hx) (x2_1 b x c hc) (b16 _ hb) (b16 _ (xor_lt hb hx)) (b64 _ hc) (b64 _ hc) p1 q1
  | 2, _ => rw [show 8 * 2 + (7 - x.log2) = 6 * 2 + (4 + (7 - x.log2)) by (first | lia | omega)]; exact turn_two (s' := sx a b (c ^^^ x) d e f) (j := 2) (fun i hi => by match i, hi with | 0, _ => rfl | 1, _ => rfl) rfl rfl rfl rfl (x1_2 c x b hc hx) (x2_2 c x) (b64 _ hc) (b64 _ (xor_lt hc hx)) (bm _) (bm _) p2 q2
  | 3, _ => exact turn_two (s' := sx a b c (d ^^^ x) e f) (j := 4) (fun i hi => by match i, hi with | 0, _ => rfl | 1, _ => rfl | 2, _ => rfl | 3, _ => rfl) rfl rfl rfl rfl (x1_0 d x) (x2_0 d x e he) (b4 hd) (b4 (xor_lt hd hx)) (b16 _ he) (b16 _ he) p0 q0
  | 4, _ => rw [show 8 * 4 + (7 - x.log2) = 6 * 5 + (2 + (7 - x.log2)) by (first | lia | omega)]; exact turn_two (s' := sx a b c d (e ^^^ x) f) (j := 5) (fun i hi => by match i, hi with | 0, _ => rfl | 1, _ => rfl | 2, _ => rfl | 3, _ => rfl | 4, _ => rfl) rfl rfl rfl rfl (x1_1 e x d he hx) (x2_1 e x f hf) (b16 _ he) (b16 _ (xor_lt he hx)) (b64 _ hf) (b64 _ hf) p1 q1
  | 5, _ => rw [show 8 * 5 + (7 - x.log2) = 6 * 6 + (4 + (7 - x.log2)) by (first | lia | omega)]; exact turn_two (s' := sx a b c d e (f ^^^ x)) (j := 6) (fun i hi => by match i, hi with | 0, _ => rfl | 1, _ => rfl | 2, _ => rfl | 3, _ => rfl | 4, _ => rfl | 5, _ => rfl) rfl rfl rfl rfl (x1_2 f x e hf hx) (x2_2 f x) (b64 _ hf) (b64 _ (xor_lt hf hx)) (bm _) (bm _) p2 q2
end
section
open PySem PySem.W PyProof.Rows PySem.Spec PySem.Calls
set_option maxRecDepth 100000
/-- a report of one or of two brackets that fits its line -/
inductive Fits (R W : PySem.Str) : Prop
  | one (h1 : R.length ≤ 80) (h2 : W.length ≤ 200) (B0 S1 D1 B1 : PySem.Str) (n1 : Int) (a1 : Txt.split R (PySem.Str.ofString "[") = [B0, S1]) (a2 : Txt.splitMax S1 (PySem.Str.ofString " chars]") 1 = [D1, B1]) (a3 : PySem.intText? D1 = some n1) (a4 : D1.length ≤ 80) (a5 : 0 ≤ n1) (a6 : S1.length ≤ 80)
      (a7 : Txt.slice W (some 0) (some (B0.length : Int)) = B0) (a8 : Txt.slice W (some ((B0.length : Int) + n1)) (some ((B0.length : Int) + n1 + B1.length)) = B1) (a9 : (B0.length : Int) + n1 + B1.length = W.length) : Fits R W
  | two (h1 : R.length ≤ 80) (h2 : W.length ≤ 200) (B0 S1 D1 B1 S2 D2 B2 : PySem.Str) (n1 n2 : Int) (a1 : Txt.split R (PySem.Str.ofString "[") = [B0, S1, S2]) (a2 : Txt.splitMax S1 (PySem.Str.ofString " chars]") 1 = [D1, B1]) (a3 : PySem.intText? D1 = some n1) (a4 : D1.length ≤ 80) (a5 : 0 ≤ n1) (a6 : S1.length ≤ 80)
      (a7 : Txt.splitMax S2 (PySem.Str.ofString " chars]") 1 = [D2, B2]) (a8 : PySem.intText? D2 = some n2) (a9 : D2.length ≤ 80) (a10 : 0 ≤ n2) (a11 : S2.length ≤ 80)
      (a12 : Txt.slice W (some 0) (some (B0.length : Int)) = B0) (a13 : Txt.slice W (some ((B0.length : Int) + n1)) (some ((B0.length : Int) + n1 + B1.length)) = B1)
      (a14 : Txt.slice W (some ((B0.length : Int) + n1 + B1.length + n2)) (some ((B0.length : Int) + n1 + B1.length + n2 + B2.length)) = B2) (a15 : (B0.length : Int) + n1 + B1.length + n2 + B2.length = W.length) : Fits R W
theorem fits_spec {w : World} {A : Around} {base h₀ : Heap} {L : Addr} {m : LM} {news : Led} {s : Shared} {Q E : PQ} {R W : PySem.Str} {tr tw : Tok} (c : Cx w base h₀ L m news s.heap 8 80 A) (h : Fits R W) (hret : Back h₀ L m news s Q (.bool true)) :
    wpAny (model P0 w) A (call (.ref 845) [.str R tr, .str W tw]) Q E s := by
  rcases h with ⟨h1, h2, B0, S1, D1, B1, n1, a1, a2, a3, a4, a5, a6, a7, a8, a9⟩ | ⟨h1, h2, B0, S1, D1, B1, S2, D2, B2, n1, n2, a1, a2, a3, a4, a5, a6, a7, a8, a9, a10, a11, a12, a13, a14, a15⟩
  · have b0 : B0.length ≤ 200 := by (first | lia | omega)
    have b1 : B1.length ≤ 200 := by (first | lia | omega)
    refine fits_gen (parts := [B0, S1]) (pos := fun i => match i with | 0 => 0 | 1 => (B0.length : Int) | _ => (B0.length : Int) + n1 + B1.length) c h1 h2 a1 (Nat.le_of_ble_eq_true rfl) rfl (fun i S hS => ?_) (fun i => ?_) a9 hret
    · match i, hS with
      | 0, hS => obtain rfl := Option.some.inj hS; exact .zero rfl b0 (by show Txt.slice W (some 0) (some (0 + (B0.length : Int))) = B0; rw [Int.zero_add]; exact a7) (Int.zero_add _).symm
      | 1, hS => obtain rfl := Option.some.inj hS; exact .succ 0 rfl D1 B1 n1 a2 a3 a4 a5 a6 b1 a8 rfl
    · match i with
      | 0 => exact Int.le_refl 0
      | 1 => exact Int.natCast_nonneg _
      | _ + 2 => exact Int.add_nonneg (Int.add_nonneg (Int.natCast_nonneg _) a5) (Int.natCast_nonneg _)
  · have b0 : B0.length ≤ 200 := by (first | lia | omega)
    have b1 : B1.length ≤ 200 := by (first | lia | omega)
    have b2 : B2.length ≤ 200 := by (first | lia | omega)
    refine fits_gen (parts := [B0, S1, S2]) (pos := fun i => match i with | 0 => 0 | 1 => (B0.length : Int) | 2 => (B0.length : Int) + n1 + B1.length | _ => (B0.length : Int) + n1 + B1.length + n2 + B2.length) c h1 h2 a1 (Nat.le_of_ble_eq_true rfl) rfl (fun i S hS => ?_) (fun i => ?_) a15 hret
    · match i, hS with
      | 0, hS => obtain rfl := Option.some.inj hS; exact .zero rfl b0 (by show Txt.slice W (some 0) (some (0 + (B0.length : Int))) = B0; rw [Int.zero_add]; exact a12) (Int.zero_add _).symm
      | 1, hS => obtain rfl := Option.some.inj hS; exact .succ 0 rfl D1 B1 n1 a2 a3 a4 a5 a6 b1 a13 rfl
      | 2, hS => obtain rfl := Option.some.inj hS; exact .succ 1 rfl D2 B2 n2 a7 a8 a9 a10 a11 b2 a14 rfl
    · match i with
      | 0 => exact Int.le_refl 0
      | 1 => exact Int.natCast_nonneg _
      | 2 => exact Int.add_nonneg (Int.add_nonneg (Int.natCast_nonneg _) a5) (Int.natCast_nonneg _)
      | _ + 3 => exact Int.add_nonneg (Int.add_nonneg (Int.add_nonneg (Int.add_nonneg (Int.natCast_nonneg _) a5) (Int.natCast_nonneg _)) a10) (Int.natCast_nonneg _)
/-- what _law_unlike is asked of, and what it answers -/
inductive Unl (F1 F2 Ln : PySem.Str) (word oct hb : Nat) : Prop
  | mk (z pl : Nat) (ts : List (List Nat)) (ia ib : Nat) (ra rb : List Nat) (rf : Int) (b6 : Nat) (r6 : List Int) (v1 : F1.length ≤ 80) (v2 : F2.length ≤ 80) (v3 : z < F1.length) (v4 : z < F2.length) (v5 : ∀ j, j < z → F1.cps.getD j 0 = F2.cps.getD j 0) (v6 : F1.cps.getD z 0 ≠ F2.cps.getD z 0) (v7 : Ln.length ≤ 100) (v8 : PlaceCase F1 z pl)
      (v9 : (Txt.slice Ln none (some (pl : Int)) ++ PySem.Str.ofString "x").length ≤ 200) (v10 : ts ≠ []) (v11 : ∀ v ∈ ts, v ≠ [] ∧ ∀ c ∈ v, SignC c) (v12 : ts.length ≤ 900) (v13 : (Txt.slice Ln none (some (pl : Int)) ++ PySem.Str.ofString "x").cps.toList = joinW ts)
      (v14 : Builtin.Str.occurrences signs64 (Txt.item F1 (z : Int)) 0 signs64.length 1 = ia :: ra) (v15 : Builtin.Str.occurrences signs64 (Txt.item F2 (z : Int)) 0 signs64.length 1 = ib :: rb) (v16 : ia < 64) (v17 : ib < 64)
      (v18 : 0 ≤ Builtin.bitXor (ia : Int) ib ∧ Builtin.bitXor (ia : Int) ib < 64) (v19 : Txt.rfind (Txt.slice Ln none (some (pl : Int))) (PySem.Str.ofString " ") = rf) (v20 : -1 ≤ rf)
      (v21 : ((List.range 6).filter (fun i => bitAt (Builtin.bitXor (ia : Int) ib) (5 - i))).map Int.ofNat = Int.ofNat b6 :: r6) (v22 : b6 < 6) (v23 : rf ≤ 100) (v24 : pl ≤ 100)
      (v25 : (ts.length : Int) - 1 = word) (v26 : (6 * ((pl : Int) - 1 - rf) + b6).fdiv 8 = oct) (v27 : (6 * ((pl : Int) - 1 - rf) + b6).fmod 8 = hb) : Unl F1 F2 Ln word oct hb
abbrev preOf (rx ry : PySem.Str) (p : Nat) : PySem.Str := Txt.slice (if ry.cps.toList < rx.cps.toList then ry else rx) none (some (p : Int))
abbrev quo (l : PySem.Str) : PySem.Str := PySem.Str.ofString "'" ++ l ++ PySem.Str.ofString "'"
/-- all that the law's walk asks of its two lines -/
inductive Plain (l0 l1 : PySem.Str) (word oct bt : Nat) : Prop
  | mk (rx ry : PySem.Str) (p hb : Nat) (r8 : List Int) (h1 : l0.length ≤ 100) (h2 : l1.length ≤ 100) (h3 : PySem.reprText l0 = rx) (h4 : PySem.reprText l1 = ry) (h5 : rx.length = 91) (h6 : ry.length = 91) (h7 : 0 < p) (h8 : p < 91) (h9 : ∀ j, j < p → rx.cps[j]? = ry.cps[j]?) (h10 : rx.cps[p]? ≠ ry.cps[p]?)
      (h11 : Fits (csrOf p (preOf rx ry p) rx) (quo l0)) (h12 : Fits (csrOf p (preOf rx ry p) ry) (quo l1)) (h13 : Unl (csrOf p (preOf rx ry p) rx) (csrOf p (preOf rx ry p) ry) l0 word oct hb)
      (h14 : ((List.range 8).filter (fun i => bitAt (bt : Int) (7 - i))).map Int.ofNat = Int.ofNat hb :: r8) : Plain l0 l1 word oct bt
end
section
open PySem PySem.W PyProof.Rows PySem.Spec PySem.Calls
theorem bitXor_nat (a b : Nat) : Builtin.bitXor (a : Int) (b : Int) = ((a ^^^ b : Nat) : Int) := by
  have key : ∀ a b : Nat, (a ^^^ b) + (a &&& b) = a ||| b := by
    intro a
    induction a using Nat.strongRecOn with
    | _ a ih =>
      intro b
      by_cases h0 : a = 0
      · subst h0; simp
      have e := ih (a / 2) (by (first | lia | omega)) (b / 2)
      have x1 : (a ^^^ b) / 2 = a / 2 ^^^ b / 2 := by
        have := @Nat.shiftRight_xor_distrib 1 a b
        simpa [Nat.shiftRight_eq_div_pow] using this
      have x2 : (a &&& b) / 2 = a / 2 &&& b / 2 := by
        have := @Nat.shiftRight_and_distrib 1 a b
        simpa [Nat.shiftRight_eq_div_pow] using this
      have x3 : (a ||| b) / 2 = a / 2 ||| b / 2 := by
        have := @Nat.shiftRight_or_distrib 1 a b
        simpa [Nat.shiftRight_eq_div_pow] using this
      have m1 : (a ^^^ b) % 2 = a % 2 ^^^ b % 2 := by simpa using @Nat.xor_mod_two_pow a b 1
      have m2 : (a &&& b) % 2 = a % 2 &&& b % 2 := by simpa using @Nat.and_mod_two_pow a b 1
      have m3 : (a ||| b) % 2 = a % 2 ||| b % 2 := by simpa using @Nat.or_mod_two_pow a b 1
      have mm : (a % 2 ^^^ b % 2) + (a % 2 &&& b % 2) = a % 2 ||| b % 2 := by
        rcases Nat.mod_two_eq_zero_or_one a with h | h <;> rcases Nat.mod_two_eq_zero_or_one b with h' | h' <;> rw [h, h'] <;> rfl
      (first | lia | omega)
  unfold Builtin.bitXor Builtin.bitOr
  have hA : Builtin.bitAnd (a : Int) (b : Int) = ((a &&& b : Nat) : Int) := by
    unfold Builtin.bitAnd
    simp
  have hN : ∀ n : Nat, Builtin.bitNot (n : Int) = -(n : Int) - 1 := fun n => by unfold Builtin.bitNot; (first | lia | omega)
  have hB : Builtin.bitNot (Builtin.bitAnd (Builtin.bitNot (a : Int)) (Builtin.bitNot (b : Int))) = ((a ||| b : Nat) : Int) := by
    have nn : ∀ n : Nat, Builtin.bitNot (Builtin.bitNot (n : Int)) = (n : Int) := fun n => by unfold Builtin.bitNot; (first | lia | omega)
    unfold Builtin.bitAnd
    rw [show decide (0 ≤ Builtin.bitNot (a : Int)) = false from decide_eq_false (by rw [hN]; (first | lia | omega)), show decide (0 ≤ Builtin.bitNot (b : Int)) = false from decide_eq_false (by rw [hN]; (first | lia | omega))]
    dsimp only
    rw [nn, nn, nn]; simp
  rw [hA, hB]
  have := key a b
  (first | lia | omega)
end
section
open PySem PySem.W PyProof.Rows PySem.Spec PySem.Calls
set_option maxRecDepth 100000
set_option maxHeartbeats 0
theorem rowOf_six (nums : List Int) (i : Nat) : ∃ n0 n1 n2 n3 n4 n5, rowOf nums i = [n0, n1, n2, n3, n4, n5] ∧ ∀ n ∈ [n0, n1, n2, n3, n4, n5], 0 ≤ n ∧ n < 256 := by
  refine ⟨_, _, _, _, _, _, rfl, fun n hn => ?_⟩
  have h : ∀ x : Int, 0 ≤ x.fmod 256 ∧ x.fmod 256 < 256 := fun x => ⟨Int.fmod_nonneg_of_pos x (by decide), Int.fmod_lt_of_pos x (by decide)⟩
  simp only [List.mem_cons, List.not_mem_nil, or_false] at hn
  rcases hn with rfl | rfl | rfl | rfl | rfl | rfl <;> exact h _
theorem words_more {D : Addr} {o : Obj} {lists : Led} {wd : List Addr} {nss : List (List Int)} (h : WordsIn lists wd nss) : WordsIn ((D, o) :: lists) wd nss :=
  ⟨h.1, fun i a hi => let ⟨n0, n1, n2, n3, n4, n5, vs, h1, h2, ⟨o, c, k1, k2, k3⟩, h4⟩ := h.2 i a hi; ⟨n0, n1, n2, n3, n4, n5, vs, h1, h2, ⟨o, c, .tail _ k1, k2, k3⟩, h4⟩⟩
theorem words_snoc {D : Addr} {lists : Led} {wd : List Addr} {ns : List Int} {i : Nat} {vs : List PySem.Value} (hi : i < 10) (h : WordsIn lists wd ((wordsOf ns).take i)) (hv : IntsAre vs (rowOf (numsOf6 ns) i)) :
    WordsIn ((D, LCg.lst vs) :: lists) (wd ++ [D]) ((wordsOf ns).take (i + 1)) := by
  have hlen : (wordsOf ns).length = 10 := by simp [wordsOf]
  have hwl : wd.length = i := by rw [h.1, List.length_take, hlen]; (first | lia | omega)
  have hg : (wordsOf ns)[i]? = some (rowOf (numsOf6 ns) i) := by
    unfold wordsOf
    rw [List.getElem?_map, List.getElem?_range hi]; rfl
  refine ⟨by rw [List.length_append, hwl, List.length_take, hlen]; simp; (first | lia | omega), fun j a hj => ?_⟩
  by_cases hji : j < i
  · rw [List.getElem?_append_left (by rw [hwl]; exact hji)] at hj
    obtain ⟨n0, n1, n2, n3, n4, n5, vs', h1, h2, ⟨o, c, k1, k2, k3⟩, h4⟩ := h.2 j a hj
    refine ⟨n0, n1, n2, n3, n4, n5, vs', ?_, h2, ⟨o, c, .tail _ k1, k2, k3⟩, h4⟩
    rw [List.getElem?_take, if_pos hji] at h1
    rw [List.getElem?_take, if_pos (by (first | lia | omega))]
    exact h1
  · have hjl := (List.getElem?_eq_some_iff.mp hj).1
    rw [List.length_append, hwl, List.length_singleton] at hjl
    obtain rfl : j = i := by (first | lia | omega)
    rw [List.getElem?_append_right (by (first | lia | omega)), hwl, Nat.sub_self] at hj
    obtain rfl : D = a := Option.some.inj hj
    obtain ⟨n0, n1, n2, n3, n4, n5, e, hb⟩ := rowOf_six (numsOf6 ns) j
    exact ⟨n0, n1, n2, n3, n4, n5, vs, by rw [List.getElem?_take, if_pos (by (first | lia | omega)), hg, e], hb, ⟨_, _, .head _, rfl, rfl⟩, e ▸ hv⟩
section
variable {w : World} {A : Around} {base h₀ : Heap} {L : Addr} {m : LM} {news : Led} {s : Shared} {Q E : PQ}
inductive WoJ (ns : List Int) (NB : Led) (i : Nat) (ys : List PySem.Value) (nw : Led) : Prop
  | mk (lists : Led) (wd : List Addr) (h1 : ys = List.map PySem.Value.ref wd) (h2 : nw = lists ++ NB) (h3 : WordsIn lists wd ((wordsOf ns).take i)) : WoJ ns NB i ys nw
theorem rows39 : True := by
  k_with_none
  k_with "eval ListComp" => (refine Here.of ?_)
  k_with "CompEnd" => (refine Here.of ?_)
  k_with "pyIter bytes" => (refine Here.of ?_)
  k_with "pyIter ref" => (refine Here.of ?_)
  exact trivial
theorem words_spec {a : Addr} {vs : List PySem.Value} {ns : List Int} (c : Cx w base h₀ L m news s.heap 30 300 A) (hl : h₀.IsList a vs.toArray) (hv : IntsAre vs ns) (hsz : ns.length ≤ 63)
    (hret : ∀ W own wd h' tk', Fr h₀ L h' m → News h₀ L h' (own ++ news) → ListIn own W (wd.map PySem.Value.ref).toArray → WordsIn own wd (wordsOf ns) → (∀ p ∈ own, ∀ r ∈ news, p.1 ≠ r.1) → Q (.ref W) { s with heap := h', toks := tk' }) :
    wpAny (model P0 w) A (call (.ref 828) [.ref a]) Q E s := by
  rcases c with ⟨dp, un, gd, cn, cs, a, ccd, cl, outer, A₀, lo, mean, mg, mb, B, F, X, N, T, hk, hd, hu⟩
  rename_i aa
  refine wpAny_call ?_
  k_dflt (refine' enterC [("script", .ref aa)] [] news ?k1 ?k2 ?k3 ?k4 ?k5 ?kA ?kF ?kK ?h1 ?h2 ?h3 ?k6 ?k7 ?k8 ?k9 ?hkd ?hnd ?c2 ?c3 ?c4 ?kG)
  k_dflt ((case kA => exact rfl); (case kF => exact rfl); (case kK => first | exact rfl | assumption); (case k1 => k_asm); (case k2 => k_asm); (case k3 => k_asm); (case k4 => k_asm); (case k5 => k_asm); (case k6 => k_is); (case k7 => k_is); (case k8 => ktr_room); (case k9 => exact kp_binds (by k_in) (fun _ => by kernel_rfl)); (case c2 => exact rfl); (case c3 => exact rfl); (case c4 => exact rfl); (case hkd => exact fun n => by first | (intro x hx; simp at hx; rcases hx with rfl | rfl | rfl <;> first | (left; rfl) | (right; exact ⟨rfl, rfl⟩)) | decide); (case hnd => decide); (case h1 => exact fun _ h => nomatch h); (case h2 => exact fun _ h => h); (case h3 => exact fun _ _ h => nomatch h))
  intro g' L' h' tk' cells' FG' F' N' Y' B' X' T' R' st' _
  obtain ⟨o', rfl, d1'⟩ := CellsAre.one Y'
  clear Y'
  have hl' : g'.IsList aa vs.toArray := (let ⟨o, e, r⟩ := hl; ⟨o, st' _ _ e, r⟩)
  clear hl
  (try dsimp only [List.reverse_cons, List.reverse_nil, List.nil_append, List.cons_append] at F' N'); (try dsimp only); (try k_fold)
  k_steps
  unfold Here
  rename_i Dn wsn hn hIn ln hm oN FN NN dN
  generalize hNB : [(Dn, listOf wsn.toArray 0), _, _, (L' + 1, oN)] = NB at NN
  have m1 : (Dn, listOf wsn.toArray 0) ∈ NB := hNB ▸ .head _
  have m2 : (L' + 1, oN) ∈ NB := hNB ▸ .tail _ (.tail _ (.tail _ (.head _)))
  have hn10 : 10 ≤ (numsOf6 ns).length := by unfold numsOf6; simp
  have hn16 : (numsOf6 ns).length ≤ 100 := by unfold numsOf6; simp; (first | lia | omega)
  refine ListComp_C (h₀ := g') (L := L') (cl := [("numbers", L' + 1)]) (n := 10) (news := NB) (Inv := WoJ ns NB) FN (by kernel_rfl) (fun _ => by kernel_rfl) (fun _ => by kernel_rfl) rfl (by decide) (fun _ _ => by kernel_rfl) ?_
  clear hl'
  k_steps
  unfold Here
  rename_i h6 tk6 t1 u1 v1 hr6 F6 N6 k6
  refine wpAny_pyIter_range hr6 (by decide) ?_
  refine ⟨_, _, _, rfl, LCg.range_walks rfl 0 10, by decide, fun i h st => ⟨_, st⟩, fun i h h' o st e e' => ?_, ?_, ?_, F6.push _, fun p hp => ⟨Heap.get?_push_of_some _ (N6 p hp).1, (N6 p hp).2⟩, Nat.ne_of_lt F6.ns.lt, next_is_new F6, fun p hp => Nat.ne_of_lt (Heap.lt_size (N6 p hp).1), ⟨[], [], rfl, rfl, rfl, fun i a h => nomatch h⟩, ?_, ?_⟩
  · have st' : h.get? _ = some _ := st
    show h'.get? _ = some _
    rw [e', ← e]; exact st'
  · exact Heap.get?_push_size _ rfl
  · show h6.objs.size < (h6.objs.push _).size
    rw [Array.size_push]; exact Nat.lt_succ_self _
  · rintro i ys nw v oI C oC D c oc h7 tk7 E7 hi ⟨lists, wd, rfl, rfl, hW⟩ ⟨t7, rfl⟩ hoc F7 N7 off7
    rw [Int.zero_add] at hoc
    refine words_elt (i := i) (ws := wsn) (nums := numsOf6 ns) F7 X' T' N7 (.tail _ (.tail _ (.tail _ (.head _)))) hoc (.tail _ (.tail _ (.tail _ (.tail _ (List.mem_append_right _ m2))))) dN (.tail _ (.tail _ (.tail _ (.tail _ (List.mem_append_right _ m1))))) hIn hn10 hn16 hi (fun D2 h8 tk8 vs8 F8 N8 o8 hv8 => ?_)
    obtain ⟨o81, o82, o83, o84, o85⟩ := o8
    refine ⟨h8, tk8, (D2, LCg.lst vs8) :: (lists ++ NB), rfl, F8, fun p hp => N8 p ?_, fun p hp => ?_, ⟨(D2, LCg.lst vs8) :: lists, wd ++ [D2], by simp, rfl, words_snoc hi hW hv8⟩⟩
    · simp only [List.mem_cons] at hp ⊢
      rcases hp with hp | hp | hp | hp | hp | hp <;> simp [hp]
    · rcases List.mem_cons.mp hp with rfl | hp
      · exact ⟨Ne.symm o81, Ne.symm o82, Ne.symm o83, Ne.symm o84⟩
      · exact off7 p hp
  · rintro ys nw ⟨lists, wd, rfl, rfl, hW⟩ D h7 tk7 F7 N7 o7
    rw [List.take_of_length_le (by simp [wordsOf])] at hW
    refine leaveK_ (news' := (D, LCg.lst (wd.map PySem.Value.ref)) :: lists) F7 (fun p hp => N7 p ?_) (fun F8 N8 NR => hret D ((D, LCg.lst (wd.map PySem.Value.ref)) :: lists) wd _ _ F8 (News.app N8 NR) ⟨_, _, .head _, rfl, rfl⟩ (words_more hW) fun p hp r hr e => ?_)
    · rcases List.mem_cons.mp hp with rfl | hp
      · exact .head _
      · exact .tail _ (List.mem_append_left _ hp)
    · have z := (N7 p (by
        rcases List.mem_cons.mp hp with rfl | hp
        · exact .head _
        · exact .tail _ (List.mem_append_left _ hp))).2.2
      rw [e, R' r hr] at z; cases z
end
end
section
open PySem PySem.W PyProof.Rows PySem.Spec PySem.Calls
set_option maxRecDepth 100000
set_option maxHeartbeats 4000000
theorem inK {P : Params} {h : Heap} (x : (KA P).In h) : (K P).In h := fun a o e => x a o (by
  unfold KA
  show List.lookup a (K P ++ tabs) = some o
  rw [List.lookup_append, show List.lookup a (K P) = some o from e]; rfl)
theorem in_tab {P : Params} {h : Heap} (x : (KA P).In h) (hK : (K P).lookup 107 = none ∧ (K P).lookup 810 = none) : h.get? 107 = some (PySem.W.X.tableObj #[]) ∧ h.get? 810 = some (PySem.W.X.tableObj #[]) := by
  refine ⟨x 107 _ ?_, x 810 _ ?_⟩
  · unfold KA
    show List.lookup 107 (K P ++ tabs) = _
    rw [List.lookup_append, show List.lookup 107 (K P) = none from hK.1]; rfl
  · unfold KA
    show List.lookup 810 (K P ++ tabs) = _
    rw [List.lookup_append, show List.lookup 810 (K P) = none from hK.2]; rfl
section
variable {w : World} {A : Around} {s : Shared} {lo : List PySem.Str} {mean : ExcName → Option PySem.Value} {mg mb : LM}
  {R : Result → Shared → Prop} {name qual : PySem.Str} {params : Arguments} {body : List Stmt} {scope : Scope} {dV kV doc pm cdv ct oc : PySem.Value} {an od : Option Addr} {osl : Array (Option PySem.Value)} {f : Addr} {args : Args}
/-- the law's own def is entered: tables that its run turns are hidden from its base -/
theorem enterH (binds : List (PySem.Str × PySem.Value)) (own : Led) (X₀ : (K w.params).In s.heap) (T : Top q0 lo mean mg mb (hideAll s.heap (own.map (·.1))))
    (hown : ∀ p ∈ own, s.heap.get? p.1 = some p.2) (hK : ∀ p ∈ own, (K w.params).lookup p.1 = none)
    (ho : (K w.params).lookup f = some ⟨oc, od, .func (fnOf name qual params body scope dV kV doc pm an cdv ct), osl⟩) (hcd : codeIn (K w.params) cdv qual = true) (hroom : A.depth < recursionLimit)
    (hbind : BindsTo s (fnOf name qual params body scope dV kV doc pm an cdv ct) args binds)
    (hkind : ∀ n, ∀ x ∈ binds, scope.names.lookup x.1 = some .local ∨ (scope.names.lookup x.1 = some .cell ∧ ((cellsFrom n scope.names []).lookup x.1).isSome = true))
    (hnd : ((cellsFrom 0 scope.names []).map (·.1)).Nodup)
    (hco : scope.isCoroutine = false) (hgen : scope.isGenerator = false) (hk : scope.kind = .function)
    (h : ∀ g L' h₁ tk cells, g = hideAll s.heap (own.map (·.1)) → Fr g L' h₁ (bindL (envOfC qual scope L' f cdv).kindOf binds fun _ => none) → News g L' h₁ (cells ++ own) →
      CellsAre (bindC (envOfC qual scope L' f cdv).kindOf binds fun _ => none) (cellsFrom (L' + 1) scope.names []) cells → (K w.params).In g → Top q0 lo mean mg mb g → (∀ p ∈ own, LT.lt (α := Nat) p.1 L') →
      wpAny (model P0 w) (A.deeper (envOfC qual scope L' f cdv)) (execs body (envOfC qual scope L' f cdv))
        (fun fl s' => R (.ok (.ret (match fl with | .ret v => v | _ => .none))) s')
        (fun e s' => wpAny (model P0 w) (A.deeper (envOfC qual scope L' f cdv)) (leaving (envOfC qual scope L' f cdv) e) (fun _ s'' => R (.error e) s'') (fun e' s'' => R (.error e') s'') s')
        { s with heap := h₁, toks := tk }) :
    codeAny (model P0 w) A (.call (.ref f) args) R s := by
  refine codeAny_call_function hroom (X₀ _ _ ho) rfl hco hgen rfl (codeRec_of X₀ hcd) (hbind _ _ _ _ ?_)
  refine wpAny_newFunctionEnv_cells hk (hkind _) fun env' he s' x => ?_
  subst he
  have hl : s.heap.NoLimit := T.nolimit.keeps fun b o e => of_hideAll _ e
  refine ⟨hl.keeps x.toInCall.keep, codeAny_func ?_⟩
  obtain ⟨h₁, tk, rfl, _⟩ := x.done
  have hk₁ := x.toInCall.keep
  obtain ⟨cells, NC, Y⟩ := Cl.news (h₀ := s.heap) (Nat.le_refl _) fun n c hm => ⟨x.cell n c (lookup_of_mem_nodup (cellsFrom_names scope.names 0 (s.heap.objs.size + 1) [] [] rfl ▸ hnd) hm), x.above n c hm⟩
  refine wpAny_mono (h _ s.heap.objs.size h₁ tk cells rfl ⟨x.toInCall.ns, fun b o e => hk₁ b o (of_hideAll _ e), Nat.le_of_eq (hideAll_size _ _)⟩ (fun p hp => ?_) Y (fun a o e => hideAll_get _ (X₀ a o e) fun hm => ?_) T (fun p hp => Heap.lt_size (hown p hp))) (fun fl s' hl => hl) fun _ _ y => y
  · rcases List.mem_append.mp hp with hp | hp
    · refine ⟨(NC p hp).1, (NC p hp).2.1, ?_⟩
      cases q : (hideAll s.heap (own.map (·.1))).get? p.1 with
      | none => rfl
      | some o => have := of_hideAll _ q; rw [(NC p hp).2.2] at this; cases this
    · exact ⟨hk₁ _ _ (hown p hp), Nat.ne_of_lt (Heap.lt_size (hown p hp)), hideAll_none _ (List.mem_map_of_mem hp)⟩
  · obtain ⟨p, hp, rfl⟩ := List.mem_map.mp hm
    rw [hK p hp] at e; cases e
end
end
section
open PySem PySem.W PyProof.Rows PySem.Spec PySem.Calls
set_option maxRecDepth 100000
set_option maxHeartbeats 0
theorem allc {α : Type} {P : α → Prop} {a : α} {l : List α} (h : P a) (t : ∀ p ∈ l, P p) : ∀ p ∈ a :: l, P p := fun p hp => by
  cases hp with
  | head => exact h
  | tail _ hp => exact t p hp
theorem fm_nat (X : Int) {n : Nat} (h : (0 : Int) < n) : ∃ k : Nat, X.fmod (n : Int) = (k : Int) ∧ k < n :=
  ⟨(X.fmod n).toNat, (Int.toNat_of_nonneg (Int.fmod_nonneg_of_pos X h)).symm, (Int.toNat_lt (Int.fmod_nonneg_of_pos X h)).mpr (Int.fmod_lt_of_pos X h)⟩
theorem store_cell {w : World} {A : Around} {E : PQ} {s : Shared} {g : Heap} {L c : Addr} {m : LM} {a b : Led} {o : Obj} {env : Env} {nm : PySem.Str} {v : PySem.Value} {v₀ : Option PySem.Value} {Q : Unit → Shared → Prop} (F : Fr g L s.heap m) (N : News g L s.heap (a ++ (c, o) :: b)) (off : ∀ p ∈ a ++ b, p.1 ≠ c) (hd : o.data = .cell v₀)
    (hk : env.scope.kind = .function) (hl : env.kindOf nm = some .cell) (hc : env.cells.lookup nm = some c)
    (h : ∀ h' o', Fr g L h' m → News g L h' (a ++ (c, o') :: b) → o'.data = .cell (some v) → Q () { s with heap := h' }) : wpAny (model P0 w) A (storeName env nm v) Q E s := by
  have hm := N (c, o) (List.mem_append_right _ (.head _))
  refine wpAny_storeName_cell hk hl hc ⟨o, hm.1, hd⟩ fun h' hv hs => ?_
  obtain ⟨o', ho', hd'⟩ := hv
  refine h h' o' ⟨F.ns.sameBut hs (Ne.symm hm.2.1), fun b' ob e => (hs.2 b' (fun q => ?_)).trans (F.keep b' ob e), F.above⟩ (fun p hp => ?_) hd'
  · rw [q, hm.2.2] at e; cases e
  · have old : ∀ p ∈ a ++ b, h'.get? p.1 = some p.2 ∧ p.1 ≠ L ∧ g.get? p.1 = none := fun p hp => by
      have hp' : p ∈ a ++ (c, o) :: b := by
        rcases List.mem_append.mp hp with hp | hp
        · exact List.mem_append_left _ hp
        · exact List.mem_append_right _ (.tail _ hp)
      exact ⟨(hs.2 _ (off p hp)).trans (N p hp').1, (N p hp').2⟩
    rcases List.mem_append.mp hp with hp | hp
    · exact old p (List.mem_append_left _ hp)
    · rcases List.mem_cons.mp hp with rfl | hp
      · exact ⟨ho', hm.2⟩
      · exact old p (List.mem_append_right _ hp)
theorem ListIn.mono {a b : Led} {W : Addr} {items : Array PySem.Value} (h : ListIn a W items) (k : ∀ p ∈ a, p ∈ b) : ListIn b W items := by
  obtain ⟨o, c, hm, r⟩ := h
  exact ⟨o, c, k _ hm, r⟩
theorem WordsIn.mono {a b : Led} {wd : List Addr} {nss : List (List Int)} (h : WordsIn a wd nss) (k : ∀ p ∈ a, p ∈ b) : WordsIn b wd nss := by
  refine ⟨h.1, fun i x hx => ?_⟩
  obtain ⟨n0, n1, n2, n3, n4, n5, vs, h1, h2, h3, h4⟩ := h.2 i x hx
  exact ⟨n0, n1, n2, n3, n4, n5, vs, h1, h2, h3.mono k, h4⟩
theorem News.third {g h : Heap} {L : Addr} {a b c : Addr × Obj} {r : Led} (N : News g L h (a :: b :: c :: r)) : News g L h (c :: a :: b :: r) := fun p hp => N p (by
  rcases List.mem_cons.mp hp with rfl | hp
  · exact .tail _ (.tail _ (.head _))
  rcases List.mem_cons.mp hp with rfl | hp
  · exact .head _
  rcases List.mem_cons.mp hp with rfl | hp
  · exact .tail _ (.head _)
  · exact .tail _ (.tail _ (.tail _ hp)))
theorem news_ne {g h : Heap} {L a b : Addr} {oa ob : Obj} {news : Led} (N : News g L h news) (ha : (a, oa) ∈ news) (hb : (b, ob) ∈ news) (hne : oa ≠ ob) : @Ne Nat a b := fun e => hne (by
  have x := (N _ ha).1
  have y := (N _ hb).1
  dsimp only at x y
  rw [show a = b from e, y] at x
  exact (Option.some.inj x).symm)
section
variable {w : World} {s₁ : Shared} {R : Result → Shared → Prop} {lo : List PySem.Str} {mean : ExcName → Option PySem.Value} {mg mb : LM}
theorem rows40 : True := by
  k_with_none
  exact trivial
theorem law_core {sa : Addr} {vs : List PySem.Value} {ns : List Int} (KX : (KA w.params).In s₁.heap) (T₁ : Top q lo mean mg mb s₁.heap) (hL : s₁.heap.IsList sa vs.toArray) (hI : IntsAre vs ns) (hn : ns.length ≤ 63) (hg : s₁.gens = #[])
    (hpl : ∀ (word oct bt : Nat) (trn : Bool), word < 10 → oct < 6 → 1 ≤ bt → bt < 256 → Plain (lineOf (wordsOf ns)) (lineOf (otherOf (wordsOf ns) word oct (bt : Int) trn)) word oct bt)
    (hR : ∀ s', OldK s₁.heap s'.heap → s'.os = s₁.os → AllBare s'.gens → R (.ok (.ret (.bool true))) s') :
    codeAny (model P0 w) callerA (.call (.ref 855) ⟨[.ref sa], []⟩) R s₁ := by
  have KI := inK KX
  have hk107 : (K w.params).lookup 107 = none := by kernel_rfl
  have hk810 : (K w.params).lookup 810 = none := by kernel_rfl
  obtain ⟨t107, t810⟩ := in_tab KX ⟨hk107, hk810⟩
  refine enterH [("script", .ref sa)] [(107, PySem.W.X.tableObj #[]), (810, PySem.W.X.tableObj #[])] KI (top_hide T₁ (by decide +kernel) (by decide) (by decide) (by decide) (by decide) (fun a ha o ho => ?_)) ?_ ?_ (by k_is) (by k_is) (by decide) (kp_binds (by k_in) (fun _ => by kernel_rfl)) ?_ (by decide) rfl rfl rfl ?_
  · rcases List.mem_cons.mp ha with rfl | ha
    · rw [t107] at ho; cases ho; exact fun z => nomatch z
    · rw [List.mem_singleton.mp ha, t810] at ho; cases ho; exact fun z => nomatch z
  · intro p hp
    rcases List.mem_cons.mp hp with rfl | hp
    · exact t107
    · rw [List.mem_singleton.mp hp]; exact t810
  · intro p hp
    rcases List.mem_cons.mp hp with rfl | hp
    · exact hk107
    · rw [List.mem_singleton.mp hp]; exact hk810
  · exact fun n => by intro x hx; simp at hx; subst hx; left; rfl
  intro g L' h₁ tk₁ cells gE F' N' Y' X' T' hlt
  obtain ⟨o1, o2, o3, rfl, d1, d2, d3⟩ := CellsAre.three Y'
  clear Y'
  have hLg : g.IsList sa vs.toArray := by
    obtain ⟨o, e, hc, r⟩ := hL
    refine ⟨o, gE ▸ hideAll_get _ e (fun hm => ?_), hc, r⟩
    rcases List.mem_cons.mp hm with rfl | hm
    · rw [t107] at e; cases e; exact nomatch hc
    · rw [List.mem_singleton.mp hm, t810] at e; cases e; exact nomatch hc
  have l107 : LT.lt (α := Nat) 107 L' := hlt _ (.head _)
  have l810 : LT.lt (α := Nat) 810 L' := hlt _ (.tail _ (.head _))
  have B' : Below callerA g [] g := below_caller g
  clear hlt
  (try dsimp only [List.reverse_cons, List.reverse_nil, List.nil_append, List.cons_append] at F' N'); (try dsimp only); (try k_fold)
  k_with_none
  k_with "call ref" => refine Here.of ?_
  k_steps
  unfold Here
  rename Fr g L' _ _ => F1
  rename News g L' _ _ => N1
  refine words_spec (Cx.mk 302 7 _ _ _ _ _ _ _ _ _ _ _ _ B' F1 X' N1 T' rfl (by decide) (by decide)) hLg hI hn (fun W own wd h2 tk2 F2 N2 hW hwd hoff => ?_)
  have N3 : News g L' h2 ((810, PySem.W.X.tableObj #[]) :: (107, PySem.W.X.tableObj #[]) :: (L' + 1, o3) :: (L' + 1 + 1, o2) :: (L' + 1 + 1 + 1, o1) :: own) := allc (N2 _ (List.mem_append_right _ (.tail _ (.tail _ (.tail _ (.tail _ (.head _))))))) (allc (N2 _ (List.mem_append_right _ (.tail _ (.tail _ (.tail _ (.head _)))))) (allc (N2 _ (List.mem_append_right _ (.tail _ (.tail _ (.head _))))) (allc (N2 _ (List.mem_append_right _ (.tail _ (.head _)))) (allc (N2 _ (List.mem_append_right _ (.head _))) (fun p hp => N2 p (List.mem_append_left _ hp))))))
  have hown : ∀ p ∈ own, @Ne Nat p.1 810 ∧ @Ne Nat p.1 107 ∧ @Ne Nat p.1 (L' + 1) ∧ @Ne Nat p.1 (L' + 1 + 1) ∧ @Ne Nat p.1 (L' + 1 + 1 + 1) := fun p hp =>
    ⟨hoff p hp _ (.tail _ (.tail _ (.tail _ (.tail _ (.head _))))), hoff p hp _ (.tail _ (.tail _ (.tail _ (.head _)))), hoff p hp _ (.tail _ (.tail _ (.head _))), hoff p hp _ (.tail _ (.head _)), hoff p hp _ (.head _)⟩
  clear hoff
  clear N1 N2 F1
  k_with "storeName" => ((with_reducible show wpAny _ _ (storeName _ (PySem.Str.ofString "bits") _) _ _ _); refine Here.of ?_)
  k_with "storeName int" => ((with_reducible show wpAny _ _ (storeName _ (PySem.Str.ofString "bits") _) _ _ _); refine Here.of ?_)
  k_steps
  unfold Here
  rename Fr g L' _ _ => F4
  rename News g L' _ _ => N4
  replace N4 := fun p hp => N4 p (.tail _ hp)
  generalize hM4 : (fun y => if y = PySem.Str.ofString "x" then _ else _) = M4 at F4
  obtain ⟨tx, nX⟩ : ∃ tx, M4 "x" = some (.int ((ns.take 6).sum + 3) tx) := ⟨_, by rw [← hM4]; exact if_pos rfl⟩
  have nW : M4 "words" = some (.ref W) := by rw [← hM4]; rfl
  clear hM4
  refine store_cell (a := [_, _]) (c := L' + 1) F4 N4 (allc (Nat.ne_of_lt (Nat.lt_succ_of_lt l810)) (allc (Nat.ne_of_lt (Nat.lt_succ_of_lt l107)) (allc (Nat.succ_ne_self _) (allc (Nat.ne_of_gt (Nat.lt_of_lt_of_le (Nat.lt_succ_self (L' + 1)) (Nat.le_succ _))) (fun p hp => (hown p hp).2.2.1))))) d3 (by kernel_rfl) (by kernel_rfl) (by kernel_rfl) (fun h5 o3' F5 N5 d3' => ?_)
  dsimp only [List.cons_append, List.nil_append] at N5
  clear N4 F4 d3
  obtain ⟨X, hX⟩ : ∃ X, X = (ns.take 6).sum + 3 := ⟨_, rfl⟩
  rw [← hX] at nX d3'
  k_with_none
  k_with "call ref" => refine Here.of ?_
  k_with "eval Name" => (first | ((with_reducible show wpAny _ _ (eval (Expr.Name (PySem.Str.ofString "bits") _) _) _ _ _); k_dflt (refine wpAny_Name (wpAny_loadName_cell (by kernel_rfl) (by kernel_rfl) (by kernel_rfl) ⟨_, (‹News g L' _ _› (L' + 1, o3') (by simp)).1, d3'⟩ ?_) (by decide))) | ((with_reducible show wpAny _ _ (eval (Expr.Name (PySem.Str.ofString "x") _) _) _ _ _); (rename Fr _ _ _ _ => kF9); k_dflt (refine nameG_L (C := L') kF9.ns rfl nX ?_ (by kernel_rfl) (by kernel_rfl) (by decide))) | ((with_reducible show wpAny _ _ (eval (Expr.Name (PySem.Str.ofString "words") _) _) _ _ _); (rename Fr _ _ _ _ => kF9); k_dflt (refine nameG_L (C := L') kF9.ns rfl nW ?_ (by kernel_rfl) (by kernel_rfl) (by decide))))
  k_steps
  unfold Here
  obtain ⟨word, hwd0, hwd10⟩ : ∃ k : Nat, X.fmod 10 = (k : Int) ∧ k < 10 := fm_nat X (n := 10) (by decide)
  obtain ⟨oct, hoc0, hoc6⟩ : ∃ k : Nat, (X.fdiv 10).fmod 6 = (k : Int) ∧ k < 6 := fm_nat (X.fdiv 10) (n := 6) (by decide)
  obtain ⟨bt', hbt0, hbt2⟩ : ∃ k : Nat, (X.fdiv 60).fmod 255 = (k : Int) ∧ k < 255 := fm_nat (X.fdiv 60) (n := 255) (by decide)
  obtain ⟨bt, hbt0, hbt1, hbt2⟩ : ∃ bt : Nat, 1 + (X.fdiv 60).fmod 255 = (bt : Int) ∧ 1 ≤ bt ∧ bt < 256 := ⟨1 + bt', by rw [hbt0, Int.natCast_add]; rfl, Nat.le_add_right 1 bt', Nat.add_lt_add_left hbt2 1⟩
  obtain ⟨trn, htrn⟩ : ∃ trn : Bool, trn = ((X.fdiv 15300).fmod 2 == 1) := ⟨_, rfl⟩
  rw [hbt0] at d3'
  rw [hwd0, hoc0, hbt0, ← htrn]
  rename Fr g L' _ _ => F6
  rename News g L' _ _ => N6
  refine other_spec (Cx.mk 302 7 _ _ _ _ _ _ _ _ _ _ _ _ B' F6 X' N6 T' rfl (by decide) (by decide)) (hW.mono fun p hp => ?_) (hwd.mono fun p hp => ?_) (by simp [wordsOf]) hwd10 hoc6 (fun n n0 n1 => ?_) (fun W2 own2 wd2 h7 tk7 F7 N7 hW2 hwd2 hoff2 => ?_)
  · repeat (first | exact hp | apply List.Mem.tail)
  · repeat (first | exact hp | apply List.Mem.tail)
  · obtain ⟨k, rfl⟩ := Int.eq_ofNat_of_zero_le n0
    rw [bitXor_nat]
    have := Nat.xor_lt_two_pow (x := k) (y := bt) (n := 8) (by omega) hbt2
    omega
  clear F6 N6
  have N8 : News g L' h7 ((810, PySem.W.X.tableObj #[]) :: (107, PySem.W.X.tableObj #[]) :: (L' + 1, o3') :: (L' + 1 + 1, o2) :: (L' + 1 + 1 + 1, o1) :: (own2 ++ own)) := allc (N7 _ (List.mem_append_right _ (.head _))) (allc (N7 _ (List.mem_append_right _ (.tail _ (.head _)))) (allc (N7 _ (List.mem_append_right _ (.tail _ (.tail _ (.head _))))) (allc (N7 _ (List.mem_append_right _ (.tail _ (.tail _ (.tail _ (.head _)))))) (allc (N7 _ (List.mem_append_right _ (.tail _ (.tail _ (.tail _ (.tail _ (.head _))))))) (fun p hp => N7 p ((List.mem_append.mp hp).elim (fun hp => List.mem_append_left _ hp) fun hp => List.mem_append_right _ (.tail _ (.tail _ (.tail _ (.tail _ (.tail _ (hp))))))))))))
  have hown8 : ∀ p ∈ own2 ++ own, @Ne Nat p.1 810 ∧ @Ne Nat p.1 107 ∧ @Ne Nat p.1 (L' + 1) ∧ @Ne Nat p.1 (L' + 1 + 1) ∧ @Ne Nat p.1 (L' + 1 + 1 + 1) := fun p hp => (List.mem_append.mp hp).elim (fun hp => ⟨hoff2 p hp _ (.head _), hoff2 p hp _ (.tail _ (.head _)), hoff2 p hp _ (.tail _ (.tail _ (.head _))), hoff2 p hp _ (.tail _ (.tail _ (.tail _ (.head _)))), hoff2 p hp _ (.tail _ (.tail _ (.tail _ (.tail _ (.head _)))))⟩) fun hp => hown p hp
  replace hW : ListIn (own2 ++ own) W (wd.map PySem.Value.ref).toArray := hW.mono fun p hp => List.mem_append_right _ hp
  replace hwd : WordsIn (own2 ++ own) wd (wordsOf ns) := hwd.mono fun p hp => List.mem_append_right _ hp
  replace hW2 : ListIn (own2 ++ own) W2 (wd2.map PySem.Value.ref).toArray := hW2.mono fun p hp => List.mem_append_left _ hp
  replace hwd2 : WordsIn (own2 ++ own) wd2 (otherOf (wordsOf ns) word oct (bt : Int) trn) := hwd2.mono fun p hp => List.mem_append_left _ hp
  clear N7 hoff2 hown
  generalize own2 ++ own = ownB at N8 hown8 hW hwd hW2 hwd2
  have gB : AllBare s₁.gens := .of_eq hg
  have hoffR : ∀ p ∈ ((107, PySem.W.X.tableObj #[]) :: (L' + 1, o3') :: (L' + 1 + 1, o2) :: (L' + 1 + 1 + 1, o1) :: ownB : Led), p.1 ≠ 810 := allc ((by decide : (107 : Nat) ≠ 810)) (allc (Nat.ne_of_gt (Nat.lt_succ_of_lt l810)) (allc (Nat.ne_of_gt (Nat.lt_succ_of_lt (Nat.lt_succ_of_lt l810))) (allc (Nat.ne_of_gt (Nat.lt_succ_of_lt (Nat.lt_succ_of_lt (Nat.lt_succ_of_lt l810)))) (fun p hp => (hown8 p hp).1))))
  k_steps
  unfold Here
  rename Fr g L' _ _ => F9
  rename News g L' _ _ => N9
  refine line_spec (rest := (107, PySem.W.X.tableObj #[]) :: (L' + 1, o3') :: (L' + 1 + 1, o2) :: (L' + 1 + 1 + 1, o1) :: ownB) (Cx.mk 302 7 _ _ _ _ _ _ _ _ _ _ _ _ B' F9 X' N9 T' rfl (by decide) (by decide)) hoffR (hW.mono fun p hp => ?_) (hwd.mono fun p hp => ?_) (by first | exact trivial | decide) gB (by simp [wordsOf]) (fun s10 more10 t10 F10 N10 tr10 gB10 os10 => ?_)
  · repeat (first | exact hp | apply List.Mem.tail)
  · repeat (first | exact hp | apply List.Mem.tail)
  k_steps
  unfold Here
  rename Fr g L' _ _ => F11
  rename News g L' _ _ => N11
  refine line_spec (rest := (107, PySem.W.X.tableObj #[]) :: (L' + 1, o3') :: (L' + 1 + 1, o2) :: (L' + 1 + 1 + 1, o1) :: ownB) (Cx.mk 302 7 _ _ _ _ _ _ _ _ _ _ _ _ B' F11 X' N11 T' rfl (by decide) (by decide)) hoffR (hW2.mono fun p hp => ?_) (hwd2.mono fun p hp => ?_) tr10 gB10 (by simp [otherOf, stOther, wordsOf]) (fun s12 more12 t12 F12 N12 tr12 gB12 os12 => ?_)
  · repeat (first | exact hp | apply List.Mem.tail)
  · repeat (first | exact hp | apply List.Mem.tail)
  k_with "storeName" => refine Here.of ?_
  k_with "storeName ref" => refine Here.of ?_
  k_steps
  unfold Here
  rename Addr => lA
  rename Fr g L' _ _ => F13
  rename News g L' _ _ => N13
  have hln := news_ne N13 (.head _) (.tail _ (.tail _ (.tail _ (.tail _ (.head _))))) (fun e => by have := congrArg Obj.data e; rw [d2] at this; exact nomatch this)
  refine store_cell (a := [_, _, _, _]) (c := L' + 1 + 1) F13 N13 (allc (hln) (allc (Nat.ne_of_lt (Nat.lt_succ_of_lt (Nat.lt_succ_of_lt l810))) (allc (Nat.ne_of_lt (Nat.lt_succ_of_lt (Nat.lt_succ_of_lt l107))) (allc (Nat.ne_of_lt (Nat.lt_succ_self _)) (allc (Nat.succ_ne_self _) (fun p hp => (hown8 p hp).2.2.2.1)))))) d2 (by kernel_rfl) (by kernel_rfl) (by kernel_rfl) (fun h14 o2' F14 N14 d2' => ?_)
  dsimp only [List.cons_append, List.nil_append] at N14
  clear d2 hln
  obtain ⟨rx, ry, p, hb, r8, hlen0, hlen1, hrx, hry, hxl, hyl, hp0, hp, heq, hne, hft0, hft1, hunl, hb8⟩ := hpl word oct bt trn hwd10 hoc6 hbt1 hbt2
  k_with_none
  k_with "call ref" => refine Here.of ?_
  k_with "eval Name" => ((with_reducible show wpAny _ _ (eval (Expr.Name (PySem.Str.ofString "lines") _) _) _ _ _); k_dflt (refine wpAny_Name (wpAny_loadName_cell (by kernel_rfl) (by kernel_rfl) (by kernel_rfl) ⟨_, (‹News g L' _ _› (L' + 1 + 1, o2') (by simp)).1, d2'⟩ ?_) (by decide)))
  k_with "storeName" => refine Here.of ?_
  k_with "storeName ref" => refine Here.of ?_
  k_steps
  unfold Here
  rename Fr g L' _ _ => F15
  rename News g L' _ _ => N15
  have hl107 := news_ne N15 (.head _) (.tail _ (.tail _ (.head _))) (fun e => by have := congrArg Obj.cls e; exact nomatch this)
  refine cs_spec (p := p) (Cx.mk 302 7 _ _ _ _ _ _ _ _ _ _ _ _ B' F15 X' (News.third N15) T' rfl (by decide) (by decide)) (allc (hl107) (allc ((by decide : (810 : Nat) ≠ 107)) (allc (Nat.ne_of_gt (Nat.lt_succ_of_lt l107)) (allc (Nat.ne_of_gt (Nat.lt_succ_of_lt (Nat.lt_succ_of_lt l107))) (allc (Nat.ne_of_gt (Nat.lt_succ_of_lt (Nat.lt_succ_of_lt (Nat.lt_succ_of_lt l107)))) (fun q hq => (hown8 q hq).2.1)))))) hrx hry hxl hyl hp0 hp heq hne (by first | exact trivial | decide) gB12 (fun s17 D more17 t17 u17 F17 N17 tr17 gB17 os17 lt17 => ?_)
  k_steps
  unfold Here
  rename Fr g L' _ _ => F18
  rename News g L' _ _ => N18
  have hD3 := news_ne N18 (.head _) (.tail _ (.tail _ (.tail _ (.tail _ (.tail _ (.tail _ (.head _))))))) (fun e => by have := congrArg Obj.data e; rw [d1] at this; exact nomatch this)
  have hl3 := news_ne N18 (.tail _ (.tail _ (.head _))) (.tail _ (.tail _ (.tail _ (.tail _ (.tail _ (.tail _ (.head _))))))) (fun e => by have := congrArg Obj.data e; rw [d1] at this; exact nomatch this)
  refine store_cell (a := [_, _, _, _, _, _]) (c := L' + 1 + 1 + 1) F18 N18 (allc (hD3) (allc (Nat.ne_of_lt (Nat.lt_succ_of_lt (Nat.lt_succ_of_lt (Nat.lt_succ_of_lt l107)))) (allc (hl3) (allc (Nat.ne_of_lt (Nat.lt_succ_of_lt (Nat.lt_succ_of_lt (Nat.lt_succ_of_lt l810)))) (allc (Nat.ne_of_lt (Nat.lt_succ_of_lt (Nat.lt_succ_self _))) (allc (Nat.ne_of_lt (Nat.lt_succ_self _)) (fun q hq => (hown8 q hq).2.2.2.2))))))) d1 (by kernel_rfl) (by kernel_rfl) (by kernel_rfl) (fun h19 o1' F19 N19 d1' => ?_)
  dsimp only [List.cons_append, List.nil_append] at N19
  clear d1 hD3 hl3 hl107
  k_with_none
  k_with "eval ListComp" => refine Here.of ?_
  k_steps
  unfold Here
  rename Fr g L' _ _ => F20
  rename News g L' _ _ => N20
  refine LCg.ListComp_U (cl := [("reports", L' + 1 + 1 + 1), ("lines", L' + 1 + 1)]) F20 (by kernel_rfl) (by decide) rfl (by decide) rfl ?_
  k_with "CompSrc" => refine Here.of ?_
  k_steps
  unfold Here
  rename Fr g L' _ _ => F21
  rename News g L' _ _ => N21
  have hrg := ‹IsRange _ _ 0 2 1 _ _ _›
  obtain ⟨NB, hNB⟩ : ∃ NB : Led, NB = (D, ({ cls := .type "tuple", data := .seq [.str (csrOf p (preOf rx ry p) rx) t17, .str (csrOf p (preOf rx ry p) ry) u17].toArray } : Obj)) :: (107, PySem.W.X.tableObj (#[] ++ more17)) :: (lA, listOf #[.str (lineOf (wordsOf ns)) t10, .str (lineOf (otherOf (wordsOf ns) word oct (bt : Int) trn)) t12] 0) :: (810, PySem.W.X.tableObj (#[] ++ more10 ++ more12)) :: (L' + 1, o3') :: (L' + 1 + 1, o2') :: (L' + 1 + 1 + 1, o1') :: ownB := ⟨_, rfl⟩
  have mD : (D, ({ cls := .type "tuple", data := .seq [.str (csrOf p (preOf rx ry p) rx) t17, .str (csrOf p (preOf rx ry p) ry) u17].toArray } : Obj)) ∈ NB := hNB ▸ .head _
  have m7 : (107, PySem.W.X.tableObj (#[] ++ more17)) ∈ NB := hNB ▸ .tail _ (.head _)
  have mL : (lA, listOf #[.str (lineOf (wordsOf ns)) t10, .str (lineOf (otherOf (wordsOf ns) word oct (bt : Int) trn)) t12] 0) ∈ NB := hNB ▸ .tail _ (.tail _ (.head _))
  have m8 : (810, PySem.W.X.tableObj (#[] ++ more10 ++ more12)) ∈ NB := hNB ▸ .tail _ (.tail _ (.tail _ (.head _)))
  have mc1 : (L' + 1, o3') ∈ NB := hNB ▸ .tail _ (.tail _ (.tail _ (.tail _ (.head _))))
  have mc2 : (L' + 1 + 1, o2') ∈ NB := hNB ▸ .tail _ (.tail _ (.tail _ (.tail _ (.tail _ (.head _)))))
  have mc3 : (L' + 1 + 1 + 1, o1') ∈ NB := hNB ▸ .tail _ (.tail _ (.tail _ (.tail _ (.tail _ (.tail _ (.head _))))))
  rw [← hNB] at N21
  clear hNB
  refine LCg.CompSrc.range (n := 2) rfl F21 N21 hrg (by decide) (by decide) (by decide) fun gh => comp_ind (fun j ys nw' => NB = nw' ∧ ys = List.replicate j (.bool true)) ?_ ?_ 2 0 [] _ (Nat.zero_add _) ⟨rfl, rfl⟩
  · rintro ys _ ⟨rfl, rfl⟩
    unfold LCg.FinE
    intro D7 h24 tk24 F24 N24 o24
    k_with_none
    k_with "call ref" => refine Here.of ?_
    rw [show LCg.lst (List.replicate 2 (PySem.Value.bool true)) = listOf #[.bool true, .bool true] 2 from rfl] at N24
    k_with "eval Name" => (first | ((with_reducible show wpAny _ _ (eval (Expr.Name (PySem.Str.ofString "lines") _) _) _ _ _); k_dflt (refine wpAny_Name (wpAny_loadName_cell (by kernel_rfl) (by kernel_rfl) (by kernel_rfl) ⟨_, (‹News g L' _ _› (L' + 1 + 1, o2') (by simp [mc2])).1, d2'⟩ ?_) (by decide))) | ((with_reducible show wpAny _ _ (eval (Expr.Name (PySem.Str.ofString "reports") _) _) _ _ _); k_dflt (refine wpAny_Name (wpAny_loadName_cell (by kernel_rfl) (by kernel_rfl) (by kernel_rfl) ⟨_, (‹News g L' _ _› (L' + 1 + 1 + 1, o1') (by simp [mc3])).1, d1'⟩ ?_) (by decide))))
    k_with "subscriptTail Name Constant ref int" => refine Here.of ?_
    k_steps
    unfold Here
    rename Fr g L' _ _ => F25
    rename News g L' _ _ => N25
    refine item_strsTu (l := [.str (csrOf p (preOf rx ry p) rx) t17, .str (csrOf p (preOf rx ry p) ry) u17]) (ys := [csrOf p (preOf rx ry p) rx, csrOf p (preOf rx ry p) ry]) ⟨_, (N25 _ (.tail _ (.tail _ mD))).1, rfl, _, rfl⟩ (.cons _ _ (.cons _ _ .nil)) (by decide) (by exact (by decide : ((0 : Nat) : Int) < 2)) (by decide) (fun ta => ?_)
    rw [show [csrOf p (preOf rx ry p) rx, csrOf p (preOf rx ry p) ry].getD (0 : Int).toNat PySem.Str.empty = csrOf p (preOf rx ry p) rx from rfl]
    k_steps
    unfold Here
    refine item_strsTu (l := [.str (csrOf p (preOf rx ry p) rx) t17, .str (csrOf p (preOf rx ry p) ry) u17]) (ys := [csrOf p (preOf rx ry p) rx, csrOf p (preOf rx ry p) ry]) ⟨_, (N25 _ (.tail _ (.tail _ mD))).1, rfl, _, rfl⟩ (.cons _ _ (.cons _ _ .nil)) (by decide) (by exact (by decide : ((1 : Nat) : Int) < 2)) (by decide) (fun tb => ?_)
    rw [show [csrOf p (preOf rx ry p) rx, csrOf p (preOf rx ry p) ry].getD (1 : Int).toNat PySem.Str.empty = csrOf p (preOf rx ry p) ry from rfl]
    k_steps
    unfold Here
    refine item_strsA (l := [.str (lineOf (wordsOf ns)) t10, .str (lineOf (otherOf (wordsOf ns) word oct (bt : Int) trn)) t12]) (ys := [lineOf (wordsOf ns), lineOf (otherOf (wordsOf ns) word oct (bt : Int) trn)]) ⟨_, (N25 _ (.tail _ (.tail _ mL))).1, rfl, _, rfl⟩ (.cons _ _ (.cons _ _ .nil)) (by decide) (by exact (by decide : ((0 : Nat) : Int) < 2)) (by decide) (fun tc => ?_)
    rw [show [lineOf (wordsOf ns), lineOf (otherOf (wordsOf ns) word oct (bt : Int) trn)].getD (0 : Int).toNat PySem.Str.empty = lineOf (wordsOf ns) from rfl]
    k_steps
    unfold Here
    obtain ⟨z, pl, ts, ia, ib, ra, rb, rf, b6, r6, v1, v2, v3, v4, v5, v6, v7, v8, v9, v10, v11, v12, v13, v14, v15, v16, v17, v18, v19, v20, v21, v22, v23, v24, v25, v26, v27⟩ := hunl
    refine unlike_spec (dp := 302) (un := 7) X' T' B' F25 X' N25 T' rfl ktsDicts_nil (by decide) (by decide) v1 v2 v3 v4 v5 v6 v7 v8 v9 v10 v11 v12 v13 v14 v15 v16 v17 v18 v19 v20 v21 v22 v23 v24 (fun U cU tw5 ta5 tb5 g2 h26 tk26 hT2 F26 N26 B2 => ?_)
    have X2 := X'.keeps B2.stays
    have T2 := T'.keeps B2.stays
    rw [v25, v26, v27] at N26
    generalize hM6 : (fun y => if y = PySem.Str.ofString "other" then _ else M4 y) = M6 at F26
    have nX6 : M6 "x" = some (.int X tx) := by rw [← hM6]; exact (if_neg (by decide)).trans nX
    clear hM6
    clear v1 v2 v3 v4 v5 v6 v7 v8 v9 v10 v11 v12 v13 v14 v15 v16 v17 v18 v19 v20 v21 v22 v23 v24 v25 v26 v27 B' X' T' F25 N25
    k_with_none
    k_with "call ref" => refine Here.of ?_
    k_with "eval Name" => ((with_reducible show wpAny _ _ (eval (Expr.Name (PySem.Str.ofString "x") _) _) _ _ _); (rename Fr _ _ _ _ => kF9); k_dflt (refine nameG_L (C := L') kF9.ns rfl nX6 ?_ (by kernel_rfl) (by kernel_rfl) (by decide)))
    k_with "eval ListComp" => refine Here.of ?_
    k_steps
    unfold Here
    refine filter_range (h₀ := g2) (L := L') (m := M6) (n := 8) (cl := [("bits", L' + 1)]) (fun i => bitAt (bt : Int) (7 - i)) rfl (by kernel_rfl) (by decide) rfl (by decide) rfl (by decide) ?_
    k_with "FrIn" => refine Here.of ?_
    k_steps
    unfold Here
    rename Fr g2 L' _ _ => F27
    rename News g2 L' _ _ => N27
    refine ⟨_, _, _, _, _, rfl, by assumption, by decide, by decide, F27, N27, by decide, ?_, ?_⟩
    · intro C i tk s₃ m₃ E' hi hn3 hm hk3 hb
      have hcell : s₃.heap.IsCell (L' + 1) (some (.int (bt : Int) _)) := ⟨_, hk3 _ (.tail _ (.tail _ (.tail _ mc1))), d3'⟩
      exact bit_test (a := 7) (by omega) (by omega) (Int.natCast_nonneg _) (by omega) hn3 rfl hm (by kernel_rfl) (by kernel_rfl) (by kernel_rfl) (by decide) (by kernel_rfl) hcell
    · intro D9 h9' tk9' c9 ys9 F28 N28 off28 hys
      rw [hb8] at hys
      obtain ⟨t6, ht6⟩ := ints_head hys
      k_with_none
      k_with "subscriptTail ListComp Name cons Constant ref int" => refine Here.of ?_
      k_steps
      unfold Here
      refine tail_list (items := ys9) (x := .int (hb : Int) t6) ⟨_, (N28 _ (.head _)).1, rfl, c9, rfl⟩ (by decide) (by decide) ht6 ?_
      k_with "compareOp Eq" => refine Here.of ?_
      k_with "compareOp Eq ref ref" => refine Here.of ?_
      k_steps
      unfold Here
      rename Fr g2 L' _ _ => FZ
      rename News g2 L' _ _ => NZ
      refine ke_eq_ints (ns := [(word : Int), (oct : Int), (hb : Int)]) (ms := [X.fmod 10, (X.fdiv 10).fmod 6, (hb : Int)]) (by is_list) (by is_list) (by l_ints) (by l_ints) (by ke_room) ?_
      rw [show decide ([(word : Int), (oct : Int), (hb : Int)] = [X.fmod 10, (X.fdiv 10).fmod 6, (hb : Int)]) = true from by rw [hwd0, hoc0]; exact decide_eq_true rfl]
      have e107 := (NZ (107, PySem.W.X.tableObj (#[] ++ more17)) (.tail _ (.tail _ (.tail _ (.tail _ (.tail _ m7)))))).1
      have e810 := (NZ (810, PySem.W.X.tableObj (#[] ++ more10 ++ more12)) (.tail _ (.tail _ (.tail _ (.tail _ (.tail _ m8)))))).1
      have kold : ∀ b o, s₁.heap.get? b = some o → @Ne Nat b 107 → @Ne Nat b 810 → _ := fun b o e n1 n2 => FZ.keep b o (hT2.other b o (gE ▸ hideAll_get _ e (fun hm => by
        rcases List.mem_cons.mp hm with rfl | hm
        · exact n1 rfl
        · exact n2 (List.mem_singleton.mp hm))) (fun z => nomatch z))
      refine hR _ ⟨fun b o e => ?_, fun b o e => ?_⟩ (os17.trans (os12.trans os10)) gB17
      · by_cases n1 : @Eq Nat b 107
        · subst n1
          rw [t107] at e; cases e
          exact .inr (.inl ⟨(code_csr w s₁.heap #[] KI t107 (by trivial)).2.isCodeTable, rfl, #[], more17, rfl, e107⟩)
        by_cases n2 : @Eq Nat b 810
        · subst n2
          rw [t810] at e; cases e
          exact .inr (.inl ⟨(code_join w s₁.heap #[] KI t810 (by trivial)).2.isCodeTable, rfl, #[], more10 ++ more12, rfl, by rw [← Array.append_assoc]; exact e810⟩)
        exact .inl (kold b o e n1 n2)
      · by_cases n1 : @Eq Nat b 107
        · subst n1; exact ⟨_, e107⟩
        by_cases n2 : @Eq Nat b 810
        · subst n2; exact ⟨_, e810⟩
        exact ⟨_, kold b o e n1 n2⟩
  · rintro i ys _ v I oI C oC D6 m₂ h22 tk22 E22 hi ⟨rfl, rfl⟩ ⟨t22, rfl⟩ hC hx F22 N22 off22 ne22
    rw [Int.zero_add] at hx
    k_with_none
    k_with "eval Name" => (first | ((with_reducible show wpAny _ _ (eval (Expr.Name (PySem.Str.ofString "lines") _) _) _ _ _); k_dflt (refine lcf_cell (by assumption) rfl (.tail _ (.tail _ (.tail _ mc2))) d2' ?_ (by kernel_rfl) (by kernel_rfl) (by decide))) | ((with_reducible show wpAny _ _ (eval (Expr.Name (PySem.Str.ofString "reports") _) _) _ _ _); k_dflt (refine lcf_cell (by assumption) rfl (.tail _ (.tail _ (.tail _ mc3))) d1' ?_ (by kernel_rfl) (by kernel_rfl) (by decide))))
    k_with "call ref" => refine Here.of ?_
    k_with "subscriptTail" => refine Here.of ?_
    k_with "subscriptTail Name Name ref int" => refine Here.of ?_
    match i, hi with
    | 0, _ =>
      k_steps
      unfold Here
      refine item_strsTu (l := [.str (csrOf p (preOf rx ry p) rx) t17, .str (csrOf p (preOf rx ry p) ry) u17]) (ys := [csrOf p (preOf rx ry p) rx, csrOf p (preOf rx ry p) ry]) ⟨_, (N22 _ (.tail _ (.tail _ (.tail _ mD)))).1, rfl, _, rfl⟩ (.cons _ _ (.cons _ _ .nil)) (by decide) (by exact (by decide : ((0 : Nat) : Int) < 2)) (by decide) (fun ta => ?_)
      rw [show [csrOf p (preOf rx ry p) rx, csrOf p (preOf rx ry p) ry].getD ((0 : Nat) : Int).toNat PySem.Str.empty = csrOf p (preOf rx ry p) rx from rfl]
      k_steps
      unfold Here
      refine item_strsA (l := [.str (lineOf (wordsOf ns)) t10, .str (lineOf (otherOf (wordsOf ns) word oct (bt : Int) trn)) t12]) (ys := [lineOf (wordsOf ns), lineOf (otherOf (wordsOf ns) word oct (bt : Int) trn)]) ⟨_, (N22 _ (.tail _ (.tail _ (.tail _ mL)))).1, rfl, _, rfl⟩ (.cons _ _ (.cons _ _ .nil)) (by decide) (by exact (by decide : ((0 : Nat) : Int) < 2)) (by decide) (fun tb => ?_)
      rw [show [lineOf (wordsOf ns), lineOf (otherOf (wordsOf ns) word oct (bt : Int) trn)].getD ((0 : Nat) : Int).toNat PySem.Str.empty = lineOf (wordsOf ns) from rfl]
      k_steps
      unfold Here
      refine fits_spec (Cx.mk 302 7 _ _ _ _ _ _ _ _ _ _ _ _ B' (by assumption) X' N22 T' rfl (by decide) (by decide)) hft0 (fun h23 tk23 F23 N23 => ?_)
      exact LCg.CompEnd.intro F23 N23 _ (fun _ h => h) off22 trivial ⟨rfl, rfl⟩
    | 1, _ =>
      k_steps
      unfold Here
      refine item_strsTu (l := [.str (csrOf p (preOf rx ry p) rx) t17, .str (csrOf p (preOf rx ry p) ry) u17]) (ys := [csrOf p (preOf rx ry p) rx, csrOf p (preOf rx ry p) ry]) ⟨_, (N22 _ (.tail _ (.tail _ (.tail _ mD)))).1, rfl, _, rfl⟩ (.cons _ _ (.cons _ _ .nil)) (by decide) (by exact (by decide : ((1 : Nat) : Int) < 2)) (by decide) (fun ta => ?_)
      rw [show [csrOf p (preOf rx ry p) rx, csrOf p (preOf rx ry p) ry].getD ((1 : Nat) : Int).toNat PySem.Str.empty = csrOf p (preOf rx ry p) ry from rfl]
      k_steps
      unfold Here
      refine item_strsA (l := [.str (lineOf (wordsOf ns)) t10, .str (lineOf (otherOf (wordsOf ns) word oct (bt : Int) trn)) t12]) (ys := [lineOf (wordsOf ns), lineOf (otherOf (wordsOf ns) word oct (bt : Int) trn)]) ⟨_, (N22 _ (.tail _ (.tail _ (.tail _ mL)))).1, rfl, _, rfl⟩ (.cons _ _ (.cons _ _ .nil)) (by decide) (by exact (by decide : ((1 : Nat) : Int) < 2)) (by decide) (fun tb => ?_)
      rw [show [lineOf (wordsOf ns), lineOf (otherOf (wordsOf ns) word oct (bt : Int) trn)].getD ((1 : Nat) : Int).toNat PySem.Str.empty = lineOf (otherOf (wordsOf ns) word oct (bt : Int) trn) from rfl]
      k_steps
      unfold Here
      refine fits_spec (Cx.mk 302 7 _ _ _ _ _ _ _ _ _ _ _ _ B' (by assumption) X' N22 T' rfl (by decide) (by decide)) hft1 (fun h23 tk23 F23 N23 => ?_)
      exact LCg.CompEnd.intro F23 N23 _ (fun _ h => h) off22 trivial ⟨rfl, rfl⟩
    | n + 2, hi => omega
end
end
section
open PySem PySem.W PyProof.Rows PySem.Spec PySem.Calls PySem.StrLaws
open PySem.Builtin.Str (occurrences lastOccurrence strSub subAt partsBetween)
/-- lists joined by one sign -/
def jn (c : Nat) : List (List Nat) → List Nat
  | [] => []
  | [x] => x
  | x :: y :: r => x ++ c :: jn c (y :: r)
theorem joinW_jn : ∀ l : List (List Nat), joinW l = jn 32 l
  | [] => rfl
  | [_] => rfl
  | x :: y :: r => by show x ++ 32 :: joinW (y :: r) = x ++ 32 :: jn 32 (y :: r); rw [joinW_jn (y :: r)]
theorem join_list (c : Nat) : ∀ l : List PySem.Str, (Str.join ⟨#[c]⟩ l).cps.toList = jn c (l.map fun x => x.cps.toList)
  | [] => rfl
  | [_] => rfl
  | x :: y :: r => by
    show ((x ++ ⟨#[c]⟩ ++ Str.join ⟨#[c]⟩ (y :: r) : PySem.Str)).cps.toList = x.cps.toList ++ c :: jn c ((y :: r).map fun x => x.cps.toList)
    rw [← join_list c (y :: r), Str.cps_append, Str.cps_append]
    simp
theorem free_head {c : Nat} : ∀ {a b r s : List Nat}, c ∉ a → c ∉ b → a ++ c :: r = b ++ c :: s → a = b ∧ r = s
  | [], [], _, _, _, _, h => by cases h; exact ⟨rfl, rfl⟩
  | [], y :: b, _, _, _, hb, h => by injection h with h1 h2; exact absurd (h1 ▸ .head _) hb
  | x :: a, [], _, _, ha, _, h => by injection h with h1 h2; exact absurd (h1 ▸ .head _) ha
  | x :: a, y :: b, r, s, ha, hb, h => by
    injection h with h1 h2
    obtain ⟨e1, e2⟩ := free_head (fun z => ha (.tail _ z)) (fun z => hb (.tail _ z)) h2
    exact ⟨by rw [h1, e1], e2⟩
theorem jn_inj {c : Nat} : ∀ {l m : List (List Nat)}, l ≠ [] → m ≠ [] → (∀ p ∈ l, c ∉ p) → (∀ p ∈ m, c ∉ p) → jn c l = jn c m → l = m
  | [], _, h, _, _, _, _ => absurd rfl h
  | _, [], _, h, _, _, _ => absurd rfl h
  | [x], [y], _, _, _, _, h => by rw [show x = y from h]
  | [x], y :: z :: r, _, _, hl, _, h => absurd (show c ∈ x by rw [show x = y ++ c :: jn c (z :: r) from h]; simp) (hl x (.head _))
  | y :: z :: r, [x], _, _, _, hm, h => absurd (show c ∈ x by rw [show x = y ++ c :: jn c (z :: r) from h.symm]; simp) (hm x (.head _))
  | x :: y :: r, z :: w :: s, _, _, hl, hm, h => by
    obtain ⟨e1, e2⟩ := free_head (hl x (.head _)) (hm z (.head _)) (show x ++ c :: jn c (y :: r) = z ++ c :: jn c (w :: s) from h)
    rw [e1, jn_inj (by simp) (by simp) (fun p hp => hl p (.tail _ hp)) (fun p hp => hm p (.tail _ hp)) e2]
theorem split_ne (x y : PySem.Str) : Txt.split x y ≠ [] := by
  unfold Txt.split
  split
  · simp
  · split
    · simp
    · rw [partsBetween_eq]
      obtain ⟨p, r, e⟩ := partsFrom_ne x y.length 0 (occurrences x y 0 x.length (x.length + 1))
      rw [e]; simp
/-- a text cut at each place of one sign -/
theorem split_of {x : PySem.Str} {c : Nat} {l : List (List Nat)} (hl : l ≠ []) (hf : ∀ p ∈ l, c ∉ p) (hx : x.cps.toList = jn c l) : Txt.split x ⟨#[c]⟩ = l.map ofL := by
  have e := congrArg (fun z : PySem.Str => z.cps.toList) (join_split x ⟨#[c]⟩)
  simp only [join_list] at e
  have hfr := split_free x c
  have hne := split_ne x ⟨#[c]⟩
  have k := jn_inj (c := c) (l := (Txt.split x ⟨#[c]⟩).map fun x => x.cps.toList) (m := l) (by simpa using hne) hl (fun p hp => by
    obtain ⟨y, hy, rfl⟩ := List.mem_map.mp hp
    exact hfr y hy) hf (e.trans hx)
  rw [← k, List.map_map]
  exact (List.map_id _).symm.trans (List.map_congr_left fun y _ => ofL_eq y)
/-- the first place -/
theorem occ_one {x y : PySem.Str} {i : Nat} (h : At x y x.length i) (hn : ∀ k, k < i → ¬ At x y x.length k) : occurrences x y 0 x.length 1 = [i] := by
  rcases occ_head x y 1 (Nat.le_refl 1) with ⟨_, h0⟩ | ⟨j, r, e, hj, hm⟩
  · exact absurd h (h0 i)
  · have : j = i := by
      rcases Nat.lt_trichotomy j i with q | q | q
      · exact absurd hj (hn j q)
      · exact q
      · exact absurd h (hm i q)
    subst this
    have hl := occ_length_le x y 0 x.length 1
    rw [e] at hl ⊢
    cases r with
    | nil => rfl
    | cons a r => simp at hl
theorem at_one {x : PySem.Str} {c i : Nat} : At x ⟨#[c]⟩ x.length i ↔ x.cps.toList[i]? = some c := subAt_one x c i
theorem occ_sign {x : PySem.Str} {c : Nat} {a r : List Nat} (hx : x.cps.toList = a ++ c :: r) (ha : c ∉ a) : occurrences x ⟨#[c]⟩ 0 x.length 1 = [a.length] := by
  refine occ_one (at_one.mpr ?_) (fun k hk h => ?_)
  · rw [hx, List.getElem?_append_right (Nat.le_refl _), Nat.sub_self]; rfl
  · have h := at_one.mp h
    rw [hx, List.getElem?_append_left hk] at h
    exact ha (List.mem_of_getElem? h)
theorem occ_none {x : PySem.Str} {c : Nat} (hx : c ∉ x.cps.toList) : occurrences x ⟨#[c]⟩ 0 x.length 1 = [] := by
  rcases occ_head x ⟨#[c]⟩ 1 (Nat.le_refl 1) with ⟨h, _⟩ | ⟨j, r, e, hj, _⟩
  · exact h
  · exact absurd (List.mem_of_getElem? (at_one.mp hj)) hx
theorem kind_pos (x : PySem.Str) : 1 ≤ Builtin.Str.strKind x := by
  unfold Builtin.Str.strKind
  split
  · exact Nat.le_refl 1
  · split <;> decide
/-- a text cut once at a text that begins with a blank -/
theorem splitMax_of {x : PySem.Str} {d r t : List Nat} (hx : x.cps.toList = d ++ (32 :: t) ++ r) (hd : 32 ∉ d) (hk : Builtin.Str.strKind (ofL (32 :: t)) = 1) : Txt.splitMax x (ofL (32 :: t)) 1 = [ofL d, ofL r] := by
  have hlen : x.length = d.length + (t.length + 1) + r.length := by
    rw [← len_toList, hx]; simp; (first | lia | omega)
  have hyl : (ofL (32 :: t)).length = t.length + 1 := rfl
  have hocc : occurrences x (ofL (32 :: t)) 0 x.length 1 = [d.length] := by
    refine occ_one ⟨by rw [hyl, hlen]; (first | lia | omega), ?_⟩ (fun k hk h => ?_)
    · rw [subAt_eq, hx, List.append_assoc, List.drop_left, hyl]
      rw [show t.length + 1 = (32 :: t).length from rfl, List.take_left]
      exact beq_self_eq_true _
    · have h2 := h.2
      rw [subAt_eq, hx, List.append_assoc, List.drop_append_of_le_length (Nat.le_of_lt hk), hyl, List.drop_eq_getElem_cons hk, List.cons_append, List.take_succ_cons] at h2
      have h3 := (List.cons.inj (eq_of_beq h2)).1
      exact hd (h3 ▸ List.getElem_mem hk)
  unfold Txt.splitMax
  rw [if_neg (by
    rw [Bool.or_eq_true, decide_eq_true_eq, decide_eq_true_eq, hk, hyl, hlen]
    have := kind_pos x
    (first | lia | omega))]
  rw [show limitOf x 1 = 1 from rfl, hocc, if_neg (by simp), partsBetween_eq]
  show [strSub x 0 d.length, strSub x (d.length + (ofL (32 :: t)).length) x.length] = _
  congr 1
  · apply str_ext
    rw [strSub_toList, hx, List.append_assoc, List.drop_zero, Nat.sub_zero, List.take_left]; rfl
  · congr 1
    apply str_ext
    rw [strSub_toList, hx, hyl, show d.length + (t.length + 1) = (d ++ (32 :: t)).length from by simp, List.drop_left, hlen]
    rw [List.take_of_length_le (by simp)]; rfl
/-- the last place -/
theorem last_go (P : Nat → Bool) : ∀ (l : List Nat) (r : Option Nat), (forIn (m := Id) l r fun i r => if P i = true then pure (ForInStep.yield (some i)) else pure (ForInStep.yield r)).run = match (l.reverse.find? P) with | some i => some i | none => r
  | [], r => rfl
  | a :: l, r => by
    rw [List.forIn_cons]
    have e : (l.reverse ++ [a]).find? P = (l.reverse.find? P).or ([a].find? P) := List.find?_append
    rw [List.reverse_cons, e]
    split
    · rename_i h
      have := last_go P l (some a)
      show (forIn (m := Id) l (some a) _).run = _
      rw [this]
      cases hq : l.reverse.find? P with
      | some i => rfl
      | none => simp [List.find?, h]
    · rename_i h
      have := last_go P l r
      show (forIn (m := Id) l r _).run = _
      rw [this]
      cases hq : l.reverse.find? P with
      | some i => rfl
      | none => simp [List.find?, h]
theorem last_eq (x y : PySem.Str) (lo hi : Nat) : lastOccurrence x y lo hi = (List.range' lo (hi + 1 - lo)).reverse.find? (fun i => decide (i + y.length ≤ hi) && subAt x y i) := by
  have e := last_go (fun i => decide (i + y.length ≤ hi) && subAt x y i) (List.range' lo (hi + 1 - lo)) none
  unfold lastOccurrence
  simp at e ⊢
  rw [e]
  cases List.find? (fun i => decide (i + y.length ≤ hi) && subAt x y i) (List.range' lo (hi + 1 - lo)).reverse <;> rfl
theorem find_last (P : Nat → Bool) (i : Nat) (hi : P i = true) : ∀ n, i < n → (∀ k, i < k → k < n → P k = false) → (List.range' 0 n).reverse.find? P = some i
  | 0, h, _ => absurd h (Nat.not_lt_zero _)
  | n + 1, h, hn => by
    rw [List.range'_1_concat, List.reverse_append, List.reverse_singleton, List.singleton_append, List.find?_cons, Nat.zero_add]
    by_cases e : i = n
    · subst e; rw [hi]
    · rw [hn n (by (first | lia | omega)) (by (first | lia | omega))]
      exact find_last P i hi n (by (first | lia | omega)) fun k h1 h2 => hn k h1 (by (first | lia | omega))
theorem rfind_sign {x : PySem.Str} {c : Nat} {a r : List Nat} (hx : x.cps.toList = a ++ c :: r) (hr : c ∉ r) : Txt.rfind x ⟨#[c]⟩ = a.length := by
  have hl : x.length = a.length + (r.length + 1) := by rw [← len_toList, hx]; simp
  have hP : ∀ k, (decide (k + (⟨#[c]⟩ : PySem.Str).length ≤ x.length) && subAt x ⟨#[c]⟩ k) = true ↔ x.cps.toList[k]? = some c := fun k => by
    rw [Bool.and_eq_true, decide_eq_true_eq]; exact subAt_one x c k
  have h0 : x.cps.toList[a.length]? = some c := by rw [hx, List.getElem?_append_right (Nat.le_refl _), Nat.sub_self]; rfl
  have h1 : ∀ k, a.length < k → k < x.length + 1 - 0 → (decide (k + (⟨#[c]⟩ : PySem.Str).length ≤ x.length) && subAt x ⟨#[c]⟩ k) = false := fun k h1 h2 => by
    refine Bool.eq_false_iff.mpr fun q => ?_
    have q := (hP k).mp q
    rw [hx, List.getElem?_append_right (by (first | lia | omega)), show k - a.length = (k - a.length - 1) + 1 by (first | lia | omega), List.getElem?_cons_succ] at q
    exact hr (List.mem_of_getElem? q)
  unfold Txt.rfind
  rw [last_eq, find_last _ a.length ((hP _).mpr h0) _ (by (first | lia | omega)) h1]
theorem rfind_none {x : PySem.Str} {c : Nat} (hx : c ∉ x.cps.toList) : Txt.rfind x ⟨#[c]⟩ = -1 := by
  unfold Txt.rfind
  rw [last_eq]
  have : (List.range' 0 (x.length + 1 - 0)).reverse.find? (fun i => decide (i + (⟨#[c]⟩ : PySem.Str).length ≤ x.length) && subAt x ⟨#[c]⟩ i) = none := by
    rw [List.find?_eq_none]
    intro k _ q
    rw [Bool.and_eq_true, decide_eq_true_eq] at q
    exact hx (List.mem_of_getElem? ((subAt_one x c k).mp q))
  rw [this]
end
section
open PySem PySem.W PyProof.Rows PySem.Spec PySem.Calls
def digs (n : Nat) : List Nat := (PySem.Str.ofString (toString (n : Int))).cps.toList
abbrev t7 : List Nat := [32, 99, 104, 97, 114, 115, 93]
theorem dig_facts : ∀ n : Fin 100, (digs n.val).length ≤ 2 ∧ 91 ∉ digs n.val ∧ 93 ∉ digs n.val ∧ 32 ∉ digs n.val ∧ (10 ≤ n.val → (digs n.val).length = 2) := by decide +kernel
theorem s_lbr : PySem.Str.ofString "[" = ⟨#[91]⟩ := by decide +kernel
theorem s_rbr : PySem.Str.ofString "]" = ⟨#[93]⟩ := by decide +kernel
theorem s_sp : PySem.Str.ofString " " = ⟨#[32]⟩ := by decide +kernel
theorem s_t7 : PySem.Str.ofString " chars]" = ofL t7 := by decide +kernel
theorem k_t7 : Builtin.Str.strKind (ofL t7) = 1 := by decide +kernel
theorem dig_reads {n : Nat} (h : n < 100) : PySem.intText? (ofL (digs n)) = some (n : Int) := by
  have := KIN.num_reads (n := (n : Int)) (by (first | lia | omega)) (by (first | lia | omega))
  rwa [ofL_eq (PySem.Str.ofString (toString (n : Int)))] at this
theorem cut_one {n : Nat} (h : n < 100) (r : List Nat) : Txt.splitMax (ofL (digs n ++ t7 ++ r)) (PySem.Str.ofString " chars]") 1 = [ofL (digs n), ofL r] := by
  rw [s_t7]
  exact splitMax_of (t := [99, 104, 97, 114, 115, 93]) rfl (dig_facts ⟨n, h⟩).2.2.2.1 k_t7
theorem not_mem_take {c n : Nat} {R : List Nat} (h : c ∉ R) : c ∉ R.take n := fun z => h (List.mem_of_mem_take z)
theorem not_mem_drop {c n : Nat} {R : List Nat} (h : c ∉ R) : c ∉ R.drop n := fun z => h (List.mem_of_mem_drop z)
theorem ch_free {n : Nat} (h : n < 100) {r : List Nat} (hr : 91 ∉ r) : 91 ∉ digs n ++ t7 ++ r := by
  rw [List.mem_append, List.mem_append]
  rintro ((z | z) | z)
  · exact (dig_facts ⟨n, h⟩).2.1 z
  · exact absurd z (by decide)
  · exact hr z
theorem sl_piece {W T X D : List Nat} {i j : Int} (hW : W = T ++ (X ++ D)) (hi : i = (T.length : Int)) (hj : j = i + (X.length : Int)) : Txt.slice (ofL W) (some i) (some j) = ofL X := by
  subst hi hj hW
  have h := sl_mid (x := ofL (T ++ (X ++ D))) (i := T.length) (j := T.length + X.length) (Nat.le_add_right _ _) (by rw [ofL_len, List.length_append, List.length_append]; exact Nat.add_le_add_left (Nat.le_add_right _ _) _)
  rw [ofL_toList, Nat.add_sub_cancel_left, List.drop_left, List.take_left] at h
  exact h
theorem len_ch (n : Nat) (D : List Nat) (h : n < 100) : (digs n ++ t7 ++ D).length ≤ 9 + D.length := by
  have hd := (dig_facts ⟨n, h⟩).1
  simp only at hd
  simp only [List.length_append, List.length_cons, List.length_nil]
  (first | lia | omega)
theorem fits_one {T X D : List Nat} (hT : 91 ∉ T) (hD : 91 ∉ D) (hn : X.length < 100) (hlen : T.length + D.length ≤ 68) : Fits (ofL (T ++ (91 :: (digs X.length ++ t7 ++ D)))) (ofL (T ++ (X ++ D))) := by
  have l1 := len_ch X.length D hn
  have hd := (dig_facts ⟨X.length, hn⟩).1
  refine .one ?_ ?_ (ofL T) (ofL (digs X.length ++ t7 ++ D)) (ofL (digs X.length)) (ofL D) (X.length : Int) ?_ (cut_one hn _) (dig_reads hn) (Nat.le_trans hd (by decide)) (Int.natCast_nonneg _) (Nat.le_trans l1 (by (first | lia | omega))) ?_ ?_ ?_
  · rw [ofL_len, List.length_append, List.length_cons]; (first | lia | omega)
  · rw [ofL_len, List.length_append, List.length_append]; (first | lia | omega)
  · rw [s_lbr]
    exact split_of (l := [T, digs X.length ++ t7 ++ D]) (by simp) (fun p hp => by
      rcases List.mem_cons.mp hp with rfl | hp
      · exact hT
      · rw [List.mem_singleton.mp hp]; exact ch_free hn hD) rfl
  · exact sl_piece (T := []) (D := X ++ D) rfl rfl (Int.zero_add _).symm
  · exact sl_piece (T := T ++ X) (D := []) (by simp) (by rw [List.length_append]; rfl) rfl
  · rw [ofL_len, ofL_len, ofL_len, List.length_append, List.length_append, ← Nat.add_assoc]; rfl
theorem fits_two {T X M Y D : List Nat} (hT : 91 ∉ T) (hM : 91 ∉ M) (hD : 91 ∉ D) (hn : X.length < 100) (hm : Y.length < 100) (hxy : X.length + Y.length ≤ 100) (hlen : T.length + M.length + D.length ≤ 60) :
    Fits (ofL (T ++ (91 :: (digs X.length ++ t7 ++ M ++ (91 :: (digs Y.length ++ t7 ++ D)))))) (ofL (T ++ (X ++ (M ++ (Y ++ D))))) := by
  have l1 := len_ch X.length M hn
  have l2 := len_ch Y.length D hm
  have hd := (dig_facts ⟨X.length, hn⟩).1
  have hd2 := (dig_facts ⟨Y.length, hm⟩).1
  refine .two ?_ ?_ (ofL T) (ofL (digs X.length ++ t7 ++ M)) (ofL (digs X.length)) (ofL M) (ofL (digs Y.length ++ t7 ++ D)) (ofL (digs Y.length)) (ofL D) (X.length : Int) (Y.length : Int) ?_ (cut_one hn _) (dig_reads hn) (Nat.le_trans hd (by decide)) (Int.natCast_nonneg _) (Nat.le_trans l1 (by (first | lia | omega))) (cut_one hm _) (dig_reads hm) (Nat.le_trans hd2 (by decide)) (Int.natCast_nonneg _) (Nat.le_trans l2 (by (first | lia | omega))) ?_ ?_ ?_ ?_
  · rw [ofL_len, List.length_append, List.length_cons, List.length_append, List.length_cons]; (first | lia | omega)
  · rw [ofL_len, List.length_append, List.length_append, List.length_append, List.length_append]; (first | lia | omega)
  · rw [s_lbr]
    refine split_of (l := [T, digs X.length ++ t7 ++ M, digs Y.length ++ t7 ++ D]) (by simp) (fun p hp => ?_) rfl
    rcases List.mem_cons.mp hp with rfl | hp
    · exact hT
    rcases List.mem_cons.mp hp with rfl | hp
    · exact ch_free hn hM
    · rw [List.mem_singleton.mp hp]; exact ch_free hm hD
  · exact sl_piece (T := []) (D := X ++ (M ++ (Y ++ D))) rfl rfl (Int.zero_add _).symm
  · exact sl_piece (T := T ++ X) (D := Y ++ D) (by simp) (by rw [List.length_append]; rfl) rfl
  · exact sl_piece (T := T ++ (X ++ (M ++ Y))) (D := []) (by simp) (by rw [List.length_append, List.length_append, List.length_append, ← Nat.add_assoc, ← Nat.add_assoc]; rfl) rfl
  · rw [ofL_len, ofL_len, ofL_len, ofL_len, List.length_append, List.length_append, List.length_append, List.length_append, ← Nat.add_assoc, ← Nat.add_assoc, ← Nat.add_assoc]; rfl
end
section
open PySem PySem.W PyProof.Rows PySem.Spec PySem.Calls
theorem short_big {X : List Nat} {a b : Nat} (h : a + b + 12 < X.length) : short (ofL X) (a : Int) (b : Int) = ofL (X.take a ++ (91 :: (digs (X.length - b - a) ++ t7 ++ X.drop (X.length - b)))) := by
  unfold short
  rw [if_pos (by rw [ofL_len]; (first | lia | omega)), sl_to (by rw [ofL_len]; (first | lia | omega)), show ((ofL X).length : Int) - (b : Int) = ((X.length - b : Nat) : Int) by rw [ofL_len]; (first | lia | omega), sl_from (by rw [ofL_len]; (first | lia | omega))]
  rw [show ((ofL X).length : Int) - (a : Int) - (b : Int) = ((X.length - b - a : Nat) : Int) by rw [ofL_len]; (first | lia | omega)]
  unfold chars
  rw [ofL_eq (PySem.Str.ofString (toString ((X.length - b - a : Nat) : Int)))]
  show ofL _ ++ ofL [91] ++ ofL (digs _) ++ ofL t7 ++ ofL _ = _
  rw [ofL_append, ofL_append, ofL_append, ofL_append, ofL_toList]
  simp
theorem short_small {X : List Nat} {a b : Nat} (h : X.length ≤ a + b + 12) : short (ofL X) (a : Int) (b : Int) = ofL X := by
  unfold short
  rw [if_neg (by rw [ofL_len]; (first | lia | omega))]
theorem len_drop {R : List Nat} {a b : Nat} (h : R.length = a + b) : (R.drop a).length = b := by rw [List.length_drop, h, Nat.add_sub_cancel_left]
theorem len_take {R : List Nat} {a b : Nat} (h : R.length = a + b) : (R.take a).length = a := List.length_take_of_le (h ▸ Nat.le_add_right a b)
/-- the prefix is long: its end is kept -/
theorem csr_I {P r : List Nat} {c k : Nat} (hP : P.length = 28 + k) (h5 : 5 ≤ k) (hr : r.length + k = 62) : csrOf (28 + k) (ofL P) (ofL (P ++ c :: r)) = ofL ((P.take 5 ++ (91 :: (digs 23 ++ t7 ++ P.drop 28))) ++ c :: r) := by
  have main : short (ofL P) ((5 : Nat) : Int) (k : Int) = ofL (P.take 5 ++ (91 :: (digs 23 ++ t7 ++ P.drop 28))) := by
    rw [short_big (by rw [hP]; (first | lia | omega)), hP, Nat.add_sub_cancel]
  have tl : Txt.slice (ofL (P ++ c :: r)) (some ((28 + k : Nat) : Int)) none = ofL (c :: r) := by
    rw [sl_from (by rw [ofL_len, List.length_append, hP]; exact Nat.le_add_right _ _), ofL_toList, ← hP, List.drop_left]
  unfold csrOf
  by_cases h : 33 < 28 + k
  · rw [if_pos h, show ((28 + k : Nat) : Int) - 28 = (k : Int) by (first | lia | omega), show short (ofL P) 5 (k : Int) = _ from main, tl, ofL_append]
  · obtain rfl : k = 5 := by (first | lia | omega)
    rw [if_neg h, tl, show short (ofL P) 5 5 = _ from main, show short (ofL (c :: r)) 41 5 = ofL (c :: r) from short_small (a := 41) (b := 5) (by rw [List.length_cons]; (first | lia | omega)), ofL_append]
theorem csr_tail {P r : List Nat} {c p e : Nat} (hP : P.length = p) (he : p + e = 45) (h13 : 13 ≤ e) (hr : r.length + p = 90) : short (Txt.slice (ofL (P ++ c :: r)) (some (p : Int)) none) 41 5 = ofL (c :: (r.take 40 ++ (91 :: (digs e ++ t7 ++ r.drop (40 + e))))) := by
  rw [sl_from (by rw [ofL_len, List.length_append, hP]; exact Nat.le_add_right _ _), ofL_toList, ← hP, List.drop_left]
  have hl : (c :: r).length = 46 + e := by rw [List.length_cons]; (first | lia | omega)
  rw [show short (ofL (c :: r)) 41 5 = _ from short_big (a := 41) (b := 5) (by rw [hl]; (first | lia | omega)), hl, show 46 + e - 5 - 41 = e by (first | lia | omega), show 46 + e - 5 = 40 + e + 1 by (first | lia | omega)]
  rfl
theorem csr_II {P r : List Nat} {c p e : Nat} (hP : P.length = p) (he : p + e = 45) (hp : p ≤ 22) (hr : r.length + p = 90) : csrOf p (ofL P) (ofL (P ++ c :: r)) = ofL (P ++ c :: (r.take 40 ++ (91 :: (digs e ++ t7 ++ r.drop (40 + e))))) := by
  unfold csrOf
  rw [if_neg (by (first | lia | omega)), csr_tail hP he (by (first | lia | omega)) hr, show short (ofL P) 5 5 = ofL P from short_small (a := 5) (b := 5) (by rw [hP]; exact hp), ofL_append]
theorem csr_III {P r : List Nat} {c n e : Nat} (hP : P.length = 10 + n) (he : n + e = 35) (h13 : 13 ≤ n) (h22 : n ≤ 22) (hr : r.length + n = 80) : csrOf (10 + n) (ofL P) (ofL (P ++ c :: r)) = ofL ((P.take 5 ++ (91 :: (digs n ++ t7 ++ P.drop (5 + n)))) ++ c :: (r.take 40 ++ (91 :: (digs e ++ t7 ++ r.drop (40 + e))))) := by
  unfold csrOf
  rw [if_neg (by (first | lia | omega)), csr_tail hP (e := e) (by (first | lia | omega)) (by (first | lia | omega)) (by (first | lia | omega)), show short (ofL P) 5 5 = _ from short_big (a := 5) (b := 5) (by rw [hP]; (first | lia | omega)), hP, show 10 + n - 5 - 5 = n by (first | lia | omega), show 10 + n - 5 = 5 + n by (first | lia | omega), ofL_append]
end
section
open PySem PySem.W PyProof.Rows PySem.Spec PySem.Calls
theorem mark_case {T M r : List Nat} {c n pl : Nat} (hT : T.length = 5) (h91 : 91 ∉ T) (h93 : 93 ∉ T) (hn0 : 10 ≤ n) (hn : n < 100) (hpl : pl = 4 + M.length + n) : PlaceCase (ofL (T ++ (91 :: (digs n ++ t7 ++ M)) ++ c :: r)) (15 + M.length) pl := by
  obtain ⟨_, d91, d93, d32, d2⟩ := dig_facts ⟨n, hn⟩
  have d2 := d2 hn0
  simp only at d91 d93 d32 d2
  have hz : (T ++ (91 :: (digs n ++ t7 ++ M))).length = 15 + M.length := by simp; (first | lia | omega)
  have hs : Txt.slice (ofL (T ++ (91 :: (digs n ++ t7 ++ M)) ++ c :: r)) none (some ((15 + M.length : Nat) : Int)) = ofL (T ++ (91 :: (digs n ++ t7 ++ M))) := by
    rw [sl_to (by rw [ofL_len, List.length_append, hz]; (first | lia | omega)), ofL_toList, ← hz, List.take_left]
  have hm : Txt.slice (ofL (T ++ (91 :: (digs n ++ t7 ++ M)) ++ c :: r)) (some ((5 : Nat) : Int)) (some (((14 : Nat) : Int) + 1)) = ofL (91 :: (digs n ++ t7)) := by
    rw [show ((14 : Nat) : Int) + 1 = ((15 : Nat) : Int) from rfl, sl_mid (by decide) (by rw [ofL_len, List.length_append, hz]; (first | lia | omega)), ofL_toList, List.append_assoc, ← hT, List.drop_left]
    rw [show 15 - T.length = (91 :: (digs n ++ t7)).length by simp; (first | lia | omega)]
    rw [show (91 :: (digs n ++ t7 ++ M)) ++ c :: r = (91 :: (digs n ++ t7)) ++ (M ++ c :: r) by simp, List.take_left]
  refine .inr ?_ 5 14 [] [] (ofL (digs n)) (ofL [99, 104, 97, 114, 115, 93]) (n : Int) ?_ ?_ (by decide) (by decide) ?_ (dig_reads hn) ?_ (Int.natCast_nonneg _) (by (first | lia | omega)) ?_
  · rw [hs, s_lbr, occ_sign (a := T) rfl h91]; rfl
  · rw [s_lbr, occ_sign (a := T) (r := digs n ++ t7 ++ M ++ c :: r) (by rw [ofL_toList]; simp) h91, hT]
  · rw [s_rbr, occ_sign (a := T ++ (91 :: (digs n ++ [32, 99, 104, 97, 114, 115]))) (c := 93) (r := M ++ c :: r) (by rw [ofL_toList]; simp) (by
      rw [List.mem_append, List.mem_cons, List.mem_append]
      rintro (z | z | z | z)
      · exact h93 z
      · exact absurd z (by decide)
      · exact d93 z
      · exact absurd z (by decide))]
    simp; (first | lia | omega)
  · rw [hm]
    have := sl_from (x := ofL (91 :: (digs n ++ t7))) (i := 1) (by rw [ofL_len]; simp)
    rw [show Txt.slice (ofL (91 :: (digs n ++ t7))) (some 1) none = ofL (digs n ++ t7) from this, s_sp]
    refine split_of (l := [digs n, [99, 104, 97, 114, 115, 93]]) (by simp) (fun p hp => ?_) rfl
    rcases List.mem_cons.mp hp with rfl | hp
    · exact d32
    · rw [List.mem_singleton.mp hp]; decide
  · rw [ofL_len]; (first | lia | omega)
  · rw [hm, ofL_len, hpl]
    simp
    (first | lia | omega)
theorem none_case {C r : List Nat} {c pl : Nat} (h91 : 91 ∉ C) (hpl : pl + 1 = C.length) : PlaceCase (ofL (C ++ c :: r)) C.length pl := by
  refine .inl ?_ (by (first | lia | omega))
  rw [sl_to (by rw [ofL_len]; simp), ofL_toList, List.take_left, s_lbr, occ_none (by rw [ofL_toList]; exact h91)]; rfl
/-- where two reports part -/
def Parts (F1 F2 : PySem.Str) (pl c d : Nat) : Prop := ∃ z, F1.length ≤ 80 ∧ F2.length ≤ 80 ∧ z < F1.length ∧ z < F2.length ∧ (∀ j, j < z → F1.cps.getD j 0 = F2.cps.getD j 0) ∧ F1.cps.getD z 0 = c ∧ F2.cps.getD z 0 = d ∧ PlaceCase F1 z pl
theorem getD_ofL (l : List Nat) (j : Nat) : (ofL l).cps.getD j 0 = l.getD j 0 := by
  unfold ofL
  simp [Array.getD_eq_getD_getElem?, List.getD_eq_getElem?_getD]
theorem parts_of {F1 F2 : PySem.Str} {C r s : List Nat} {c d pl : Nat} (e1 : F1 = ofL (C ++ c :: r)) (e2 : F2 = ofL (C ++ d :: s)) (h1 : (C ++ c :: r).length ≤ 80) (h2 : (C ++ d :: s).length ≤ 80) (h : PlaceCase F1 C.length pl) : Parts F1 F2 pl c d := by
  refine ⟨C.length, by rw [e1, ofL_len]; exact h1, by rw [e2, ofL_len]; exact h2, by rw [e1, ofL_len]; simp, by rw [e2, ofL_len]; simp, fun j hj => ?_, ?_, ?_, h⟩
  · rw [e1, e2, getD_ofL, getD_ofL, List.getD_eq_getElem?_getD, List.getD_eq_getElem?_getD, List.getElem?_append_left hj, List.getElem?_append_left hj]
  · rw [e1, getD_ofL, List.getD_eq_getElem?_getD, List.getElem?_append_right (Nat.le_refl _), Nat.sub_self]; rfl
  · rw [e2, getD_ofL, List.getD_eq_getElem?_getD, List.getElem?_append_right (Nat.le_refl _), Nat.sub_self]; rfl
theorem drop_at {R : List Nat} {p c : Nat} (h : R[p]? = some c) : R.drop p = c :: R.drop (p + 1) := by
  obtain ⟨hp, e⟩ := List.getElem?_eq_some_iff.mp h
  rw [List.drop_eq_getElem_cons hp, e]
theorem C_len {T M : List Nat} {n : Nat} (hT : T.length = 5) (h0 : 10 ≤ n) (hn : n < 100) : (T ++ (91 :: (digs n ++ t7 ++ M))).length = 15 + M.length := by
  have d := (dig_facts ⟨n, hn⟩).2.2.2.2 h0
  simp only at d
  simp only [List.length_append, List.length_cons, hT, d, List.length_nil]
  (first | lia | omega)
theorem S_len {r : List Nat} {e p : Nat} (h0 : 10 ≤ e) (he : p + e = 45) (hr : r.length + p = 90) : (r.take 40 ++ (91 :: (digs e ++ t7 ++ r.drop (40 + e)))).length = 55 := by
  have d := (dig_facts ⟨e, by (first | lia | omega)⟩).2.2.2.2 h0
  simp only at d
  have l1 : (r.take 40).length = 40 := len_take (b := 50 - p) (by (first | lia | omega))
  have l2 : (r.drop (40 + e)).length = 5 := len_drop (by (first | lia | omega))
  simp only [List.length_append, List.length_cons, l1, l2, d, List.length_nil]
theorem parts_I {P r s : List Nat} {c d k : Nat} (hP : P.length = 28 + k) (h5 : 5 ≤ k) (hr : r.length + k = 62) (hs : s.length + k = 62) (h91 : 91 ∉ P) (h93 : 93 ∉ P) : Parts (csrOf (28 + k) (ofL P) (ofL (P ++ c :: r))) (csrOf (28 + k) (ofL P) (ofL (P ++ d :: s))) (27 + k) c d := by
  have hM : (P.drop 28).length = k := len_drop hP
  have T5 : (P.take 5).length = 5 := len_take (b := 23 + k) (by (first | lia | omega))
  have hz := C_len (M := P.drop 28) (n := 23) T5 (by decide) (by decide)
  rw [hM] at hz
  have e1 := csr_I (c := c) hP h5 hr
  refine parts_of e1 (csr_I hP h5 hs) ?_ ?_ ?_
  · rw [List.length_append, hz, List.length_cons]; (first | lia | omega)
  · rw [List.length_append, hz, List.length_cons]; (first | lia | omega)
  · have q := mark_case (T := P.take 5) (M := P.drop 28) (r := r) (c := c) (n := 23) (pl := 27 + k) T5 (not_mem_take h91) (not_mem_take h93) (by decide) (by decide) (by rw [hM]; (first | lia | omega))
    rw [hM] at q
    rw [hz, e1]; exact q
theorem parts_II {P r s : List Nat} {c d p e : Nat} (hP : P.length = p + 1) (he : p + 1 + e = 45) (hp : p + 1 ≤ 22) (hr : r.length + (p + 1) = 90) (hs : s.length + (p + 1) = 90) (h91 : 91 ∉ P) : Parts (csrOf (p + 1) (ofL P) (ofL (P ++ c :: r))) (csrOf (p + 1) (ofL P) (ofL (P ++ d :: s))) p c d := by
  have e1 := csr_II (c := c) hP he hp hr
  refine parts_of e1 (csr_II hP he hp hs) ?_ ?_ ?_
  · rw [List.length_append, List.length_cons, S_len (by (first | lia | omega)) he hr, hP]; (first | lia | omega)
  · rw [List.length_append, List.length_cons, S_len (by (first | lia | omega)) he hs, hP]; (first | lia | omega)
  · rw [e1]
    exact none_case h91 hP.symm
theorem parts_III {P r s : List Nat} {c d n e : Nat} (hP : P.length = 10 + n) (he : n + e = 35) (h13 : 13 ≤ n) (h22 : n ≤ 22) (hr : r.length + n = 80) (hs : s.length + n = 80) (h91 : 91 ∉ P) (h93 : 93 ∉ P) : Parts (csrOf (10 + n) (ofL P) (ofL (P ++ c :: r))) (csrOf (10 + n) (ofL P) (ofL (P ++ d :: s))) (9 + n) c d := by
  have hM : (P.drop (5 + n)).length = 5 := len_drop (by (first | lia | omega))
  have T5 : (P.take 5).length = 5 := len_take (b := 5 + n) (by (first | lia | omega))
  have hz := C_len (M := P.drop (5 + n)) (n := n) T5 (by (first | lia | omega)) (by (first | lia | omega))
  rw [hM] at hz
  have e1 := csr_III (c := c) hP he h13 h22 hr
  have a1 := S_len (r := r) (e := e) (p := 10 + n) (by (first | lia | omega)) (by (first | lia | omega)) (by (first | lia | omega))
  have a2 := S_len (r := s) (e := e) (p := 10 + n) (by (first | lia | omega)) (by (first | lia | omega)) (by (first | lia | omega))
  refine parts_of e1 (csr_III hP he h13 h22 hs) ?_ ?_ ?_
  · rw [List.length_append, List.length_cons, a1, hz]; decide
  · rw [List.length_append, List.length_cons, a2, hz]; decide
  · have q := mark_case (T := P.take 5) (M := P.drop (5 + n)) (r := r.take 40 ++ (91 :: (digs e ++ t7 ++ r.drop (40 + e)))) (c := c) (n := n) (pl := 9 + n) T5 (not_mem_take h91) (not_mem_take h93) (by (first | lia | omega)) (by (first | lia | omega)) (by rw [hM])
    rw [hM] at q
    rw [hz, e1]; exact q
theorem len_cut {R : List Nat} {p c : Nat} (hR : R.length = 91) (hc : R[p]? = some c) : R = R.take p ++ c :: R.drop (p + 1) ∧ (R.take p).length = p ∧ (R.drop (p + 1)).length + p = 90 := by
  have hp : p < 91 := hR ▸ (List.getElem?_eq_some_iff.mp hc).1
  refine ⟨?_, len_take (b := 91 - p) (by (first | lia | omega)), ?_⟩
  · rw [← drop_at hc, List.take_append_drop]
  · rw [List.length_drop, hR]; (first | lia | omega)
theorem parts_csr {R S : List Nat} {p c d : Nat} (hR : R.length = 91) (hS : S.length = 91) (h91 : 91 ∉ R) (h93 : 93 ∉ R) (ht : R.take (p + 1) = S.take (p + 1)) (hc : R[p + 1]? = some c) (hd : S[p + 1]? = some d) :
    Parts (csrOf (p + 1) (ofL (R.take (p + 1))) (ofL R)) (csrOf (p + 1) (ofL (R.take (p + 1))) (ofL S)) p c d := by
  obtain ⟨eR, lP, lr⟩ := len_cut hR hc
  obtain ⟨eS, _, ls⟩ := len_cut hS hd
  have f91 := not_mem_take (n := p + 1) h91
  have f93 := not_mem_take (n := p + 1) h93
  rw [← ht] at eS
  generalize R.drop (p + 1 + 1) = r at *
  generalize S.drop (p + 1 + 1) = s at *
  generalize R.take (p + 1) = P at *
  rw [eR, eS]
  clear ht hc hd h91 h93 hR hS eR eS
  by_cases a : 32 ≤ p
  · obtain ⟨k, rfl⟩ : ∃ k, p = 27 + k := ⟨p - 27, by (first | lia | omega)⟩
    rw [show 27 + k + 1 = 28 + k by (first | lia | omega)] at *
    exact parts_I lP (by (first | lia | omega)) (by (first | lia | omega)) (by (first | lia | omega)) f91 f93
  by_cases b : p ≤ 21
  · exact parts_II (e := 44 - p) lP (by (first | lia | omega)) (by (first | lia | omega)) lr ls f91
  · obtain ⟨n, rfl⟩ : ∃ n, p = 9 + n := ⟨p - 9, by (first | lia | omega)⟩
    rw [show 9 + n + 1 = 10 + n by (first | lia | omega)] at *
    exact parts_III (e := 35 - n) lP (by (first | lia | omega)) (by (first | lia | omega)) (by (first | lia | omega)) (by (first | lia | omega)) (by (first | lia | omega)) f91 f93
/-- a report fits its line -/
theorem fits_csr {R : List Nat} {p : Nat} (hR : R.length = 91) (h91 : 91 ∉ R) (hp : p + 1 < 91) : Fits (csrOf (p + 1) (ofL (R.take (p + 1))) (ofL R)) (ofL R) := by
  obtain ⟨c, hc⟩ : ∃ c, R[p + 1]? = some c := ⟨_, List.getElem?_eq_getElem (by rw [hR]; exact hp)⟩
  obtain ⟨eR, lP, lr⟩ := len_cut hR hc
  have fr : 91 ∉ c :: R.drop (p + 1 + 1) := fun z => h91 (by rw [eR]; exact List.mem_append_right _ z)
  have f91 := not_mem_take (n := p + 1) h91
  generalize R.drop (p + 1 + 1) = r at *
  generalize R.take (p + 1) = P at *
  rw [eR]
  clear h91 hR eR hc
  by_cases a : 32 ≤ p
  · obtain ⟨k, rfl⟩ : ∃ k, p = 27 + k := ⟨p - 27, by (first | lia | omega)⟩
    rw [show 27 + k + 1 = 28 + k by (first | lia | omega)] at *
    rw [csr_I lP (by (first | lia | omega)) (by (first | lia | omega))]
    have lX : ((P.drop 5).take 23).length = 23 := len_take (b := k) (len_drop (by (first | lia | omega)))
    have l28 : (P.drop 28).length = k := len_drop lP
    have T5 : (P.take 5).length = 5 := len_take (b := 23 + k) (by (first | lia | omega))
    have f := fits_one (T := P.take 5) (X := (P.drop 5).take 23) (D := P.drop 28 ++ c :: r) (not_mem_take f91) (fun z => (List.mem_append.mp z).elim (not_mem_drop f91) fr) (by rw [lX]; decide) (by rw [T5, List.length_append, l28, List.length_cons]; (first | lia | omega))
    rw [lX] at f
    have e : P.take 5 ++ ((P.drop 5).take 23 ++ (P.drop 28 ++ c :: r)) = P ++ c :: r := by
      rw [← List.append_assoc _ (P.drop 28), show P.drop 28 = (P.drop 5).drop 23 by rw [List.drop_drop], List.take_append_drop, ← List.append_assoc, List.take_append_drop]
    rw [e] at f
    have e2 : (P.take 5 ++ (91 :: (digs 23 ++ t7 ++ P.drop 28))) ++ c :: r = P.take 5 ++ (91 :: (digs 23 ++ t7 ++ (P.drop 28 ++ c :: r))) := by simp
    rw [e2]; exact f
  have tail : ∀ {e q : Nat}, q + e = 45 → r.length + q = 90 → 10 ≤ e → ((r.drop 40).take e).length = e ∧ (r.drop (40 + e)).length = 5 ∧ (r.take 40).length = 40 ∧ r.take 40 ++ ((r.drop 40).take e ++ r.drop (40 + e)) = r := fun {e q} h1 h2 _ =>
    ⟨len_take (b := 5) (len_drop (by (first | lia | omega))), len_drop (by (first | lia | omega)), len_take (b := e + 5) (by (first | lia | omega)), by rw [← List.drop_drop, List.take_append_drop, List.take_append_drop]⟩
  by_cases b : p ≤ 21
  · obtain ⟨e, he⟩ : ∃ e, p + 1 + e = 45 := ⟨44 - p, by (first | lia | omega)⟩
    obtain ⟨lX, lD, l4, er⟩ := tail he lr (by (first | lia | omega))
    rw [csr_II lP he (by (first | lia | omega)) lr]
    have f := fits_one (T := P ++ c :: r.take 40) (X := (r.drop 40).take e) (D := r.drop (40 + e)) (fun z => (List.mem_append.mp z).elim f91 fun z => (List.mem_cons.mp z).elim (fun h => fr (h ▸ .head _)) fun h => fr (.tail _ (List.mem_of_mem_take h))) (not_mem_drop fun h => fr (.tail _ h)) (by rw [lX]; (first | lia | omega)) (by rw [lD, List.length_append, lP, List.length_cons, l4]; (first | lia | omega))
    have e1 : (P ++ c :: r.take 40) ++ ((r.drop 40).take e ++ r.drop (40 + e)) = P ++ c :: r := by rw [List.append_assoc, List.cons_append, er]
    have e2 : (P ++ c :: r.take 40) ++ (91 :: (digs e ++ t7 ++ r.drop (40 + e))) = P ++ c :: (r.take 40 ++ (91 :: (digs e ++ t7 ++ r.drop (40 + e)))) := by rw [List.append_assoc, List.cons_append]
    rw [lX, e1, e2] at f
    exact f
  · obtain ⟨n, rfl⟩ : ∃ n, p = 9 + n := ⟨p - 9, by (first | lia | omega)⟩
    rw [show 9 + n + 1 = 10 + n by (first | lia | omega)] at *
    obtain ⟨e, he⟩ : ∃ e, n + e = 35 := ⟨35 - n, by (first | lia | omega)⟩
    obtain ⟨lX, lD, l4, er⟩ := tail (e := e) (q := 10 + n) (by (first | lia | omega)) lr (by (first | lia | omega))
    rw [csr_III lP he (by (first | lia | omega)) (by (first | lia | omega)) (by (first | lia | omega))]
    have lN : ((P.drop 5).take n).length = n := len_take (b := 5) (len_drop (by (first | lia | omega)))
    have lM : (P.drop (5 + n)).length = 5 := len_drop (by (first | lia | omega))
    have T5 : (P.take 5).length = 5 := len_take (b := 5 + n) (by (first | lia | omega))
    have f := fits_two (T := P.take 5) (X := (P.drop 5).take n) (M := P.drop (5 + n) ++ c :: r.take 40) (Y := (r.drop 40).take e) (D := r.drop (40 + e)) (not_mem_take f91) (fun z => (List.mem_append.mp z).elim (not_mem_drop f91) fun z => (List.mem_cons.mp z).elim (fun h => fr (h ▸ .head _)) fun h => fr (.tail _ (List.mem_of_mem_take h))) (not_mem_drop fun h => fr (.tail _ h)) (by rw [lN]; (first | lia | omega)) (by rw [lX]; (first | lia | omega)) (by rw [lN, lX]; (first | lia | omega)) (by rw [T5, lD, List.length_append, lM, List.length_cons, l4]; decide)
    rw [lN, lX] at f
    have e1 : P.take 5 ++ ((P.drop 5).take n ++ ((P.drop (5 + n) ++ c :: r.take 40) ++ ((r.drop 40).take e ++ r.drop (40 + e)))) = P ++ c :: r := by
      rw [List.append_assoc (P.drop (5 + n)), List.cons_append, er, ← List.append_assoc _ (P.drop (5 + n)), ← List.drop_drop, List.take_append_drop, ← List.append_assoc, List.take_append_drop]
    rw [e1] at f
    have e2 : (P.take 5 ++ (91 :: (digs n ++ t7 ++ P.drop (5 + n)))) ++ c :: (r.take 40 ++ (91 :: (digs e ++ t7 ++ r.drop (40 + e)))) = P.take 5 ++ (91 :: (digs n ++ t7 ++ (P.drop (5 + n) ++ c :: r.take 40) ++ (91 :: (digs e ++ t7 ++ r.drop (40 + e))))) := by simp
    rw [e2]; exact f
end
section
open PySem PySem.W PyProof.Rows PySem.Spec PySem.Calls
def sg (k : Nat) : Nat := (sgn (k : Int)).toNat
theorem sg_facts : ∀ k : Fin 64, (sg k.val ≠ 34 ∧ sg k.val ≠ 39 ∧ sg k.val ≠ 91 ∧ sg k.val ≠ 93 ∧ sg k.val ≠ 32) ∧ Builtin.Str.reprChar 39 (sg k.val) = [sg k.val] ∧ (signs64.cps.toList = signs64.cps.toList.take k.val ++ sg k.val :: signs64.cps.toList.drop (k.val + 1)) ∧ sg k.val ∉ signs64.cps.toList.take k.val ∧ (signs64.cps.toList.take k.val).length = k.val := by decide +kernel
theorem sg_c : ∀ k : Fin 64, ((⟨#[sg k.val]⟩ : PySem.Str) == PySem.Str.ofString "\n") = false ∧ has (PySem.Str.ofString " \t\r\n") ⟨#[sg k.val]⟩ = false ∧ has (PySem.Str.ofString "") ⟨#[sg k.val]⟩ = false ∧ has (PySem.Str.ofString "'\"") ⟨#[sg k.val]⟩ = false ∧ has (PySem.Str.ofString "\\") ⟨#[sg k.val]⟩ = false := by decide +kernel
theorem sg_sign {k : Nat} (h : k < 64) : SignC (sg k) := let ⟨a, b, c, d, e⟩ := sg_c ⟨k, h⟩; ⟨a, b, c, d, e⟩
theorem x_sign : SignC 120 := ⟨by decide +kernel, by decide +kernel, by decide +kernel, by decide +kernel, by decide +kernel⟩
theorem repr_sp : Builtin.Str.reprChar 39 32 = [32] := by decide +kernel
theorem sg_index {k : Nat} (h : k < 64) : Builtin.Str.occurrences signs64 ⟨#[sg k]⟩ 0 signs64.length 1 = k :: [] := by
  obtain ⟨_, _, h1, h2, h3⟩ := sg_facts ⟨k, h⟩
  simp only at h1 h2 h3
  rw [occ_sign h1 h2, h3]
theorem bits6 : ∀ x : Fin 64, x.val ≠ 0 → (((List.range 6).filter (fun i => bitAt (x.val : Int) (5 - i))).map Int.ofNat).head? = some (Int.ofNat (5 - x.val.log2)) ∧ x.val.log2 ≤ 5 := by decide +kernel
theorem bits8 : ∀ x : Fin 256, x.val ≠ 0 → (((List.range 8).filter (fun i => bitAt (x.val : Int) (7 - i))).map Int.ofNat).head? = some (Int.ofNat (7 - x.val.log2)) ∧ x.val.log2 ≤ 7 := by decide +kernel
theorem head_cons {l : List Int} {a : Int} (h : l.head? = some a) : l = a :: l.tail := by
  cases l with
  | nil => cases h
  | cons b r => cases h; rfl
theorem repr_safe {l : List Nat} (h : ∀ c ∈ l, c ≠ 39 ∧ Builtin.Str.reprChar 39 c = [c]) : PySem.reprText (ofL l) = ofL (39 :: (l ++ [39])) := by
  have hq : PySem.reprQuote (ofL l) = 39 := by
    unfold PySem.reprQuote
    rw [if_neg]
    rw [Bool.and_eq_true]
    rintro ⟨z, _⟩
    have : 39 ∈ l := by
      have := Array.contains_iff_mem.mp z
      simpa [ofL] using this
    exact (h _ this).1 rfl
  apply str_ext
  unfold PySem.reprText
  rw [hq]
  have go : ∀ (l : List Nat) (acc : Array Nat), (∀ c ∈ l, c ≠ 39 ∧ Builtin.Str.reprChar 39 c = [c]) → (l.foldl (fun out c => out ++ (Builtin.Str.reprChar 39 c).toArray) acc).toList = acc.toList ++ l := by
    intro l
    induction l with
    | nil => intro acc _; simp
    | cons c r ih =>
      intro acc hc
      rw [List.foldl_cons, ih _ (fun d hd => hc d (.tail _ hd)), (hc c (.head _)).2]
      simp
  show (((ofL l).cps.foldl (fun out c => out ++ (Builtin.Str.reprChar 39 c).toArray) #[39]).push 39).toList = _
  rw [Array.toList_push, ← Array.foldl_toList, ofL_toList, go _ _ h]
  rfl
end
section
open PySem PySem.W PyProof.Rows PySem.Spec PySem.Calls
def Safe (c : Nat) : Prop := c = 32 ∨ ∃ k, k < 64 ∧ c = sg k
theorem Safe.repr {c : Nat} (h : Safe c) : c ≠ 39 ∧ Builtin.Str.reprChar 39 c = [c] := by
  rcases h with rfl | ⟨k, hk, rfl⟩
  · exact ⟨by decide, repr_sp⟩
  · exact ⟨(sg_facts ⟨k, hk⟩).1.2.1, (sg_facts ⟨k, hk⟩).2.1⟩
theorem Safe.br {c : Nat} (h : Safe c) : c ≠ 91 ∧ c ≠ 93 := by
  rcases h with rfl | ⟨k, hk, rfl⟩
  · exact ⟨by decide, by decide⟩
  · exact ⟨(sg_facts ⟨k, hk⟩).1.2.2.1, (sg_facts ⟨k, hk⟩).1.2.2.2.1⟩
theorem sg_inj {u v : Nat} (hu : u < 64) (hv : v < 64) (h : sg u = sg v) : u = v := by
  have a := sg_index hu
  rw [h, sg_index hv] at a
  exact (List.cons.inj a).1.symm
theorem not_br {A : List Nat} (h : ∀ c ∈ A, Safe c) : 91 ∉ 39 :: (A ++ [39]) ∧ 93 ∉ 39 :: (A ++ [39]) := by
  constructor <;>
  · rw [List.mem_cons, List.mem_append]
    rintro (z | z | z)
    · exact absurd z (by decide)
    · first | exact (h _ z).br.1 rfl | exact (h _ z).br.2 rfl
    · exact absurd z (by decide)
theorem quo_eq (A : List Nat) : quo (ofL A) = ofL (39 :: (A ++ [39])) := by
  unfold quo
  rw [show PySem.Str.ofString "'" = ofL [39] by decide +kernel, ofL_append, ofL_append]; rfl
theorem jn_last (c : Nat) : ∀ (ws : List (List Nat)) (x : List Nat), jn c (ws ++ [x]) = (ws.flatMap fun w => w ++ [c]) ++ x
  | [], x => rfl
  | [w], x => by show w ++ c :: x = ([w].flatMap fun w => w ++ [c]) ++ x; simp
  | w :: v :: r, x => by
    show w ++ c :: jn c ((v :: r) ++ [x]) = _
    rw [jn_last c (v :: r) x]; simp
theorem rfind_words {ws : List (List Nat)} {x : List Nat} (h8 : ∀ w ∈ ws, w.length = 8) (hx : 32 ∉ x) : Txt.rfind (ofL ((ws.flatMap fun w => w ++ [32]) ++ x)) (PySem.Str.ofString " ") = 9 * (ws.length : Int) - 1 ∧ (ws.flatMap fun w => w ++ [32]).length = 9 * ws.length := by
  have len : ∀ ws : List (List Nat), (∀ w ∈ ws, w.length = 8) → (ws.flatMap fun w => w ++ [32]).length = 9 * ws.length := by
    intro ws
    induction ws with
    | nil => intro _; rfl
    | cons w r ih =>
      intro h
      rw [List.flatMap_cons, List.length_append, List.length_append, h w (.head _), ih (fun v hv => h v (.tail _ hv))]
      simp; (first | lia | omega)
  refine ⟨?_, len ws h8⟩
  rw [s_sp]
  rcases List.eq_nil_or_concat ws with rfl | ⟨r, w, rfl⟩
  · rw [rfind_none (by rw [ofL_toList]; exact hx)]; rfl
  · rw [rfind_sign (a := (r.flatMap fun w => w ++ [32]) ++ w) (c := 32) (r := x) (by rw [ofL_toList]; simp) hx]
    rw [List.length_append, len r (fun v hv => h8 v (by simp [hv])), h8 w (by simp)]
    simp; (first | lia | omega)
theorem six5 (q : Nat) : 5 - (5 - q % 6) = q % 6 := by (first | lia | omega)
theorem fd_eq {w q p0 oct hb : Nat} (h : p0 = 9 * w + q / 6) (hq : q = 8 * oct + hb) : (6 * ((p0 : Int) - 1 - (9 * (w : Int) - 1)) + ((q % 6 : Nat) : Int)) = ((8 * oct + hb : Nat) : Int) := by (first | lia | omega)
theorem plain_core {ws : List (List Nat)} {s s' T T' : List Nat} {oct bt : Nat} (hw8 : ∀ w ∈ ws, w.length = 8 ∧ ∀ c ∈ w, ∃ k, k < 64 ∧ c = sg k) (hwl : ws.length < 10) (hs : s.length = 8) (hs' : s'.length = 8) (hk : ∀ k ∈ s, k < 64) (hk' : ∀ k ∈ s', k < 64)
    (hl : T.length + 9 * ws.length = 81) (hl' : T'.length + 9 * ws.length = 81) (hT : ∀ c ∈ T, Safe c) (hT' : ∀ c ∈ T', Safe c) (ho : oct < 6) (h1 : 1 ≤ bt) (h2 : bt < 256) (ht : Turns s s' (8 * oct + (7 - bt.log2))) :
    Plain (ofL ((ws.flatMap fun w => w ++ [32]) ++ (s.map sg ++ T))) (ofL ((ws.flatMap fun w => w ++ [32]) ++ (s'.map sg ++ T'))) ws.length oct bt := by
  obtain ⟨hb8, hlog⟩ := bits8 ⟨bt, h2⟩ (by simp only; (first | lia | omega))
  simp only at hb8 hlog
  have hPl := (rfind_words (ws := ws) (x := []) (fun w hw => (hw8 w hw).1) (by simp)).2
  generalize hP : (ws.flatMap fun w => w ++ [32]) = P at hPl ⊢
  have hPs : ∀ c ∈ P, Safe c := fun c hc => by
    rw [← hP] at hc
    obtain ⟨w, hw, hc⟩ := List.mem_flatMap.mp hc
    rcases List.mem_append.mp hc with hc | hc
    · exact .inr ((hw8 w hw).2 c hc)
    · exact .inl (List.mem_singleton.mp hc)
  obtain ⟨hb, ehb⟩ : ∃ hb, hb = 7 - bt.log2 := ⟨_, rfl⟩
  rw [← ehb] at ht hb8
  have hb7 : hb ≤ 7 := by (first | lia | omega)
  obtain ⟨q, eq⟩ : ∃ q, q = 8 * oct + hb := ⟨_, rfl⟩
  rw [← eq] at ht
  obtain ⟨tp, u, v, hu, hv, hu64, hv64, huv, hx64, hx0, hxl⟩ := ht
  have hq6 : q / 6 < 8 := by (first | lia | omega)
  have ms : ∀ {z : List Nat}, (∀ k ∈ z, k < 64) → ∀ c ∈ z.map sg, Safe c := fun hz c hc => by
    obtain ⟨k, hkk, rfl⟩ := List.mem_map.mp hc
    exact .inr ⟨k, hz k hkk, rfl⟩
  have hAs : ∀ c ∈ P ++ (s.map sg ++ T), Safe c := fun c hc => by
    rcases List.mem_append.mp hc with hc | hc
    · exact hPs c hc
    rcases List.mem_append.mp hc with hc | hc
    · exact ms hk c hc
    · exact hT c hc
  have hBs : ∀ c ∈ P ++ (s'.map sg ++ T'), Safe c := fun c hc => by
    rcases List.mem_append.mp hc with hc | hc
    · exact hPs c hc
    rcases List.mem_append.mp hc with hc | hc
    · exact ms hk' c hc
    · exact hT' c hc
  have hst : s.take (q / 6) = s'.take (q / 6) := by
    apply List.ext_getElem?
    intro i
    rw [List.getElem?_take, List.getElem?_take]
    split
    · rename_i h; exact tp i h
    · rfl
  have tkA : ∀ {z t : List Nat}, z.length = 8 → (P ++ (z.map sg ++ t)).take (P.length + q / 6) = P ++ (z.take (q / 6)).map sg := fun {z t} hz => by
    rw [List.take_length_add_append, List.take_append_of_le_length (by rw [List.length_map]; (first | lia | omega)), List.map_take]
  have atA : ∀ {z t : List Nat} {k : Nat}, z[q / 6]? = some k → (P ++ (z.map sg ++ t))[P.length + q / 6]? = some (sg k) := fun {z t k} hz => by
    have hlt := (List.getElem?_eq_some_iff.mp hz).1
    rw [List.getElem?_append_right (by (first | lia | omega)), Nat.add_sub_cancel_left, List.getElem?_append_left (by rw [List.length_map]; exact hlt), List.getElem?_map, hz]; rfl
  have lA : (P ++ (s.map sg ++ T)).length = 89 := by rw [List.length_append, List.length_append, List.length_map, hPl, hs]; (first | lia | omega)
  have lB : (P ++ (s'.map sg ++ T')).length = 89 := by rw [List.length_append, List.length_append, List.length_map, hPl, hs']; (first | lia | omega)
  have tA := tkA (t := T) hs
  have tB := tkA (t := T') hs'
  have aA := atA (t := T) hu
  have aB := atA (t := T') hv
  rw [hPl] at tA tB aA aB
  generalize hA : P ++ (s.map sg ++ T) = A at *
  generalize hB : P ++ (s'.map sg ++ T') = B at *
  obtain ⟨p0, e0⟩ : ∃ p0, p0 = 9 * ws.length + q / 6 := ⟨_, rfl⟩
  rw [← e0] at tA tB aA aB
  have hp0 : p0 < 89 := by (first | lia | omega)
  have hR : (39 :: (A ++ [39])).length = 91 := by simp [lA]
  have hS : (39 :: (B ++ [39])).length = 91 := by simp [lB]
  have rA : PySem.reprText (ofL A) = ofL (39 :: (A ++ [39])) := repr_safe fun c hc => (hAs c hc).repr
  have rB : PySem.reprText (ofL B) = ofL (39 :: (B ++ [39])) := repr_safe fun c hc => (hBs c hc).repr
  obtain ⟨f91, f93⟩ := not_br hAs
  obtain ⟨g91, g93⟩ := not_br hBs
  have tRS : (39 :: (A ++ [39])).take (p0 + 1) = (39 :: (B ++ [39])).take (p0 + 1) := by
    rw [List.take_succ_cons, List.take_succ_cons, List.take_append_of_le_length (by (first | lia | omega)), List.take_append_of_le_length (by (first | lia | omega)), tA, tB, hst]
  have cR : (39 :: (A ++ [39]))[p0 + 1]? = some (sg u) := by rw [List.getElem?_cons_succ, List.getElem?_append_left (by (first | lia | omega)), aA]
  have cS : (39 :: (B ++ [39]))[p0 + 1]? = some (sg v) := by rw [List.getElem?_cons_succ, List.getElem?_append_left (by (first | lia | omega)), aB]
  have hsg : sg u ≠ sg v := fun e => huv (sg_inj hu64 hv64 e)
  have hpre : preOf (ofL (39 :: (A ++ [39]))) (ofL (39 :: (B ++ [39]))) (p0 + 1) = ofL ((39 :: (A ++ [39])).take (p0 + 1)) := by
    unfold preOf
    split
    · rw [sl_to (by rw [ofL_len, hS]; (first | lia | omega)), ofL_toList, ← tRS]
    · rw [sl_to (by rw [ofL_len, hR]; (first | lia | omega)), ofL_toList]
  have hparts := parts_csr hR hS f91 f93 tRS cR cS
  have hfR := fits_csr (p := p0) hR f91 (by (first | lia | omega))
  have hfS := fits_csr (p := p0) hS g91 (by (first | lia | omega))
  rw [← tRS] at hfS
  generalize hRR : (39 :: (A ++ [39])) = R at *
  generalize hSS : (39 :: (B ++ [39])) = S at *
  refine ⟨ofL R, ofL S, p0 + 1, hb, _, by rw [ofL_len]; (first | lia | omega), by rw [ofL_len]; (first | lia | omega), rA, rB, hR, hS, Nat.succ_pos _, by (first | lia | omega), fun j hj => ?_, ?_, ?_, ?_, ?_, head_cons hb8⟩
  · have := congrArg (fun l : List Nat => l[j]?) tRS
    simp only [List.getElem?_take, if_pos hj] at this
    show R.toArray[j]? = S.toArray[j]?
    rw [List.getElem?_toArray, List.getElem?_toArray]; exact this
  · show R.toArray[p0 + 1]? ≠ S.toArray[p0 + 1]?
    rw [List.getElem?_toArray, List.getElem?_toArray, cR, cS]
    exact fun e => hsg (Option.some.inj e)
  · rw [hpre, quo_eq, hRR]; exact hfR
  · rw [hpre, quo_eq, hSS]; exact hfS
  · rw [hpre]
    obtain ⟨z, z1, z2, z3, z4, z5, z6, z7, z8⟩ := hparts
    replace z8 : PlaceCase (csrOf (p0 + 1) (ofL (R.take (p0 + 1))) (ofL R)) z p0 := z8
    have hsl : Txt.slice (ofL A) none (some (p0 : Int)) = ofL (P ++ (s.take (q / 6)).map sg) := by rw [sl_to (by rw [ofL_len]; (first | lia | omega)), ofL_toList, tA]
    have hx : PySem.Str.ofString "x" = ofL [120] := by decide +kernel
    have hcat : Txt.slice (ofL A) none (some (p0 : Int)) ++ PySem.Str.ofString "x" = ofL (P ++ ((s.take (q / 6)).map sg ++ [120])) := by rw [hsl, hx, ofL_append, List.append_assoc]
    have hts : ((s.take (q / 6)).map sg).length = q / 6 := by rw [List.length_map, List.length_take]; omega
    have hfree : 32 ∉ (s.take (q / 6)).map sg := fun h => by
      obtain ⟨k, hkk, e⟩ := List.mem_map.mp h
      exact (sg_facts ⟨k, hk k (List.mem_of_mem_take hkk)⟩).1.2.2.2.2 e
    have hrf := (rfind_words (ws := ws) (fun w hw => (hw8 w hw).1) hfree).1
    rw [hP] at hrf
    obtain ⟨hb6, hl6⟩ := bits6 ⟨u ^^^ v, hx64⟩ (Nat.pos_iff_ne_zero.mp hx0)
    simp only at hb6 hl6
    rw [hxl] at hb6
    have e6 : 5 - (5 - q % 6) = q % 6 := six5 q
    rw [e6] at hb6
    clear e6 hxl hl6
    obtain ⟨r6, hr6⟩ : ∃ r6, _ = Int.ofNat (q % 6) :: r6 := ⟨_, head_cons hb6⟩
    clear hb6
    have hfd : (6 * ((p0 : Int) - 1 - (9 * (ws.length : Int) - 1)) + ((q % 6 : Nat) : Int)) = ((8 * oct + hb : Nat) : Int) := fd_eq e0 eq
    refine ⟨z, p0, ws ++ [(s.take (q / 6)).map sg ++ [120]], u, v, [], [], 9 * (ws.length : Int) - 1, q % 6, r6, z1, z2, z3, z4, z5, by rw [z6, z7]; exact hsg, by rw [ofL_len]; (first | lia | omega), z8, ?_, by simp, ?_, ?_, ?_, ?_, ?_, hu64, hv64, ?_, ?_, by (first | lia | omega), ?_, by (first | lia | omega), by (first | lia | omega), by (first | lia | omega), ?_, ?_, ?_⟩
    · rw [hcat, ofL_len, List.length_append, List.length_append, hPl, hts]; simp; (first | lia | omega)
    · intro w hw
      rcases List.mem_append.mp hw with hw | hw
      · obtain ⟨a, b⟩ := hw8 w hw
        refine ⟨fun e => (by rw [e] at a; cases a), fun c hc => ?_⟩
        obtain ⟨k, hk, rfl⟩ := b c hc
        exact sg_sign hk
      · rw [List.mem_singleton.mp hw]
        refine ⟨by simp, fun c hc => ?_⟩
        rcases List.mem_append.mp hc with hc | hc
        · obtain ⟨k, hkk, rfl⟩ := List.mem_map.mp hc
          exact sg_sign (hk k (List.mem_of_mem_take hkk))
        · rw [List.mem_singleton.mp hc]; exact x_sign
    · simp; (first | lia | omega)
    · rw [hcat, ofL_toList, joinW_jn, jn_last, hP]
    · rw [item_of z3, z6]; exact sg_index hu64
    · rw [item_of z4, z7]; exact sg_index hv64
    · rw [bitXor_nat]; (first | lia | omega)
    · rw [hsl]; exact hrf
    · rw [bitXor_nat]; exact hr6
    · simp
    · rw [hfd, Int.fdiv_eq_ediv_of_nonneg _ (by decide)]; (first | lia | omega)
    · rw [hfd, Int.fmod_eq_emod_of_nonneg _ (by decide)]; (first | lia | omega)
end
section
open PySem PySem.W PyProof.Rows PySem.Spec PySem.Calls
theorem jn_cons (c : Nat) : ∀ (w : List Nat) (r : List (List Nat)), jn c (w :: r) = w ++ r.flatMap fun v => c :: v
  | w, [] => by simp [jn]
  | w, v :: r => by
    show w ++ c :: jn c (v :: r) = _
    rw [jn_cons c v r]; simp
theorem jn_split (c : Nat) : ∀ (p : List (List Nat)) (w : List Nat) (r : List (List Nat)), jn c (p ++ w :: r) = (p.flatMap fun v => v ++ [c]) ++ (w ++ r.flatMap fun v => c :: v)
  | [], w, r => by rw [List.nil_append, jn_cons]; rfl
  | [v], w, r => by
    show v ++ c :: jn c (w :: r) = _
    rw [jn_cons]; simp
  | v :: u :: p, w, r => by
    show v ++ c :: jn c ((u :: p) ++ w :: r) = _
    rw [jn_split c (u :: p) w r]; simp
theorem lineOf_jn (nss : List (List Int)) : lineOf nss = ofL (jn 32 (nss.map wordCps)) := by
  apply str_ext
  unfold lineOf Txt.join
  rw [StrLaws.glued_eq_join, s_sp, join_list, List.map_map]
  rfl
/-- a row of six octets -/
def Row6 (r : List Int) : Prop := ∃ a b c d e f : Nat, (a < 256 ∧ b < 256 ∧ c < 256 ∧ d < 256 ∧ e < 256 ∧ f < 256) ∧ r = [(a : Int), (b : Int), (c : Int), (d : Int), (e : Int), (f : Int)]
theorem sx_lt {a b c d e f : Nat} (ha : a < 256) (hb : b < 256) (hc : c < 256) (hd : d < 256) (he : e < 256) (hf : f < 256) : ∀ k ∈ sx a b c d e f, k < 64 := by
  intro k hk
  simp only [sx, List.mem_cons, List.not_mem_nil, or_false] at hk
  rcases hk with rfl | rfl | rfl | rfl | rfl | rfl | rfl | rfl
  · exact b4 ha
  · exact b16 a hb
  · exact b64 b hc
  · exact bm c
  · exact b4 hd
  · exact b16 d he
  · exact b64 e hf
  · exact bm f
theorem cps_sx {a b c d e f : Nat} (ha : a < 256) (hb : b < 256) (hc : c < 256) (hd : d < 256) (he : e < 256) (hf : f < 256) : wordCps [(a : Int), (b : Int), (c : Int), (d : Int), (e : Int), (f : Int)] = (sx a b c d e f).map sg := by
  show (sixes (a : Int) b c d e f).map _ = _
  rw [sixes_sx ha hb hc hd he hf, List.map_map]
  rfl
theorem Row6.cps {r : List Int} (h : Row6 r) : ∃ s : List Nat, s.length = 8 ∧ (∀ k ∈ s, k < 64) ∧ wordCps r = s.map sg := by
  obtain ⟨a, b, c, d, e, f, ⟨ha, hb, hc, hd, he, hf⟩, rfl⟩ := h
  exact ⟨sx a b c d e f, rfl, sx_lt ha hb hc hd he hf, cps_sx ha hb hc hd he hf⟩
theorem Row6.rev {r : List Int} (h : Row6 r) : Row6 r.reverse := by
  obtain ⟨a, b, c, d, e, f, ⟨ha, hb, hc, hd, he, hf⟩, rfl⟩ := h
  exact ⟨f, e, d, c, b, a, ⟨hf, he, hd, hc, hb, ha⟩, rfl⟩
theorem row_row6 (nums : List Int) (i : Nat) : Row6 (rowOf nums i) := by
  obtain ⟨n0, n1, n2, n3, n4, n5, e, h⟩ := rowOf_six nums i
  have g : ∀ n ∈ [n0, n1, n2, n3, n4, n5], ∃ k : Nat, k < 256 ∧ n = (k : Int) := fun n hn => ⟨n.toNat, by have := h n hn; (first | lia | omega), by have := h n hn; (first | lia | omega)⟩
  obtain ⟨a, ha, rfl⟩ := g n0 (by simp)
  obtain ⟨b, hb, rfl⟩ := g n1 (by simp)
  obtain ⟨c, hc, rfl⟩ := g n2 (by simp)
  obtain ⟨d, hd, rfl⟩ := g n3 (by simp)
  obtain ⟨e', he, rfl⟩ := g n4 (by simp)
  obtain ⟨f, hf, rfl⟩ := g n5 (by simp)
  exact ⟨a, b, c, d, e', f, ⟨ha, hb, hc, hd, he, hf⟩, e⟩
theorem row_turn {r : List Int} {oct bt : Nat} (h : Row6 r) (ho : oct < 6) (h1 : 1 ≤ bt) (h2 : bt < 256) :
    ∃ s s' : List Nat, s.length = 8 ∧ s'.length = 8 ∧ (∀ k ∈ s, k < 64) ∧ (∀ k ∈ s', k < 64) ∧ wordCps r = s.map sg ∧ wordCps (r.set oct (Builtin.bitXor (r.getD oct 0) (bt : Int))) = s'.map sg ∧ Turns s s' (8 * oct + (7 - bt.log2)) := by
  obtain ⟨a, b, c, d, e, f, ⟨ha, hb, hc, hd, he, hf⟩, rfl⟩ := h
  have t := six_turns ha hb hc hd he hf (Nat.ne_of_gt h1) h2 ho
  have ga := xor_lt ha h2
  have gb := xor_lt hb h2
  have gc := xor_lt hc h2
  have gd := xor_lt hd h2
  have ge := xor_lt he h2
  have gf := xor_lt hf h2
  rcases (by (first | lia | omega) : oct = 0 ∨ oct = 1 ∨ oct = 2 ∨ oct = 3 ∨ oct = 4 ∨ oct = 5) with rfl | rfl | rfl | rfl | rfl | rfl
  · exact ⟨_, sx (a ^^^ bt) b c d e f, rfl, rfl, sx_lt ha hb hc hd he hf, sx_lt ga hb hc hd he hf, cps_sx ha hb hc hd he hf, by rw [← cps_sx ga hb hc hd he hf, ← bitXor_nat]; rfl, t⟩
  · exact ⟨_, sx a (b ^^^ bt) c d e f, rfl, rfl, sx_lt ha hb hc hd he hf, sx_lt ha gb hc hd he hf, cps_sx ha hb hc hd he hf, by rw [← cps_sx ha gb hc hd he hf, ← bitXor_nat]; rfl, t⟩
  · exact ⟨_, sx a b (c ^^^ bt) d e f, rfl, rfl, sx_lt ha hb hc hd he hf, sx_lt ha hb gc hd he hf, cps_sx ha hb hc hd he hf, by rw [← cps_sx ha hb gc hd he hf, ← bitXor_nat]; rfl, t⟩
  · exact ⟨_, sx a b c (d ^^^ bt) e f, rfl, rfl, sx_lt ha hb hc hd he hf, sx_lt ha hb hc gd he hf, cps_sx ha hb hc hd he hf, by rw [← cps_sx ha hb hc gd he hf, ← bitXor_nat]; rfl, t⟩
  · exact ⟨_, sx a b c d (e ^^^ bt) f, rfl, rfl, sx_lt ha hb hc hd he hf, sx_lt ha hb hc hd ge hf, cps_sx ha hb hc hd he hf, by rw [← cps_sx ha hb hc hd ge hf, ← bitXor_nat]; rfl, t⟩
  · exact ⟨_, sx a b c d e (f ^^^ bt), rfl, rfl, sx_lt ha hb hc hd he hf, sx_lt ha hb hc hd he gf, cps_sx ha hb hc hd he hf, by rw [← cps_sx ha hb hc hd he gf, ← bitXor_nat]; rfl, t⟩
theorem tail_ok {rows : List (List Int)} (h : ∀ r ∈ rows, Row6 r) : ((rows.map wordCps).flatMap fun v => 32 :: v).length = 9 * rows.length ∧ ∀ c ∈ (rows.map wordCps).flatMap fun v => 32 :: v, Safe c := by
  induction rows with
  | nil => exact ⟨rfl, fun _ hc => nomatch hc⟩
  | cons r l ih =>
    obtain ⟨i1, i2⟩ := ih fun x hx => h x (.tail _ hx)
    obtain ⟨s, hs, hk, e⟩ := (h r (.head _)).cps
    rw [List.map_cons, List.flatMap_cons, e]
    refine ⟨by rw [List.length_append, i1]; simp [hs]; (first | lia | omega), fun c hc => ?_⟩
    rcases List.mem_append.mp hc with hc | hc
    · rcases List.mem_cons.mp hc with rfl | hc
      · exact .inl rfl
      · obtain ⟨k, hkk, rfl⟩ := List.mem_map.mp hc
        exact .inr ⟨k, hk k hkk, rfl⟩
    · exact i2 c hc
theorem other_split {p q : List (List Int)} {r : List Int} {oct : Nat} {bits : Int} {trn : Bool} : otherOf (p ++ r :: q) p.length oct bits trn = p ++ r.set oct (Builtin.bitXor (r.getD oct 0) bits) :: q.map fun x => if trn = true then x.reverse else x := by
  unfold otherOf stOther
  apply List.ext_getElem?
  intro i
  rw [List.getElem?_mapIdx]
  rcases Nat.lt_trichotomy i p.length with h | h | h
  · rw [List.getElem?_append_left h, List.getElem?_append_left h]
    cases e : p[i]? with
    | none => rfl
    | some x => simp [Nat.ne_of_lt h, Nat.not_lt_of_lt h]
  · subst h
    rw [List.getElem?_append_right (Nat.le_refl _), List.getElem?_append_right (Nat.le_refl _), Nat.sub_self]
    simp
  · obtain ⟨k, rfl⟩ : ∃ k, i = p.length + (k + 1) := ⟨i - p.length - 1, by (first | lia | omega)⟩
    rw [List.getElem?_append_right (by (first | lia | omega)), List.getElem?_append_right (by (first | lia | omega)), Nat.add_sub_cancel_left, List.getElem?_cons_succ, List.getElem?_cons_succ, List.getElem?_map]
    cases e : q[k]? with
    | none => rfl
    | some x =>
      have hk := (List.getElem?_eq_some_iff.mp e).1
      have h1 : ¬ p.length + (k + 1) = p.length := by (first | lia | omega)
      have h2 : p.length < p.length + (k + 1) := by (first | lia | omega)
      have h3 : p.length + (k + 1) < (p ++ r :: q).length := by rw [List.length_append, List.length_cons]; (first | lia | omega)
      simp only [Option.map_some, if_neg h1]
      cases trn <;> simp [h2]
      (first | lia | omega)
theorem plain_rows {p q : List (List Int)} {r : List Int} {oct bt : Nat} {trn : Bool} (hp : ∀ x ∈ p, Row6 x) (hr : Row6 r) (hq : ∀ x ∈ q, Row6 x) (hl : p.length + 1 + q.length = 10) (ho : oct < 6) (h1 : 1 ≤ bt) (h2 : bt < 256) :
    Plain (lineOf (p ++ r :: q)) (lineOf (otherOf (p ++ r :: q) p.length oct (bt : Int) trn)) p.length oct bt := by
  obtain ⟨s, s', l1, l2, k1, k2, c1, c2, t⟩ := row_turn hr ho h1 h2
  have hq' : ∀ x ∈ q.map fun x => if trn = true then x.reverse else x, Row6 x := fun x hx => by
    obtain ⟨y, hy, rfl⟩ := List.mem_map.mp hx
    cases trn
    · exact hq y hy
    · exact (hq y hy).rev
  obtain ⟨a1, a2⟩ := tail_ok hq
  obtain ⟨b1, b2⟩ := tail_ok hq'
  rw [other_split, lineOf_jn, lineOf_jn, List.map_append, List.map_cons, List.map_append, List.map_cons, jn_split, jn_split, c1, c2]
  have e : p.length = (p.map wordCps).length := by simp
  rw [e]
  refine plain_core (fun w hw => ?_) (by simp; (first | lia | omega)) l1 l2 k1 k2 ?_ ?_ a2 b2 ho h1 h2 t
  · obtain ⟨x, hx, rfl⟩ := List.mem_map.mp hw
    obtain ⟨z, z1, z2, z3⟩ := (hp x hx).cps
    rw [z3]
    refine ⟨by rw [List.length_map, z1], fun c hc => ?_⟩
    obtain ⟨k, hk, rfl⟩ := List.mem_map.mp hc
    exact ⟨k, z2 k hk, rfl⟩
  · rw [a1, List.length_map]; (first | lia | omega)
  · rw [b1, List.length_map, List.length_map]; (first | lia | omega)
theorem plain_holds (ns : List Int) (word oct bt : Nat) (trn : Bool) (hw : word < 10) (ho : oct < 6) (h1 : 1 ≤ bt) (h2 : bt < 256) : Plain (lineOf (wordsOf ns)) (lineOf (otherOf (wordsOf ns) word oct (bt : Int) trn)) word oct bt := by
  have hl : (wordsOf ns).length = 10 := by simp [wordsOf]
  have h6 : ∀ x ∈ wordsOf ns, Row6 x := fun x hx => by
    obtain ⟨i, _, rfl⟩ := List.mem_map.mp hx
    exact row_row6 _ i
  have e : wordsOf ns = (wordsOf ns).take word ++ (wordsOf ns)[word]'(by (first | lia | omega)) :: (wordsOf ns).drop (word + 1) := by
    rw [← List.drop_eq_getElem_cons, List.take_append_drop]
  have hp : ((wordsOf ns).take word).length = word := by rw [List.length_take]; (first | lia | omega)
  have main := plain_rows (p := (wordsOf ns).take word) (r := (wordsOf ns)[word]'(by (first | lia | omega))) (q := (wordsOf ns).drop (word + 1)) (oct := oct) (bt := bt) (trn := trn) (fun x hx => h6 x (List.mem_of_mem_take hx)) (h6 _ (List.getElem_mem _)) (fun x hx => h6 x (List.mem_of_mem_drop hx)) (by rw [hp, List.length_drop]; (first | lia | omega)) ho h1 h2
  rw [← e, hp] at main
  exact main
end
section
open PySem PySem.W PyProof.Rows PySem.Spec PySem.Calls
set_option maxRecDepth 100000
set_option maxHeartbeats 0
theorem rows41 : True := by
  k_with_none
  exact trivial
theorem law_holds : PySem.Challenge.rw_in0127_01.Holds := by
  refine hd ?_
  intro w s₀ s₁ mg mb G Y fa o pm cd doc dV kV ho hd hcd hD hmg hg args vals as hpre hlay hrd hwl hlo
  have KX : (KA w.params).In s₁.heap := kIn_of Y
  have T := G.T
  w_on
  wrow_args hpre hlay hrd hwl hlo
  refine enter_call ?_
  rename IntsAre _ _ => hI
  rename Heap.IsList _ _ _ => hL
  rename List Int => ns
  rename ¬(_ < _) => hc
  have hf := hmg.symm.trans (mg_of (inK KX) T.g (v := .ref 855) (n := "law") (by kernel_rfl))
  cases hf
  refine law_core KX T hL hI (by omega) hg (fun word oct bt trn h1 h2 h3 h4 => plain_holds ns word oct bt trn h1 h2 h3 h4) (fun s' hK ho hB => ?_)
  refine ⟨.inl ⟨_, _, [], rfl, ?_, ReadsW.bool _, ?_, ?_⟩, hK, ho, hB⟩
  · exact fun _ => rfl
  · wrow_post
  · exact fun _ => ⟨List.nodup_nil, fun _ hm => (nomatch hm)⟩
end
end Mine
open PySem PySem.W PyProof.Rows
theorem PySem.Challenge.cw_in0127_01_holds : PySem.Challenge.rw_in0127_01.Holds := by
  exact Mine.law_holds
