import PyProof.Rows.All
import Wide.All
import OpenK.AllK
import Wide.FinOn
import Lean
import PySem.Challenge.RW_in0150_01
set_option Elab.async false
set_option maxRecDepth 100000
set_option maxHeartbeats 0
set_option genSizeOfSpec false
set_option genInjectivity false
set_option linter.all false
open PySem PySem.W PyProof.Rows PySem.Calls
noncomputable section
local macro_rules | `(tactic| k_all) => `(tactic| k_extra "k_all")
local macro_rules | `(tactic| k_ne) => `(tactic| k_extra "k_ne")
local macro_rules | `(tactic| k_upd) => `(tactic| k_extra "k_upd")
local macro_rules | `(tactic| k_updF) => `(tactic| k_extra "k_updF")
local macro_rules | `(tactic| k_handed) => `(tactic| k_extra "k_handed")
local macro_rules | `(tactic| walk_at $s:str) => `(tactic| k_extra $s)
local macro_rules | `(tactic| omega) => `(tactic| k_extra "om")
section
namespace Mine
theorem rm0 {d n r : Nat} (h : d + n < r) : d < r := Nat.lt_of_le_of_lt (Nat.le_add_right _ _) h
theorem rm1 {d n r a : Nat} (h : d + n < r) (e : Nat.ble a n = true) : d + a < r := Nat.lt_of_le_of_lt (Nat.add_le_add_left (Nat.le_of_ble_eq_true e) _) h
theorem rm2 {d n r a b : Nat} (h : d + n < r) (e : Nat.ble (a + b) n = true) : d + a + b < r := (Nat.add_assoc d a b).symm ▸ rm1 h e
theorem rm3 {d n r a b c : Nat} (h : d + n < r) (e : Nat.ble (a + b + c) n = true) : d + a + b + c < r := (Nat.add_assoc d a b).symm ▸ rm2 (a := a + b) h e
theorem rm4 {d n r a b c f : Nat} (h : d + n < r) (e : Nat.ble (a + b + c + f) n = true) : d + a + b + c + f < r := (Nat.add_assoc d a b).symm ▸ rm3 (a := a + b) h e
theorem lt_i {a b : Nat} (h : a < b) : (a : Int) < b := Int.ofNat_lt.mpr h
theorem nlt_i {a b : Nat} (h : b ≤ a) : ¬ (a : Int) < b := Int.not_lt.mpr (Int.ofNat_le.mpr h)
theorem nneg_i {a : Nat} : ¬ (a : Int) < 0 := Int.not_lt.mpr (Int.natCast_nonneg a)
theorem le_big {a n m : Nat} (h : a ≤ n) (e : Nat.ble n m = true) : a ≤ m := Nat.le_trans h (Nat.le_of_ble_eq_true e)
theorem cons_lt {r b t : Nat} (h : r + b + 1 = t) : b < t := h ▸ Nat.lt_succ_of_le (Nat.le_add_left _ _)
end Mine
end
namespace Mine
theorem om0 : True := by
  k_with "om" => (with_reducible first|assumption|exact rm1 (by assumption) rfl|exact rm0 (by assumption)|exact Nat.le_of_lt (by assumption)|exact Nat.le_add_right _ _|exact Nat.le_add_left _ _|exact Nat.lt_succ_self _|exact Nat.succ_pos _|exact Nat.lt_of_not_le (by assumption)|exact Nat.le_of_not_lt (by assumption)|exact Nat.le_of_not_le (by assumption)|exact Nat.le_of_lt (Nat.lt_of_not_le (by assumption))|exact lt_i (by assumption)|exact nlt_i (by assumption)|exact nneg_i|exact le_big (by assumption) rfl|exact Nat.le_of_succ_le_succ (by assumption)|exact Nat.eq_zero_of_le_zero (by assumption)|exact Nat.add_comm _ _)
  exact True.intro
end Mine
section
namespace Mine
noncomputable abbrev Stp := SharedT → Thread → Option (SharedT × Thread)
noncomputable def impT (stp : Stp) (ax : Thread → Option (List Value)) : Nat → SharedT → Thread → Option SharedT
  | 0, _, _ => none
  | n + 1, s, t => match ax t with
    | some [] => some s
    | some (_ :: _) => none
    | none => match stp s t with
      | some (s', t') => impT stp ax n s' t'
      | none => none
theorem impT_of {tb : String → Option Builtin} {p : Program} {w : World} : ∀ {n : Nat} {s s' : SharedT} {t : Thread}, impT (stepT (denote tb) p w) Thread.atExitBegin n s t = some s' → importEnds tb p w n s.abs t = some s'.abs
  | 0, _, _, _, h => by cases h
  | n + 1, s, s', t, h => by
    unfold impT at h
    unfold importEnds
    cases he : t.atExitBegin with
    | some x =>
      rw [he] at h
      cases x with
      | nil => cases h; rfl
      | cons a r => cases h
    | none =>
      rw [he] at h
      cases hs : stepT (denote tb) p w s t with
      | none => rw [hs] at h; cases h
      | some r => obtain ⟨s₂, t₂⟩ := r; rw [hs] at h; dsimp only; rw [stepT_spec hs]; exact impT_of h
noncomputable def runT (stp : Stp) (ok : Thread → Bool) : Nat → SharedT → Thread → Option SharedT
  | 0, _, _ => none
  | n + 1, s, t => match through t with
    | true => some s
    | false => match ok t with
      | false => none
      | true => match stp s t with
        | some (s', t') => runT stp ok n s' t'
        | none => none
theorem runT_of {tb : String → Option Builtin} {p : Program} {w : World} {n₀ : Nat} {ann : Option Value} : ∀ {n : Nat} {s s' : SharedT} {t : Thread}, runT (stepT (denote tb) p w) (stepOk n₀ ann) n s t = some s' → topRun tb p w n₀ ann n s.abs t = some s'.abs
  | 0, _, _, _, h => by cases h
  | n + 1, s, s', t, h => by
    unfold runT at h
    unfold topRun
    cases he : through t with
    | true => rw [he] at h; cases h; rfl
    | false =>
      rw [he] at h
      cases hk : stepOk n₀ ann t with
      | false => rw [hk] at h; cases h
      | true =>
        rw [hk] at h
        cases hs : stepT (denote tb) p w s t with
        | none => rw [hs] at h; cases h
        | some r => obtain ⟨s₂, t₂⟩ := r; rw [hs] at h; dsimp only; rw [stepT_spec hs]; exact runT_of h
noncomputable def layT : List Obj → BT → Nat → Option (BT × Nat)
  | [], t, n => some (t, n)
  | o :: r, t, n => match ((t.ins n o).get n).isSome with
    | true => layT r (t.ins n o) (n + 1)
    | false => none
theorem layT_of {life : Life} : ∀ {l : List Obj} {t t' : BT} {n n' : Nat} {pre : Array Obj}, layT l t n = some (t', n') → absHeap t n life = ⟨pre, life⟩ → absHeap t' n' life = ⟨pre ++ l.toArray, life⟩
  | [], _, _, _, _, pre, h, e => by cases h; simpa using e
  | o :: r, t, t', n, n', pre, h, e => by
    unfold layT at h
    cases hs : ((t.ins n o).get n).isSome with
    | false => rw [hs] at h; cases h
    | true =>
      rw [hs] at h
      have e2 := absHeap_ins (life := life) hs
      rw [e] at e2
      have := layT_of (pre := pre.push o) h e2
      rw [this]
      congr 1
      apply Array.ext'
      simp
noncomputable def toT (s : Shared) : Option SharedT := match layT s.heap.objs.toList .nil 0 with
  | some (t, n) => some ⟨t, n, s.heap.life, s.gens, s.drawn, s.toks, s.os⟩
  | none => none
theorem toT_of {s : Shared} {S : SharedT} (h : toT s = some S) : S.abs = s := by
  unfold toT at h
  cases hl : layT s.heap.objs.toList .nil 0 with
  | none => rw [hl] at h; cases h
  | some r =>
    obtain ⟨t, n⟩ := r
    rw [hl] at h
    cases h
    have := layT_of (life := s.heap.life) (pre := #[]) hl rfl
    obtain ⟨⟨objs, life⟩, gens, drawn, toks, os⟩ := s
    unfold SharedT.abs
    dsimp only at this ⊢
    rw [this]
    simp
noncomputable def topT (mods : List Str) (names : Program → Heap → Bool) (st : List Str → Heap → Heap → Bool) (nm : Heap → Addr → Str → Option Value) (stp : Stp) (ok : Nat → Option Value → Thread → Bool) (p : Program) (N : Nat) (s₀ : Shared) : Option Shared :=
  match s₀.heap.isNs mainGlobals && s₀.gens.size == 0 with
  | false => none
  | true => match toT s₀ with
    | none => none
    | some S₀ => match runT stp (ok s₀.heap.objs.size (nm s₀.heap mainGlobals "__annotations__")) N S₀ (topStub p) with
      | none => none
      | some S₁ => match st mods s₀.heap S₁.abs.heap && names p S₁.abs.heap && gensDone S₁.abs && laidKept s₀.heap S₁.abs.heap with
        | true => some S₁.abs
        | false => none
theorem topT_of {p : Program} {w : World} {N : Nat} {s₀ s : Shared} (h : topT (importedModules p.main.body) namesBound staticsOk Heap.nsMap (stepT (denote treeTable) p w) stepOk p N s₀ = some s) : topFrom treeTable p w N s₀ = some s := by
  unfold topT at h
  unfold topFrom
  cases h1 : (s₀.heap.isNs mainGlobals && s₀.gens.size == 0) with
  | false => rw [h1] at h; cases h
  | true =>
    rw [h1] at h
    cases h2 : toT s₀ with
    | none => rw [h2] at h; cases h
    | some S₀ =>
      rw [h2] at h
      dsimp only at h ⊢
      cases h3 : runT (stepT (denote treeTable) p w) (stepOk s₀.heap.objs.size (s₀.heap.nsMap mainGlobals "__annotations__")) N S₀ (topStub p) with
      | none => rw [h3] at h; cases h
      | some S₁ =>
        rw [h3] at h
        have r := runT_of h3
        rw [toT_of h2] at r
        rw [r]
        exact h
noncomputable def opT (imp : Option SharedT) (fence : Shared → Option Shared) (top : Shared → Option Shared) : Option Shared :=
  match imp with
  | none => none
  | some s => match fence s.abs with
    | none => none
    | some s₀ => top s₀
noncomputable abbrev t0 : SharedT := ⟨.nil, 0, {}, #[], {}, 1, {}⟩
theorem opT_of {p : Program} {w : World} {N : Nat} {s : Shared} {T : SharedT} (ha : T.abs = (start (opening p)).1)
    (h : opT (impT (stepT (denote treeTable) (opening p) w) Thread.atExitBegin N T (start (opening p)).2) (fenceModules? p)
      (topT (importedModules p.main.body) namesBound staticsOk Heap.nsMap (stepT (denote treeTable) p w) stepOk p N) = some s) : openEnds treeTable p w N = some s := by
  unfold opT at h
  unfold openEnds fencedOpening
  cases h1 : impT (stepT (denote treeTable) (opening p) w) Thread.atExitBegin N T (start (opening p)).2 with
  | none => rw [h1] at h; cases h
  | some S =>
    rw [h1] at h
    have r := impT_of h1
    rw [ha] at r
    rw [r]
    show ((fenceModules? p S.abs).bind _) = _
    dsimp only at h
    cases h2 : fenceModules? p S.abs with
    | none => rw [h2] at h; cases h
    | some s₀ =>
      rw [h2] at h
      exact topT_of h
theorem left_of {p q : Program} {loose : List Str} {Xt : Shared → Bool} {α : Type} {Yf : Shared → α} {Ya : World → α} {N : Nat} {T : SharedT} (ha : T.abs = (start (opening p)).1)
    (h : ∀ w, (opT (impT (stepT (denote treeTable) (opening p) w) Thread.atExitBegin N T (start (opening p)).2) (fenceModules? p)
      (topT (importedModules p.main.body) namesBound staticsOk Heap.nsMap (stepT (denote treeTable) p w) stepOk p N)).map (fun s => (openSeen q loose (importedModules p.main.body) Xt true s, Yf s)) = some (openGood q loose, Ya w)) : LeftO p q loose Xt Yf Ya N := fun w => by
  obtain ⟨s, e, f⟩ := Option.map_eq_some_iff.mp (h w)
  rw [opT_of ha e]
  exact congrArg some f
noncomputable def stN : List Stmt → Nat → Stmt
  | s :: _, 0 => s
  | _ :: r, n + 1 => stN r n
  | [], _ => default
noncomputable def clB : Stmt → List Stmt
  | .ClassDef _ _ _ b _ _ _ _ _ _ _ => b
  | _ => []
noncomputable def FO (s : Stmt) (name qual : Str) (g : Addr) (cl : List (Str × Addr)) (dV kV doc pm : Value) (an : Option Addr) (cd ct : Value) (bi : Addr) (sl : Array (Option Value)) : Obj := match s with
  | .FunctionDef _ args body _ _ _ scope _ _ _ => ⟨.type "function", none, .func { name, qualname := qual, params := args, body := .stmts body, scope, globals := g, closure := cl, defaults := dV, kwdefaults := kV, doc, pyModule := pm, annotations := an, code := cd, closureTuple := ct, builtins := bi }, sl⟩
  | _ => default
noncomputable abbrev P0 : Program := PySem.Challenge.pw_in0150_01
noncomputable def qv : Program := view P0 [0, 38]
noncomputable def loose0 : List Str := ["_wall", "read_uint1", "read_string1", "_Example", "_whence", "_index", "UnsupportedOperation", "IOBase", "BufferedIOBase", "TextIOBase", "BytesIO", "StringIO", "_kind", "_fspath", "_check_arg_types", "isabs", "join", "dirname", "shlex", "_law_frame", "_law_taken", "_law_stream", "_law_frame_came", "_law_sign", "_law_line", "_law_lexer", "_law_told", "_law_behind_line", "_law_part", "_law_word", "_law_needed", "_law_walk"]
noncomputable def K : Params → Frag := fun P =>
  ((nat_lit 2), (Obj.mk Value.none none (Data.dict (List.toArray [(DictEntry.mk (PyData.keyHash P (Str.ofString "i\x6dport.loaded._collections")) (Value.str (Str.ofString "i\x6dport.loaded._collections") 185) (Value.bool Bool.true)), (DictEntry.mk (PyData.keyHash P (Str.ofString "class._frozen_importlib.BuiltinImporter")) (Value.str (Str.ofString "class._frozen_importlib.BuiltinImporter") 187) (Value.ref 15)), (DictEntry.mk (PyData.keyHash P (Str.ofString "watched.i\x6dport")) (Value.str (Str.ofString "watched.i\x6dport") 208) (Value.ref 19)), (DictEntry.mk (PyData.keyHash P (Str.ofString "class._frozen_importlib.ModuleSpec")) (Value.str (Str.ofString "class._frozen_importlib.ModuleSpec") 218) (Value.ref 23)), (DictEntry.mk (PyData.keyHash P (Str.ofString "sys.modules.booked-epoch")) (Value.str (Str.ofString "sys.modules.booked-epoch") 247) (Value.int 3 0)), (DictEntry.mk (PyData.keyHash P (Str.ofString "sys.modules.landed._collections")) (Value.str (Str.ofString "sys.modules.landed._collections") 248) (Value.bool Bool.true)), (DictEntry.mk (PyData.keyHash P (Str.ofString "i\x6dport.later-laid._collections")) (Value.str (Str.ofString "i\x6dport.later-laid._collections") 263) (Value.bool Bool.true)), (DictEntry.mk (PyData.keyHash P (Str.ofString "watched.library")) (Value.str (Str.ofString "watched.library") 265) (Value.ref 28)), (DictEntry.mk (PyData.keyHash P (Str.ofString "watched.library-objects")) (Value.str (Str.ofString "watched.library-objects") 0) (Value.str (Str.ofString "\r") 0)), (DictEntry.mk (PyData.keyHash P (Str.ofString "watched.library-deep._collections")) (Value.str (Str.ofString "watched.library-deep._collections") 266) (Value.str (Str.ofString "\x04\x00\x00\x0c\x04\x00\x00\x0c\x04\x00\x00\x03\x04\x00\x00\x0c\x08\x04dict\x02") 0)), (DictEntry.mk (PyData.keyHash P (Str.ofString "type.__subclasses__.OSError.0")) (Value.str (Str.ofString "type.__subclasses__.OSError.0") 370) (Value.int 98 0)), (DictEntry.mk (PyData.keyHash P (Str.ofString "type.__subclasses__.OSError.n")) (Value.str (Str.ofString "type.__subclasses__.OSError.n") 371) (Value.int 1 0))]) 12) (List.toArray []))) ::
  ((nat_lit 3), (Obj.mk (Value.type "dict") none (Data.dict (List.toArray ((DictEntry.mk (PyData.keyHash P (Str.ofString "__name__")) (Value.str (Str.ofString "__name__") 165) (Value.str (Str.ofString "law_in0150_01") 1190)) :: (DictEntry.mk (PyData.keyHash P (Str.ofString "__doc__")) (Value.str (Str.ofString "__doc__") 166) Value.none) :: (DictEntry.mk (PyData.keyHash P (Str.ofString "__package__")) (Value.str (Str.ofString "__package__") 167) Value.none) :: (DictEntry.mk (PyData.keyHash P (Str.ofString "__loader__")) (Value.str (Str.ofString "__loader__") 168) (Value.builtin "__main__.__loader__#opaque")) :: (DictEntry.mk (PyData.keyHash P (Str.ofString "__spec__")) (Value.str (Str.ofString "__spec__") 169) Value.none) :: (DictEntry.mk (PyData.keyHash P (Str.ofString "__annotations__")) (Value.str (Str.ofString "__annotations__") 170) (Value.ref 6)) :: (DictEntry.mk (PyData.keyHash P (Str.ofString "__builtins__")) (Value.str (Str.ofString "__builtins__") 171) (Value.ref 4)) :: (DictEntry.mk (PyData.keyHash P (Str.ofString "__file__")) (Value.str (Str.ofString "__file__") 173) (Value.str (Str.ofString "/claim/cut.py") 172)) :: (DictEntry.mk (PyData.keyHash P (Str.ofString "__cached__")) (Value.str (Str.ofString "__cached__") 174) Value.none) :: (DictEntry.mk (PyData.keyHash P (Str.ofString "deque")) (Value.str (Str.ofString "deque") 272) (Value.type "collections.deque")) :: (DictEntry.mk (PyData.keyHash P (Str.ofString "_wall")) (Value.str (Str.ofString "_wall") 285) (Value.ref 39)) :: (DictEntry.mk (PyData.keyHash P (Str.ofString "read_uint1")) (Value.str (Str.ofString "read_uint1") 295) (Value.ref 46)) :: (DictEntry.mk (PyData.keyHash P (Str.ofString "read_string1")) (Value.str (Str.ofString "read_string1") 304) (Value.ref 53)) :: (DictEntry.mk (PyData.keyHash P (Str.ofString "_Example")) (Value.str (Str.ofString "_Example") 333) (Value.ref 70)) :: (DictEntry.mk (PyData.keyHash P (Str.ofString "_whence")) (Value.str (Str.ofString "_whence") 343) (Value.ref 81)) :: (DictEntry.mk (PyData.keyHash P (Str.ofString "_index")) (Value.str (Str.ofString "_index") 351) (Value.ref 88)) :: (DictEntry.mk (PyData.keyHash P (Str.ofString "UnsupportedOperation")) (Value.str (Str.ofString "UnsupportedOperation") 373) (Value.ref 98)) :: (DictEntry.mk (PyData.keyHash P (Str.ofString "IOBase")) (Value.str (Str.ofString "IOBase") 405) (Value.ref 118)) :: (DictEntry.mk (PyData.keyHash P (Str.ofString "BufferedIOBase")) (Value.str (Str.ofString "BufferedIOBase") 423) (Value.ref 133)) :: (DictEntry.mk (PyData.keyHash P (Str.ofString "TextIOBase")) (Value.str (Str.ofString "TextIOBase") 441) (Value.ref 145)) :: (DictEntry.mk (PyData.keyHash P (Str.ofString "BytesIO")) (Value.str (Str.ofString "BytesIO") 703) (Value.ref 375)) :: (DictEntry.mk (PyData.keyHash P (Str.ofString "StringIO")) (Value.str (Str.ofString "StringIO") 990) (Value.ref 622)) :: (DictEntry.mk (PyData.keyHash P (Str.ofString "_kind")) (Value.str (Str.ofString "_kind") 1001) (Value.ref 631)) :: (DictEntry.mk (PyData.keyHash P (Str.ofString "_fspath")) (Value.str (Str.ofString "_fspath") 1010) (Value.ref 638)) :: (DictEntry.mk (PyData.keyHash P (Str.ofString "_check_arg_types")) (Value.str (Str.ofString "_check_arg_types") 1020) (Value.ref 645)) :: (DictEntry.mk (PyData.keyHash P (Str.ofString "isabs")) (Value.str (Str.ofString "isabs") 1027) (Value.ref 652)) :: (DictEntry.mk (PyData.keyHash P (Str.ofString "join")) (Value.str (Str.ofString "join") 1038) (Value.ref 659)) :: (DictEntry.mk (PyData.keyHash P (Str.ofString "dirname")) (Value.str (Str.ofString "dirname") 1048) (Value.ref 666)) :: (DictEntry.mk (PyData.keyHash P (Str.ofString "shlex")) (Value.str (Str.ofString "shlex") 1189) (Value.ref 757)) :: (DictEntry.mk (PyData.keyHash P (Str.ofString "_law_frame")) (Value.str (Str.ofString "_law_frame") 1197) (Value.ref 766)) :: (DictEntry.mk (PyData.keyHash P (Str.ofString "_law_taken")) (Value.str (Str.ofString "_law_taken") 1206) (Value.ref 773)) :: (DictEntry.mk (PyData.keyHash P (Str.ofString "_law_stream")) (Value.str (Str.ofString "_law_stream") 1212) (Value.ref 778)) :: (DictEntry.mk (PyData.keyHash P (Str.ofString "_law_frame_came")) (Value.str (Str.ofString "_law_frame_came") 1221) (Value.ref 785)) :: (DictEntry.mk (PyData.keyHash P (Str.ofString "_law_sign")) (Value.str (Str.ofString "_law_sign") 1231) (Value.ref 792)) :: (DictEntry.mk (PyData.keyHash P (Str.ofString "_law_line")) (Value.str (Str.ofString "_law_line") 1242) (Value.ref 799)) :: (DictEntry.mk (PyData.keyHash P (Str.ofString "_law_lexer")) (Value.str (Str.ofString "_law_lexer") 1256) (Value.ref 806)) :: (DictEntry.mk (PyData.keyHash P (Str.ofString "_law_told")) (Value.str (Str.ofString "_law_told") 1264) (Value.ref 813)) :: (DictEntry.mk (PyData.keyHash P (Str.ofString "_law_behind_line")) (Value.str (Str.ofString "_law_behind_line") 1273) (Value.ref 820)) :: (DictEntry.mk (PyData.keyHash P (Str.ofString "_law_part")) (Value.str (Str.ofString "_law_part") 1279) (Value.ref 825)) :: (DictEntry.mk (PyData.keyHash P (Str.ofString "_law_word")) (Value.str (Str.ofString "_law_word") 1289) (Value.ref 832)) :: (DictEntry.mk (PyData.keyHash P (Str.ofString "_law_needed")) (Value.str (Str.ofString "_law_needed") 1299) (Value.ref 839)) :: (DictEntry.mk (PyData.keyHash P (Str.ofString "_law_walk")) (Value.str (Str.ofString "_law_walk") 1305) (Value.ref 844)) :: (DictEntry.mk (PyData.keyHash P (Str.ofString "law")) (Value.str (Str.ofString "law") 1311) (Value.ref 849)) :: [])) 43) (List.toArray []))) ::
  ((nat_lit 45), (Obj.mk (Value.type "code") none (Data.fields (List.toArray [(Value.str (Str.ofString "read_uint1") 288), (Value.str (Str.ofString "read_uint1") 289), (Value.str (Str.ofString "/claim/cut.py") 290), (Value.int 6 0), (Value.int 1 0), (Value.int 0 0), (Value.int 0 0), (Value.int 3 0), (Value.ref 40), (Value.bool Bool.true), (Value.int 273 0), (Value.ref 41), Value.none, (Value.ref 42), (Value.ref 43), (Value.ref 44), (Value.int 293 0), (Value.int 6 0), (Value.str (Str.ofString "/claim/cut.py") 294)])) (List.toArray []))) ::
  ((nat_lit 46), (FO (stN P0.main.body 3) (Str.ofString "read_uint1") (Str.ofString "read_uint1") 3 [] Value.none Value.none Value.none (Value.str (Str.ofString "cpy313.pickletools") 286) none (Value.ref 45) Value.none 0 (List.toArray []))) ::
  ((nat_lit 52), (Obj.mk (Value.type "code") none (Data.fields (List.toArray [(Value.str (Str.ofString "read_string1") 296), (Value.str (Str.ofString "read_string1") 297), (Value.str (Str.ofString "/claim/cut.py") 298), (Value.int 11 0), (Value.int 1 0), (Value.int 0 0), (Value.int 0 0), (Value.int 3 0), (Value.ref 47), (Value.bool Bool.true), (Value.int 273 0), (Value.ref 48), Value.none, (Value.ref 49), (Value.ref 50), (Value.ref 51), (Value.int 302 0), (Value.int 11 0), (Value.str (Str.ofString "/claim/cut.py") 303)])) (List.toArray []))) ::
  ((nat_lit 53), (FO (stN P0.main.body 4) (Str.ofString "read_string1") (Str.ofString "read_string1") 3 [] Value.none Value.none Value.none (Value.str (Str.ofString "cpy313.pickletools") 286) none (Value.ref 52) Value.none 0 (List.toArray []))) ::
  ((nat_lit 66), (Obj.mk (Value.type "code") none (Data.fields (List.toArray [(Value.str (Str.ofString "__init__") 317), (Value.str (Str.ofString "_Example.__init__") 318), (Value.str (Str.ofString "/claim/cut.py") 319), (Value.int 20 0), (Value.int 2 0), (Value.int 0 0), (Value.int 0 0), (Value.int 3 0), (Value.ref 61), (Value.bool Bool.true), (Value.int 273 0), (Value.ref 62), Value.none, (Value.ref 63), (Value.ref 64), (Value.ref 65), (Value.int 322 0), (Value.int 20 0), (Value.str (Str.ofString "/claim/cut.py") 323)])) (List.toArray []))) ::
  ((nat_lit 67), (FO (stN (clB (stN P0.main.body 5)) 0) (Str.ofString "__init__") (Str.ofString "_Example.__init__") 3 [] Value.none Value.none Value.none (Value.str (Str.ofString "cpy313.pickletools") 286) none (Value.ref 66) Value.none 0 (List.toArray []))) ::
  ((nat_lit 68), (Obj.mk (Value.type "tuple") none (Data.seq (List.toArray [(Value.str (Str.ofString "value") 325)]) 0) (List.toArray []))) ::
  ((nat_lit 69), (Obj.mk (Value.type "dict") none (Data.dict (List.toArray [(DictEntry.mk (PyData.keyHash P (Str.ofString "__module__")) (Value.str (Str.ofString "__module__") 312) (Value.str (Str.ofString "cpy313.pickletools") 286)), (DictEntry.mk (PyData.keyHash P (Str.ofString "__firstlineno__")) (Value.str (Str.ofString "__firstlineno__") 316) (Value.int 18 315)), (DictEntry.mk (PyData.keyHash P (Str.ofString "__init__")) (Value.str (Str.ofString "__init__") 324) (Value.ref 67)), (DictEntry.mk (PyData.keyHash P (Str.ofString "__static_attributes__")) (Value.str (Str.ofString "__static_attributes__") 326) (Value.ref 68)), (DictEntry.mk (PyData.keyHash P (Str.ofString "__dict__")) (Value.str (Str.ofString "__dict__") 328) (Value.ref 71)), (DictEntry.mk (PyData.keyHash P (Str.ofString "__weakref__")) (Value.str (Str.ofString "__weakref__") 330) (Value.ref 72)), (DictEntry.mk (PyData.keyHash P (Str.ofString "__doc__")) (Value.str (Str.ofString "__doc__") 331) Value.none)]) 4) (List.toArray []))) ::
  ((nat_lit 70), (Obj.mk (Value.type "type") none (Data.cls (ClassData.mk (Str.ofString "_Example") [(Value.type "object")] [(Value.ref 70), (Value.type "object")] 69 (Str.ofString "_Example") Bool.true [] [] Bool.false none Bool.false)) (List.toArray [none, none, (some (Value.str (Str.ofString "_Example") 305)), (some (Value.str (Str.ofString "_Example") 313)), (some (Value.builtin "object.__new__")), (some (Value.bool Bool.true))]))) ::
  ((nat_lit 71), (Obj.mk (Value.type "getset_descriptor") none (Data.fields (List.toArray [(Value.str (Str.ofString "__dict__") 327), (Value.ref 70), (Value.builtin "function.__dict__"), (Value.builtin "function.__dict__#set")])) (List.toArray []))) ::
  ((nat_lit 72), (Obj.mk (Value.type "getset_descriptor") none (Data.fields (List.toArray [(Value.str (Str.ofString "__weakref__") 329), (Value.ref 70), (Value.builtin "ExceptionGroup.__weakref__"), Value.none])) (List.toArray []))) ::
  ((nat_lit 674), (Obj.mk (Value.type "tuple") none (Data.seq (List.toArray [Value.none, Value.none, (Value.bool Bool.false), (Value.bool Bool.false)]) 0) (List.toArray []))) ::
  ((nat_lit 680), (Obj.mk (Value.type "code") none (Data.fields (List.toArray [(Value.str (Str.ofString "__init__") 1063), (Value.str (Str.ofString "shlex.__init__") 1064), (Value.str (Str.ofString "/claim/cut.py") 1065), (Value.int 489 0), (Value.int 5 0), (Value.int 0 0), (Value.int 0 0), (Value.int 3 0), (Value.ref 675), (Value.bool Bool.true), (Value.int 273 0), (Value.ref 676), Value.none, (Value.ref 677), (Value.ref 678), (Value.ref 679), (Value.int 1072 0), (Value.int 489 0), (Value.str (Str.ofString "/claim/cut.py") 1073)])) (List.toArray []))) ::
  ((nat_lit 681), (FO (stN (clB (stN P0.main.body 23)) 0) (Str.ofString "__init__") (Str.ofString "shlex.__init__") 3 [] (Value.ref 674) Value.none Value.none (Value.str (Str.ofString "cpy313.shlex") 1049) none (Value.ref 680) Value.none 0 (List.toArray []))) ::
  ((nat_lit 687), (Obj.mk (Value.type "code") none (Data.fields (List.toArray [(Value.str (Str.ofString "punctuation_chars") 1075), (Value.str (Str.ofString "shlex.punctuation_chars") 1076), (Value.str (Str.ofString "/claim/cut.py") 1077), (Value.int 530 0), (Value.int 1 0), (Value.int 0 0), (Value.int 0 0), (Value.int 3 0), (Value.ref 682), (Value.bool Bool.true), (Value.int 273 0), (Value.ref 683), Value.none, (Value.ref 684), (Value.ref 685), (Value.ref 686), (Value.int 1079 0), (Value.int 530 0), (Value.str (Str.ofString "/claim/cut.py") 1080)])) (List.toArray []))) ::
  ((nat_lit 688), (FO (stN (clB (stN P0.main.body 23)) 1) (Str.ofString "punctuation_chars") (Str.ofString "shlex.punctuation_chars") 3 [] Value.none Value.none Value.none (Value.str (Str.ofString "cpy313.shlex") 1049) none (Value.ref 687) Value.none 0 (List.toArray []))) ::
  ((nat_lit 689), (Obj.mk (Value.type "property") none (Data.fields (List.toArray [(Value.ref 688), Value.none, Value.none, Value.none, (Value.str (Str.ofString "punctuation_chars") 1082), (Value.bool Bool.false)])) (List.toArray []))) ::
  ((nat_lit 717), (Obj.mk (Value.type "code") none (Data.fields (List.toArray [(Value.str (Str.ofString "get_token") 1107), (Value.str (Str.ofString "shlex.get_token") 1108), (Value.str (Str.ofString "/claim/cut.py") 1109), (Value.int 557 0), (Value.int 1 0), (Value.int 0 0), (Value.int 0 0), (Value.int 3 0), (Value.ref 712), (Value.bool Bool.true), (Value.int 273 0), (Value.ref 713), Value.none, (Value.ref 714), (Value.ref 715), (Value.ref 716), (Value.int 1116 0), (Value.int 557 0), (Value.str (Str.ofString "/claim/cut.py") 1117)])) (List.toArray []))) ::
  ((nat_lit 718), (FO (stN (clB (stN P0.main.body 23)) 5) (Str.ofString "get_token") (Str.ofString "shlex.get_token") 3 [] Value.none Value.none Value.none (Value.str (Str.ofString "cpy313.shlex") 1049) none (Value.ref 717) Value.none 0 (List.toArray []))) ::
  ((nat_lit 724), (Obj.mk (Value.type "code") none (Data.fields (List.toArray [(Value.str (Str.ofString "read_token") 1119), (Value.str (Str.ofString "shlex.read_token") 1120), (Value.str (Str.ofString "/claim/cut.py") 1121), (Value.int 584 0), (Value.int 1 0), (Value.int 0 0), (Value.int 0 0), (Value.int 3 0), (Value.ref 719), (Value.bool Bool.true), (Value.int 273 0), (Value.ref 720), Value.none, (Value.ref 721), (Value.ref 722), (Value.ref 723), (Value.int 1127 0), (Value.int 584 0), (Value.str (Str.ofString "/claim/cut.py") 1128)])) (List.toArray []))) ::
  ((nat_lit 725), (FO (stN (clB (stN P0.main.body 23)) 6) (Str.ofString "read_token") (Str.ofString "shlex.read_token") 3 [] Value.none Value.none Value.none (Value.str (Str.ofString "cpy313.shlex") 1049) none (Value.ref 724) Value.none 0 (List.toArray []))) ::
  ((nat_lit 755), (Obj.mk (Value.type "tuple") none (Data.seq (List.toArray [(Value.str (Str.ofString "_punctuation_chars") 1162), (Value.str (Str.ofString "_pushback_chars") 1163), (Value.str (Str.ofString "commenters") 1164), (Value.str (Str.ofString "debug") 1165), (Value.str (Str.ofString "eof") 1166), (Value.str (Str.ofString "escape") 1167), (Value.str (Str.ofString "escapedquotes") 1168), (Value.str (Str.ofString "filestack") 1169), (Value.str (Str.ofString "infile") 1170), (Value.str (Str.ofString "instream") 1171), (Value.str (Str.ofString "lineno") 1172), (Value.str (Str.ofString "posix") 1173), (Value.str (Str.ofString "pushback") 1174), (Value.str (Str.ofString "quotes") 1175), (Value.str (Str.ofString "source") 1176), (Value.str (Str.ofString "state") 1177), (Value.str (Str.ofString "token") 1178), (Value.str (Str.ofString "whitespace") 1179), (Value.str (Str.ofString "whitespace_split") 1180), (Value.str (Str.ofString "wordchars") 1181)]) 0) (List.toArray []))) ::
  ((nat_lit 756), (Obj.mk (Value.type "dict") none (Data.dict (List.toArray [(DictEntry.mk (PyData.keyHash P (Str.ofString "__module__")) (Value.str (Str.ofString "__module__") 1058) (Value.str (Str.ofString "cpy313.shlex") 1049)), (DictEntry.mk (PyData.keyHash P (Str.ofString "__firstlineno__")) (Value.str (Str.ofString "__firstlineno__") 1062) (Value.int 487 1061)), (DictEntry.mk (PyData.keyHash P (Str.ofString "__init__")) (Value.str (Str.ofString "__init__") 1074) (Value.ref 681)), (DictEntry.mk (PyData.keyHash P (Str.ofString "punctuation_chars")) (Value.str (Str.ofString "punctuation_chars") 1082) (Value.ref 689)), (DictEntry.mk (PyData.keyHash P (Str.ofString "push_token")) (Value.str (Str.ofString "push_token") 1090) (Value.ref 696)), (DictEntry.mk (PyData.keyHash P (Str.ofString "push_source")) (Value.str (Str.ofString "push_source") 1099) (Value.ref 704)), (DictEntry.mk (PyData.keyHash P (Str.ofString "pop_source")) (Value.str (Str.ofString "pop_source") 1106) (Value.ref 711)), (DictEntry.mk (PyData.keyHash P (Str.ofString "get_token")) (Value.str (Str.ofString "get_token") 1118) (Value.ref 718)), (DictEntry.mk (PyData.keyHash P (Str.ofString "read_token")) (Value.str (Str.ofString "read_token") 1129) (Value.ref 725)), (DictEntry.mk (PyData.keyHash P (Str.ofString "sourcehook")) (Value.str (Str.ofString "sourcehook") 1137) (Value.ref 732)), (DictEntry.mk (PyData.keyHash P (Str.ofString "error_leader")) (Value.str (Str.ofString "error_leader") 1146) (Value.ref 740)), (DictEntry.mk (PyData.keyHash P (Str.ofString "__iter__")) (Value.str (Str.ofString "__iter__") 1153) (Value.ref 747)), (DictEntry.mk (PyData.keyHash P (Str.ofString "__next__")) (Value.str (Str.ofString "__next__") 1161) (Value.ref 754)), (DictEntry.mk (PyData.keyHash P (Str.ofString "__static_attributes__")) (Value.str (Str.ofString "__static_attributes__") 1182) (Value.ref 755)), (DictEntry.mk (PyData.keyHash P (Str.ofString "__dict__")) (Value.str (Str.ofString "__dict__") 1184) (Value.ref 758)), (DictEntry.mk (PyData.keyHash P (Str.ofString "__weakref__")) (Value.str (Str.ofString "__weakref__") 1186) (Value.ref 759)), (DictEntry.mk (PyData.keyHash P (Str.ofString "__doc__")) (Value.str (Str.ofString "__doc__") 1187) Value.none)]) 4) (List.toArray []))) ::
  ((nat_lit 757), (Obj.mk (Value.type "type") none (Data.cls (ClassData.mk (Str.ofString "shlex") [(Value.type "object")] [(Value.ref 757), (Value.type "object")] 756 (Str.ofString "shlex") Bool.true [] [] Bool.false none Bool.false)) (List.toArray [none, none, (some (Value.str (Str.ofString "shlex") 1051)), (some (Value.str (Str.ofString "shlex") 1059)), (some (Value.builtin "object.__new__")), (some (Value.bool Bool.true))]))) ::
  ((nat_lit 758), (Obj.mk (Value.type "getset_descriptor") none (Data.fields (List.toArray [(Value.str (Str.ofString "__dict__") 1183), (Value.ref 757), (Value.builtin "function.__dict__"), (Value.builtin "function.__dict__#set")])) (List.toArray []))) ::
  ((nat_lit 759), (Obj.mk (Value.type "getset_descriptor") none (Data.fields (List.toArray [(Value.str (Str.ofString "__weakref__") 1185), (Value.ref 757), (Value.builtin "ExceptionGroup.__weakref__"), Value.none])) (List.toArray []))) ::
  ((nat_lit 765), (Obj.mk (Value.type "code") none (Data.fields (List.toArray [(Value.str (Str.ofString "_law_frame") 1192), (Value.str (Str.ofString "_law_frame") 1193), (Value.str (Str.ofString "/claim/cut.py") 1194), (Value.int 740 0), (Value.int 1 0), (Value.int 0 0), (Value.int 0 0), (Value.int 3 0), (Value.ref 762), (Value.bool Bool.true), (Value.int 273 0), (Value.ref 763), Value.none, Value.none, Value.none, (Value.ref 764), (Value.int 1195 0), (Value.int 740 0), (Value.str (Str.ofString "/claim/cut.py") 1196)])) (List.toArray []))) ::
  ((nat_lit 766), (FO (stN P0.main.body 25) (Str.ofString "_law_frame") (Str.ofString "_law_frame") 3 [] Value.none Value.none Value.none (Value.str (Str.ofString "law_in0150_01") 1190) none (Value.ref 765) Value.none 0 (List.toArray []))) ::
  ((nat_lit 772), (Obj.mk (Value.type "code") none (Data.fields (List.toArray [(Value.str (Str.ofString "_law_taken") 1198), (Value.str (Str.ofString "_law_taken") 1199), (Value.str (Str.ofString "/claim/cut.py") 1200), (Value.int 744 0), (Value.int 2 0), (Value.int 0 0), (Value.int 0 0), (Value.int 3 0), (Value.ref 767), (Value.bool Bool.true), (Value.int 273 0), (Value.ref 768), Value.none, (Value.ref 769), (Value.ref 770), (Value.ref 771), (Value.int 1204 0), (Value.int 744 0), (Value.str (Str.ofString "/claim/cut.py") 1205)])) (List.toArray []))) ::
  ((nat_lit 773), (FO (stN P0.main.body 26) (Str.ofString "_law_taken") (Str.ofString "_law_taken") 3 [] Value.none Value.none Value.none (Value.str (Str.ofString "law_in0150_01") 1190) none (Value.ref 772) Value.none 0 (List.toArray []))) ::
  ((nat_lit 777), (Obj.mk (Value.type "code") none (Data.fields (List.toArray [(Value.str (Str.ofString "_law_stream") 1207), (Value.str (Str.ofString "_law_stream") 1208), (Value.str (Str.ofString "/claim/cut.py") 1209), (Value.int 748 0), (Value.int 1 0), (Value.int 0 0), (Value.int 0 0), (Value.int 3 0), (Value.ref 774), (Value.bool Bool.true), (Value.int 273 0), (Value.ref 775), Value.none, Value.none, Value.none, (Value.ref 776), (Value.int 1210 0), (Value.int 748 0), (Value.str (Str.ofString "/claim/cut.py") 1211)])) (List.toArray []))) ::
  ((nat_lit 778), (FO (stN P0.main.body 27) (Str.ofString "_law_stream") (Str.ofString "_law_stream") 3 [] Value.none Value.none Value.none (Value.str (Str.ofString "law_in0150_01") 1190) none (Value.ref 777) Value.none 0 (List.toArray []))) ::
  ((nat_lit 784), (Obj.mk (Value.type "code") none (Data.fields (List.toArray [(Value.str (Str.ofString "_law_frame_came") 1213), (Value.str (Str.ofString "_law_frame_came") 1214), (Value.str (Str.ofString "/claim/cut.py") 1215), (Value.int 755 0), (Value.int 2 0), (Value.int 0 0), (Value.int 0 0), (Value.int 3 0), (Value.ref 779), (Value.bool Bool.true), (Value.int 273 0), (Value.ref 780), Value.none, (Value.ref 781), (Value.ref 782), (Value.ref 783), (Value.int 1219 0), (Value.int 755 0), (Value.str (Str.ofString "/claim/cut.py") 1220)])) (List.toArray []))) ::
  ((nat_lit 785), (FO (stN P0.main.body 28) (Str.ofString "_law_frame_came") (Str.ofString "_law_frame_came") 3 [] Value.none Value.none Value.none (Value.str (Str.ofString "law_in0150_01") 1190) none (Value.ref 784) Value.none 0 (List.toArray []))) ::
  ((nat_lit 791), (Obj.mk (Value.type "code") none (Data.fields (List.toArray [(Value.str (Str.ofString "_law_sign") 1222), (Value.str (Str.ofString "_law_sign") 1223), (Value.str (Str.ofString "/claim/cut.py") 1224), (Value.int 763 0), (Value.int 3 0), (Value.int 0 0), (Value.int 0 0), (Value.int 3 0), (Value.ref 786), (Value.bool Bool.true), (Value.int 273 0), (Value.ref 787), Value.none, (Value.ref 788), (Value.ref 789), (Value.ref 790), (Value.int 1229 0), (Value.int 763 0), (Value.str (Str.ofString "/claim/cut.py") 1230)])) (List.toArray []))) ::
  ((nat_lit 792), (FO (stN P0.main.body 29) (Str.ofString "_law_sign") (Str.ofString "_law_sign") 3 [] Value.none Value.none Value.none (Value.str (Str.ofString "law_in0150_01") 1190) none (Value.ref 791) Value.none 0 (List.toArray []))) ::
  ((nat_lit 798), (Obj.mk (Value.type "code") none (Data.fields (List.toArray [(Value.str (Str.ofString "_law_line") 1232), (Value.str (Str.ofString "_law_line") 1233), (Value.str (Str.ofString "/claim/cut.py") 1234), (Value.int 769 0), (Value.int 3 0), (Value.int 0 0), (Value.int 0 0), (Value.int 3 0), (Value.ref 793), (Value.bool Bool.true), (Value.int 273 0), (Value.ref 794), Value.none, (Value.ref 795), (Value.ref 796), (Value.ref 797), (Value.int 1240 0), (Value.int 769 0), (Value.str (Str.ofString "/claim/cut.py") 1241)])) (List.toArray []))) ::
  ((nat_lit 799), (FO (stN P0.main.body 30) (Str.ofString "_law_line") (Str.ofString "_law_line") 3 [] Value.none Value.none Value.none (Value.str (Str.ofString "law_in0150_01") 1190) none (Value.ref 798) Value.none 0 (List.toArray []))) ::
  ((nat_lit 805), (Obj.mk (Value.type "code") none (Data.fields (List.toArray [(Value.str (Str.ofString "_law_lexer") 1243), (Value.str (Str.ofString "_law_lexer") 1244), (Value.str (Str.ofString "/claim/cut.py") 1245), (Value.int 777 0), (Value.int 3 0), (Value.int 0 0), (Value.int 0 0), (Value.int 3 0), (Value.ref 800), (Value.bool Bool.true), (Value.int 273 0), (Value.ref 801), Value.none, (Value.ref 802), (Value.ref 803), (Value.ref 804), (Value.int 1254 0), (Value.int 777 0), (Value.str (Str.ofString "/claim/cut.py") 1255)])) (List.toArray []))) ::
  ((nat_lit 806), (FO (stN P0.main.body 31) (Str.ofString "_law_lexer") (Str.ofString "_law_lexer") 3 [] Value.none Value.none Value.none (Value.str (Str.ofString "law_in0150_01") 1190) none (Value.ref 805) Value.none 0 (List.toArray []))) ::
  ((nat_lit 812), (Obj.mk (Value.type "code") none (Data.fields (List.toArray [(Value.str (Str.ofString "_law_told") 1257), (Value.str (Str.ofString "_law_told") 1258), (Value.str (Str.ofString "/claim/cut.py") 1259), (Value.int 784 0), (Value.int 1 0), (Value.int 0 0), (Value.int 0 0), (Value.int 3 0), (Value.ref 807), (Value.bool Bool.true), (Value.int 273 0), (Value.ref 808), Value.none, (Value.ref 809), (Value.ref 810), (Value.ref 811), (Value.int 1262 0), (Value.int 784 0), (Value.str (Str.ofString "/claim/cut.py") 1263)])) (List.toArray []))) ::
  ((nat_lit 813), (FO (stN P0.main.body 32) (Str.ofString "_law_told") (Str.ofString "_law_told") 3 [] Value.none Value.none Value.none (Value.str (Str.ofString "law_in0150_01") 1190) none (Value.ref 812) Value.none 0 (List.toArray []))) ::
  ((nat_lit 819), (Obj.mk (Value.type "code") none (Data.fields (List.toArray [(Value.str (Str.ofString "_law_behind_line") 1265), (Value.str (Str.ofString "_law_behind_line") 1266), (Value.str (Str.ofString "/claim/cut.py") 1267), (Value.int 789 0), (Value.int 2 0), (Value.int 0 0), (Value.int 0 0), (Value.int 3 0), (Value.ref 814), (Value.bool Bool.true), (Value.int 273 0), (Value.ref 815), Value.none, (Value.ref 816), (Value.ref 817), (Value.ref 818), (Value.int 1271 0), (Value.int 789 0), (Value.str (Str.ofString "/claim/cut.py") 1272)])) (List.toArray []))) ::
  ((nat_lit 820), (FO (stN P0.main.body 33) (Str.ofString "_law_behind_line") (Str.ofString "_law_behind_line") 3 [] Value.none Value.none Value.none (Value.str (Str.ofString "law_in0150_01") 1190) none (Value.ref 819) Value.none 0 (List.toArray []))) ::
  ((nat_lit 824), (Obj.mk (Value.type "code") none (Data.fields (List.toArray [(Value.str (Str.ofString "_law_part") 1274), (Value.str (Str.ofString "_law_part") 1275), (Value.str (Str.ofString "/claim/cut.py") 1276), (Value.int 792 0), (Value.int 2 0), (Value.int 0 0), (Value.int 0 0), (Value.int 3 0), (Value.ref 821), (Value.bool Bool.true), (Value.int 273 0), (Value.ref 822), Value.none, Value.none, Value.none, (Value.ref 823), (Value.int 1277 0), (Value.int 792 0), (Value.str (Str.ofString "/claim/cut.py") 1278)])) (List.toArray []))) ::
  ((nat_lit 825), (FO (stN P0.main.body 34) (Str.ofString "_law_part") (Str.ofString "_law_part") 3 [] Value.none Value.none Value.none (Value.str (Str.ofString "law_in0150_01") 1190) none (Value.ref 824) Value.none 0 (List.toArray []))) ::
  ((nat_lit 831), (Obj.mk (Value.type "code") none (Data.fields (List.toArray [(Value.str (Str.ofString "_law_word") 1280), (Value.str (Str.ofString "_law_word") 1281), (Value.str (Str.ofString "/claim/cut.py") 1282), (Value.int 807 0), (Value.int 2 0), (Value.int 0 0), (Value.int 0 0), (Value.int 3 0), (Value.ref 826), (Value.bool Bool.true), (Value.int 273 0), (Value.ref 827), Value.none, (Value.ref 828), (Value.ref 829), (Value.ref 830), (Value.int 1287 0), (Value.int 807 0), (Value.str (Str.ofString "/claim/cut.py") 1288)])) (List.toArray []))) ::
  ((nat_lit 832), (FO (stN P0.main.body 35) (Str.ofString "_law_word") (Str.ofString "_law_word") 3 [] Value.none Value.none Value.none (Value.str (Str.ofString "law_in0150_01") 1190) none (Value.ref 831) Value.none 0 (List.toArray []))) ::
  ((nat_lit 838), (Obj.mk (Value.type "code") none (Data.fields (List.toArray [(Value.str (Str.ofString "_law_needed") 1290), (Value.str (Str.ofString "_law_needed") 1291), (Value.str (Str.ofString "/claim/cut.py") 1292), (Value.int 823 0), (Value.int 3 0), (Value.int 0 0), (Value.int 0 0), (Value.int 3 0), (Value.ref 833), (Value.bool Bool.true), (Value.int 273 0), (Value.ref 834), Value.none, (Value.ref 835), (Value.ref 836), (Value.ref 837), (Value.int 1297 0), (Value.int 823 0), (Value.str (Str.ofString "/claim/cut.py") 1298)])) (List.toArray []))) ::
  ((nat_lit 839), (FO (stN P0.main.body 36) (Str.ofString "_law_needed") (Str.ofString "_law_needed") 3 [] Value.none Value.none Value.none (Value.str (Str.ofString "law_in0150_01") 1190) none (Value.ref 838) Value.none 0 (List.toArray []))) ::
  ((nat_lit 843), (Obj.mk (Value.type "code") none (Data.fields (List.toArray [(Value.str (Str.ofString "_law_walk") 1300), (Value.str (Str.ofString "_law_walk") 1301), (Value.str (Str.ofString "/claim/cut.py") 1302), (Value.int 830 0), (Value.int 2 0), (Value.int 0 0), (Value.int 0 0), (Value.int 3 0), (Value.ref 840), (Value.bool Bool.true), (Value.int 273 0), (Value.ref 841), Value.none, Value.none, Value.none, (Value.ref 842), (Value.int 1303 0), (Value.int 830 0), (Value.str (Str.ofString "/claim/cut.py") 1304)])) (List.toArray []))) ::
  ((nat_lit 844), (FO (stN P0.main.body 37) (Str.ofString "_law_walk") (Str.ofString "_law_walk") 3 [] Value.none Value.none Value.none (Value.str (Str.ofString "law_in0150_01") 1190) none (Value.ref 843) Value.none 0 (List.toArray []))) ::
  ((nat_lit 848), (Obj.mk (Value.type "code") none (Data.fields (List.toArray [(Value.str (Str.ofString "law") 1306), (Value.str (Str.ofString "law") 1307), (Value.str (Str.ofString "/claim/cut.py") 1308), (Value.int 841 0), (Value.int 1 0), (Value.int 0 0), (Value.int 0 0), (Value.int 3 0), (Value.ref 845), (Value.bool Bool.true), (Value.int 273 0), (Value.ref 846), Value.none, Value.none, Value.none, (Value.ref 847), (Value.int 1309 0), (Value.int 841 0), (Value.str (Str.ofString "/claim/cut.py") 1310)])) (List.toArray []))) ::
  ((nat_lit 849), (FO (stN P0.main.body 38) (Str.ofString "law") (Str.ofString "law") 3 [] Value.none Value.none Value.none (Value.str (Str.ofString "law_in0150_01") 1190) none (Value.ref 848) Value.none 0 (List.toArray []))) :: []
noncomputable def kAs : List Addr := 2 :: 3 :: 45 :: 46 :: 52 :: 53 :: 66 :: 67 :: 68 :: 69 :: 70 :: 71 :: 72 :: 674 :: 680 :: 681 :: 687 :: 688 :: 689 :: 717 :: 718 :: 724 :: 725 :: 755 :: 756 :: 757 :: 758 :: 759 :: 765 :: 766 :: 772 :: 773 :: 777 :: 778 :: 784 :: 785 :: 791 :: 792 :: 798 :: 799 :: 805 :: 806 :: 812 :: 813 :: 819 :: 820 :: 824 :: 825 :: 831 :: 832 :: 838 :: 839 :: 843 :: 844 :: 848 :: 849 :: []
theorem kAs_eq : ∀ P, kAs = (K P).map (·.1) := fun _ => rfl
end Mine
end
section
namespace Mine
noncomputable abbrev Xt0 : Shared → Bool := fun s => xlAt qv [] s && recOk (RowW.records (PySem.Challenge.rw_in0150_01.row.toRowW)) s
noncomputable abbrev hook0 : Hook := kmHook K kAs kAs_eq [801, 775]
open PySem.W.Fast in
theorem once0 (w : World) : (opT (impT (tw10156331382660048174 (tw11892475500146522536 tw14364793385576792824) (opening P0) w) tw3805553451399329143 6000 ⟨.nil, 0, {}, #[], {}, 1, {}⟩ (tw1435165496053646825 (opening P0)).2) (tw14289696077712309145 P0)
      (topT (tw5923862056798008813 P0.main.body) namesBound staticsOk tw8920871248978507458 (tw10156331382660048174 (tw11892475500146522536 tw14364793385576792824) P0 w) tw6613529449190102663 P0 6000)).map (fun s => (tw4187177175401517315 qv loose0 (tw5923862056798008813 P0.main.body) Xt0 true s, hook0.obs s)) = some (openGood qv loose0, hook0.val w) := by kernel_rfl
open PySem.W.Fast in
theorem left0 : LeftO P0 qv loose0 Xt0 hook0.obs hook0.val 6000 := by
  refine left_of (T := ⟨.nil, 0, {}, #[], {}, 1, {}⟩) rfl fun w => ?_
  rw [te10156331382660048174, te11892475500146522536, te14364793385576792824, te3805553451399329143, te1435165496053646825, te14289696077712309145, te5923862056798008813, te8920871248978507458, te6613529449190102663, te4187177175401517315]
  exact once0 w
end Mine
end
section
namespace Mine
open PySem.W.Fast in
theorem ws : PySem.Challenge.rw_in0150_01.wellSaid = true := by
  have h : tw9446332074065402090 PySem.Challenge.rw_in0150_01 = true := by kernel_rfl
  rw [te9446332074065402090]; exact h
end Mine
end
section
namespace Mine
theorem ok1 : opensWell P0 = true := by decide +kernel
theorem ok2 : chainsOk qv = true := by decide +kernel
theorem ok3 : (frees (PySem.Challenge.rw_in0150_01.row.toRowW) && (PySem.Challenge.rw_in0150_01.row.toRowW).within.isEmpty) = true := by decide +kernel
end Mine
end
section
namespace Mine
theorem bare0 : P0.bare := ⟨rfl, rfl, rfl, rfl, rfl, by decide +kernel⟩
end Mine
end
section
namespace Mine
abbrev TopQ (mean : ExcName → Option Value) (mg mb : Str → Option Value) (h : Heap) : Prop := Top qv (looseW qv loose0) mean mg mb h
abbrev Led := List (Addr × Obj)
abbrev Off (rest : Led) (a : Addr) : Prop := ∀ p ∈ rest, p.1 ≠ a
def Offs (rest : Led) : Led → Prop
  | [] => True
  | q :: r => Off rest q.1 ∧ Offs rest r
def DisA (a : Nat) : Led → Prop
  | [] => True
  | p :: r => @Ne Nat a p.1 ∧ DisA a r
def Dis : Led → Prop
  | [] => True
  | p :: r => DisA p.1 r ∧ Dis r
def Ctr (w : World) (f : Addr) (vs : List Value) (own : Led) (D U : Nat) (post : Value → Led → Prop) : Prop :=
  PySem.Challenge.rw_in0150_01 = PySem.Challenge.rw_in0150_01 → ∀ (mean : ExcName → Option Value) (mg mb : Str → Option Value) (dp un : Nat) (gd : Option (List Code)) (cn : Str) (cs : Scope) (a : Addr) (ccd : Value) (cl : List (Str × Addr)) (outer : List Env) (A₀ : Around)
    (base h₀ : Heap) (L : Addr) (m : Str → Option Value) (s : Shared) (rest : Led) (Q E : Value → Shared → Prop),
    Below A₀ base outer h₀ → Fr h₀ L s.heap m → (K w.params).In h₀ → News h₀ L s.heap (own ++ rest) → Offs rest own → Dis own → TopQ mean mg mb h₀ → cs.kind = .function → dp + D < recursionLimit → un + U < cLine →
    (∀ v own' h' tk', post v own' → Fr h₀ L h' m → News h₀ L h' (own' ++ rest) → Q v { s with heap := h', toks := tk' }) →
    wpAny (model P0 w) (ktrTop dp un gd cn cs L a ccd cl outer) (call (.ref f) vs) Q E s
theorem off_lt {d : Nat} : ∀ {rest : Led}, AllLt d rest → ∀ p ∈ rest, p.1 ≠ d
  | [], _, _, hp => nomatch hp
  | _ :: _, h, p, hp => by
    rcases List.mem_cons.mp hp with rfl | hp
    · exact Nat.ne_of_lt h.1
    · exact off_lt h.2 p hp
theorem off_le {d e : Nat} : ∀ {rest : Led}, AllLt d rest → d ≤ e → ∀ p ∈ rest, p.1 ≠ e
  | [], _, _, _, hp => nomatch hp
  | _ :: _, h, l, p, hp => by
    rcases List.mem_cons.mp hp with rfl | hp
    · exact Nat.ne_of_lt (Nat.lt_of_lt_of_le h.1 l)
    · exact off_le h.2 l p hp
theorem off_le' {d e : Nat} {rest : Led} (h : ∀ p ∈ rest, @LT.lt Nat _ p.1 d) (l : d ≤ e) : ∀ p ∈ rest, p.1 ≠ e := fun p hp => Nat.ne_of_lt (Nat.lt_of_lt_of_le (h p hp) l)
def LPost (R : Shared → Prop) (Q : Flow → Shared → Prop) (f : Flow) (s : Shared) : Prop :=
  match f with
  | .next => R s
  | .cont => R s
  | .brk => Q .next s
  | .ret v => Q (.ret v) s
theorem lpost_brk {R : Shared → Prop} {Q : Flow → Shared → Prop} {s : Shared} (h : Q .next s) : LPost R Q .brk s := h
theorem lpost_ret {R : Shared → Prop} {Q : Flow → Shared → Prop} {s : Shared} {v : Value} (h : Q (.ret v) s) : LPost R Q (.ret v) s := h
theorem lpost_next {R : Shared → Prop} {Q : Flow → Shared → Prop} {s : Shared} (h : R s) : LPost R Q .next s := h
theorem lpost_cont {R : Shared → Prop} {Q : Flow → Shared → Prop} {s : Shared} (h : R s) : LPost R Q .cont s := h
theorem whl_led {prog : Program} {w : World} {A : Around} {E : Value → Shared → Prop} {env : Env} {test : Expr} {body orelse : List Stmt} {Q : Flow → Shared → Prop} {gs : Array GenState} {dr : Drawn} {os : OsState} {h₀ : Heap} {L : Addr} {σ : Type}
    (μ : σ → Nat) (I : σ → Prop) (M : σ → Str → Option Value) (Ld : σ → Led) (hE : PassesOwn (model prog w) A env E)
    (turn : ∀ c h tk (R : Shared → Prop), I c → Fr h₀ L h (M c) → News h₀ L h (Ld c) → (∀ c' h' tk', μ c' < μ c → I c' → Fr h₀ L h' (M c') → News h₀ L h' (Ld c') → R ⟨h', gs, dr, tk', os⟩) →
      wpAny (model prog w) A (isTrue test env (eval test env)) (fun b s₂ => if b = true then wpAny (model prog w) A (execs body env) (LPost R Q) E s₂ else wpAny (model prog w) A (execs orelse env) Q E s₂) E ⟨h, gs, dr, tk, os⟩) :
    ∀ c h tk, I c → Fr h₀ L h (M c) → News h₀ L h (Ld c) → WhlRest prog w A E env test body orelse Q 0 ⟨h, gs, dr, tk, os⟩ := by
  have all : ∀ n c h tk, μ c = n → I c → Fr h₀ L h (M c) → News h₀ L h (Ld c) → WhlRest prog w A E env test body orelse Q 0 ⟨h, gs, dr, tk, os⟩ := by
    intro n
    induction n using Nat.strongRecOn with
    | ind n ih =>
      intro c h tk hn hi F N
      refine whl_turn (k := 0) hE (wpAny_mono (turn c h tk (WhlRest prog w A E env test body orelse Q 0) hi F N fun c' h' tk' hl hi' F' N' => ih _ (hn ▸ hl) c' h' tk' rfl hi' F' N') (fun b s₂ hb => ?_) fun _ _ e => e)
      cases b with
      | false => exact WhlIf.no rfl (by simpa using hb)
      | true =>
        refine WhlIf.yes rfl (wpAny_mono (by simpa using hb) (fun f s₃ hf => ?_) fun _ _ e => e)
        cases f <;> exact hf
  exact fun c h tk => all _ c h tk rfl
theorem comp_inv {prog : Program} {w : World} {A : Around} {h₀ : Heap} {L : Addr} {m : Str → Option Value} {env : Env} {elt : Expr} {x : Str} {scope : Scope} {cl : List (Str × Addr)} {s : Shared} {S : Led → Prop} {P : Nat → Value → Prop} {Fin : List Value → Led → Prop} {n : Nat} {news₀ : Led}
    (Iv : Nat → List Value → Led → Prop) (h0 : Iv 0 [] news₀)
    (turn : ∀ i v ys news I oI C oC D m₂ h tk (E' : Value → Shared → Prop), i < n → P i v → Iv i ys news → LCg.NsObj oC m₂ → m₂ x = some v → Fr h₀ L h m → News h₀ L h ((I, oI) :: (C, oC) :: (D, LCg.lst ys) :: news) → LCg.Off3 I C D news → ((@Ne Nat I C) ∧ (@Ne Nat I D) ∧ (@Ne Nat C D)) →
      wpAny (model prog w) A (eval elt (compEnvC scope cl C env)) (LCg.CompEnd h₀ L m { s with heap := h, toks := tk } I oI C oC D (LCg.lst ys) S (fun y news' => Iv (i + 1) (ys ++ [y]) news')) E' { s with heap := h, toks := tk })
    (fin : ∀ ys news, Iv n ys news → Fin ys news) : LCg.CompRest prog w A h₀ L m env elt x scope cl s S P Fin n 0 [] news₀ := by
  have key : ∀ (j i : Nat) (ys : List Value) (news : Led), i + j = n → Iv i ys news → LCg.CompRest prog w A h₀ L m env elt x scope cl s S P Fin j i ys news := by
    intro j
    induction j with
    | zero =>
      intro i ys news hi hy
      have e : i = n := by omega
      subst e
      exact LCg.CompRest.zero (fin ys news hy)
    | succ j ih =>
      intro i ys news hi hy
      refine LCg.CompRest.succ ?_
      intro v I oI C oC D m₂ h tk E' hv hC hx F N off ne
      refine wpAny_mono (turn i v ys news I oI C oC D m₂ h tk E' (by omega) hv hy hC hx F N off ne) (fun y s₂ hq => ?_) fun _ _ e => e
      obtain ⟨h', tk', nw, e, F', N', off', hS, hn⟩ := hq
      exact ⟨h', tk', nw, e, F', N', off', hS, ih (i + 1) _ _ (by omega) hn⟩
  exact key n 0 [] news₀ (by omega) h0
def upd : List (Str × Option Value) → (Str → Option Value) → Str → Option Value
  | [], m => m
  | p :: r, m => fun y => if y = p.1 then p.2 else upd r m y
theorem fr_to {h₀ h : Heap} {L : Addr} {m m' : Str → Option Value} (F : Fr h₀ L h m) (e : ∀ y, m y = m' y) : Fr h₀ L h m' := by
  have : m = m' := funext e
  exact this ▸ F
theorem led_to {h₀ h : Heap} {L : Addr} {l l' : Led} (N : News h₀ L h l) (e : ∀ p ∈ l', p ∈ l) : News h₀ L h l' := fun p hp => N p (e p hp)
theorem picked_hi (bs : List UInt8) (c : Int) (h : 0 ≤ c) : KBy.picked bs.toArray none (some c) = (bs.take c.toNat).toArray := by
  obtain ⟨n, rfl⟩ := Int.eq_ofNat_of_zero_le h
  rw [KBc.picked_eq]
  simp only [Option.elim, List.drop_zero, Nat.sub_zero, clipAt_nat, List.size_toArray, Int.toNat_natCast]
  congr 1
  rw [← List.take_eq_take_min]
theorem picked_lo (bs : List UInt8) (c : Int) (h : 0 ≤ c) : KBy.picked bs.toArray (some c) none = (bs.drop c.toNat).toArray := by
  obtain ⟨n, rfl⟩ := Int.eq_ofNat_of_zero_le h
  rw [KBc.picked_eq]
  simp only [Option.elim, clipAt_nat, List.size_toArray, Int.toNat_natCast]
  congr 1
  rw [List.take_of_length_le (by simp)]
  by_cases hn : n ≤ bs.length
  · rw [Nat.min_eq_left hn]
  · rw [List.drop_eq_nil_of_le (by omega), List.drop_eq_nil_of_le (by omega)]
section
variable {prog : Program} {w : World} {A : Around} {E : Value → Shared → Prop} {s : Shared} {value slice : PySem.Expr} {bs : List UInt8} {t : Tok} {h₀ : Heap} {L : Addr} {m : PySem.Str → Option Value} {news : List (Addr × Obj)} {Q : Value → Shared → Prop} {c : Int} {tc : Tok}
theorem bslice_hi (hF : Fr h₀ L s.heap m) (hN : News h₀ L s.heap news) (h0 : 0 ≤ c) (hz : bs.length ≤ 16777216)
    (h : ∀ h' t' k, Fr h₀ L h' m → News h₀ L h' news → Q (.bytes (bs.take c.toNat).toArray t') { s with heap := h', toks := k })
    (hs : subscripted slice false (.bytes bs.toArray t) (.ref s.heap.objs.size) = operate [.ref s.heap.objs.size, .bytes bs.toArray t] (getItem (.bytes bs.toArray t) (.ref s.heap.objs.size)) := by with_unfolding_all rfl)
    (ht : ∀ r, letTemporaryGo value (.bytes bs.toArray t) r = pure () := by intro _; with_unfolding_all rfl) :
    wpAny (model prog w) A (subscriptTail value slice (.bytes bs.toArray t) (.ref s.heap.objs.size)) Q E { s with heap := s.heap.push { cls := .type "slice", data := .fields #[.none, .int c tc, .none] } } :=
  KBc.slice_K hF hN rfl .none (.int c tc) (by rw [KBw.ints_length]; simpa using hz) (fun h' t' k F' N' _ => by rw [picked_hi bs c h0]; exact h h' t' k F' N') hs ht
theorem bslice_lo (hF : Fr h₀ L s.heap m) (hN : News h₀ L s.heap news) (h0 : 0 ≤ c) (hz : bs.length ≤ 16777216)
    (h : ∀ h' t' k, Fr h₀ L h' m → News h₀ L h' news → Q (.bytes (bs.drop c.toNat).toArray t') { s with heap := h', toks := k })
    (hs : subscripted slice false (.bytes bs.toArray t) (.ref s.heap.objs.size) = operate [.ref s.heap.objs.size, .bytes bs.toArray t] (getItem (.bytes bs.toArray t) (.ref s.heap.objs.size)) := by with_unfolding_all rfl)
    (ht : ∀ r, letTemporaryGo value (.bytes bs.toArray t) r = pure () := by intro _; with_unfolding_all rfl) :
    wpAny (model prog w) A (subscriptTail value slice (.bytes bs.toArray t) (.ref s.heap.objs.size)) Q E { s with heap := s.heap.push { cls := .type "slice", data := .fields #[.int c tc, .none, .none] } } :=
  KBc.slice_K hF hN rfl (.int c tc) .none (by rw [KBw.ints_length]; simpa using hz) (fun h' t' k F' N' _ => by rw [picked_lo bs c h0]; exact h h' t' k F' N') hs ht
end
abbrev en (P : Params) (x : Str) (t : Tok) (v : Value) : DictEntry := ⟨PyData.keyHash P x, .str x t, v⟩
def lamE (s : Stmt) (k : Nat) : Expr := match s with
  | .FunctionDef _ _ body _ _ _ _ _ _ _ => (match stN body k with | .Assign _ v _ => v | _ => default)
  | _ => default
def lamO (e : Expr) (qual : Str) (cl : List (Str × Addr)) (pm : Value) (c : Addr) (ctv : Value) : Obj := match e with
  | .Lambda params body scope _ => kla_obj "<lambda>" qual params body scope cl pm c ctv
  | _ => default
abbrev strm (P : Params) (sx sd fR cS c1 : Addr) (bs : List UInt8) (tb tv tr : Tok) (pm ctv : Value) (oS o1 : Obj) : Led :=
  [(sx, instObj 70 sd), (sd, dictOf [en P "value" tv (.bytes bs.toArray tb), en P "read" tr (.ref fR)] 2),
   (fR, lamO (lamE (stN P0.main.body 27) 3) "_law_stream.<locals>.<lambda>" [("stream", cS)] pm c1 ctv), (cS, oS), (c1, o1)]
inductive Sel (p : Addr × Obj) : Led → Led → Prop
  | head {r : Led} : Sel p (p :: r) r
  | tail {q : Addr × Obj} {l l' : Led} : Sel p l l' → Sel p (q :: l) (q :: l')
inductive Pick : Led → Led → Led → Prop
  | nil {l : Led} : Pick [] l l
  | cons {p : Addr × Obj} {own l l' r : Led} : Sel p l l' → Pick own l' r → Pick (p :: own) l r
theorem Sel.mem {p : Addr × Obj} {l l' : Led} (h : Sel p l l') : p ∈ l ∧ ∀ q ∈ l', q ∈ l := by
  induction h with
  | head => exact ⟨.head _, fun q hq => .tail _ hq⟩
  | tail _ ih => exact ⟨.tail _ ih.1, fun q hq => by
      cases hq with
      | head => exact .head _
      | tail _ hq => exact .tail _ (ih.2 q hq)⟩
theorem Pick.mem {own l r : Led} (h : Pick own l r) : ∀ q ∈ own ++ r, q ∈ l := by
  induction h with
  | nil => exact fun q hq => hq
  | cons s _ ih =>
    intro q hq
    cases hq with
    | head => exact s.mem.1
    | tail _ hq => exact s.mem.2 q (ih q hq)
theorem ctr_use {w : World} {f : Addr} {vs : List Value} {own : Led} {D U : Nat} {post : Value → Led → Prop} (C : Ctr w f vs own D U post) {mean : ExcName → Option Value} {mg mb : Str → Option Value} {dp un : Nat} {gd : Option (List Code)} {cn : Str} {cs : Scope} {a : Addr} {ccd : Value} {cl : List (Str × Addr)} {outer : List Env} {A₀ : Around}
    {base h₀ : Heap} {L : Addr} {m : Str → Option Value} {s : Shared} {news rest : Led} {Q E : Value → Shared → Prop}
    (B : Below A₀ base outer h₀) (F : Fr h₀ L s.heap m) (X : (K w.params).In h₀) (N : News h₀ L s.heap news) (pk : Pick own news rest) (O : Offs rest own) (Di : Dis own) (T : TopQ mean mg mb h₀) (hk : cs.kind = .function) (hd : dp + D < recursionLimit) (hu : un + U < cLine)
    (h : ∀ v own' h' tk', post v own' → Fr h₀ L h' m → News h₀ L h' (own' ++ rest) → Q v { s with heap := h', toks := tk' }) :
    wpAny (model P0 w) (ktrTop dp un gd cn cs L a ccd cl outer) (call (.ref f) vs) Q E s :=
  C rfl mean mg mb dp un gd cn cs a ccd cl outer A₀ base h₀ L m s rest Q E B F X (led_to N pk.mem) O Di T hk hd hu h
section
variable {M : Model} {A : Around} {E : Value → Shared → Prop} {s : Shared} {Kf : Frag} {h₀ : Heap} {m mg mb : Str → Option Value} {env : Env} {x : Str} {pos : Pos} {v : Value} {Q : Value → Shared → Prop} {p : Program} {loose : List Str} {news : Led} {c : Addr} {o : Obj} {L : Addr}
theorem m_local (hl : env.kindOf x = some .local) (hk : env.scope.kind = .function) (hd : (x == ("__debug__" : Str)) = false) (F : Fr h₀ env.locals s.heap m) (hv : m x = some v) (h : Q v s) : wpAny M A (eval (.Name x pos) env) Q E s :=
  wpAny_Name (wpAny_loadName_local hk hl F.ns hv h) hd
theorem m_global (hl : env.kindOf x = some .globalImplicit) (hk : env.scope.kind = .function) (hd : (x == ("__debug__" : Str)) = false) (hg : env.globals = mainGlobals) (F : Fr h₀ L s.heap m) (X : Kf.In h₀) (T : TopRead p loose mg mb h₀)
    (e : nsIn Kf mainGlobals x = some (some v)) (h : Q v s) : wpAny M A (eval (.Name x pos) env) Q E s := nameG_K F X T e h hg hk hl hd
theorem m_free (hl : env.kindOf x = some .free) (hk : env.scope.kind = .function) (hd : (x == ("__debug__" : Str)) = false) (hn : (x == ("__classdict__" : Str)) = false) (hc : env.cells.lookup x = some c) (N : News h₀ L s.heap news) (hm : (c, o) ∈ news) (d : o.data = .cell (some v)) (h : Q v s) :
    wpAny M A (eval (.Name x pos) env) Q E s := wpAny_Name (wpAny_loadName_free hk hl hc ⟨_, N.get hm, d⟩ h hn) hd
end
section
variable {prog : Program} {w : World} {A : Around} {E : Value → Shared → Prop} {s : Shared} {c : UInt8} {r : List UInt8} {t ui : Tok} {value slice : Expr}
theorem m_truthyB1 {Q : Bool → Shared → Prop} (hfit : r.length ≤ 1099511627775) (h : Q true { s with toks := s.toks + 1 + 1 }) : wpAny (model prog w) A (truthy (.bytes (c :: r).toArray t)) Q E s := by
  refine truthy_bytes (by simp only [List.size_toArray, List.length_cons]; omega) ?_
  have e : (((c :: r).toArray.size : Int) != 0) = true := by
    simp only [List.size_toArray, List.length_cons, bne_iff_ne, ne_eq]; omega
  rw [e]; exact h
theorem m_truthyB0 {Q : Bool → Shared → Prop} (h : Q false { s with toks := s.toks + 1 + 1 }) : wpAny (model prog w) A (truthy (.bytes ([] : List UInt8).toArray t)) Q E s :=
  truthy_bytes (by decide) h
theorem m_item0 {Q : Value → Shared → Prop} (hfit : r.length ≤ 1099511627775) (h : Q (.int (c.toNat : Int) s.toks) { s with toks := s.toks + 1 })
    (hs : subscripted slice false (.bytes (c :: r).toArray t) (.int 0 ui) = operate [.bytes (c :: r).toArray t, .int 0 ui] (getItem (.bytes (c :: r).toArray t) (.int 0 ui)) := by with_unfolding_all rfl)
    (ht : ∀ r', letTemporaryGo value (.bytes (c :: r).toArray t) r' = pure () := by intro _; with_unfolding_all rfl) :
    wpAny (model prog w) A (subscriptTail value slice (.bytes (c :: r).toArray t) (.int 0 ui)) Q E s :=
  KBy.item_N (x := c :: r) (by simp only [List.length_cons]; omega) (by decide) (by simp only [List.length_cons]; omega) h hs ht
end
theorem m_mod {prog : Program} {w : World} {A : Around} {E : Value → Shared → Prop} {s : Shared} {a b k : Int} {t u : Tok} {Q : Value → Shared → Prop} (e : Int.fmod a b = k) (hb : b ≠ 0) (h : Q (.int k s.toks) { s with toks := s.toks + 1 }) :
    wpAny (model prog w) A (binaryOp .Mod (.int a t) (.int b u)) Q E s := by
  subst e; exact mod_int hb h
inductive SetAt (v : Value) : List Value → Nat → List Value → Prop
  | head {x : Value} {r : List Value} : SetAt v (x :: r) 0 (v :: r)
  | tail {x : Value} {r r' : List Value} {i : Nat} : SetAt v r i r' → SetAt v (x :: r) (i + 1) (x :: r')
theorem SetAt.eq {v : Value} {l l' : List Value} {i : Nat} (h : SetAt v l i l') : l.set i v = l' ∧ i < l.length := by
  induction h with
  | head => exact ⟨rfl, Nat.succ_pos _⟩
  | tail _ ih => exact ⟨by rw [List.set_cons_succ, ih.1], by simpa using ih.2⟩
section
variable {prog : Program} {w : World} {A : Around} {E : Value → Shared → Prop} {s : Shared} {h₀ : Heap} {L D : Addr} {m : Str → Option Value} {news news' : Led} {its its' : Array Value} {n : Nat} {k : Int} {t : Tok} {v : Value}
theorem m_getItem {Q : Value → Shared → Prop} (N : News h₀ L s.heap news) (hm : (D, listOf its n) ∈ news) (h0 : 0 ≤ k) (hf : k < 2 ^ 63) (hx : its.toList[k.toNat]? = some v) (h : Q v s) : wpAny (model prog w) A (getItem (.ref D) (.int k t)) Q E s :=
  wpAny_getItem_list (PySem.IsL.isList (n := n) (N _ hm).1) h0 hf (by rw [← Array.getElem?_toList]; exact hx) h
theorem m_setItem {Q : Unit → Shared → Prop} (F : Fr h₀ L s.heap m) (N : News h₀ L s.heap news) (U : Upd D (listOf its n) (listOf its' n) news news') (e : SetAt v its.toList k.toNat its'.toList) (h0 : 0 ≤ k) (hf : k < 2 ^ 63)
    (h : ∀ h', Fr h₀ L h' m → News h₀ L h' news' → Q () { s with heap := h' }) : wpAny (model prog w) A (setItem (.ref D) (.int k t) v) Q E s := by
  obtain ⟨pre, post, rfl, rfl, a, b⟩ := U.split
  have z := N (D, listOf its n) (List.mem_append.mpr (.inr (.head _)))
  have hn : k < its.size := by
    have := e.eq.2
    simp only [Array.length_toList] at this
    omega
  have e : its.setIfInBounds k.toNat v = its' := by
    apply Array.toList_inj.mp
    rw [Array.toList_setIfInBounds]
    exact e.eq.1
  have hz : its'.size = its.size := by rw [← e, Array.size_setIfInBounds]
  refine ki_setAt z.1 h0 hf hn (h _ (F.change (Heap.SameBut.update ..) z.2.1 z.2.2) (ki_turn _ N a b ?_ ?_))
  · exact e
  · rw [if_pos (by simp [hz])]
end
theorem ctr_use' {w : World} {f : Addr} {vs : List Value} {own : Led} {D U : Nat} {post : Value → Led → Prop} {mean : ExcName → Option Value} {mg mb : Str → Option Value} {dp un : Nat} {gd : Option (List Code)} {cn : Str} {cs : Scope} {a : Addr} {ccd : Value} {cl : List (Str × Addr)} {outer : List Env} {A₀ : Around}
    {base h₀ : Heap} {L : Addr} {m : Str → Option Value} {s : Shared} {news rest : Led} {Q E : Value → Shared → Prop}
    (B : Below A₀ base outer h₀) (F : Fr h₀ L s.heap m) (X : (K w.params).In h₀) (N : News h₀ L s.heap news) (pk : Pick own news rest) (O : Offs rest own) (Di : Dis own) (T : TopQ mean mg mb h₀) (hk : cs.kind = .function) (hd : dp + D < recursionLimit) (hu : un + U < cLine)
    (C : Ctr w f vs own D U post)
    (h : ∀ v own' h' tk', post v own' → Fr h₀ L h' m → News h₀ L h' (own' ++ rest) → Q v { s with heap := h', toks := tk' }) :
    wpAny (model P0 w) (ktrTop dp un gd cn cs L a ccd cl outer) (call (.ref f) vs) Q E s := ctr_use C B F X N pk O Di T hk hd hu h
end Mine
end
section
namespace Mine
theorem ghostQ {mean : ExcName → Option Value} {mg mb : Str → Option Value} {w : World} {h : Heap} (X : (K w.params).In h) (hT : TabsAt [(805, 801), (777, 775)] h) (T : TopQ mean mg mb h) : TopQ mean mg mb (ghostOf h [(805, 801), (777, 775)]) := by
  have hl : ∃ d, (recsOf qv) = [d] ∧ d.name = ("law" : Str) := ⟨_, rfl, by decide +kernel⟩
  obtain ⟨dl, hl, hn⟩ := hl
  have hf : (recsOf qv).find? (fun e => e.name == ("law" : Str)) = some dl := by rw [hl, List.find?_cons, hn]; rfl
  have ht : tabIn (K w.params) ("law" : Str) = some (848, 846) := by kernel_rfl
  obtain ⟨C, hP⟩ := tab_of T X hf ht
  have C' : CodeHd (ghostOf h [(805, 801), (777, 775)]) 848 846 := by
    obtain ⟨o, vs, file, tf, flags, tg, inF, text, tt, e1, r1, r2, r3, r4, r5, r6, r7, r8, hne⟩ := C
    exact ⟨o, vs, file, tf, flags, tg, inF, text, tt, ghost_get hT e1 (fun q => by rw [q] at r1; cases r1), r1, r2, r3, r4, r5, r6, r7, r8, hne⟩
  have hP' : (ghostOf h [(805, 801), (777, 775)]).get? 846 = some (tabObj #[]) := ghost_ne hP (by decide)
  have hmg := mg_of X T.g (show nsIn (K w.params) mainGlobals ("law" : Str) = some (some (.ref 849)) by kernel_rfl)
  have hfn : ∃ o fd, (K w.params).lookup 849 = some o ∧ o.data = .func fd ∧ fd.code = .ref 848 := ⟨_, _, by rfl, rfl, rfl⟩
  obtain ⟨ol, fl, k1, k2, k3⟩ := hfn
  exact {
    g := ghost_ns hT T.g
    b := ghost_ns hT T.b
    nolimit := let ⟨mc, a, r⟩ := T.nolimit; ⟨mc, ghost_ns hT a, r⟩
    nodigits := let ⟨mc, a, r⟩ := T.nodigits; ⟨mc, ghost_ns hT a, r⟩
    fn := fun d hd => by
      obtain ⟨a, o, pm, code, doc, e1, e2, e3, c, oc, vs, t, e4, e5, e6, e7⟩ := T.fn d hd
      refine ⟨a, o, pm, code, doc, e1, ghost_get hT e2 (fun q => by rw [q] at e3; cases e3), e3, c, oc, vs, t, e4, ghost_get hT e5 (fun q => ?_), e6, e7⟩
      rw [q] at e6
      cases e6
      cases e7
    own := fun o ho => absurd (show o ∈ ([] : List OwnSpec) from ho) List.not_mem_nil
    const := T.const
    free := T.free
    builtins := T.builtins
    tab := fun d hd => by
      rw [hl] at hd
      rcases List.mem_singleton.mp hd with rfl
      refine ⟨849, ol, fl, 848, 846, by rw [hn]; exact hmg, ghost_get hT (X _ _ k1) (fun q => by rw [q] at k2; cases k2), k2, k3, C'.code hP' ?_, C'.tab hP'⟩
      exact True.intro
    bmain := let ⟨bm, ob, a1, a2, a3, a4, r⟩ := T.bmain; ⟨bm, ob, a1, a2, ghost_get hT a3 (fun q => by rw [q] at a4; cases a4), a4, r⟩
    seer := fun e => let x := T.seer e; {
      statics := let ⟨mc, a, b⟩ := x.statics; ⟨mc, ghost_ns hT a, b⟩
      mods := let ⟨mc, a, b⟩ := x.mods; ⟨mc, ghost_ns hT a, b⟩
      imp := let ⟨mc, a, b⟩ := x.imp; ⟨mc, ghost_ns hT a, b⟩
      main := let ⟨mg, bm, ob, a, b, c, d, e⟩ := x.main; ⟨mg, bm, ob, ghost_ns hT a, b, ghost_get hT c (fun q => by rw [q] at d; cases d), d, e⟩ } }
end Mine
end
section
namespace Mine
theorem rd (w : World) (sx sd fR cS c1 : Addr) (bs : List UInt8) (tb tv tr : Tok) (pm ctv : Value) (oS o1 : Obj) (vs : Array Value) (t1 : Tok) (c : Int) (tc : Tok)
    (hS : oS.data = .cell (some (.ref sx))) (hc1 : o1.data = .fields vs) (hv1 : vs[1]? = some (.str "_law_stream.<locals>.<lambda>" t1))
    (hb : bs.length ≤ 100000) (h0 : 0 ≤ c) :
    Ctr w fR [.int c tc] (strm w.params sx sd fR cS c1 bs tb tv tr pm ctv oS o1) 2 16 (fun v own2 => ∃ t t' r r', r = bs.take c.toNat ∧ r' = bs.drop c.toNat ∧ v = .bytes r.toArray t ∧ own2 = strm w.params sx sd fR cS c1 r' t' tv tr pm ctv oS o1) := by
  unfold Ctr
  k_fill
  k_with_none
  k_with "om" => (with_reducible first|assumption|exact rm1 (by assumption) rfl|exact rm2 (by assumption) rfl|exact rm3 (by assumption) rfl|exact rm0 (by assumption)|exact Nat.le_of_lt (by assumption)|exact Nat.le_add_right _ _|exact Nat.lt_succ_self _|exact Nat.le_of_not_lt (by assumption)|exact lt_i (by assumption)|exact nlt_i (by assumption)|exact le_big (by assumption) rfl)
  k_with "k_all" => (first|(first|assumption|exact off_lt (by walk_at "and_last")|exact off_le (by walk_at "and_last") (Nat.le_succ _)|exact off_le (by walk_at "and_last") (Nat.le_add_right _ _)|exact off_le' (by assumption) (Nat.le_refl _)|exact off_le' (by assumption) (Nat.le_succ _)|exact off_le' (by assumption) (Nat.le_add_right _ _)|exact off_le' (by assumption) (Nat.le_succ_of_le (Nat.le_succ _))|exact off_le' (by assumption) (Nat.le_succ_of_le (Nat.le_succ_of_le (Nat.le_succ _))))|fail)
  k_with "k_ne" => (first|(first|assumption|exact Ne.symm (by assumption))|fail)
  k_with "m_enter" => (first|(refine' code_def (by k_asm) (by k_asm) (by k_asm) (by k_asm) (by k_asm) rfl rfl (by first|exact rfl|assumption|fail) (by k_is) (by k_is) (by ktr_room) (by first|exact BindsTo.of_eq rfl|exact binds_K (by k_in) rfl (by k_is) rfl rfl rfl|fail) (by first|(exact locs rfl)|fail) ?_ (by first|exact rfl|fail) (by first|exact rfl|fail) (by first|exact rfl|fail) (by decide);k_whole;intro g' L' h' FG' F' N' B' X' T';(try dsimp only);(try k_lift B');(try k_fold))|(refine' code_defC (by k_asm) (by k_asm) (by k_asm) (by k_asm) (by k_asm) rfl rfl (by first|exact rfl|assumption|fail) (by k_is) (by k_is) (by ktr_room) (by first|exact BindsTo.of_eq rfl|exact binds_K (by k_in) rfl (by k_is) rfl rfl rfl|fail) (by first|exact rfl|fail) (by first|(decide +kernel)|fail) ?_ (by first|exact rfl|fail) (by first|exact rfl|fail) (by first|exact rfl|fail);k_whole;intro g' L' h' tk' cells' FG' F' N' Y' B' X' T' l1;(try k_lt l1);k_cells Y';(try simp only [List.cons_append, List.nil_append] at N');(try dsimp only);(try k_lift B');(try k_fold)))
  k_with "and_last" => (first|assumption|(refine And.right ?_;walk_at "and_last"))
  k_with "subscriptTail" => ((k_here;(with_reducible show wpAny _ _ (subscriptTail _ (Expr.Slice _ _ none _) (Value.bytes (List.toArray _) _) (Value.ref _)) _ _ _);(with_reducible rename Fr _ _ _ _ => F');(with_reducible rename News _ _ _ _ => N');k_dflt (first|(refine' bslice_hi (s := ⟨_, _, _, _, _⟩) F' N' (by first|decide|omega|fail) (by first|decide|omega|(simp only [List.length_cons, List.length_append, List.length_drop, List.length_take, List.length_nil] at *;omega)|fail) ?_;k_whole)|(refine' bslice_lo (s := ⟨_, _, _, _, _⟩) F' N' (by first|decide|omega|fail) (by first|decide|omega|(simp only [List.length_cons, List.length_append, List.length_drop, List.length_take, List.length_nil] at *;omega)|fail) ?_;k_whole));intro hB' tB' kB' FB' NB'))
  k_with "m_lam" => ((refine' kla_code (by k_asm) (by k_asm) (by k_asm) (by k_asm) (by k_asm) rfl rfl (by first|exact rfl|assumption|fail) (by k_mem) (by first|(exact codeRec_news (by k_asm) (by k_mem) (by assumption) (by assumption))|fail) (by ktr_room) (by first|exact rfl|fail) (by first|(exact locs rfl)|fail) ?_ (by first|exact rfl|fail) (by first|exact rfl|fail) (by first|exact rfl|fail) (by decide);k_whole;intro g' L' h' FG' F' N' B' X' T';(try dsimp only);(try k_lift B');(try k_fold)))
  k_with "call ref" => ((k_here;k_dflt (refine wpAny_call ?_;first|walk_at "m_enter"|walk_at "m_lam")))
  k_with "callWith ref" => ((k_here;k_dflt (first|(refine' callWith_F (by first|(exact FnAt.of (by k_asm) (by k_mem))|fail) ?_;k_whole)|(refine' callWith_F0 (by first|(exact FnAt.of (by k_asm) (by k_mem))|fail) ?_;k_whole;try dsimp only [List.nil_append, List.cons_append]))))
  k_with "sel" => (first|exact Sel.head|(refine Sel.tail ?_;walk_at "sel"))
  k_with "pick" => (first|(refine Pick.cons (by walk_at "sel") ?_;walk_at "pick")|exact Pick.nil)
  k_with "offs" => (first|exact True.intro|(refine And.intro ?_ ?_;k_all;walk_at "offs"))
  k_with "disa" => (first|exact True.intro|(refine And.intro ?_ ?_;k_ne;walk_at "disa"))
  k_with "dis" => (first|exact True.intro|(refine And.intro ?_ ?_;walk_at "disa";walk_at "dis"))
  k_with "eval Name" => ((k_here;k_dflt (first|(refine' m_local (by first|exact rfl|fail) (by first|exact rfl|fail) (by decide) (by k_asm) (by first|exact rfl|fail) ?_;k_whole)|(refine' m_free (by first|exact rfl|fail) (by first|exact rfl|fail) (by decide) (by decide) (by first|exact rfl|fail) (by k_asm) (by k_mem) (by k_asm) ?_;k_whole)|(refine' m_global (by first|exact rfl|fail) (by first|exact rfl|fail) (by decide) (by first|exact rfl|fail) (by k_asm) (by k_asm) (by k_asm) (by k_is) ?_;k_whole))))
  intro hrow mean mg mb dp un gd cn cs a ccd cl outer A₀ base h₀ L m s rest Q E B F X N O D T hk hd hu hret
  simp only [List.cons_append, List.nil_append] at N
  obtain ⟨q0, q1, q2, q3, q4, -⟩ := O
  obtain ⟨⟨d0_1, d0_2, d0_3, d0_4, -⟩, ⟨d1_2, d1_3, d1_4, -⟩, ⟨d2_3, d2_4, -⟩, ⟨d3_4, -⟩, -, -⟩ := D
  (try dsimp only at q0 q1 q2 q3 q4 d0_1 d0_2 d0_3 d0_4 d1_2 d1_3 d1_4 d2_3 d2_4 d3_4)
  refine wpAny_call ?_
  k_dflt (first | walk_at "m_enter" | walk_at "m_lam")
  k_steps
  all_goals (try k_data)
  all_goals exact hret _ _ _ _ ⟨_, _, _, _, rfl, rfl, rfl, rfl⟩ (by assumption) (by assumption)
  k_with_none
  k_with "om" => (with_reducible first|assumption|exact rm1 (by assumption) rfl|exact rm0 (by assumption)|exact Nat.le_of_lt (by assumption)|exact Nat.le_add_right _ _|exact Nat.le_add_left _ _|exact Nat.lt_succ_self _|exact Nat.succ_pos _|exact Nat.lt_of_not_le (by assumption)|exact Nat.le_of_not_lt (by assumption)|exact Nat.le_of_not_le (by assumption)|exact Nat.le_of_lt (Nat.lt_of_not_le (by assumption))|exact lt_i (by assumption)|exact nlt_i (by assumption)|exact nneg_i|exact le_big (by assumption) rfl|exact Nat.le_of_succ_le_succ (by assumption)|exact Nat.eq_zero_of_le_zero (by assumption)|exact Nat.add_comm _ _)
end Mine
end
section
namespace Mine
open Builtin Builtin._codecs
theorem latin_loop {σ : Type} (b : Array UInt8) (hb : b.size ≤ sizeLine) (f : Nat → Nat × Array Nat × σ → Sem (ForInStep (Nat × Array Nat × σ)))
    (hf : ∀ x i (out : Array Nat) st, out.size ≤ sizeLine → i < b.size → f x (i, out, st) = pure (.yield (i + 1, out ++ [(b.getD i 0).toNat].toArray, st))) :
    ∀ k s i out st, i + k = b.size → out = ((b.toList.take i).map (·.toNat)).toArray → (forIn (List.range' s k) (i, out, st) f : Sem (Nat × Array Nat × σ)) = pure (b.size, b.map (·.toNat), st) := by
  intro k
  induction k with
  | zero =>
    intro s i out st hk ho
    have : i = b.size := hk
    subst this
    subst ho
    show (pure _ : Sem _) = pure _
    congr 2
    congr 1
    rw [List.take_of_length_le (by simp)]
    rw [← Array.toList_map]
  | succ k ih =>
    intro s i out st hk ho
    rw [List.range'_succ, List.forIn_cons, hf s i out st (by subst ho; rw [List.size_toArray, List.length_map, List.length_take]; exact Nat.le_trans (Nat.min_le_right _ _) hb) (Nat.lt_of_lt_of_le (Nat.lt_add_of_pos_right (Nat.succ_pos k)) (Nat.le_of_eq hk))]
    show forIn (List.range' (s + 1) k) (i + 1, _, st) f = _
    refine ih (s + 1) (i + 1) _ st ((Nat.add_right_comm i 1 k).trans hk) ?_
    subst ho
    have hi : i < b.toList.length := Nat.lt_of_lt_of_le (Nat.lt_add_of_pos_right (Nat.succ_pos k)) (Nat.le_of_eq hk)
    rw [List.take_succ_eq_append_getElem hi]
    have e : b.getD i 0 = b.toList[i] := by
      have hi' : i < b.size := by omega
      simp [Array.getD, hi']
    rw [e]
    simp
theorem latin (id : String) (b : Array UInt8) (hb : b.size ≤ sizeLine) : runDecoder id latin1Decoder none true b 0 [] = pure (b.map (·.toNat), b.size) := by
  unfold runDecoder
  simp only [Std.Legacy.Range.forIn_eq_forIn_range', Std.Legacy.Range.size]
  rw [latin_loop b hb _ ?hf _ _ _ _ _ (by simp) (by simp)]
  · rfl
  case hf =>
    intro x i out st ho hi
    rw [if_neg (show ¬ out.size > sizeLine from Nat.not_lt.mpr ho), if_neg (by simp; omega)]
    rfl
namespace KBl
open KBd
section
variable {b : Array UInt8} {c : UInt8} {cs : List UInt8} {t u : Tok}
theorem road_eq {id : String} : _codecs.decodeRoad id b (PySem.Str.ofString "latin-1") none [] = (_codecs.runDecoder id _codecs.latin1Decoder none true b 0 [] >>= fun r => mkStr ⟨r.1⟩) := by kernel_rfl
theorem meets_text {t1 t2 : Tok} {d : PySem.Str} (hb : b.size ≤ 16777216) :
    Meets («_codecs.decode.text» ⟨[.bytes b t, .str (PySem.Str.ofString "latin-1") t1, .none, .str d t2], []⟩) (fun _ R s => R (.ok (.ret (.str ⟨b.map (·.toNat)⟩ s.toks))) { s with toks := s.toks + 1 }) := by
  refine .of_wp fun prog w A R s h => ?_
  show wpAny _ _ (Bytes.bytesLike _ (.bytes b t) >>= fun r => _) _ _ s
  refine wpAny_bind (wpAny_of_eq like_eq ?_)
  refine wpAny_bind (wpAny_of_eq held_eq ?_)
  show wpAny _ _ (_codecs.decodeRoad _ b (PySem.Str.ofString "latin-1") none [] >>= fun v => _) _ _ s
  rw [road_eq, latin _ _ (by rw [sizeLine_eq]; exact hb)]
  refine wpAny_bind (wpAny_bind (wpAny_pure ?_))
  exact wpAny_mkStr (wpAny_pure ⟨_, rfl, h⟩) (by rw [sizeLine_eq]; show (b.map _).size ≤ _; rw [Array.size_map]; exact hb)
theorem entry_eq : «bytes.decode» ⟨[.bytes (c :: cs).toArray t, .str (PySem.Str.ofString "latin-1") u], []⟩ = (mkStr (PySem.Str.ofString "utf-8") >>= fun _ => mkStr (PySem.Str.ofString "latin-1") >>= fun e => mkStr (PySem.Str.ofString "bytes.decode") >>= fun d =>
    call (.builtin "_codecs.decode.text") [.bytes (c :: cs).toArray t, e, .none, d] >>= fun v => ret v) := by kernel_rfl
theorem entry_nil : «bytes.decode» ⟨[.bytes ([] : List UInt8).toArray t, .str (PySem.Str.ofString "latin-1") u], []⟩ = (rule "bytes.decode.empty" >>= fun _ => retStr PySem.Str.empty) := by kernel_rfl
theorem meets_decode {bs : List UInt8} (hb : bs.length ≤ 16777216) :
    Meets («bytes.decode» ⟨[.bytes bs.toArray t, .str (PySem.Str.ofString "latin-1") u], []⟩) (fun _ R s => ∀ t' k, R (.ok (.ret (.str ⟨(bs.map (·.toNat)).toArray⟩ t'))) { s with toks := k }) := by
  refine .of_wp fun prog w A R s h => ?_
  cases bs with
  | nil =>
    rw [entry_nil]
    refine wpAny_bind (wpAny_rule ?_)
    exact wpAny_bind (wpAny_mkStr (wpAny_pure ⟨_, rfl, h _ _⟩) (by decide))
  | cons c cs =>
    rw [entry_eq]
    refine wpAny_bind (wpAny_mkStr ?_ (by decide))
    refine wpAny_bind (wpAny_mkStr ?_ (by decide))
    refine wpAny_bind (wpAny_mkStr ?_ (by decide))
    refine wpAny_bind (call_function_meets kind_text plain_text entry_text (args_text _ _ _ _) (meets_text (by simpa using hb)) (wpAny_pure ⟨_, rfl, ?_⟩))
    have := h
    simp only [List.map_toArray]
    exact this _ _
end
end KBl
theorem m_decode {prog : Program} {w : World} {A : Around} {E : Value → Shared → Prop} {s : Shared} {bs : List UInt8} {t u : Tok} {Q : Value → Shared → Prop} (hb : bs.length ≤ 16777216) (h : ∀ t' k, Q (.str ⟨(bs.map (·.toNat)).toArray⟩ t') { s with toks := k }) :
    wpAny (model prog w) A (call (.builtin "bytes.decode") [.bytes bs.toArray t, .str (PySem.Str.ofString "latin-1") u]) Q E s :=
  call_meets FB.slot_bytes_decode (typeIs_bytes _ _ _) FB.entry_bytes_decode (by unfold argsOk; kernel_rfl) (KBl.meets_decode hb) h
section
variable {M : Model} {A : Around} {E : Value → Shared → Prop} {s : Shared} {Kf : Frag} {h₀ : Heap} {m mg mb : Str → Option Value} {mean : ExcName → Option Value} {env : Env} {x : Str} {pos : Pos} {v : Value} {Q : Value → Shared → Prop} {p : Program} {loose : List Str} {L : Addr}
theorem m_builtin (hl : env.kindOf x = some .globalImplicit) (hk : env.scope.kind = .function) (hd : (x == ("__debug__" : Str)) = false) (hg : env.globals = mainGlobals) (hb : env.builtins = builtinsNs) (F : Fr h₀ L s.heap m) (X : Kf.In h₀) (T : Top p loose mean mg mb h₀)
    (e : nsIn Kf mainGlobals x = some none) (hn : x ≠ "__name__") (hv : bootBuiltins x = some v) (h : Q v s) : wpAny M A (eval (.Name x pos) env) Q E s :=
  Name_function_global hk hl (loadGlobal_builtin (env := env) (show s.heap.Ns env.globals mg from hg ▸ (T.keeps F.keep).g) (mg_none_of X T.g e) (show s.heap.Ns env.builtins mb from hb ▸ (T.keeps F.keep).b) ((T.builtins x hn).trans hv) h) hd
end
theorem m_len {prog : Program} {w : World} {A : Around} {E : Value → Shared → Prop} {s : Shared} {Q : Value → Shared → Prop} {r : List UInt8} {t : Tok} {k : Int} (e : (r.length : Int) = k) (hfit : r.length ≤ 1099511627776) (h : Q (.int k (s.toks + 1)) { s with toks := s.toks + 1 + 1 }) : wpAny (model prog w) A (call (.builtin "len") [.bytes r.toArray t]) Q E s := by
  subst e
  exact len_bytes (by simpa using hfit) (by simpa using h)
end Mine
end
section
namespace Mine
abbrev lat (t : List UInt8) : Str := ⟨(t.map (·.toNat)).toArray⟩
abbrev heldL (ha h2 : Addr) (x0 x1 : Str) (u0 u1 : Tok) (nn : Nat) (hvs : List Value) (n2 : Nat) : Led := [(ha, listOf #[.str x0 u0, .str x1 u1, .ref h2] nn), (h2, listOf hvs.toArray n2)]
abbrev chan (P : Params) (sx sd fR cS c1 ha h2 : Addr) (bs : List UInt8) (tb tv tr : Tok) (pm ctv : Value) (oS o1 : Obj) (x0 x1 : Str) (u0 u1 : Tok) (nn : Nat) (hvs : List Value) (n2 : Nat) : Led :=
  strm P sx sd fR cS c1 bs tb tv tr pm ctv oS o1 ++ heldL ha h2 x0 x1 u0 u1 nn hvs n2
theorem off_cons {q : Addr × Obj} {r : Led} {a : Addr} (h : @Ne Nat q.1 a) (t : Off r a) : Off (q :: r) a := fun p hp => by
  rcases List.mem_cons.mp hp with rfl | hp
  · exact h
  · exact t p hp
end Mine
end
section
namespace Mine
abbrev fsO (l : List Env) : List Addr := l.filterMap (·.frame)
theorem fs_mem {env : Env} {L b : Addr} {outer : List Env} (hf : env.frame = some L) (hm : b ∈ fsO (env :: outer)) : b = L ∨ b ∈ fsO outer := by
  obtain ⟨e, he, hb⟩ := List.mem_filterMap.mp hm
  rcases List.mem_cons.mp he with rfl | he
  · exact .inl (Option.some.inj (hb.symm.trans hf))
  · exact .inr (List.mem_filterMap.mpr ⟨e, he, hb⟩)
section
variable {prog : Program} {w : World} {A₀ A : Around} {s : Shared} {base h₀ g₀ : Heap} {outer : List Env} {L : Addr} {m : Str → Option Value} {env : Env} {news : Led} {Kf : Frag} {p : Program} {loose : List Str} {mean : ExcName → Option Value} {mg mb : Str → Option Value}
def Dn (Kf : Frag) (p : Program) (loose : List Str) (mean : ExcName → Option Value) (mg mb : Str → Option Value) (A₀ : Around) (base g₀ : Heap) (env : Env) (outer : List Env) (L : Addr) (m : Str → Option Value) (g : Heap) : Prop :=
  ∀ g', KtsTurn (fsO (env :: outer)) g g' → ∃ h₀', KtsTurn (fsO outer) g₀ h₀' ∧ (∀ h, (∀ b o, g'.get? b = some o → h.get? b = some o) → Fr h₀' L h m) ∧ Below A₀ base outer h₀' ∧ Kf.In h₀' ∧ Top p loose mean mg mb h₀' ∧ KtsDicts (fsO outer) h₀' ∧ ∀ b, g'.get? b = none → b ≠ L ∧ h₀'.get? b = none
theorem groundT (B : Below A₀ base outer h₀) (F : Fr h₀ L s.heap m) (N : News h₀ L s.heap news) (hA : A.frames = some (env :: outer)) (hf : env.frame = some L) (hke : env.scope.kind = .function)
    (XB : Kf.In base) (TB : Top p loose mean mg mb base) (D : KtsDicts (fsO outer) h₀) (T0 : KtsTurn (fsO outer) g₀ h₀) :
    Fr h₀ L (hideAll s.heap (news.map (·.1))) m ∧ Below A base (env :: outer) (hideAll s.heap (news.map (·.1))) ∧ h₀.StaysIn (hideAll s.heap (news.map (·.1))) ∧ KtsDicts (fsO (env :: outer)) (hideAll s.heap (news.map (·.1))) ∧
      Dn Kf p loose mean mg mb A₀ base g₀ env outer L m (hideAll s.heap (news.map (·.1))) := by
  obtain ⟨FG, BG, st, -⟩ := groundX (R := fun _ _ => True) B F N hA hf hke
  obtain ⟨oL, es, ep, hLg, hLd, hLk, hLf⟩ := FG.ns
  have nL₀ : h₀.get? L = none := kts_self F
  refine ⟨FG, BG, st, fun b hb => ?_, fun g' T' => ?_⟩
  · rcases fs_mem hf hb with rfl | hb
    · exact ⟨oL, es, ep, hLg, hLd⟩
    · obtain ⟨o, es', n', ho', hd'⟩ := D b hb
      exact ⟨o, es', n', st b o ho', hd'⟩
  · obtain ⟨sl, hs⟩ := T'.up hLg
    obtain ⟨T₁, S₁⟩ := kts_turn_at (h := g') (fs := fsO outer) (g := h₀)
      (fun b hb => by
        obtain ⟨_, o, ho', _⟩ := B.frames.mem hb
        exact ⟨o, ho'⟩)
      (fun b o e nmem => T'.other b o (st b o e) (fun q => by
        rcases fs_mem hf q with z | z
        · rw [z, nL₀] at e
          cases e
        · exact nmem z))
      (fun b o e hm => by
        obtain ⟨sl', hs'⟩ := T'.up (st b o e)
        exact ⟨sl', hs'⟩)
    have B₃ : Below A₀ base outer (ktsHeap g' (fsO outer) h₀) := ⟨B.stack, fun b o e => T₁.other b o (B.stays b o e) (fun hm => by
      rw [(B.frames.mem hm).1] at e
      cases e), B.frames.of_keeps fun b o e _ => by
      obtain ⟨sl', hs'⟩ := T₁.up e
      exact ⟨_, hs', rfl⟩⟩
    refine ⟨_, T0.trans T₁, fun h kh => ⟨⟨_, es, ep, kh _ _ hs, hLd, hLk, hLf⟩, fun b o e => kh _ _ (S₁ b o e), by rw [T₁.size]; exact F.above⟩, B₃, XB.keeps B₃.stays, TB.keeps B₃.stays, D.turn T₁, fun b hb => ⟨fun q => ?_, ?_⟩⟩
    · rw [q, hs] at hb; cases hb
    · refine T₁.none_ _ ?_
      cases q : h₀.get? b with
      | none => rfl
      | some o =>
        obtain ⟨sl', hs'⟩ := T'.up (st _ _ q)
        rw [hs'] at hb
        cases hb
def LeaveT (Kf : Frag) (p : Program) (loose : List Str) (mean : ExcName → Option Value) (mg mb : Str → Option Value) (A₀ : Around) (base g₀ : Heap) (env : Env) (outer : List Env) (L : Addr) (m : Str → Option Value) (g : Heap) (R : Result → Shared → Prop) (v : Value) (s' : Shared) : Prop :=
  ∃ g' L' m' news', KtsTurn (fsO (env :: outer)) g g' ∧ Fr g' L' s'.heap m' ∧ News g' L' s'.heap news' ∧ ∀ h₀', KtsTurn (fsO outer) g₀ h₀' → Below A₀ base outer h₀' → Fr h₀' L s'.heap m → News h₀' L s'.heap news' → Kf.In h₀' → Top p loose mean mg mb h₀' → KtsDicts (fsO outer) h₀' → R (.ok (.ret v)) s'
theorem LeaveT.use {g : Heap} {R : Result → Shared → Prop} {v : Value} {s' : Shared} (d : Dn Kf p loose mean mg mb A₀ base g₀ env outer L m g) (l : LeaveT Kf p loose mean mg mb A₀ base g₀ env outer L m g R v s') : R (.ok (.ret v)) s' := by
  obtain ⟨g', L', m', news', T', F', N', k⟩ := l
  obtain ⟨h₀', a1, a2, a3, a4, a5, a6, a7⟩ := d g' T'
  exact k h₀' a1 a3 (a2 _ F'.keep) (fun q hq => ⟨(N' q hq).1, (a7 _ (N' q hq).2.2).1, (a7 _ (N' q hq).2.2).2⟩) a4 a5 a6
theorem leaveT {g g' : Heap} {L' : Addr} {m' : Str → Option Value} {news' : Led} {R : Result → Shared → Prop} {v : Value} {s' : Shared} (F' : Fr g' L' s'.heap m') (N' : News g' L' s'.heap news') (T' : KtsTurn (fsO (env :: outer)) g g')
    (k : ∀ h₀', KtsTurn (fsO outer) g₀ h₀' → Below A₀ base outer h₀' → Fr h₀' L s'.heap m → News h₀' L s'.heap news' → Kf.In h₀' → Top p loose mean mg mb h₀' → KtsDicts (fsO outer) h₀' → R (.ok (.ret v)) s') :
    LeaveT Kf p loose mean mg mb A₀ base g₀ env outer L m g R v s' := ⟨g', L', m', news', T', F', N', k⟩
variable {R : Result → Shared → Prop} {name qual : Str} {params : Arguments} {body : List Stmt} {scope : Scope} {dV kV doc pm cdv ct oc : Value} {an od : Option Addr} {osl : Array (Option Value)} {f : Addr} {args : Args} {binds : List (Str × Value)}
theorem codeT (B : Below A₀ base outer h₀) (F : Fr h₀ L s.heap m) (X₀ : Kf.In h₀) (N : News h₀ L s.heap news) (T : Top p loose mean mg mb h₀) (hA : A.frames = some (env :: outer)) (hf : env.frame = some L) (hke : env.scope.kind = .function)
    (XB : Kf.In base) (TB : Top p loose mean mg mb base) (D : KtsDicts (fsO outer) h₀) (T0 : KtsTurn (fsO outer) g₀ h₀)
    (ho : Kf.lookup f = some ⟨oc, od, .func (fnOf name qual params body scope dV kV doc pm an cdv ct), osl⟩) (hcd : codeIn Kf cdv qual = true) (hroom : A.depth < recursionLimit)
    (hbind : BindsTo s (fnOf name qual params body scope dV kV doc pm an cdv ct) args binds) (hloc : ∀ y ∈ binds, scope.names.lookup y.1 = some .local)
    (h : ∀ g L' h₁, Fr h₀ L g m → Fr g L' h₁ (fun y => binds.reverse.lookup y) → News g L' h₁ news → Below A base (env :: outer) g → Kf.In g → Top p loose mean mg mb g → KtsDicts (fsO (env :: outer)) g → Dn Kf p loose mean mg mb A₀ base g₀ env outer L m g →
      wpAny (model prog w) (A.deeper (envOf qual scope L' f cdv)) (execs body (envOf qual scope L' f cdv))
        (fun fl s' => LeaveT Kf p loose mean mg mb A₀ base g₀ env outer L m g R (match fl with | .ret v => v | _ => .none) s')
        (fun e s' => wpAny (model prog w) (A.deeper (envOf qual scope L' f cdv)) (leaving (envOf qual scope L' f cdv) e) (fun _ s'' => R (.error e) s'') (fun e' s'' => R (.error e') s'') s')
        { s with heap := h₁, toks := s.toks + binds.length })
    (hco : scope.isCoroutine = false) (hgen : scope.isGenerator = false) (hk : scope.kind = .function)
    (hcell : ∀ x ∈ scope.names, x.2 ≠ .cell) : codeAny (model prog w) A (.call (.ref f) args) R s := by
  have X := X₀.keeps F.keep
  obtain ⟨FG, BG, st, DG, dn⟩ := groundT (Kf := Kf) B F N hA hf hke XB TB D T0
  refine codeAny_call_def (fd := fnOf name qual params body scope dV kV doc pm an cdv ct) (body := body) (binds := binds) hroom (X _ _ ho) rfl (T.nolimit.keeps F.keep) (codeRec_of X hcd) rfl hbind hcell hloc (fun h₁ hns hk₁ => ?_) hco hgen hk
  exact wpAny_mono (h _ s.heap.objs.size h₁ FG ⟨hns, fun b o e => hk₁ b o (of_hideAll _ e), Nat.le_of_eq (hideAll_size _ _)⟩
    (fun p hp => ⟨hk₁ _ _ (N p hp).1, Nat.ne_of_lt (Heap.lt_size (N p hp).1), hideAll_none _ (List.mem_map_of_mem hp)⟩) BG (X₀.keeps st) (T.keeps st) DG dn) (fun fl s' hl => hl.use dn) fun _ _ y => y
theorem lamT {cl : List (Str × Addr)} {c' : Addr} {body : Expr} {ctv : Value} (B : Below A₀ base outer h₀) (F : Fr h₀ L s.heap m) (X₀ : Kf.In h₀) (N : News h₀ L s.heap news) (T : Top p loose mean mg mb h₀) (hA : A.frames = some (env :: outer)) (hf : env.frame = some L) (hke : env.scope.kind = .function)
    (XB : Kf.In base) (TB : Top p loose mean mg mb base) (D : KtsDicts (fsO outer) h₀) (T0 : KtsTurn (fsO outer) g₀ h₀)
    (ho : (f, kla_obj name qual params body scope cl pm c' ctv) ∈ news) (hcd : s.heap.CodeRec (.ref c') qual) (hroom : A.depth < recursionLimit)
    (hbind : bindArgs (kla_fn name qual params body scope cl pm (.ref c') ctv) args = pure binds) (hloc : ∀ y ∈ binds, scope.names.lookup y.1 = some .local)
    (h : ∀ g L' h₁, Fr h₀ L g m → Fr g L' h₁ (fun y => binds.reverse.lookup y) → News g L' h₁ news → Below A base (env :: outer) g → Kf.In g → Top p loose mean mg mb g → KtsDicts (fsO (env :: outer)) g → Dn Kf p loose mean mg mb A₀ base g₀ env outer L m g →
      wpAny (model prog w) (A.deeper (envX qual scope L' f (.ref c') cl)) (eval body (envX qual scope L' f (.ref c') cl))
        (fun v s' => LeaveT Kf p loose mean mg mb A₀ base g₀ env outer L m g R v s')
        (fun e s' => wpAny (model prog w) (A.deeper (envX qual scope L' f (.ref c') cl)) (leaving (envX qual scope L' f (.ref c') cl) e) (fun _ s'' => R (.error e) s'') (fun e' s'' => R (.error e') s'') s')
        { s with heap := h₁, toks := s.toks + binds.length })
    (hco : scope.isCoroutine = false) (hgen : scope.isGenerator = false) (hk : scope.kind = .function)
    (hcell : ∀ x ∈ scope.names, x.2 ≠ .cell) : codeAny (model prog w) A (.call (.ref f) args) R s := by
  obtain ⟨FG, BG, st, DG, dn⟩ := groundT (Kf := Kf) B F N hA hf hke XB TB D T0
  refine kla_callFunE hroom (N _ ho).1 rfl hco hgen rfl hcd ?_
  rw [hbind]
  refine wpAny_pure (wpAny_newFunctionEnv hcell hloc (fun h₁ hns hsb => ⟨((T.nolimit).keeps F.keep).fresh _ hsb, ?_⟩) hk)
  show codeAny _ _ (.expr body (envX qual scope s.heap.objs.size f (.ref c') cl)) _ _
  have hk₁ : ∀ b o, s.heap.get? b = some o → h₁.get? b = some o := fun b o e => hsb.extBut b o (Nat.ne_of_lt (Heap.lt_size e)) (Heap.get?_push_of_some _ e)
  exact kla_codeExpr (wpAny_mono (h _ s.heap.objs.size h₁ FG ⟨hns, fun b o e => hk₁ b o (of_hideAll _ e), Nat.le_of_eq (hideAll_size _ _)⟩
    (fun p hp => ⟨hk₁ _ _ (N p hp).1, Nat.ne_of_lt (Heap.lt_size (N p hp).1), hideAll_none _ (List.mem_map_of_mem hp)⟩) BG (X₀.keeps st) (T.keeps st) DG dn) (fun v s' hl => hl.use dn) fun _ _ y => y)
end
def CtrT (w : World) (f : Addr) (vs : List Value) (own : Led) (D U : Nat) (post : Value → Led → Prop) (xp : List Value → Led → Prop) : Prop :=
  PySem.Challenge.rw_in0150_01 = PySem.Challenge.rw_in0150_01 → ∀ (mean : ExcName → Option Value) (mg mb : Str → Option Value) (dp un : Nat) (gd : Option (List Code)) (cn : Str) (cs : Scope) (a : Addr) (ccd : Value) (cl : List (Str × Addr)) (outer : List Env) (A₀ : Around)
    (base g₀ h₀ : Heap) (L : Addr) (m : Str → Option Value) (s : Shared) (rest : Led) (Q E : Value → Shared → Prop),
    Below A₀ base outer h₀ → Fr h₀ L s.heap m → (K w.params).In h₀ → News h₀ L s.heap (own ++ rest) → Offs rest own → Dis own → TopQ mean mg mb h₀ → (K w.params).In base → TopQ mean mg mb base → KtsDicts (fsO outer) h₀ → KtsTurn (fsO outer) g₀ h₀ → cs.kind = .function → dp + D < recursionLimit → un + U < cLine →
    (∀ v own' h' tk' h₀', post v own' → KtsTurn (fsO outer) g₀ h₀' → Below A₀ base outer h₀' → Fr h₀' L h' m → News h₀' L h' (own' ++ rest) → (K w.params).In h₀' → TopQ mean mg mb h₀' → KtsDicts (fsO outer) h₀' → Q v { s with heap := h', toks := tk' }) →
    (∀ e t xs own' h' tk' G h₀', xp xs own' → KtsTurn (fsO outer) g₀ h₀' → Below A₀ base outer h₀' → Fr h₀' L G m → (K w.params).In h₀' → TopQ mean mg mb h₀' → KtsDicts (fsO outer) h₀' → RaisedS base G (envX cn cs L a ccd cl :: outer) e (.type "ValueError") t xs (own' ++ rest) h' → G.UpToSlots h' → E (.ref e) { s with heap := h', toks := tk' }) →
    wpAny (model P0 w) (ktrTop dp un gd cn cs L a ccd cl outer) (call (.ref f) vs) Q E s
theorem ctrT_use {w : World} {f : Addr} {vs : List Value} {own : Led} {D U : Nat} {post : Value → Led → Prop} {xp : List Value → Led → Prop} {mean : ExcName → Option Value} {mg mb : Str → Option Value} {dp un : Nat} {gd : Option (List Code)} {cn : Str} {cs : Scope} {a : Addr} {ccd : Value} {cl : List (Str × Addr)} {outer : List Env} {A₀ : Around}
    {base g₀ h₀ : Heap} {L : Addr} {m : Str → Option Value} {s : Shared} {news rest : Led} {Q E : Value → Shared → Prop}
    (B : Below A₀ base outer h₀) (F : Fr h₀ L s.heap m) (X : (K w.params).In h₀) (N : News h₀ L s.heap news) (pk : Pick own news rest) (O : Offs rest own) (Di : Dis own) (T : TopQ mean mg mb h₀) (XB : (K w.params).In base) (TB : TopQ mean mg mb base) (Dd : KtsDicts (fsO outer) h₀) (T0 : KtsTurn (fsO outer) g₀ h₀) (hk : cs.kind = .function) (hd : dp + D < recursionLimit) (hu : un + U < cLine)
    (C : CtrT w f vs own D U post xp)
    (h : ∀ v own' h' tk' h₀', post v own' → KtsTurn (fsO outer) g₀ h₀' → Below A₀ base outer h₀' → Fr h₀' L h' m → News h₀' L h' (own' ++ rest) → (K w.params).In h₀' → TopQ mean mg mb h₀' → KtsDicts (fsO outer) h₀' → Q v { s with heap := h', toks := tk' })
    (hx : ∀ e t xs own' h' tk' G h₀', xp xs own' → KtsTurn (fsO outer) g₀ h₀' → Below A₀ base outer h₀' → Fr h₀' L G m → (K w.params).In h₀' → TopQ mean mg mb h₀' → KtsDicts (fsO outer) h₀' → RaisedS base G (envX cn cs L a ccd cl :: outer) e (.type "ValueError") t xs (own' ++ rest) h' → G.UpToSlots h' → E (.ref e) { s with heap := h', toks := tk' }) :
    wpAny (model P0 w) (ktrTop dp un gd cn cs L a ccd cl outer) (call (.ref f) vs) Q E s :=
  C rfl mean mg mb dp un gd cn cs a ccd cl outer A₀ base g₀ h₀ L m s rest Q E B F X (led_to N pk.mem) O Di T XB TB Dd T0 hk hd hu h hx
theorem ctrT_use2 {w : World} {f : Addr} {vs : List Value} {own : Led} {D U : Nat} {post : Value → Led → Prop} {xp : List Value → Led → Prop} {mean : ExcName → Option Value} {mg mb : Str → Option Value} {dp un : Nat} {gd : Option (List Code)} {cn : Str} {cs : Scope} {a : Addr} {ccd : Value} {cl : List (Str × Addr)} {outer : List Env} {A₀ : Around}
    {base g₀ h₀ : Heap} {L : Addr} {m : Str → Option Value} {s : Shared} {news rest : Led} {Q E : Value → Shared → Prop}
    (B : Below A₀ base outer h₀) (F : Fr h₀ L s.heap m) (X : (K w.params).In h₀) (N : News h₀ L s.heap news) (pk : Pick own news rest) (O : Offs rest own) (Di : Dis own) (T : TopQ mean mg mb h₀) (XB : (K w.params).In base) (TB : TopQ mean mg mb base) (Dd : KtsDicts (fsO outer) h₀) (T0 : KtsTurn (fsO outer) g₀ h₀) (hk : cs.kind = .function) (hd : dp + D < recursionLimit) (hu : un + U < cLine)
    (C : CtrT w f vs own D U post xp)
    (h : (∀ e t xs own' h' tk' G h₀', xp xs own' → KtsTurn (fsO outer) g₀ h₀' → Below A₀ base outer h₀' → Fr h₀' L G m → (K w.params).In h₀' → TopQ mean mg mb h₀' → KtsDicts (fsO outer) h₀' → RaisedS base G (envX cn cs L a ccd cl :: outer) e (.type "ValueError") t xs (own' ++ rest) h' → G.UpToSlots h' → E (.ref e) { s with heap := h', toks := tk' }) ∧
      (∀ v own' h' tk' h₀', post v own' → KtsTurn (fsO outer) g₀ h₀' → Below A₀ base outer h₀' → Fr h₀' L h' m → News h₀' L h' (own' ++ rest) → (K w.params).In h₀' → TopQ mean mg mb h₀' → KtsDicts (fsO outer) h₀' → Q v { s with heap := h', toks := tk' })) :
    wpAny (model P0 w) (ktrTop dp un gd cn cs L a ccd cl outer) (call (.ref f) vs) Q E s := ctrT_use B F X N pk O Di T XB TB Dd T0 hk hd hu C h.2 h.1
theorem Ctr.toT {w : World} {f : Addr} {vs : List Value} {own : Led} {D U : Nat} {post : Value → Led → Prop} (C : Ctr w f vs own D U post) : CtrT w f vs own D U post (fun _ _ => False) :=
  fun e mean mg mb dp un gd cn cs a ccd cl outer A₀ base g₀ h₀ L m s rest Q E B F X N O Di T XB TB Dd T0 hk hd hu h _ =>
    C e mean mg mb dp un gd cn cs a ccd cl outer A₀ base h₀ L m s rest Q E B F X N O Di T hk hd hu fun v own' h' tk' hp F' N' => h v own' h' tk' h₀ hp T0 B F' N' X T Dd
theorem turn_nil_fr {h₀ h₀' h : Heap} {L : Addr} {m : Str → Option Value} (T : KtsTurn [] h₀ h₀') (F : Fr h₀' L h m) : Fr h₀ L h m := ⟨F.ns, fun b o e => F.keep b o (T.other b o e (fun q => nomatch q)), by rw [← T.size]; exact F.above⟩
theorem turn_nil_news {h₀ h₀' h : Heap} {L : Addr} {news : Led} (T : KtsTurn [] h₀ h₀') (N : News h₀' L h news) : News h₀ L h news := fun q hq => ⟨(N q hq).1, (N q hq).2.1, by
  cases e : h₀.get? q.1 with
  | none => rfl
  | some o =>
    have := T.other _ _ e (fun q => nomatch q)
    rw [(N q hq).2.2] at this
    cases this⟩
end Mine
end
section
namespace Mine
universe u
@[irreducible] noncomputable def cex {α : Sort u} (n : Nonempty α) (P : α → Prop) : α := @Classical.epsilon α n fun x => ¬ P x
def Hold1 {α : Sort u} (P : α → Prop) (a : α) : Prop := P a
theorem hold1 {α : Sort u} {P : α → Prop} {a : α} (h : P a) : Hold1 P a := h
theorem eps1 {α : Sort u} (n : Nonempty α) {P : α → Prop} (h : Hold1 P (cex n P)) : ∀ x, P x := fun x => Classical.byContradiction fun hx => by
  have h : P (cex n P) := h
  have h2 := @Classical.epsilon_spec α (fun x => ¬ P x) ⟨x, hx⟩
  unfold cex at h
  exact h2 h
@[irreducible] noncomputable def cex2 {α1 α2 : Type} (n1 : Nonempty α1) (n2 : Nonempty α2) (P : α1 → α2 → Prop) : α1 × α2 := cex (α := α1 × α2) ⟨(Classical.choice n1, Classical.choice n2)⟩ fun x => P x.1 x.2
noncomputable def q21 {α1 α2 : Type} (x : α1 × α2) : α1 := x.1
noncomputable def q22 {α1 α2 : Type} (x : α1 × α2) : α2 := x.2
def Hold2 {α1 α2 : Type} (P : α1 → α2 → Prop) (x0 : α1) (x1 : α2) : Prop := P x0 x1
theorem hold2 {α1 α2 : Type} {P : α1 → α2 → Prop} {x0 : α1} {x1 : α2} (h : P x0 x1) : Hold2 P x0 x1 := h
theorem eps2 {α1 α2 : Type} (n1 : Nonempty α1) (n2 : Nonempty α2) {P : α1 → α2 → Prop} (h : Hold2 P (q21 (cex2 n1 n2 P)) (q22 (cex2 n1 n2 P))) : ∀ x0 x1, P x0 x1 := fun x0 x1 => eps1 (α := α1 × α2) ⟨(Classical.choice n1, Classical.choice n2)⟩ (P := fun x => P x.1 x.2) (by unfold cex2 at h; exact h) (x0, x1)
@[irreducible] noncomputable def cex3 {α1 α2 α3 : Type} (n1 : Nonempty α1) (n2 : Nonempty α2) (n3 : Nonempty α3) (P : α1 → α2 → α3 → Prop) : α1 × α2 × α3 := cex (α := α1 × α2 × α3) ⟨(Classical.choice n1, Classical.choice n2, Classical.choice n3)⟩ fun x => P x.1 x.2.1 x.2.2
noncomputable def q31 {α1 α2 α3 : Type} (x : α1 × α2 × α3) : α1 := x.1
noncomputable def q32 {α1 α2 α3 : Type} (x : α1 × α2 × α3) : α2 := x.2.1
noncomputable def q33 {α1 α2 α3 : Type} (x : α1 × α2 × α3) : α3 := x.2.2
def Hold3 {α1 α2 α3 : Type} (P : α1 → α2 → α3 → Prop) (x0 : α1) (x1 : α2) (x2 : α3) : Prop := P x0 x1 x2
theorem hold3 {α1 α2 α3 : Type} {P : α1 → α2 → α3 → Prop} {x0 : α1} {x1 : α2} {x2 : α3} (h : P x0 x1 x2) : Hold3 P x0 x1 x2 := h
theorem eps3 {α1 α2 α3 : Type} (n1 : Nonempty α1) (n2 : Nonempty α2) (n3 : Nonempty α3) {P : α1 → α2 → α3 → Prop} (h : Hold3 P (q31 (cex3 n1 n2 n3 P)) (q32 (cex3 n1 n2 n3 P)) (q33 (cex3 n1 n2 n3 P))) : ∀ x0 x1 x2, P x0 x1 x2 := fun x0 x1 x2 => eps1 (α := α1 × α2 × α3) ⟨(Classical.choice n1, Classical.choice n2, Classical.choice n3)⟩ (P := fun x => P x.1 x.2.1 x.2.2) (by unfold cex3 at h; exact h) (x0, x1, x2)
@[irreducible] noncomputable def cex4 {α1 α2 α3 α4 : Type} (n1 : Nonempty α1) (n2 : Nonempty α2) (n3 : Nonempty α3) (n4 : Nonempty α4) (P : α1 → α2 → α3 → α4 → Prop) : α1 × α2 × α3 × α4 := cex (α := α1 × α2 × α3 × α4) ⟨(Classical.choice n1, Classical.choice n2, Classical.choice n3, Classical.choice n4)⟩ fun x => P x.1 x.2.1 x.2.2.1 x.2.2.2
noncomputable def q41 {α1 α2 α3 α4 : Type} (x : α1 × α2 × α3 × α4) : α1 := x.1
noncomputable def q42 {α1 α2 α3 α4 : Type} (x : α1 × α2 × α3 × α4) : α2 := x.2.1
noncomputable def q43 {α1 α2 α3 α4 : Type} (x : α1 × α2 × α3 × α4) : α3 := x.2.2.1
noncomputable def q44 {α1 α2 α3 α4 : Type} (x : α1 × α2 × α3 × α4) : α4 := x.2.2.2
def Hold4 {α1 α2 α3 α4 : Type} (P : α1 → α2 → α3 → α4 → Prop) (x0 : α1) (x1 : α2) (x2 : α3) (x3 : α4) : Prop := P x0 x1 x2 x3
theorem hold4 {α1 α2 α3 α4 : Type} {P : α1 → α2 → α3 → α4 → Prop} {x0 : α1} {x1 : α2} {x2 : α3} {x3 : α4} (h : P x0 x1 x2 x3) : Hold4 P x0 x1 x2 x3 := h
theorem eps4 {α1 α2 α3 α4 : Type} (n1 : Nonempty α1) (n2 : Nonempty α2) (n3 : Nonempty α3) (n4 : Nonempty α4) {P : α1 → α2 → α3 → α4 → Prop} (h : Hold4 P (q41 (cex4 n1 n2 n3 n4 P)) (q42 (cex4 n1 n2 n3 n4 P)) (q43 (cex4 n1 n2 n3 n4 P)) (q44 (cex4 n1 n2 n3 n4 P))) : ∀ x0 x1 x2 x3, P x0 x1 x2 x3 := fun x0 x1 x2 x3 => eps1 (α := α1 × α2 × α3 × α4) ⟨(Classical.choice n1, Classical.choice n2, Classical.choice n3, Classical.choice n4)⟩ (P := fun x => P x.1 x.2.1 x.2.2.1 x.2.2.2) (by unfold cex4 at h; exact h) (x0, x1, x2, x3)
@[irreducible] noncomputable def cex5 {α1 α2 α3 α4 α5 : Type} (n1 : Nonempty α1) (n2 : Nonempty α2) (n3 : Nonempty α3) (n4 : Nonempty α4) (n5 : Nonempty α5) (P : α1 → α2 → α3 → α4 → α5 → Prop) : α1 × α2 × α3 × α4 × α5 := cex (α := α1 × α2 × α3 × α4 × α5) ⟨(Classical.choice n1, Classical.choice n2, Classical.choice n3, Classical.choice n4, Classical.choice n5)⟩ fun x => P x.1 x.2.1 x.2.2.1 x.2.2.2.1 x.2.2.2.2
noncomputable def q51 {α1 α2 α3 α4 α5 : Type} (x : α1 × α2 × α3 × α4 × α5) : α1 := x.1
noncomputable def q52 {α1 α2 α3 α4 α5 : Type} (x : α1 × α2 × α3 × α4 × α5) : α2 := x.2.1
noncomputable def q53 {α1 α2 α3 α4 α5 : Type} (x : α1 × α2 × α3 × α4 × α5) : α3 := x.2.2.1
noncomputable def q54 {α1 α2 α3 α4 α5 : Type} (x : α1 × α2 × α3 × α4 × α5) : α4 := x.2.2.2.1
noncomputable def q55 {α1 α2 α3 α4 α5 : Type} (x : α1 × α2 × α3 × α4 × α5) : α5 := x.2.2.2.2
def Hold5 {α1 α2 α3 α4 α5 : Type} (P : α1 → α2 → α3 → α4 → α5 → Prop) (x0 : α1) (x1 : α2) (x2 : α3) (x3 : α4) (x4 : α5) : Prop := P x0 x1 x2 x3 x4
theorem hold5 {α1 α2 α3 α4 α5 : Type} {P : α1 → α2 → α3 → α4 → α5 → Prop} {x0 : α1} {x1 : α2} {x2 : α3} {x3 : α4} {x4 : α5} (h : P x0 x1 x2 x3 x4) : Hold5 P x0 x1 x2 x3 x4 := h
theorem eps5 {α1 α2 α3 α4 α5 : Type} (n1 : Nonempty α1) (n2 : Nonempty α2) (n3 : Nonempty α3) (n4 : Nonempty α4) (n5 : Nonempty α5) {P : α1 → α2 → α3 → α4 → α5 → Prop} (h : Hold5 P (q51 (cex5 n1 n2 n3 n4 n5 P)) (q52 (cex5 n1 n2 n3 n4 n5 P)) (q53 (cex5 n1 n2 n3 n4 n5 P)) (q54 (cex5 n1 n2 n3 n4 n5 P)) (q55 (cex5 n1 n2 n3 n4 n5 P))) : ∀ x0 x1 x2 x3 x4, P x0 x1 x2 x3 x4 := fun x0 x1 x2 x3 x4 => eps1 (α := α1 × α2 × α3 × α4 × α5) ⟨(Classical.choice n1, Classical.choice n2, Classical.choice n3, Classical.choice n4, Classical.choice n5)⟩ (P := fun x => P x.1 x.2.1 x.2.2.1 x.2.2.2.1 x.2.2.2.2) (by unfold cex5 at h; exact h) (x0, x1, x2, x3, x4)
@[irreducible] noncomputable def cex6 {α1 α2 α3 α4 α5 α6 : Type} (n1 : Nonempty α1) (n2 : Nonempty α2) (n3 : Nonempty α3) (n4 : Nonempty α4) (n5 : Nonempty α5) (n6 : Nonempty α6) (P : α1 → α2 → α3 → α4 → α5 → α6 → Prop) : α1 × α2 × α3 × α4 × α5 × α6 := cex (α := α1 × α2 × α3 × α4 × α5 × α6) ⟨(Classical.choice n1, Classical.choice n2, Classical.choice n3, Classical.choice n4, Classical.choice n5, Classical.choice n6)⟩ fun x => P x.1 x.2.1 x.2.2.1 x.2.2.2.1 x.2.2.2.2.1 x.2.2.2.2.2
noncomputable def q61 {α1 α2 α3 α4 α5 α6 : Type} (x : α1 × α2 × α3 × α4 × α5 × α6) : α1 := x.1
noncomputable def q62 {α1 α2 α3 α4 α5 α6 : Type} (x : α1 × α2 × α3 × α4 × α5 × α6) : α2 := x.2.1
noncomputable def q63 {α1 α2 α3 α4 α5 α6 : Type} (x : α1 × α2 × α3 × α4 × α5 × α6) : α3 := x.2.2.1
noncomputable def q64 {α1 α2 α3 α4 α5 α6 : Type} (x : α1 × α2 × α3 × α4 × α5 × α6) : α4 := x.2.2.2.1
noncomputable def q65 {α1 α2 α3 α4 α5 α6 : Type} (x : α1 × α2 × α3 × α4 × α5 × α6) : α5 := x.2.2.2.2.1
noncomputable def q66 {α1 α2 α3 α4 α5 α6 : Type} (x : α1 × α2 × α3 × α4 × α5 × α6) : α6 := x.2.2.2.2.2
def Hold6 {α1 α2 α3 α4 α5 α6 : Type} (P : α1 → α2 → α3 → α4 → α5 → α6 → Prop) (x0 : α1) (x1 : α2) (x2 : α3) (x3 : α4) (x4 : α5) (x5 : α6) : Prop := P x0 x1 x2 x3 x4 x5
theorem hold6 {α1 α2 α3 α4 α5 α6 : Type} {P : α1 → α2 → α3 → α4 → α5 → α6 → Prop} {x0 : α1} {x1 : α2} {x2 : α3} {x3 : α4} {x4 : α5} {x5 : α6} (h : P x0 x1 x2 x3 x4 x5) : Hold6 P x0 x1 x2 x3 x4 x5 := h
theorem eps6 {α1 α2 α3 α4 α5 α6 : Type} (n1 : Nonempty α1) (n2 : Nonempty α2) (n3 : Nonempty α3) (n4 : Nonempty α4) (n5 : Nonempty α5) (n6 : Nonempty α6) {P : α1 → α2 → α3 → α4 → α5 → α6 → Prop} (h : Hold6 P (q61 (cex6 n1 n2 n3 n4 n5 n6 P)) (q62 (cex6 n1 n2 n3 n4 n5 n6 P)) (q63 (cex6 n1 n2 n3 n4 n5 n6 P)) (q64 (cex6 n1 n2 n3 n4 n5 n6 P)) (q65 (cex6 n1 n2 n3 n4 n5 n6 P)) (q66 (cex6 n1 n2 n3 n4 n5 n6 P))) : ∀ x0 x1 x2 x3 x4 x5, P x0 x1 x2 x3 x4 x5 := fun x0 x1 x2 x3 x4 x5 => eps1 (α := α1 × α2 × α3 × α4 × α5 × α6) ⟨(Classical.choice n1, Classical.choice n2, Classical.choice n3, Classical.choice n4, Classical.choice n5, Classical.choice n6)⟩ (P := fun x => P x.1 x.2.1 x.2.2.1 x.2.2.2.1 x.2.2.2.2.1 x.2.2.2.2.2) (by unfold cex6 at h; exact h) (x0, x1, x2, x3, x4, x5)
@[irreducible] noncomputable def cex7 {α1 α2 α3 α4 α5 α6 α7 : Type} (n1 : Nonempty α1) (n2 : Nonempty α2) (n3 : Nonempty α3) (n4 : Nonempty α4) (n5 : Nonempty α5) (n6 : Nonempty α6) (n7 : Nonempty α7) (P : α1 → α2 → α3 → α4 → α5 → α6 → α7 → Prop) : α1 × α2 × α3 × α4 × α5 × α6 × α7 := cex (α := α1 × α2 × α3 × α4 × α5 × α6 × α7) ⟨(Classical.choice n1, Classical.choice n2, Classical.choice n3, Classical.choice n4, Classical.choice n5, Classical.choice n6, Classical.choice n7)⟩ fun x => P x.1 x.2.1 x.2.2.1 x.2.2.2.1 x.2.2.2.2.1 x.2.2.2.2.2.1 x.2.2.2.2.2.2
noncomputable def q71 {α1 α2 α3 α4 α5 α6 α7 : Type} (x : α1 × α2 × α3 × α4 × α5 × α6 × α7) : α1 := x.1
noncomputable def q72 {α1 α2 α3 α4 α5 α6 α7 : Type} (x : α1 × α2 × α3 × α4 × α5 × α6 × α7) : α2 := x.2.1
noncomputable def q73 {α1 α2 α3 α4 α5 α6 α7 : Type} (x : α1 × α2 × α3 × α4 × α5 × α6 × α7) : α3 := x.2.2.1
noncomputable def q74 {α1 α2 α3 α4 α5 α6 α7 : Type} (x : α1 × α2 × α3 × α4 × α5 × α6 × α7) : α4 := x.2.2.2.1
noncomputable def q75 {α1 α2 α3 α4 α5 α6 α7 : Type} (x : α1 × α2 × α3 × α4 × α5 × α6 × α7) : α5 := x.2.2.2.2.1
noncomputable def q76 {α1 α2 α3 α4 α5 α6 α7 : Type} (x : α1 × α2 × α3 × α4 × α5 × α6 × α7) : α6 := x.2.2.2.2.2.1
noncomputable def q77 {α1 α2 α3 α4 α5 α6 α7 : Type} (x : α1 × α2 × α3 × α4 × α5 × α6 × α7) : α7 := x.2.2.2.2.2.2
def Hold7 {α1 α2 α3 α4 α5 α6 α7 : Type} (P : α1 → α2 → α3 → α4 → α5 → α6 → α7 → Prop) (x0 : α1) (x1 : α2) (x2 : α3) (x3 : α4) (x4 : α5) (x5 : α6) (x6 : α7) : Prop := P x0 x1 x2 x3 x4 x5 x6
theorem hold7 {α1 α2 α3 α4 α5 α6 α7 : Type} {P : α1 → α2 → α3 → α4 → α5 → α6 → α7 → Prop} {x0 : α1} {x1 : α2} {x2 : α3} {x3 : α4} {x4 : α5} {x5 : α6} {x6 : α7} (h : P x0 x1 x2 x3 x4 x5 x6) : Hold7 P x0 x1 x2 x3 x4 x5 x6 := h
theorem eps7 {α1 α2 α3 α4 α5 α6 α7 : Type} (n1 : Nonempty α1) (n2 : Nonempty α2) (n3 : Nonempty α3) (n4 : Nonempty α4) (n5 : Nonempty α5) (n6 : Nonempty α6) (n7 : Nonempty α7) {P : α1 → α2 → α3 → α4 → α5 → α6 → α7 → Prop} (h : Hold7 P (q71 (cex7 n1 n2 n3 n4 n5 n6 n7 P)) (q72 (cex7 n1 n2 n3 n4 n5 n6 n7 P)) (q73 (cex7 n1 n2 n3 n4 n5 n6 n7 P)) (q74 (cex7 n1 n2 n3 n4 n5 n6 n7 P)) (q75 (cex7 n1 n2 n3 n4 n5 n6 n7 P)) (q76 (cex7 n1 n2 n3 n4 n5 n6 n7 P)) (q77 (cex7 n1 n2 n3 n4 n5 n6 n7 P))) : ∀ x0 x1 x2 x3 x4 x5 x6, P x0 x1 x2 x3 x4 x5 x6 := fun x0 x1 x2 x3 x4 x5 x6 => eps1 (α := α1 × α2 × α3 × α4 × α5 × α6 × α7) ⟨(Classical.choice n1, Classical.choice n2, Classical.choice n3, Classical.choice n4, Classical.choice n5, Classical.choice n6, Classical.choice n7)⟩ (P := fun x => P x.1 x.2.1 x.2.2.1 x.2.2.2.1 x.2.2.2.2.1 x.2.2.2.2.2.1 x.2.2.2.2.2.2) (by unfold cex7 at h; exact h) (x0, x1, x2, x3, x4, x5, x6)
@[irreducible] noncomputable def cex8 {α1 α2 α3 α4 α5 α6 α7 α8 : Type} (n1 : Nonempty α1) (n2 : Nonempty α2) (n3 : Nonempty α3) (n4 : Nonempty α4) (n5 : Nonempty α5) (n6 : Nonempty α6) (n7 : Nonempty α7) (n8 : Nonempty α8) (P : α1 → α2 → α3 → α4 → α5 → α6 → α7 → α8 → Prop) : α1 × α2 × α3 × α4 × α5 × α6 × α7 × α8 := cex (α := α1 × α2 × α3 × α4 × α5 × α6 × α7 × α8) ⟨(Classical.choice n1, Classical.choice n2, Classical.choice n3, Classical.choice n4, Classical.choice n5, Classical.choice n6, Classical.choice n7, Classical.choice n8)⟩ fun x => P x.1 x.2.1 x.2.2.1 x.2.2.2.1 x.2.2.2.2.1 x.2.2.2.2.2.1 x.2.2.2.2.2.2.1 x.2.2.2.2.2.2.2
noncomputable def q81 {α1 α2 α3 α4 α5 α6 α7 α8 : Type} (x : α1 × α2 × α3 × α4 × α5 × α6 × α7 × α8) : α1 := x.1
noncomputable def q82 {α1 α2 α3 α4 α5 α6 α7 α8 : Type} (x : α1 × α2 × α3 × α4 × α5 × α6 × α7 × α8) : α2 := x.2.1
noncomputable def q83 {α1 α2 α3 α4 α5 α6 α7 α8 : Type} (x : α1 × α2 × α3 × α4 × α5 × α6 × α7 × α8) : α3 := x.2.2.1
noncomputable def q84 {α1 α2 α3 α4 α5 α6 α7 α8 : Type} (x : α1 × α2 × α3 × α4 × α5 × α6 × α7 × α8) : α4 := x.2.2.2.1
noncomputable def q85 {α1 α2 α3 α4 α5 α6 α7 α8 : Type} (x : α1 × α2 × α3 × α4 × α5 × α6 × α7 × α8) : α5 := x.2.2.2.2.1
noncomputable def q86 {α1 α2 α3 α4 α5 α6 α7 α8 : Type} (x : α1 × α2 × α3 × α4 × α5 × α6 × α7 × α8) : α6 := x.2.2.2.2.2.1
noncomputable def q87 {α1 α2 α3 α4 α5 α6 α7 α8 : Type} (x : α1 × α2 × α3 × α4 × α5 × α6 × α7 × α8) : α7 := x.2.2.2.2.2.2.1
noncomputable def q88 {α1 α2 α3 α4 α5 α6 α7 α8 : Type} (x : α1 × α2 × α3 × α4 × α5 × α6 × α7 × α8) : α8 := x.2.2.2.2.2.2.2
def Hold8 {α1 α2 α3 α4 α5 α6 α7 α8 : Type} (P : α1 → α2 → α3 → α4 → α5 → α6 → α7 → α8 → Prop) (x0 : α1) (x1 : α2) (x2 : α3) (x3 : α4) (x4 : α5) (x5 : α6) (x6 : α7) (x7 : α8) : Prop := P x0 x1 x2 x3 x4 x5 x6 x7
theorem hold8 {α1 α2 α3 α4 α5 α6 α7 α8 : Type} {P : α1 → α2 → α3 → α4 → α5 → α6 → α7 → α8 → Prop} {x0 : α1} {x1 : α2} {x2 : α3} {x3 : α4} {x4 : α5} {x5 : α6} {x6 : α7} {x7 : α8} (h : P x0 x1 x2 x3 x4 x5 x6 x7) : Hold8 P x0 x1 x2 x3 x4 x5 x6 x7 := h
theorem eps8 {α1 α2 α3 α4 α5 α6 α7 α8 : Type} (n1 : Nonempty α1) (n2 : Nonempty α2) (n3 : Nonempty α3) (n4 : Nonempty α4) (n5 : Nonempty α5) (n6 : Nonempty α6) (n7 : Nonempty α7) (n8 : Nonempty α8) {P : α1 → α2 → α3 → α4 → α5 → α6 → α7 → α8 → Prop} (h : Hold8 P (q81 (cex8 n1 n2 n3 n4 n5 n6 n7 n8 P)) (q82 (cex8 n1 n2 n3 n4 n5 n6 n7 n8 P)) (q83 (cex8 n1 n2 n3 n4 n5 n6 n7 n8 P)) (q84 (cex8 n1 n2 n3 n4 n5 n6 n7 n8 P)) (q85 (cex8 n1 n2 n3 n4 n5 n6 n7 n8 P)) (q86 (cex8 n1 n2 n3 n4 n5 n6 n7 n8 P)) (q87 (cex8 n1 n2 n3 n4 n5 n6 n7 n8 P)) (q88 (cex8 n1 n2 n3 n4 n5 n6 n7 n8 P))) : ∀ x0 x1 x2 x3 x4 x5 x6 x7, P x0 x1 x2 x3 x4 x5 x6 x7 := fun x0 x1 x2 x3 x4 x5 x6 x7 => eps1 (α := α1 × α2 × α3 × α4 × α5 × α6 × α7 × α8) ⟨(Classical.choice n1, Classical.choice n2, Classical.choice n3, Classical.choice n4, Classical.choice n5, Classical.choice n6, Classical.choice n7, Classical.choice n8)⟩ (P := fun x => P x.1 x.2.1 x.2.2.1 x.2.2.2.1 x.2.2.2.2.1 x.2.2.2.2.2.1 x.2.2.2.2.2.2.1 x.2.2.2.2.2.2.2) (by unfold cex8 at h; exact h) (x0, x1, x2, x3, x4, x5, x6, x7)
def defS0 : Scope := { kind := .function, names := [], isGenerator := false, isCoroutine := false }
def w0 : World := { draws := fun _ _ => 0, params := {strHash := fun _ => 0, shareClass := fun _ => 0, mergeTok := fun t => t, idOf := fun _ => 0, idOfShared := fun _ _ => 0, followText := fun _ => true, idOfImm := fun _ => 0} }
theorem eH : Nonempty (Heap) := ⟨({} : Heap)⟩
theorem eN : Nonempty (Nat) := ⟨((0 : Nat) : Nat)⟩
theorem eV : Nonempty (Value) := ⟨(.none : Value)⟩
theorem eO : Nonempty (Obj) := ⟨(default : Obj)⟩
theorem eLV : Nonempty (List Value) := ⟨([] : List Value)⟩
theorem eL : Nonempty (Led) := ⟨([] : Led)⟩
theorem eB : Nonempty (Bool) := ⟨(false : Bool)⟩
theorem eM : Nonempty (Str → Option Value) := ⟨(fun _ => none : Str → Option Value)⟩
theorem eT : Nonempty (List UInt8) := ⟨([] : List UInt8)⟩
theorem eU : Nonempty (UInt8) := ⟨(0 : UInt8)⟩
theorem eP1 : Nonempty (Shared → Prop) := ⟨(fun _ => True : Shared → Prop)⟩
theorem eP2 : Nonempty (Value → Shared → Prop) := ⟨(fun _ _ => True : Value → Shared → Prop)⟩
theorem eP3 : Nonempty (List Value → Shared → Prop) := ⟨(fun _ _ => True : List Value → Shared → Prop)⟩
theorem eP4 : Nonempty (Flow → Shared → Prop) := ⟨(fun _ _ => True : Flow → Shared → Prop)⟩
theorem eW : Nonempty (World) := ⟨(w0 : World)⟩
theorem eI : Nonempty (Int) := ⟨((0 : Int) : Int)⟩
theorem eLB : Nonempty (List Bool) := ⟨([] : List Bool)⟩
theorem eS : Nonempty (Str) := ⟨("" : Str)⟩
theorem eAV : Nonempty (Array Value) := ⟨(#[] : Array Value)⟩
theorem eLN : Nonempty (List Nat) := ⟨([] : List Nat)⟩
theorem eSh : Nonempty (Shared) := ⟨({} : Shared)⟩
theorem eEx : Nonempty (ExcName → Option Value) := ⟨(fun _ => none : ExcName → Option Value)⟩
theorem eOC : Nonempty (Option (List Code)) := ⟨(none : Option (List Code))⟩
theorem eSc : Nonempty (Scope) := ⟨(defS0 : Scope)⟩
theorem eSA : Nonempty (List (Str × Addr)) := ⟨([] : List (Str × Addr))⟩
theorem eEn : Nonempty (List Env) := ⟨([] : List Env)⟩
theorem eAr : Nonempty (Around) := ⟨(callerA : Around)⟩
theorem ex1 {α1 : Type} {P : α1 → Prop} {Q : Prop} (h : ∃ x1, P x1) (k : ∀ x1, P x1 → Q) : Q := by
  obtain ⟨x1, h⟩ := h
  exact k x1 h
theorem ex2 {α1 α2 : Type} {P : α1 → α2 → Prop} {Q : Prop} (h : ∃ x1 x2, P x1 x2) (k : ∀ x1 x2, P x1 x2 → Q) : Q := by
  obtain ⟨x1, x2, h⟩ := h
  exact k x1 x2 h
theorem ex3 {α1 α2 α3 : Type} {P : α1 → α2 → α3 → Prop} {Q : Prop} (h : ∃ x1 x2 x3, P x1 x2 x3) (k : ∀ x1 x2 x3, P x1 x2 x3 → Q) : Q := by
  obtain ⟨x1, x2, x3, h⟩ := h
  exact k x1 x2 x3 h
theorem ex4 {α1 α2 α3 α4 : Type} {P : α1 → α2 → α3 → α4 → Prop} {Q : Prop} (h : ∃ x1 x2 x3 x4, P x1 x2 x3 x4) (k : ∀ x1 x2 x3 x4, P x1 x2 x3 x4 → Q) : Q := by
  obtain ⟨x1, x2, x3, x4, h⟩ := h
  exact k x1 x2 x3 x4 h
theorem ex5 {α1 α2 α3 α4 α5 : Type} {P : α1 → α2 → α3 → α4 → α5 → Prop} {Q : Prop} (h : ∃ x1 x2 x3 x4 x5, P x1 x2 x3 x4 x5) (k : ∀ x1 x2 x3 x4 x5, P x1 x2 x3 x4 x5 → Q) : Q := by
  obtain ⟨x1, x2, x3, x4, x5, h⟩ := h
  exact k x1 x2 x3 x4 x5 h
theorem ex6 {α1 α2 α3 α4 α5 α6 : Type} {P : α1 → α2 → α3 → α4 → α5 → α6 → Prop} {Q : Prop} (h : ∃ x1 x2 x3 x4 x5 x6, P x1 x2 x3 x4 x5 x6) (k : ∀ x1 x2 x3 x4 x5 x6, P x1 x2 x3 x4 x5 x6 → Q) : Q := by
  obtain ⟨x1, x2, x3, x4, x5, x6, h⟩ := h
  exact k x1 x2 x3 x4 x5 x6 h
theorem ex7 {α1 α2 α3 α4 α5 α6 α7 : Type} {P : α1 → α2 → α3 → α4 → α5 → α6 → α7 → Prop} {Q : Prop} (h : ∃ x1 x2 x3 x4 x5 x6 x7, P x1 x2 x3 x4 x5 x6 x7) (k : ∀ x1 x2 x3 x4 x5 x6 x7, P x1 x2 x3 x4 x5 x6 x7 → Q) : Q := by
  obtain ⟨x1, x2, x3, x4, x5, x6, x7, h⟩ := h
  exact k x1 x2 x3 x4 x5 x6 x7 h
theorem ex8 {α1 α2 α3 α4 α5 α6 α7 α8 : Type} {P : α1 → α2 → α3 → α4 → α5 → α6 → α7 → α8 → Prop} {Q : Prop} (h : ∃ x1 x2 x3 x4 x5 x6 x7 x8, P x1 x2 x3 x4 x5 x6 x7 x8) (k : ∀ x1 x2 x3 x4 x5 x6 x7 x8, P x1 x2 x3 x4 x5 x6 x7 x8 → Q) : Q := by
  obtain ⟨x1, x2, x3, x4, x5, x6, x7, x8, h⟩ := h
  exact k x1 x2 x3 x4 x5 x6 x7 x8 h
end Mine
end
section
namespace Mine
theorem eVl : Nonempty (Value → List Value) := ⟨(fun _ => [] : Value → List Value)⟩
theorem came1 (w : World) (sx sd fR cS c1 ha h2 : Addr) (bs : List UInt8) (c n : UInt8) (tx : List UInt8) (tb tv tr : Tok) (pm ctv : Value) (oS o1 : Obj) (vs : Array Value) (t1 : Tok) (x0 x1 xk : Str) (u0 u1 uk : Tok) (hvs : List Value) (nn n2 : Nat) (k : Int) (itf : Value → List Value)
    (hS : oS.data = .cell (some (.ref sx))) (hc1 : o1.data = .fields vs) (hv1 : vs[1]? = some (.str "_law_stream.<locals>.<lambda>" t1))
    (hb : bs.length ≤ 10000) (hn : tx.length = n.toNat) (hn2 : tx.length ≤ 255) (hx : xk.length ≤ 10000) (hl : hvs.length ≤ 100) (hp : Int.fmod (c.toNat : Int) 2 = k) (hk0 : 0 ≤ k) (hk1 : k < 2)
    (hg : [Value.str x0 u0, .str x1 u1, .ref h2][k.toNat]? = some (.str xk uk)) (hst : ∀ v, SetAt v [Value.str x0 u0, .str x1 u1, .ref h2] k.toNat (itf v)) :
    Ctr w 785 [.ref sx, .ref ha] (chan w.params sx sd fR cS c1 ha h2 (c :: n :: (tx ++ bs)) tb tv tr pm ctv oS o1 x0 x1 u0 u1 nn hvs n2) 8 80
      (fun v own2 => ∃ tb' t' t2, v = .bool true ∧ own2 = strm w.params sx sd fR cS c1 bs tb' tv tr pm ctv oS o1 ++ [(ha, listOf (itf (.str (xk ++ lat tx) t')).toArray nn), (h2, listOf (hvs.toArray.push (.int (c.toNat : Int) t2)) (n2 + 1))]) := by
  unfold Ctr
  k_fill
  k_with_none
  k_with "om" => (with_reducible first|assumption|exact rm1 (by assumption) rfl|exact rm2 (by assumption) rfl|exact rm3 (by assumption) rfl|exact rm0 (by assumption)|exact Nat.le_of_lt (by assumption)|exact Nat.le_add_right _ _|exact Nat.lt_succ_self _|exact Nat.le_of_not_lt (by assumption)|exact lt_i (by assumption)|exact nlt_i (by assumption)|exact le_big (by assumption) rfl)
  k_with "k_all" => (first|(first|assumption|exact off_lt (by walk_at "and_last")|exact off_le (by walk_at "and_last") (Nat.le_succ _)|exact off_le (by walk_at "and_last") (Nat.le_add_right _ _)|exact off_le' (by assumption) (Nat.le_refl _)|exact off_le' (by assumption) (Nat.le_succ _)|exact off_le' (by assumption) (Nat.le_add_right _ _)|exact off_le' (by assumption) (Nat.le_succ_of_le (Nat.le_succ _))|exact off_le' (by assumption) (Nat.le_succ_of_le (Nat.le_succ_of_le (Nat.le_succ _))))|fail)
  k_with "k_ne" => (first|(first|assumption|exact Ne.symm (by assumption))|fail)
  k_with "m_enter" => (((first|(refine' code_def (by k_asm) (by k_asm) (by k_asm) (by k_asm) (by k_asm) rfl rfl (by first|exact rfl|assumption|fail) (by k_is) (by k_is) (by ktr_room) (by first|exact BindsTo.of_eq rfl|exact binds_K (by k_in) rfl (by k_is) rfl rfl rfl|fail) (by first|(exact locs rfl)|fail) ?_ (by first|exact rfl|fail) (by first|exact rfl|fail) (by first|exact rfl|fail) (by decide);k_whole;intro g' L' h' FG' F' N' B' X' T';(try dsimp only);(try k_lift B');skip)|(refine' code_defC (by k_asm) (by k_asm) (by k_asm) (by k_asm) (by k_asm) rfl rfl (by first|exact rfl|assumption|fail) (by k_is) (by k_is) (by ktr_room) (by first|exact BindsTo.of_eq rfl|exact binds_K (by k_in) rfl (by k_is) rfl rfl rfl|fail) (by first|exact rfl|fail) (by first|(decide +kernel)|fail) ?_ (by first|exact rfl|fail) (by first|exact rfl|fail) (by first|exact rfl|fail);k_whole;intro g' L' h' tk' cells' FG' F' N' Y' B' X' T' l1;(try k_lt l1);k_cells Y';(try simp only [List.cons_append, List.nil_append] at N');(try dsimp only);(try k_lift B');skip)));(all_goals (first|(rename_i u19 u29 u39 u49 u59 u69 u79 u89 u99 u109 u119 u129;revert u29 u39 u119 u129 FG' F' N' B' X' T';revert u19 u49 u59 u89 u99 u109 tk g' L' h';refine eps8 eH eN eN eH eN eH eN eH ?_;generalize q81 _ = u19, q82 _ = u49, q83 _ = u59, q84 _ = u89, q85 _ = u99, q86 _ = u109, q87 _ = tk, q88 _ = g';refine hold8 ?_;refine eps2 eN eH ?_;generalize q21 _ = L', q22 _ = h';refine hold2 ?_;intro _ _ _ _ FG' F' N' B' X' T')|(revert FG' F' N' B' X' T';revert tk g' L' h';refine eps4 eN eH eN eH ?_;generalize q41 _ = tk, q42 _ = g', q43 _ = L', q44 _ = h';refine hold4 ?_;intro FG' F' N' B' X' T')|(revert FG' F' N' B' X' T';revert g' L' h';refine eps3 eH eN eH ?_;generalize q31 _ = g', q32 _ = L', q33 _ = h';refine hold3 ?_;intro FG' F' N' B' X' T')|skip)))
  k_with "call ref" => ((k_here;k_dflt (refine wpAny_call ?_;walk_at "m_enter")))
  k_with "callWith ref" => ((k_here;k_dflt (first|(refine' callWith_F (by first|(exact FnAt.of (by k_asm) (by k_mem))|fail) ?_;k_whole)|(refine' callWith_F0 (by first|(exact FnAt.of (by k_asm) (by k_mem))|fail) ?_;k_whole;try dsimp only [List.nil_append, List.cons_append]))))
  k_with "sel" => (first|exact Sel.head|(apply Sel.tail;walk_at "sel"))
  k_with "pick" => (first|exact Pick.nil|(apply Pick.cons;walk_at "sel";walk_at "pick"))
  k_with "off" => (first|with_reducible assumption|(with_reducible refine off_cons ?_ ?_;k_ne;walk_at "off")|k_all)
  k_with "offs" => (first|exact True.intro|(refine And.intro ?_ ?_;walk_at "off";walk_at "offs"))
  k_with "disa" => (first|exact True.intro|(refine And.intro ?_ ?_;k_ne;walk_at "disa"))
  k_with "dis" => (first|exact True.intro|(refine And.intro ?_ ?_;walk_at "disa";walk_at "dis"))
  k_with "eval Name" => ((k_here;k_dflt (first|(refine' m_local (by first|exact rfl|fail) (by first|exact rfl|fail) (by decide) (by k_asm) (by first|exact rfl|fail) ?_;k_whole)|(refine' m_free (by first|exact rfl|fail) (by first|exact rfl|fail) (by decide) (by decide) (by first|exact rfl|fail) (by k_asm) (by k_mem) (by k_asm) ?_;k_whole)|(refine' m_global (by first|exact rfl|fail) (by first|exact rfl|fail) (by decide) (by first|exact rfl|fail) (by k_asm) (by k_asm) (by k_asm) (by k_is) ?_;k_whole)|(refine' m_builtin (by first|exact rfl|fail) (by first|exact rfl|fail) (by decide) (by first|exact rfl|fail) (by first|exact rfl|fail) (by k_asm) (by k_asm) (by k_asm) (by k_is) (by decide) (by first|(boot_by_name)|fail) ?_;k_whole))))
  k_with "call ref" => ((k_here;k_extra "m call"))
  k_with "getMethod ref" => ((k_here;k_dflt (refine' kmu_own (by k_asm) (by k_asm) (by k_inst) (by k_is) (by k_is) ?_;k_whole)))
  k_with "truthy bytes" => ((k_here;first|(refine m_truthyB0 ?_)|(refine m_truthyB1 (by first|omega|(simp only [List.length_cons, List.length_append, List.length_nil];omega)) ?_)))
  k_with "subscriptTail Name Constant bytes int" => ((k_here;refine m_item0 (by first|omega|(simp only [List.length_cons, List.length_append, List.length_nil];omega)) ?_))
  k_with "binaryOp Mod int int" => ((k_here;refine m_mod (by assumption) (by decide) ?_))
  k_with "getItem ref int" => ((k_here;k_dflt (refine' m_getItem (by k_asm) (by k_mem) (by first|decide|assumption|fail) (by first|decide|omega|fail) (by first|assumption|exact rfl|fail) ?_;k_whole)))
  k_with "setat" => (first|exact hst9 _|exact hst _|exact SetAt.head|(apply SetAt.tail;walk_at "setat"))
  k_with "setItem ref int" => ((((k_here;k_dflt (refine' m_setItem (its' := List.toArray _) (by k_asm) (by k_asm) (by k_upd) (by walk_at "setat") (by first|decide|assumption|fail) (by first|decide|omega|fail) ?_;k_whole;intro h' F' N'))));(all_goals (first|(rename_i u19 u29 u39;revert F' N';revert u19 u29 h';refine eps3 eN eN eH ?_;generalize q31 _ = u19, q32 _ = u29, q33 _ = h';refine hold3 ?_;intro F' N')|skip)))
  k_with "call builtin:len" => ((k_here;(with_reducible show wpAny _ _ (call (Value.builtin "len") [Value.bytes (List.toArray _) _]) _ _ _);k_dflt (refine' m_len (by first|exact congrArg (Nat.cast (R := Int)) (by assumption)|exact rfl|fail) (by first|omega|decide|(simp only [List.length_cons, List.length_append, List.length_nil, List.length_drop, List.length_take] at *;omega)|fail) ?_;k_whole)))
  k_with "call builtin:bytes.decode" => ((((k_here;k_dflt (refine' m_decode (by first|omega|decide|(simp only [List.length_cons, List.length_append, List.length_nil, List.length_drop, List.length_take] at *;omega)|fail) ?_;k_whole;intro _ _))));(all_goals (first|(rename_i u19 u29 u39 u49 u59 u69;revert u29 u39;revert u19 u49 tk u59 u69;refine eps5 eH eN eN eN eN ?_;generalize q51 _ = u19, q52 _ = u49, q53 _ = tk, q54 _ = u59, q55 _ = u69;refine hold5 ?_;intro _ _)|skip)))
  k_with "ite" => ((k_here;k_dflt (first|refine ite_pos (by first|with_reducible exact rfl|with_reducible exact beq_self_eq_true _|with_reducible assumption) ?_|refine ite_neg (by with_reducible assumption) ?_)))
  intro hrow mean mg mb dp un gd cn cs a ccd cl outer A₀ base h₀ L m s rest Q E B F X N O D T hk hd hu hret
  simp only [strm, chan, heldL, List.cons_append, List.nil_append] at N
  obtain ⟨q0, q1, q2, q3, q4, q5, q6, -⟩ := O
  obtain ⟨⟨d0_1, d0_2, d0_3, d0_4, d0_5, d0_6, -⟩, ⟨d1_2, d1_3, d1_4, d1_5, d1_6, -⟩, ⟨d2_3, d2_4, d2_5, d2_6, -⟩, ⟨d3_4, d3_5, d3_6, -⟩, ⟨d4_5, d4_6, -⟩, ⟨d5_6, -⟩, -, -⟩ := D
  (try dsimp only at q0 q1 q2 q3 q4 q5 q6 d0_1 d0_2 d0_3 d0_4 d0_5 d0_6 d1_2 d1_3 d1_4 d1_5 d1_6 d2_3 d2_4 d2_5 d2_6 d3_4 d3_5 d3_6 d4_5 d4_6 d5_6)
  k_with "m call" => ((((with_reducible show wpAny _ _ (call (Value.ref fR) _) _ _ _);k_dflt (refine' ctr_use' (by k_asm) (by k_asm) (by k_asm) (by k_asm) (by walk_at "pick") (by walk_at "offs") (by walk_at "dis") (by k_asm) (by first|exact rfl|assumption) (by ktr_room) (by ktr_units) (rd w sx sd fR cS c1 _ _ tv tr pm ctv oS o1 vs t1 _ _ hS hc1 hv1 (by first|omega|(simp only [List.length_cons, List.length_append, List.length_nil];omega)) (by first|decide|omega)) ?_;k_whole;intro v9 own9 h9 tk9 hp9 F9 N9;k_dflt (refine ex4 hp9 ?_);clear hp9;intro t9 t8 r9 r8 hp9;obtain ⟨e9, e8, e1, e2⟩ := hp9;subst e1;subst e2;simp only [strm, chan, heldL, List.cons_append, List.nil_append] at N9;(try simp only [Int.toNat_one, Int.toNat_natCast, List.take_succ_cons, List.take_zero, List.drop_succ_cons, List.drop_zero, List.take_left' hn, List.drop_left' hn] at e9 e8);subst e9;subst e8;(try dsimp only);skip)));(all_goals (first|(rename_i u19 u29 u39 u49 u59 u69 u79 u89 u99 u109 u119 u129;revert u29 u89 F9 N9 hn hn2 hb N hret u99 u109 u119 u129;revert u19 u39 u49 u79 tk h9 tk9 t9 t8 r9 r8;refine eps8 eH eN eN eH eN eH eN eN ?_;generalize q81 _ = u19, q82 _ = u39, q83 _ = u49, q84 _ = u79, q85 _ = tk, q86 _ = h9, q87 _ = tk9, q88 _ = t9;refine hold8 ?_;refine eps3 eN eT eT ?_;generalize q31 _ = t8, q32 _ = r9, q33 _ = r8;refine hold3 ?_;intro _ _ F9 N9 hn hn2 hb N hret _ _ _ _)|(revert F9 N9;revert tk h9 tk9 t9 t8;refine eps5 eN eH eN eN eN ?_;generalize q51 _ = tk, q52 _ = h9, q53 _ = tk9, q54 _ = t9, q55 _ = t8;refine hold5 ?_;intro F9 N9)|skip)))
  revert hS hc1 hv1 hb hn hn2 hx hl hp hk0 hk1 hg hst B F X N T hk hd hu hret q0 q1 q2 q3 q4 q5 q6 d0_1 d0_2 d0_3 d0_4 d0_5 d0_6 d1_2 d1_3 d1_4 d1_5 d1_6 d2_3 d2_4 d2_5 d2_6 d3_4 d3_5 d3_6 d4_5 d4_6 d5_6; revert w sx sd fR cS c1 ha h2 bs c n tx tb tv tr pm ctv oS o1 vs t1 x0 x1 xk u0 u1 uk hvs nn n2 k itf mean mg mb dp un gd cn cs a ccd cl outer A₀ base h₀ L m s rest Q E; refine eps8 eW eN eN eN eN eN eN eN ?_; generalize q81 _ = w, q82 _ = sx, q83 _ = sd, q84 _ = fR, q85 _ = cS, q86 _ = c1, q87 _ = ha, q88 _ = h2; refine hold8 ?_; refine eps8 eT eU eU eT eN eN eN eV ?_; generalize q81 _ = bs, q82 _ = c, q83 _ = n, q84 _ = tx, q85 _ = tb, q86 _ = tv, q87 _ = tr, q88 _ = pm; refine hold8 ?_; refine eps8 eV eO eO eAV eN eS eS eS ?_; generalize q81 _ = ctv, q82 _ = oS, q83 _ = o1, q84 _ = vs, q85 _ = t1, q86 _ = x0, q87 _ = x1, q88 _ = xk; refine hold8 ?_; refine eps8 eN eN eN eLV eN eN eI eVl ?_; generalize q81 _ = u0, q82 _ = u1, q83 _ = uk, q84 _ = hvs, q85 _ = nn, q86 _ = n2, q87 _ = k, q88 _ = itf; refine hold8 ?_; refine eps8 eEx eM eM eN eN eOC eS eSc ?_; generalize q81 _ = mean, q82 _ = mg, q83 _ = mb, q84 _ = dp, q85 _ = un, q86 _ = gd, q87 _ = cn, q88 _ = cs; refine hold8 ?_; refine eps8 eN eV eSA eEn eAr eH eH eN ?_; generalize q81 _ = a, q82 _ = ccd, q83 _ = cl, q84 _ = outer, q85 _ = A₀, q86 _ = base, q87 _ = h₀, q88 _ = L; refine hold8 ?_; refine eps5 eM eSh eL eP2 eP2 ?_; generalize q51 _ = m, q52 _ = s, q53 _ = rest, q54 _ = Q, q55 _ = E; refine hold5 ?_; intro hS hc1 hv1 hb hn hn2 hx hl hp hk0 hk1 hg hst B F X N T hk hd hu hret q0 q1 q2 q3 q4 q5 q6 d0_1 d0_2 d0_3 d0_4 d0_5 d0_6 d1_2 d1_3 d1_4 d1_5 d1_6 d2_3 d2_4 d2_5 d2_6 d3_4 d3_5 d3_6 d4_5 d4_6 d5_6
  refine wpAny_call ?_
  k_dflt (walk_at "m_enter")
  repeat (first | (k_unfold; (try dsimp only)) | walk1 | (dsimp only; walk1))
  all_goals (try k_data)
  all_goals exact hret _ _ _ _ ⟨_, _, _, rfl, rfl⟩ (by assumption) (by assumption)
  k_with_none
end Mine
end
section
namespace Mine
theorem came0 (w : World) (sx sd fR cS c1 ha h2 : Addr) (tb tv tr : Tok) (pm ctv : Value) (oS o1 : Obj) (vs : Array Value) (t1 : Tok) (x0 x1 : Str) (u0 u1 : Tok) (hvs : List Value) (nn n2 : Nat)
    (hS : oS.data = .cell (some (.ref sx))) (hc1 : o1.data = .fields vs) (hv1 : vs[1]? = some (.str "_law_stream.<locals>.<lambda>" t1)) :
    CtrT w 785 [.ref sx, .ref ha] (chan w.params sx sd fR cS c1 ha h2 [] tb tv tr pm ctv oS o1 x0 x1 u0 u1 nn hvs n2) 8 80
      (fun v own2 => ∃ tb', v = .bool false ∧ own2 = chan w.params sx sd fR cS c1 ha h2 [] tb' tv tr pm ctv oS o1 x0 x1 u0 u1 nn hvs n2) (fun _ _ => False) := by
  unfold CtrT
  k_fill
  k_with_none
  k_with "om" => (with_reducible first|assumption|exact rm1 (by assumption) rfl|exact rm2 (by assumption) rfl|exact rm3 (by assumption) rfl|exact rm0 (by assumption)|exact Nat.le_of_lt (by assumption)|exact Nat.le_add_right _ _|exact Nat.lt_succ_self _|exact Nat.le_of_not_lt (by assumption)|exact lt_i (by assumption)|exact nlt_i (by assumption)|exact le_big (by assumption) rfl)
  k_with "k_all" => (first|(first|assumption|exact off_lt (by walk_at "and_last")|exact off_le (by walk_at "and_last") (Nat.le_succ _)|exact off_le (by walk_at "and_last") (Nat.le_add_right _ _)|exact off_le' (by assumption) (Nat.le_refl _)|exact off_le' (by assumption) (Nat.le_succ _)|exact off_le' (by assumption) (Nat.le_add_right _ _)|exact off_le' (by assumption) (Nat.le_succ_of_le (Nat.le_succ _))|exact off_le' (by assumption) (Nat.le_succ_of_le (Nat.le_succ_of_le (Nat.le_succ _))))|fail)
  k_with "k_ne" => (first|(first|assumption|exact Ne.symm (by assumption))|fail)
  k_with "m_enter" => (first|(refine' code_def (by k_asm) (by k_asm) (by k_asm) (by k_asm) (by k_asm) rfl rfl (by first|exact rfl|assumption|fail) (by k_is) (by k_is) (by ktr_room) (by first|exact BindsTo.of_eq rfl|exact binds_K (by k_in) rfl (by k_is) rfl rfl rfl|fail) (by first|(exact locs rfl)|fail) ?_ (by first|exact rfl|fail) (by first|exact rfl|fail) (by first|exact rfl|fail) (by decide);k_whole;intro g' L' h' FG' F' N' B' X' T';(try dsimp only);(try k_lift B');(try k_fold))|(refine' code_defC (by k_asm) (by k_asm) (by k_asm) (by k_asm) (by k_asm) rfl rfl (by first|exact rfl|assumption|fail) (by k_is) (by k_is) (by ktr_room) (by first|exact BindsTo.of_eq rfl|exact binds_K (by k_in) rfl (by k_is) rfl rfl rfl|fail) (by first|exact rfl|fail) (by first|(decide +kernel)|fail) ?_ (by first|exact rfl|fail) (by first|exact rfl|fail) (by first|exact rfl|fail);k_whole;intro g' L' h' tk' cells' FG' F' N' Y' B' X' T' l1;(try k_lt l1);k_cells Y';(try simp only [List.cons_append, List.nil_append] at N');(try dsimp only);(try k_lift B');(try k_fold)))
  k_with "call ref" => ((k_here;k_dflt (refine wpAny_call ?_;walk_at "m_enter")))
  k_with "callWith ref" => ((k_here;k_dflt (first|(refine' callWith_F (by first|(exact FnAt.of (by k_asm) (by k_mem))|fail) ?_;k_whole)|(refine' callWith_F0 (by first|(exact FnAt.of (by k_asm) (by k_mem))|fail) ?_;k_whole;try dsimp only [List.nil_append, List.cons_append]))))
  k_with "sel" => (first|exact Sel.head|(apply Sel.tail;walk_at "sel"))
  k_with "pick" => (first|exact Pick.nil|(apply Pick.cons;walk_at "sel";walk_at "pick"))
  k_with "off" => (first|with_reducible assumption|(with_reducible refine off_cons ?_ ?_;k_ne;walk_at "off")|k_all)
  k_with "offs" => (first|exact True.intro|(refine And.intro ?_ ?_;walk_at "off";walk_at "offs"))
  k_with "disa" => (first|exact True.intro|(refine And.intro ?_ ?_;k_ne;walk_at "disa"))
  k_with "dis" => (first|exact True.intro|(refine And.intro ?_ ?_;walk_at "disa";walk_at "dis"))
  k_with "eval Name" => ((k_here;k_dflt (first|(refine' m_local (by first|exact rfl|fail) (by first|exact rfl|fail) (by decide) (by k_asm) (by first|exact rfl|fail) ?_;k_whole)|(refine' m_free (by first|exact rfl|fail) (by first|exact rfl|fail) (by decide) (by decide) (by first|exact rfl|fail) (by k_asm) (by k_mem) (by k_asm) ?_;k_whole)|(refine' m_global (by first|exact rfl|fail) (by first|exact rfl|fail) (by decide) (by first|exact rfl|fail) (by k_asm) (by k_asm) (by k_asm) (by k_is) ?_;k_whole)|(refine' m_builtin (by first|exact rfl|fail) (by first|exact rfl|fail) (by decide) (by first|exact rfl|fail) (by first|exact rfl|fail) (by k_asm) (by k_asm) (by k_asm) (by k_is) (by decide) (by first|(boot_by_name)|fail) ?_;k_whole))))
  k_with "call ref" => ((k_here;k_extra "m call"))
  k_with "getMethod ref" => ((k_here;k_dflt (refine' kmu_own (by k_asm) (by k_asm) (by k_inst) (by k_is) (by k_is) ?_;k_whole)))
  k_with "truthy bytes" => ((k_here;first|(refine m_truthyB0 ?_)|(refine m_truthyB1 (by first|omega|(simp only [List.length_cons, List.length_append, List.length_nil];omega)) ?_)))
  k_with "m_enterT" => (first|(refine' codeT (by k_asm) (by k_asm) (by k_asm) (by k_asm) (by k_asm) rfl rfl (by first|exact rfl|assumption|fail) (by assumption) (by assumption) (by assumption) (by first|assumption|exact KtsTurn.refl|fail) (by k_is) (by k_is) (by ktr_room) (by first|exact BindsTo.of_eq rfl|exact binds_K (by k_in) rfl (by k_is) rfl rfl rfl|fail) (by first|(exact locs rfl)|fail) ?_ (by first|exact rfl|fail) (by first|exact rfl|fail) (by first|exact rfl|fail) (by decide);k_whole;intro g' L' h' FG' F' N' B' X' T' D' dn';(try dsimp only);(try k_lift B');(try k_fold))|(refine' lamT (by k_asm) (by k_asm) (by k_asm) (by k_asm) (by k_asm) rfl rfl (by first|exact rfl|assumption|fail) (by assumption) (by assumption) (by assumption) (by first|assumption|exact KtsTurn.refl|fail) (by k_mem) (by first|(exact codeRec_news (by k_asm) (by k_mem) (by assumption) (by assumption))|fail) (by ktr_room) (by first|exact rfl|fail) (by first|(exact locs rfl)|fail) ?_ (by first|exact rfl|fail) (by first|exact rfl|fail) (by first|exact rfl|fail) (by decide);k_whole;intro g' L' h' FG' F' N' B' X' T' D' dn';(try dsimp only);(try k_lift B');(try k_fold)))
  k_with "LeaveT" => ((k_dflt (refine' leaveT (by k_asm) (by k_asm) (by first|assumption|exact KtsTurn.refl|fail) ?_;k_whole);intro h0' t0 b0 kF kN kx0 kt0 kd0;(try dsimp only)))
  intro hrow mean mg mb dp un gd cn cs a ccd cl outer A₀ base g₀ h₀ L m s rest Q E B F X N O D T XB TB Dd T0 hk hd hu hret hexc
  simp only [strm, chan, heldL, List.cons_append, List.nil_append] at N
  obtain ⟨q0, q1, q2, q3, q4, q5, q6, -⟩ := O
  obtain ⟨⟨d0_1, d0_2, d0_3, d0_4, d0_5, d0_6, -⟩, ⟨d1_2, d1_3, d1_4, d1_5, d1_6, -⟩, ⟨d2_3, d2_4, d2_5, d2_6, -⟩, ⟨d3_4, d3_5, d3_6, -⟩, ⟨d4_5, d4_6, -⟩, ⟨d5_6, -⟩, -, -⟩ := D
  (try dsimp only at q0 q1 q2 q3 q4 q5 q6 d0_1 d0_2 d0_3 d0_4 d0_5 d0_6 d1_2 d1_3 d1_4 d1_5 d1_6 d2_3 d2_4 d2_5 d2_6 d3_4 d3_5 d3_6 d4_5 d4_6 d5_6)
  k_with "m call" => ((with_reducible show wpAny _ _ (call (Value.ref fR) _) _ _ _);k_dflt (refine' ctr_use' (by k_asm) (by k_asm) (by k_asm) (by k_asm) (by walk_at "pick") (by walk_at "offs") (by walk_at "dis") (by k_asm) (by first|exact rfl|assumption) (by ktr_room) (by ktr_units) (rd w sx sd fR cS c1 _ _ tv tr pm ctv oS o1 vs t1 _ _ hS hc1 hv1 (by first|omega|(simp only [List.length_cons, List.length_append, List.length_nil];omega)) (by first|decide|omega)) ?_;k_whole;intro v9 own9 h9 tk9 hp9 F9 N9;obtain ⟨t9, t8, r9, r8, e9, e8, e1, e2⟩ := hp9;subst e1;subst e2;simp only [strm, chan, heldL, List.cons_append, List.nil_append] at N9;(try simp only [Int.toNat_one, Int.toNat_natCast, List.take_succ_cons, List.take_zero, List.take_nil, List.drop_nil, List.drop_succ_cons, List.drop_zero, List.take_left' hn, List.drop_left' hn] at e9 e8);subst e9;subst e8;(try dsimp only);(try k_fold)))
  k_with "ir" => ((repeat (with_reducible (set_option tactic.hygienic false in intro))))
  revert hS hc1 hv1 hrow B F X N T XB TB Dd T0 hk hd hu hret hexc q0 q1 q2 q3 q4 q5 q6 d0_1 d0_2 d0_3 d0_4 d0_5 d0_6 d1_2 d1_3 d1_4 d1_5 d1_6 d2_3 d2_4 d2_5 d2_6 d3_4 d3_5 d3_6 d4_5 d4_6 d5_6; revert w sx sd fR cS c1 ha h2 tb tv tr pm ctv oS o1 vs t1 x0 x1 u0 u1 hvs nn n2 mean mg mb dp un gd cn cs a ccd cl outer A₀ base g₀ h₀ L m s rest Q E; refine eps8 eW eN eN eN eN eN eN eN ?_; generalize q81 _ = w, q82 _ = sx, q83 _ = sd, q84 _ = fR, q85 _ = cS, q86 _ = c1, q87 _ = ha, q88 _ = h2; refine hold8 ?_; refine eps8 eN eN eN eV eV eO eO eAV ?_; generalize q81 _ = tb, q82 _ = tv, q83 _ = tr, q84 _ = pm, q85 _ = ctv, q86 _ = oS, q87 _ = o1, q88 _ = vs; refine hold8 ?_; refine eps8 eN eS eS eN eN eLV eN eN ?_; generalize q81 _ = t1, q82 _ = x0, q83 _ = x1, q84 _ = u0, q85 _ = u1, q86 _ = hvs, q87 _ = nn, q88 _ = n2; refine hold8 ?_; refine eps8 eEx eM eM eN eN eOC eS eSc ?_; generalize q81 _ = mean, q82 _ = mg, q83 _ = mb, q84 _ = dp, q85 _ = un, q86 _ = gd, q87 _ = cn, q88 _ = cs; refine hold8 ?_; refine eps8 eN eV eSA eEn eAr eH eH eH ?_; generalize q81 _ = a, q82 _ = ccd, q83 _ = cl, q84 _ = outer, q85 _ = A₀, q86 _ = base, q87 _ = g₀, q88 _ = h₀; refine hold8 ?_; refine eps6 eN eM eSh eL eP2 eP2 ?_; generalize q61 _ = L, q62 _ = m, q63 _ = s, q64 _ = rest, q65 _ = Q, q66 _ = E; refine hold6 ?_; k_extra "ir"
  refine wpAny_call ?_
  k_dflt (walk_at "m_enterT")
  repeat (first | (k_unfold; (try dsimp only)) | walk1 | (dsimp only; walk1))
  all_goals (try k_data)
  exact hret _ _ _ _ _ ⟨_, rfl, rfl⟩ (by first | assumption | exact KtsTurn.refl) (by assumption) (by assumption) (by assumption) (by assumption) (by assumption) (by assumption)
  k_with_none
  k_with "om" => (with_reducible first|assumption|exact rm1 (by assumption) rfl|exact rm0 (by assumption)|exact Nat.le_of_lt (by assumption)|exact Nat.le_add_right _ _|exact Nat.le_add_left _ _|exact Nat.lt_succ_self _|exact Nat.succ_pos _|exact Nat.lt_of_not_le (by assumption)|exact Nat.le_of_not_lt (by assumption)|exact Nat.le_of_not_le (by assumption)|exact Nat.le_of_lt (Nat.lt_of_not_le (by assumption))|exact lt_i (by assumption)|exact nlt_i (by assumption)|exact nneg_i|exact le_big (by assumption) rfl|exact Nat.le_of_succ_le_succ (by assumption)|exact Nat.eq_zero_of_le_zero (by assumption)|exact Nat.add_comm _ _)
end Mine
end
section
namespace Mine
theorem whl_ledT {prog : Program} {w : World} {A : Around} {E : Value → Shared → Prop} {env : Env} {test : Expr} {body orelse : List Stmt} {Q : Flow → Shared → Prop} {gs : Array GenState} {dr : Drawn} {os : OsState} {L : Addr} {σ : Type}
    (μ : σ → Nat) (I : σ → Prop) (M : σ → Str → Option Value) (Ld : σ → Led) (Gd : Heap → Prop) (hE : PassesOwn (model prog w) A env E)
    (turn : ∀ c g h tk (R : Shared → Prop), I c → Gd g → Fr g L h (M c) → News g L h (Ld c) → (∀ c' g' h' tk', μ c' < μ c → I c' → Gd g' → Fr g' L h' (M c') → News g' L h' (Ld c') → R ⟨h', gs, dr, tk', os⟩) →
      wpAny (model prog w) A (isTrue test env (eval test env)) (fun b s₂ => if b = true then wpAny (model prog w) A (execs body env) (LPost R Q) E s₂ else wpAny (model prog w) A (execs orelse env) Q E s₂) E ⟨h, gs, dr, tk, os⟩) :
    ∀ c g h tk, I c → Gd g → Fr g L h (M c) → News g L h (Ld c) → WhlRest prog w A E env test body orelse Q 0 ⟨h, gs, dr, tk, os⟩ := by
  have all : ∀ n c g h tk, μ c = n → I c → Gd g → Fr g L h (M c) → News g L h (Ld c) → WhlRest prog w A E env test body orelse Q 0 ⟨h, gs, dr, tk, os⟩ := by
    intro n
    induction n using Nat.strongRecOn with
    | ind n ih =>
      intro c g h tk hn hi hg F N
      refine whl_turn (k := 0) hE (wpAny_mono (turn c g h tk (WhlRest prog w A E env test body orelse Q 0) hi hg F N fun c' g' h' tk' hl hi' hg' F' N' => ih _ (hn ▸ hl) c' g' h' tk' rfl hi' hg' F' N') (fun b s₂ hb => ?_) fun _ _ e => e)
      cases b with
      | false => exact WhlIf.no rfl (by simpa using hb)
      | true =>
        refine WhlIf.yes rfl (wpAny_mono (by simpa using hb) (fun f s₃ hf => ?_) fun _ _ e => e)
        cases f <;> exact hf
  exact fun c g h tk => all _ c g h tk rfl
abbrev Fm := UInt8 × List UInt8
def encF : List Fm → List UInt8
  | [] => []
  | f :: r => f.1 :: UInt8.ofNat f.2.length :: (f.2 ++ encF r)
structure Pl where
  fs : List Fm
  y0 : List UInt8
  y1 : List UInt8
  oc : List UInt8
def kI (b : Bool) : Int := if b then 1 else 0
def Pl.at (p : Pl) (b : Bool) : List UInt8 := if b then p.y1 else p.y0
def Pl.put (p : Pl) (b : Bool) (v : List UInt8) : Pl := if b then { p with y1 := v } else { p with y0 := v }
def odd8 (c : UInt8) : Bool := c.toNat % 2 == 1
def Pl.come (p : Pl) : Pl := match p.fs with
  | [] => p
  | f :: r => ({ p with fs := r, oc := p.oc ++ [f.1] } : Pl).put (odd8 f.1) (p.at (odd8 f.1) ++ f.2)
def Octs (hvs : List Value) (oc : List UInt8) : Prop := ∃ ts : List Tok, ts.length = oc.length ∧ hvs = List.zipWith (fun (c : UInt8) t => Value.int (c.toNat : Int) t) oc ts
theorem Octs.snoc {hvs : List Value} {oc : List UInt8} (h : Octs hvs oc) (c : UInt8) (t : Tok) : Octs (hvs ++ [.int (c.toNat : Int) t]) (oc ++ [c]) := by
  obtain ⟨ts, hl, rfl⟩ := h
  refine ⟨ts ++ [t], by simp [hl], ?_⟩
  rw [List.zipWith_append hl.symm]
  rfl
theorem Octs.length {hvs : List Value} {oc : List UInt8} (h : Octs hvs oc) : hvs.length = oc.length := by
  obtain ⟨ts, hl, rfl⟩ := h
  simp [hl]
structure Pl.Ok (p : Pl) : Prop where
  len : ∀ f ∈ p.fs, f.2.length ≤ 8
  sz : p.fs.length + p.oc.length ≤ 32
  b0 : p.y0.length + 8 * p.fs.length ≤ 1000
  b1 : p.y1.length + 8 * p.fs.length ≤ 1000
theorem encF_length : ∀ {fs : List Fm}, (∀ f ∈ fs, f.2.length ≤ 8) → (encF fs).length ≤ 10 * fs.length
  | [], _ => Nat.le_refl _
  | f :: r, h => by
    have := encF_length (fs := r) fun g hg => h g (List.mem_cons_of_mem _ hg)
    have := h f List.mem_cons_self
    simp only [encF, List.length_cons, List.length_append]
    omega
theorem sel_get (b : Bool) (x0 x1 : Str) (u0 u1 : Tok) (v : Value) : [Value.str x0 u0, .str x1 u1, v][(kI b).toNat]? = some (.str (if b then x1 else x0) (if b then u1 else u0)) := by cases b <;> rfl
def itf (b : Bool) (x0 x1 v v2 : Value) : List Value := if b then [x0, v, v2] else [v, x1, v2]
theorem sel_set (b : Bool) (x0 x1 v2 v : Value) : SetAt v [x0, x1, v2] (kI b).toNat (itf b x0 x1 v v2) := by
  cases b
  · exact SetAt.head
  · exact SetAt.tail SetAt.head
theorem kI_lo (b : Bool) : 0 ≤ kI b := by cases b <;> decide
theorem kI_hi (b : Bool) : kI b < 2 := by cases b <;> decide
theorem odd8_fmod (c : UInt8) : Int.fmod (c.toNat : Int) 2 = kI (odd8 c) := by
  unfold odd8 kI
  rw [Int.fmod_eq_emod_of_nonneg _ (by decide)]
  have : c.toNat % 2 = 0 ∨ c.toNat % 2 = 1 := by omega
  rcases this with h | h
  · rw [h]; simp; omega
  · rw [h]; simp; omega
def HasCh (P : Params) (sx sd fR cS c1 ha h2 : Addr) (tv tr : Tok) (pm ctv : Value) (oS o1 : Obj) (p : Pl) (own : Led) : Prop :=
  ∃ tb u0 u1 nn n2 hvs, Octs hvs p.oc ∧ own = chan P sx sd fR cS c1 ha h2 (encF p.fs) tb tv tr pm ctv oS o1 (lat p.y0) (lat p.y1) u0 u1 nn hvs n2
theorem lat_append (a b : List UInt8) : lat a ++ lat b = lat (a ++ b) := by
  show Str.mk _ = _
  simp [lat]
def Pl.pull (b : Bool) : Nat → Pl → Pl
  | 0, p => p
  | n + 1, p => if p.at b = [] then Pl.pull b n p.come else p
def Pl.pullTo (p : Pl) (b : Bool) : Pl := Pl.pull b p.fs.length p
theorem Pl.come_fs (p : Pl) : p.come.fs = p.fs.tail := by
  obtain ⟨fs, y0, y1, oc⟩ := p
  cases fs with
  | nil => rfl
  | cons f r => simp only [Pl.come, Pl.put]; split <;> rfl
theorem Pl.pullTo_step {p : Pl} {b : Bool} (h : p.at b = []) (hf : p.fs ≠ []) : p.come.pullTo b = p.pullTo b := by
  unfold Pl.pullTo
  rw [Pl.come_fs]
  obtain ⟨fs, y0, y1, oc⟩ := p
  cases fs with
  | nil => exact absurd rfl hf
  | cons f r =>
    show _ = Pl.pull b (r.length + 1) _
    rw [Pl.pull, if_pos h]
    rfl
theorem Pl.pullTo_end {p : Pl} {b : Bool} (h : p.at b ≠ [] ∨ p.fs = []) : p.pullTo b = p := by
  unfold Pl.pullTo
  cases hn : p.fs.length with
  | zero => rfl
  | succ n =>
    rw [Pl.pull, if_neg]
    rcases h with h | h
    · exact h
    · rw [h] at hn; cases hn
theorem app_le {y l r m : Nat} (h8 : l ≤ 8) (h : y + 8 * (r + 1) ≤ m) : y + l + 8 * r ≤ m := Nat.le_trans (Nat.le_trans (Nat.add_le_add_right (Nat.add_le_add_left h8 y) (8 * r)) (Nat.le_of_eq ((Nat.add_right_comm y 8 (8 * r)).trans (Nat.add_assoc y (8 * r) 8)))) h
theorem Pl.Ok.come {p : Pl} (ok : p.Ok) : p.come.Ok := by
  obtain ⟨fs, y0, y1, oc⟩ := p
  cases fs with
  | nil => exact ok
  | cons f r =>
    have h8 := ok.len f List.mem_cons_self
    have h1 := ok.sz
    have h2 := ok.b0
    have h3 := ok.b1
    simp only [List.length_cons] at h1 h2 h3
    simp only [Pl.come, Pl.put, Pl.at]
    split
    · exact ⟨fun g hg => ok.len g (List.mem_cons_of_mem _ hg), by simp only [List.length_append, List.length_cons, List.length_nil]; exact Nat.le_trans (Nat.le_of_eq (Nat.succ_add r.length oc.length).symm) h1, by simp only; exact Nat.le_trans (Nat.add_le_add_left (Nat.mul_le_mul_left 8 (Nat.le_succ _)) _) h2, by simp only [List.length_append]; exact app_le h8 h3⟩
    · exact ⟨fun g hg => ok.len g (List.mem_cons_of_mem _ hg), by simp only [List.length_append, List.length_cons, List.length_nil]; exact Nat.le_trans (Nat.le_of_eq (Nat.succ_add r.length oc.length).symm) h1, by simp only [List.length_append]; exact app_le h8 h2, by simp only; exact Nat.le_trans (Nat.add_le_add_left (Nat.mul_le_mul_left 8 (Nat.le_succ _)) _) h3⟩
theorem sel_at (p : Pl) (b : Bool) (u0 u1 : Tok) (v : Value) : [Value.str (lat p.y0) u0, .str (lat p.y1) u1, v][(kI b).toNat]? = some (.str (lat (p.at b)) (if b then u1 else u0)) := by cases b <;> rfl
theorem lat_nil_eq : ((lat [] : Str) == ("" : Str)) = true := by decide
theorem lat_cons_ne (c : UInt8) (r : List UInt8) : ((lat (c :: r) : Str) == ("" : Str)) = false := by
  refine beq_eq_false_iff_ne.mpr fun h => ?_
  have h1 : (lat (c :: r)).cps.size = ("" : Str).cps.size := congrArg (fun s : Str => s.cps.size) h
  have h2 : (lat (c :: r)).cps.size = r.length + 1 := by
    show ((c :: r).map (·.toNat)).toArray.size = _
    rw [List.size_toArray, List.length_map, List.length_cons]
  rw [h2, show ("" : Str).cps.size = 0 from rfl] at h1
  exact absurd h1 (Nat.succ_ne_zero _)
theorem Pl.Ok.at_le {p : Pl} (ok : p.Ok) (b : Bool) : (p.at b).length ≤ 1000 := by
  have h0 := ok.b0
  have h1 := ok.b1
  cases b
  · exact Nat.le_trans (Nat.le_add_right _ _) h0
  · exact Nat.le_trans (Nat.le_add_right _ _) h1
structure Cs where
  p : Pl
  tb : Tok
  u0 : Tok
  u1 : Tok
  nn : Nat
  n2 : Nat
  hvs : List Value
abbrev Gd (P : Params) (mean : ExcName → Option Value) (mg mb : Str → Option Value) (A₀ : Around) (base g₀ : Heap) (outer : List Env) (g : Heap) : Prop :=
  KtsTurn (fsO outer) g₀ g ∧ Below A₀ base outer g ∧ (K P).In g ∧ TopQ mean mg mb g ∧ KtsDicts (fsO outer) g
end Mine
end
section
namespace Mine
theorem CtrT.weaken {w : World} {f : Addr} {vs : List Value} {own : Led} {D U : Nat} {post post' : Value → Led → Prop} {xp xp' : List Value → Led → Prop} (C : CtrT w f vs own D U post xp) (h : ∀ v o, post v o → post' v o) (hx : ∀ v o, xp v o → xp' v o) : CtrT w f vs own D U post' xp' :=
  fun e mean mg mb dp un gd cn cs a ccd cl outer A₀ base g₀ h₀ L m s rest Q E B F X N O Di T XB TB Dd T0 hk hd hu hr he =>
    C e mean mg mb dp un gd cn cs a ccd cl outer A₀ base g₀ h₀ L m s rest Q E B F X N O Di T XB TB Dd T0 hk hd hu (fun v own' h' tk' h₀' hp => hr v own' h' tk' h₀' (h _ _ hp)) (fun e t xs own' h' tk' G h₀' hp => he e t xs own' h' tk' G h₀' (hx _ _ hp))
theorem lat_length (t : List UInt8) : (lat t).length = t.length := by
  show (lat t).cps.size = _
  simp [lat]
theorem came (w : World) (sx sd fR cS c1 ha h2 : Addr) (tv tr : Tok) (pm ctv : Value) (oS o1 : Obj) (vs : Array Value) (t1 : Tok) (hS : oS.data = .cell (some (.ref sx))) (hc1 : o1.data = .fields vs) (hv1 : vs[1]? = some (.str "_law_stream.<locals>.<lambda>" t1))
    (p : Pl) (ok : p.Ok) (tb u0 u1 : Tok) (nn n2 : Nat) (hvs : List Value) (oc : Octs hvs p.oc) :
    CtrT w 785 [.ref sx, .ref ha] (chan w.params sx sd fR cS c1 ha h2 (encF p.fs) tb tv tr pm ctv oS o1 (lat p.y0) (lat p.y1) u0 u1 nn hvs n2) 8 80
      (fun v own2 => v = .bool (!p.fs.isEmpty) ∧ HasCh w.params sx sd fR cS c1 ha h2 tv tr pm ctv oS o1 p.come own2) (fun _ _ => False) := by
  obtain ⟨fs, y0, y1, pc⟩ := p
  cases fs with
  | nil =>
    refine (came0 w sx sd fR cS c1 ha h2 tb tv tr pm ctv oS o1 vs t1 (lat y0) (lat y1) u0 u1 hvs nn n2 hS hc1 hv1).weaken (fun v o h => ?_) fun _ _ h => h
    obtain ⟨tb', rfl, rfl⟩ := h
    exact ⟨rfl, tb', u0, u1, nn, n2, hvs, oc, rfl⟩
  | cons f r =>
    obtain ⟨c, tx⟩ := f
    have h8 : tx.length ≤ 8 := ok.len (c, tx) List.mem_cons_self
    have hl := ok.sz
    have hb0 := ok.b0
    have hb1 := ok.b1
    simp only [List.length_cons] at hl hb0 hb1
    have he := encF_length (fs := r) fun g hg => ok.len g (List.mem_cons_of_mem _ hg)
    have hz := oc.length
    dsimp only at hz
    refine (Ctr.toT (came1 w sx sd fR cS c1 ha h2 (encF r) c (UInt8.ofNat tx.length) tx tb tv tr pm ctv oS o1 vs t1 (lat y0) (lat y1) (if odd8 c then lat y1 else lat y0) u0 u1 (if odd8 c then u1 else u0) hvs nn n2 (kI (odd8 c)) (fun v => itf (odd8 c) (.str (lat y0) u0) (.str (lat y1) u1) v (.ref h2)) hS hc1 hv1
      (Nat.le_trans he (Nat.le_trans (Nat.mul_le_mul_left 10 (Nat.le_trans (Nat.le_succ _) (Nat.le_trans (Nat.le_add_right _ _) hl))) (by decide))) ?_ (Nat.le_trans h8 (by decide)) ?_ (Nat.le_trans (Nat.le_of_eq hz) (Nat.le_trans (Nat.le_trans (Nat.le_add_left _ _) hl) (by decide))) (odd8_fmod c) (kI_lo _) (kI_hi _) (sel_get _ _ _ _ _ _) (fun v => sel_set _ _ _ _ _))).weaken (fun v o h => ?_) fun _ _ h => h
    · simp only [UInt8.toNat_ofNat']
      exact (Nat.mod_eq_of_lt (Nat.lt_of_le_of_lt h8 (by decide))).symm
    · split <;> rw [lat_length]
      · exact Nat.le_trans (Nat.le_trans (Nat.le_add_right _ _) hb1) (by decide)
      · exact Nat.le_trans (Nat.le_trans (Nat.le_add_right _ _) hb0) (by decide)
    · obtain ⟨tb', t', t2, rfl, rfl⟩ := h
      refine ⟨rfl, ?_⟩
      cases hc : odd8 c
      · refine ⟨tb', t', u1, nn, n2 + 1, hvs ++ [.int (c.toNat : Int) t2], ?_, ?_⟩
        · have := oc.snoc c t2
          simpa only [Pl.come, Pl.put, hc, Bool.false_eq_true, if_false, if_true] using this
        · simp only [Pl.come, Pl.put, Pl.at, hc, itf, List.push_toArray, lat_append, Bool.false_eq_true, if_false, if_true]
      · refine ⟨tb', u0, t', nn, n2 + 1, hvs ++ [.int (c.toNat : Int) t2], ?_, ?_⟩
        · have := oc.snoc c t2
          simpa only [Pl.come, Pl.put, hc, Bool.false_eq_true, if_false, if_true] using this
        · simp only [Pl.come, Pl.put, Pl.at, hc, itf, List.push_toArray, lat_append, Bool.false_eq_true, if_false, if_true]
end Mine
end
section
namespace Mine
section
variable {prog : Program} {w : World} {A : Around} {E : Value → Shared → Prop} {s : Shared} {h₀ : Heap} {L D : Addr} {m : Str → Option Value} {news : Led} {its : Array Value} {n : Nat} {k : Int} {t u : Tok} {v : Value} {value slice : Expr} {Q : Value → Shared → Prop}
theorem m_sub (N : News h₀ L s.heap news) (hm : (D, listOf its n) ∈ news) (h0 : 0 ≤ k) (hf : k < 2 ^ 63) (hx : its.toList[k.toNat]? = some v) (h : Q v s)
    (hb : subscripted slice false (.ref D) (.int k t) = operate [.ref D, .int k t] (getItem (.ref D) (.int k t)) := by with_unfolding_all rfl) : wpAny (model prog w) A (subscriptTail value slice (.ref D) (.int k t)) Q E s :=
  tail_any (PySem.IsL.isList (n := n) (N _ hm).1).typeIs slot_list_getitem.lookup (m_getItem N hm h0 hf hx h) hb
theorem m_seq {x y : Str} {r : Bool} (e : (x == y) = r) (h : Q (.bool r) s) : wpAny (model prog w) A (compareOp .Eq (.str x t) (.str y u)) Q E s := by
  refine P.eq_str ?_
  have : (x.cps.toList == y.cps.toList) = (x == y) := by
    rw [Bool.eq_iff_iff]
    simp only [beq_iff_eq]
    exact ⟨fun h => by cases x; cases y; congr 1; exact Array.toList_inj.mp h, fun h => by rw [h]⟩
  rw [this, e]; exact h
theorem lat_len (l : List UInt8) : (lat l).cps.toList.length = l.length := by simp [lat]
theorem lat_list (l : List UInt8) : (lat l).cps.toList = l.map (·.toNat) := by simp [lat]
theorem slice_lat1 (l : List UInt8) : Txt.slice (lat l) none (some 1) = lat (l.take 1) := by
  cases l with
  | nil => rfl
  | cons c r =>
    refine (StrLaws.sliceText_to (x := lat (c :: r)) ⟨by decide, by rw [lat_len, List.length_cons]; omega⟩).trans ?_
    rw [lat_list]
    rfl
theorem slice_lat2 (l : List UInt8) : Txt.slice (lat l) (some 1) none = lat (l.drop 1) := by
  cases l with
  | nil => rfl
  | cons c r =>
    refine (StrLaws.sliceText_from (x := lat (c :: r)) ⟨by decide, by rw [lat_len, List.length_cons]; omega⟩).trans ?_
    rw [lat_list]
    simp [lat]
    exact List.take_of_length_le (by simp)
theorem m_s_hi {l : List UInt8} {uj : Tok} (hF : Fr h₀ L s.heap m) (hN : News h₀ L s.heap news) (hz : l.length ≤ 10000) (h : ∀ h' t' k, Fr h₀ L h' m → News h₀ L h' news → Q (.str (lat (l.take 1)) t') { s with heap := h', toks := k })
    (hs : subscripted slice false (.str (lat l) t) (.ref s.heap.objs.size) = operate [.ref s.heap.objs.size, .str (lat l) t] (getItem (.str (lat l) t) (.ref s.heap.objs.size)) := by with_unfolding_all rfl)
    (ht : ∀ r, letTemporaryGo value (.str (lat l) t) r = pure () := by intro _; with_unfolding_all rfl) :
    wpAny (model prog w) A (subscriptTail value slice (.str (lat l) t) (.ref s.heap.objs.size)) Q E { s with heap := s.heap.push { cls := .type "slice", data := .fields #[.none, .int 1 uj, .none] } } :=
  slice_strN_ns hF hN (fun h' t' k F' N' => by rw [slice_lat1]; exact h h' t' k F' N') hs ht (by rw [lat_length, sizeLine_eq]; omega)
theorem m_s_lo {l : List UInt8} {uj : Tok} (hF : Fr h₀ L s.heap m) (hN : News h₀ L s.heap news) (hz : l.length ≤ 10000) (h : ∀ h' t' k, Fr h₀ L h' m → News h₀ L h' news → Q (.str (lat (l.drop 1)) t') { s with heap := h', toks := k })
    (hs : subscripted slice false (.str (lat l) t) (.ref s.heap.objs.size) = operate [.ref s.heap.objs.size, .str (lat l) t] (getItem (.str (lat l) t) (.ref s.heap.objs.size)) := by with_unfolding_all rfl)
    (ht : ∀ r, letTemporaryGo value (.str (lat l) t) r = pure () := by intro _; with_unfolding_all rfl) :
    wpAny (model prog w) A (subscriptTail value slice (.str (lat l) t) (.ref s.heap.objs.size)) Q E { s with heap := s.heap.push { cls := .type "slice", data := .fields #[.int 1 uj, .none, .none] } } :=
  slice_strN_sn hF hN (fun h' t' k F' N' => by rw [slice_lat2]; exact h h' t' k F' N') hs ht (by rw [lat_length, sizeLine_eq]; omega)
end
theorem has_put {P : Params} {sx sd fR cS c1 ha h2 : Addr} {tv tr : Tok} {pm ctv : Value} {oS o1 : Obj} {p : Pl} {tb u0 u1 t : Tok} {nn n2 : Nat} {hvs : List Value} (oc : Octs hvs p.oc) (b : Bool) (v : List UInt8) :
    HasCh P sx sd fR cS c1 ha h2 tv tr pm ctv oS o1 (p.put b v) (strm P sx sd fR cS c1 (encF p.fs) tb tv tr pm ctv oS o1 ++ [(ha, listOf (itf b (.str (lat p.y0) u0) (.str (lat p.y1) u1) (.str (lat v) t) (.ref h2)).toArray nn), (h2, listOf hvs.toArray n2)]) := by
  cases b
  · exact ⟨tb, t, u1, nn, n2, hvs, oc, rfl⟩
  · exact ⟨tb, u0, t, nn, n2, hvs, oc, rfl⟩
theorem Pl.come_nil {p : Pl} (h : p.fs = []) : p.come = p := by
  obtain ⟨fs, y0, y1, oc⟩ := p
  dsimp only at h
  subst h
  rfl
end Mine
end
section
namespace Mine
theorem ePl : Nonempty (Pl) := ⟨(⟨[], [], [], []⟩ : Pl)⟩
theorem sign (w : World) (sx sd fR cS c1 ha h2 : Addr) (tv tr : Tok) (pm ctv : Value) (oS o1 : Obj) (vs : Array Value) (t1 : Tok) (hS : oS.data = .cell (some (.ref sx))) (hc1 : o1.data = .fields vs) (hv1 : vs[1]? = some (.str "_law_stream.<locals>.<lambda>" t1)) (tb u0 u1 : Tok) (nn n2 : Nat) (hvs : List Value) (p : Pl) (ok : p.Ok) (b : Bool) (tk : Tok) (oc : Octs hvs p.oc) :
    CtrT w 792 [.ref sx, .ref ha, .int (kI b) tk] (chan w.params sx sd fR cS c1 ha h2 (encF p.fs) tb tv tr pm ctv oS o1 (lat p.y0) (lat p.y1) u0 u1 nn hvs n2) 12 120
      (fun v own2 => ∃ t, v = .str (lat (((p.pullTo b).at b).take 1)) t ∧ HasCh w.params sx sd fR cS c1 ha h2 tv tr pm ctv oS o1 ((p.pullTo b).put b (((p.pullTo b).at b).drop 1)) own2) (fun _ _ => False) := by
  have hk0 := kI_lo b
  have hk1 := kI_hi b
  unfold CtrT
  k_fill
  k_with_none
  k_with "om" => (with_reducible first|assumption|exact rm1 (by assumption) rfl|exact rm2 (by assumption) rfl|exact rm3 (by assumption) rfl|exact rm0 (by assumption)|exact Nat.le_of_lt (by assumption)|exact Nat.le_add_right _ _|exact Nat.lt_succ_self _|exact Nat.le_of_not_lt (by assumption)|exact lt_i (by assumption)|exact nlt_i (by assumption)|exact le_big (by assumption) rfl)
  k_with "k_all" => (first|(first|assumption|exact off_lt (by walk_at "and_last")|exact off_le (by walk_at "and_last") (Nat.le_succ _)|exact off_le (by walk_at "and_last") (Nat.le_add_right _ _)|exact off_le' (by assumption) (Nat.le_refl _)|exact off_le' (by assumption) (Nat.le_succ _)|exact off_le' (by assumption) (Nat.le_add_right _ _)|exact off_le' (by assumption) (Nat.le_succ_of_le (Nat.le_succ _))|exact off_le' (by assumption) (Nat.le_succ_of_le (Nat.le_succ_of_le (Nat.le_succ _))))|fail)
  k_with "k_ne" => (first|(first|assumption|exact Ne.symm (by assumption))|fail)
  k_with "sel" => (first|exact Sel.head|(apply Sel.tail;walk_at "sel"))
  k_with "pick" => (first|exact Pick.nil|(apply Pick.cons;walk_at "sel";walk_at "pick"))
  k_with "off" => (first|with_reducible assumption|(with_reducible refine off_cons ?_ ?_;k_ne;walk_at "off")|k_all)
  k_with "offs" => (first|exact True.intro|(refine And.intro ?_ ?_;walk_at "off";walk_at "offs"))
  k_with "disa" => (first|exact True.intro|(refine And.intro ?_ ?_;k_ne;walk_at "disa"))
  k_with "dis" => (first|exact True.intro|(refine And.intro ?_ ?_;walk_at "disa";walk_at "dis"))
  k_with "eval Name" => ((k_here;k_dflt (first|(refine' m_local (by first|exact rfl|fail) (by first|exact rfl|fail) (by decide) (by k_asm) (by first|exact rfl|fail) ?_;k_whole)|(refine' m_free (by first|exact rfl|fail) (by first|exact rfl|fail) (by decide) (by decide) (by first|exact rfl|fail) (by k_asm) (by k_mem) (by k_asm) ?_;k_whole)|(refine' m_global (by first|exact rfl|fail) (by first|exact rfl|fail) (by decide) (by first|exact rfl|fail) (by k_asm) (by k_asm) (by k_asm) (by k_is) ?_;k_whole)|(refine' m_builtin (by first|exact rfl|fail) (by first|exact rfl|fail) (by decide) (by first|exact rfl|fail) (by first|exact rfl|fail) (by k_asm) (by k_asm) (by k_asm) (by k_is) (by decide) (by first|(boot_by_name)|fail) ?_;k_whole))))
  k_with "call ref" => ((k_here;k_extra "m call"))
  k_with "setat" => (first|exact hst9 _|exact hst _|exact SetAt.head|(apply SetAt.tail;walk_at "setat"))
  k_with "setItem ref int" => ((k_here;k_dflt (refine' m_setItem (its' := List.toArray _) (by k_asm) (by k_asm) (by k_upd) (by walk_at "setat") (by first|decide|assumption|fail) (by first|decide|omega|fail) ?_;k_whole;intro h' F' N')))
  k_with "ite" => ((k_here;k_dflt (first|refine ite_pos (by first|with_reducible exact rfl|with_reducible exact beq_self_eq_true _|with_reducible assumption) ?_|refine ite_neg (by with_reducible assumption) ?_)))
  k_with "m_enterT" => (first|(refine' codeT (by k_asm) (by k_asm) (by k_asm) (by k_asm) (by k_asm) rfl rfl (by first|exact rfl|assumption|fail) (by assumption) (by assumption) (by assumption) (by first|assumption|exact KtsTurn.refl|fail) (by k_is) (by k_is) (by ktr_room) (by first|exact BindsTo.of_eq rfl|exact binds_K (by k_in) rfl (by k_is) rfl rfl rfl|fail) (by first|(exact locs rfl)|fail) ?_ (by first|exact rfl|fail) (by first|exact rfl|fail) (by first|exact rfl|fail) (by decide);k_whole;intro g' L' h' FG' F' N' B' X' T' D' dn';(try dsimp only);(try k_lift B');(try k_fold))|(refine' lamT (by k_asm) (by k_asm) (by k_asm) (by k_asm) (by k_asm) rfl rfl (by first|exact rfl|assumption|fail) (by assumption) (by assumption) (by assumption) (by first|assumption|exact KtsTurn.refl|fail) (by k_mem) (by first|(exact codeRec_news (by k_asm) (by k_mem) (by assumption) (by assumption))|fail) (by ktr_room) (by first|exact rfl|fail) (by first|(exact locs rfl)|fail) ?_ (by first|exact rfl|fail) (by first|exact rfl|fail) (by first|exact rfl|fail) (by decide);k_whole;intro g' L' h' FG' F' N' B' X' T' D' dn';(try dsimp only);(try k_lift B');(try k_fold)))
  k_with "LeaveT" => ((k_dflt (refine' leaveT (by k_asm) (by k_asm) (by first|assumption|exact KtsTurn.refl|fail) ?_;k_whole);intro h0' t0 b0 kF kN kx0 kt0 kd0;(try dsimp only)))
  k_with "exec While" => ((k_here;k_extra "m while"))
  k_with "subscriptTail" => ((k_here;(with_reducible show wpAny _ _ (subscriptTail _ (Expr.Slice _ _ none _) (Value.str (lat _) _) (Value.ref _)) _ _ _);(with_reducible rename Fr _ _ _ _ => F');(with_reducible rename News _ _ _ _ => N');k_dflt (first|(refine' m_s_hi (s := ⟨_, _, _, _, _⟩) F' N' (by first|decide|omega|(simp only [List.length_cons, List.length_append, List.length_drop, List.length_take, List.length_nil] at *;omega)|fail) ?_;k_whole)|(refine' m_s_lo (s := ⟨_, _, _, _, _⟩) F' N' (by first|decide|omega|(simp only [List.length_cons, List.length_append, List.length_drop, List.length_take, List.length_nil] at *;omega)|fail) ?_;k_whole));intro hB' tB' kB' FB' NB'))
  k_with "subscriptTail Name Name ref int" => ((k_here;k_dflt (refine' m_sub (by k_asm) (by k_mem) (by first|decide|assumption|fail) (by first|decide|omega|fail) (by first|assumption|exact rfl|fail) ?_;k_whole)))
  k_with "compareOp Eq str str" => ((k_here;k_dflt (refine' m_seq (by first|with_reducible assumption|exact lat_nil_eq|exact lat_cons_ne _ _|decide|fail) ?_;k_whole)))
  intro hrow mean mg mb dp un gd cn cs a ccd cl outer A₀ base g₀ h₀ L m s rest Q E B F X N O D T XB TB Dd T0 hk hd hu hret hexc
  simp only [strm, chan, heldL, List.cons_append, List.nil_append] at N
  obtain ⟨q0, q1, q2, q3, q4, q5, q6, -⟩ := O
  obtain ⟨⟨d0_1, d0_2, d0_3, d0_4, d0_5, d0_6, -⟩, ⟨d1_2, d1_3, d1_4, d1_5, d1_6, -⟩, ⟨d2_3, d2_4, d2_5, d2_6, -⟩, ⟨d3_4, d3_5, d3_6, -⟩, ⟨d4_5, d4_6, -⟩, ⟨d5_6, -⟩, -, -⟩ := D
  (try dsimp only at q0 q1 q2 q3 q4 q5 q6 d0_1 d0_2 d0_3 d0_4 d0_5 d0_6 d1_2 d1_3 d1_4 d1_5 d1_6 d2_3 d2_4 d2_5 d2_6 d3_4 d3_5 d3_6 d4_5 d4_6 d5_6)
  k_with "m call" => ((with_reducible show wpAny _ _ (call (Value.ref 785) _) _ _ _);k_dflt (refine' ctrT_use2 (by k_asm) (by k_asm) (by k_asm) (by k_asm) (by walk_at "pick") (by walk_at "offs") (by walk_at "dis") (by k_asm) (by k_asm) (by k_asm) (by k_asm) (by first|assumption|exact KtsTurn.refl) (by first|exact rfl|assumption) (by ktr_room) (by ktr_units) (came w sx sd fR cS c1 ha h2 tv tr pm ctv oS o1 vs t1 hS hc1 hv1 p' okc tb' u0' u1' nn' n2' hvs' occ) ?_;k_whole;refine And.intro ?_ ?_;(intro e9 t9 xs9 own9 h9 tk9 G9 g9 hp9 T9 B9 F9 X9 P9 D9 R9 U9;exact hp9.elim);(intro v9 own9 h9 tk9 g9 hp9 T9 B9 F9 N9 X9 P9 D9;obtain ⟨e1, hp9⟩ := hp9;k_dflt (refine ex6 hp9 ?_);clear hp9;intro tb9 u09 u19 nn9 n29 hvs9 hp9;obtain ⟨oc9, e2⟩ := hp9;rw [hfs] at e1;simp only [List.isEmpty_cons, List.isEmpty_nil, Bool.not_true, Bool.not_false] at e1;subst e1;subst e2;simp only [strm, chan, heldL, List.cons_append, List.nil_append] at N9;(try (rw [Pl.come_nil hfs] at oc9 N9;have hg9 := sel_at p' b u09 u19 (.ref h2);rw [hat] at hg9;have hst9 := sel_set b (.str (lat p'.y0) u09) (.str (lat p'.y1) u19) (.ref h2)));(try k_lift B9);(try dsimp only);(try k_fold))))
  k_with "m while" => ((with_reducible rename Fr _ _ _ _ => Fw);(with_reducible rename News _ _ _ _ => Nw);(with_reducible rename Below _ _ _ _ => Bw);(with_reducible rename KtsDicts _ _ => Dw);(with_reducible rename Frag.In _ _ => Xw);(with_reducible rename Top _ _ _ _ _ _ => Tw);refine whl_start 0 ?_;refine whl_ledT (σ := Cs) (fun c => c.p.fs.length) (fun c => c.p.Ok ∧ Octs c.hvs c.p.oc ∧ c.p.pullTo b = p.pullTo b) (fun _ => _) (fun c => chan w.params sx sd fR cS c1 ha h2 (encF c.p.fs) c.tb tv tr pm ctv oS o1 (lat c.p.y0) (lat c.p.y1) c.u0 c.u1 c.nn c.hvs c.n2 ++ rest) (Gd w.params mean mg mb _ base _ _) (by passes_own) ?_ ⟨p, tb, u0, u1, nn, n2, hvs⟩ _ _ _ ⟨ok, oc, rfl⟩ ⟨KtsTurn.refl, Bw, Xw, Tw, Dw⟩ Fw Nw;clear Fw Nw;rintro ⟨p', tb', u0', u1', nn', n2', hvs'⟩ g9 h9 tk9 Rr ⟨okc, occ, hpl⟩ ⟨T9, B9, X9, P9, D9⟩ F9 N9 hR;(dsimp only at okc occ hpl F9 N9 ⊢);simp only [strm, chan, heldL, List.cons_append, List.nil_append] at N9;(have hg := sel_at p' b u0' u1' (.ref h2));(have hzb : (p'.at b).length ≤ 1000 := okc.at_le b);(have hst := sel_set b (.str (lat p'.y0) u0') (.str (lat p'.y1) u1') (.ref h2));(rcases hat : p'.at b with _|⟨c0, r0⟩);rotate_left;(have hpp : p.pullTo b = p' := hpl.symm.trans (Pl.pullTo_end (.inl (by rw [hat];exact List.cons_ne_nil _ _))));rotate_left;(rcases hfs : p'.fs with _|⟨f, r⟩);(have hpp : p.pullTo b = p' := hpl.symm.trans (Pl.pullTo_end (.inr hfs)));all_goals ((rw [hat] at hg hzb);(try simp only [hpp, hat] at hret);(try dsimp only);(try k_fold)))
  revert hS hc1 hv1 ok oc hk0 hk1 hrow B F X N T XB TB Dd T0 hk hd hu hret hexc q0 q1 q2 q3 q4 q5 q6 d0_1 d0_2 d0_3 d0_4 d0_5 d0_6 d1_2 d1_3 d1_4 d1_5 d1_6 d2_3 d2_4 d2_5 d2_6 d3_4 d3_5 d3_6 d4_5 d4_6 d5_6; revert w sx sd fR cS c1 ha h2 tv tr pm ctv oS o1 vs t1 tb u0 u1 nn n2 hvs p b tk mean mg mb dp un gd cn cs a ccd cl outer A₀ base g₀ h₀ L m s rest Q E; refine eps8 eW eN eN eN eN eN eN eN ?_; generalize q81 _ = w, q82 _ = sx, q83 _ = sd, q84 _ = fR, q85 _ = cS, q86 _ = c1, q87 _ = ha, q88 _ = h2; refine hold8 ?_; refine eps8 eN eN eV eV eO eO eAV eN ?_; generalize q81 _ = tv, q82 _ = tr, q83 _ = pm, q84 _ = ctv, q85 _ = oS, q86 _ = o1, q87 _ = vs, q88 _ = t1; refine hold8 ?_; refine eps8 eN eN eN eN eN eLV ePl eB ?_; generalize q81 _ = tb, q82 _ = u0, q83 _ = u1, q84 _ = nn, q85 _ = n2, q86 _ = hvs, q87 _ = p, q88 _ = b; refine hold8 ?_; refine eps8 eN eEx eM eM eN eN eOC eS ?_; generalize q81 _ = tk, q82 _ = mean, q83 _ = mg, q84 _ = mb, q85 _ = dp, q86 _ = un, q87 _ = gd, q88 _ = cn; refine hold8 ?_; refine eps8 eSc eN eV eSA eEn eAr eH eH ?_; generalize q81 _ = cs, q82 _ = a, q83 _ = ccd, q84 _ = cl, q85 _ = outer, q86 _ = A₀, q87 _ = base, q88 _ = g₀; refine hold8 ?_; refine eps7 eH eN eM eSh eL eP2 eP2 ?_; generalize q71 _ = h₀, q72 _ = L, q73 _ = m, q74 _ = s, q75 _ = rest, q76 _ = Q, q77 _ = E; refine hold7 ?_; intro hS hc1 hv1 ok oc hk0 hk1 hrow B F X N T XB TB Dd T0 hk hd hu hret hexc q0 q1 q2 q3 q4 q5 q6 d0_1 d0_2 d0_3 d0_4 d0_5 d0_6 d1_2 d1_3 d1_4 d1_5 d1_6 d2_3 d2_4 d2_5 d2_6 d3_4 d3_5 d3_6 d4_5 d4_6 d5_6
  refine wpAny_call ?_
  k_dflt (walk_at "m_enterT")
  repeat (first | (k_unfold; (try dsimp only)) | walk1 | (dsimp only; walk1))
  all_goals (try k_data)
  all_goals (repeat (first | (k_unfold; (try dsimp only)) | walk1 | (dsimp only; walk1)))
  all_goals (try k_data)
  all_goals first
    | exact hret _ _ _ _ _ ⟨_, rfl, has_put (by assumption) _ _⟩ (by first | assumption | exact KtsTurn.refl) (by assumption) (by assumption) (by assumption) (by assumption) (by assumption) (by assumption)
    | exact lpost_next (hR ⟨Pl.come p', tb9, u09, u19, nn9, n29, hvs9⟩ _ _ _ (by show (Pl.come p').fs.length < p'.fs.length; rw [Pl.come_fs, hfs]; exact Nat.lt_succ_self _) ⟨okc.come, oc9, (Pl.pullTo_step hat (by rw [hfs]; exact List.cons_ne_nil _ _)).trans hpl⟩ ⟨T9, B9, X9, P9, D9⟩ F9 N9)
  k_with_none
  k_with "om" => (with_reducible first|assumption|exact rm1 (by assumption) rfl|exact rm0 (by assumption)|exact Nat.le_of_lt (by assumption)|exact Nat.le_add_right _ _|exact Nat.le_add_left _ _|exact Nat.lt_succ_self _|exact Nat.succ_pos _|exact Nat.lt_of_not_le (by assumption)|exact Nat.le_of_not_lt (by assumption)|exact Nat.le_of_not_le (by assumption)|exact Nat.le_of_lt (Nat.lt_of_not_le (by assumption))|exact lt_i (by assumption)|exact nlt_i (by assumption)|exact nneg_i|exact le_big (by assumption) rfl|exact Nat.le_of_succ_le_succ (by assumption)|exact Nat.eq_zero_of_le_zero (by assumption)|exact Nat.add_comm _ _)
end Mine
end
section
namespace Mine
def txt (b : Bool) (fs : List Fm) : List UInt8 := fs.flatMap fun f => if odd8 f.1 = b then f.2 else []
def mkPl (fr : List Fm) (n0 n1 t : Nat) : Pl := { fs := fr.drop t, y0 := (txt false (fr.take t)).drop n0, y1 := (txt true (fr.take t)).drop n1, oc := (fr.take t).map (·.1) }
def reach (b : Bool) (fr : List Fm) (n : Nat) : Nat → Nat → Nat
  | 0, t => t
  | k + 1, t => if n < (txt b (fr.take t)).length then t else reach b fr n k (t + 1)
theorem txt_append (b : Bool) (x y : List Fm) : txt b (x ++ y) = txt b x ++ txt b y := List.flatMap_append
theorem mk_at (fr : List Fm) (n0 n1 t : Nat) (b : Bool) : (mkPl fr n0 n1 t).at b = (txt b (fr.take t)).drop (if b then n1 else n0) := by cases b <;> rfl
theorem mk_come {fr : List Fm} {n0 n1 t : Nat} (ht : t < fr.length) (h0 : n0 ≤ (txt false (fr.take t)).length) (h1 : n1 ≤ (txt true (fr.take t)).length) : (mkPl fr n0 n1 t).come = mkPl fr n0 n1 (t + 1) := by
  have e : fr.take (t + 1) = fr.take t ++ [fr[t]] := by rw [List.take_succ_eq_append_getElem ht]
  have d : fr.drop t = fr[t] :: fr.drop (t + 1) := List.drop_eq_getElem_cons ht
  unfold mkPl
  simp only [Pl.come, d, e, txt_append, List.map_append, List.map_cons, List.map_nil]
  have z : ∀ b, txt b [fr[t]] = if odd8 fr[t].1 = b then fr[t].2 else [] := fun b => by simp [txt]
  rw [z, z]
  cases hc : odd8 fr[t].1
  · simp only [Pl.put, Pl.at, Bool.false_eq_true, if_false, reduceCtorEq, if_true, List.append_nil]
    rw [List.drop_append_of_le_length h0]
  · simp only [Pl.put, Pl.at, if_true, reduceCtorEq, if_false, List.append_nil, Bool.true_eq_false]
    rw [List.drop_append_of_le_length h1]
theorem txt_le (b : Bool) (fr : List Fm) (t : Nat) : (txt b (fr.take t)).length ≤ (txt b (fr.take (t + 1))).length := by
  by_cases ht : t < fr.length
  · rw [List.take_succ_eq_append_getElem ht, txt_append, List.length_append]; exact Nat.le_add_right _ _
  · rw [List.take_of_length_le (Nat.le_of_not_lt ht), List.take_of_length_le (Nat.le_succ_of_le (Nat.le_of_not_lt ht))]
    exact Nat.le_refl _
theorem mk_pull {b : Bool} {fr : List Fm} {n0 n1 : Nat} : ∀ (k t : Nat), t + k = fr.length → n0 ≤ (txt false (fr.take t)).length → n1 ≤ (txt true (fr.take t)).length → Pl.pull b k (mkPl fr n0 n1 t) = mkPl fr n0 n1 (reach b fr (if b then n1 else n0) k t)
  | 0, _, _, _, _ => rfl
  | k + 1, t, hk, h0, h1 => by
    have ht : t < fr.length := hk ▸ Nat.lt_add_of_pos_right (Nat.succ_pos _)
    rw [Pl.pull, reach, mk_at]
    by_cases h : (if b then n1 else n0) < (txt b (fr.take t)).length
    · rw [if_pos h, if_neg]
      intro e
      have := congrArg List.length e
      rw [List.length_drop, List.length_nil] at this
      exact absurd (Nat.le_of_sub_eq_zero this) (Nat.not_le_of_lt h)
    · rw [if_neg h, if_pos (List.drop_eq_nil_of_le (Nat.le_of_not_lt h)), mk_come ht h0 h1]
      exact mk_pull k (t + 1) ((Nat.add_right_comm t 1 k).trans hk) (Nat.le_trans h0 (txt_le ..)) (Nat.le_trans h1 (txt_le ..))
theorem txt_mono (b : Bool) (fr : List Fm) {t u : Nat} (h : t ≤ u) : (txt b (fr.take t)).length ≤ (txt b (fr.take u)).length := by
  induction u with
  | zero => have : t = 0 := Nat.le_zero.mp h
            subst this; exact Nat.le_refl _
  | succ u ih =>
    by_cases e : t = u + 1
    · subst e; exact Nat.le_refl _
    · exact Nat.le_trans (ih (Nat.le_of_lt_succ (Nat.lt_of_le_of_ne h e))) (txt_le ..)
theorem reach_spec (b : Bool) (fr : List Fm) (n : Nat) : ∀ k t, t ≤ reach b fr n k t ∧ reach b fr n k t ≤ t + k ∧ (∀ j, t ≤ j → j < reach b fr n k t → (txt b (fr.take j)).length ≤ n) ∧ (reach b fr n k t < t + k → n < (txt b (fr.take (reach b fr n k t))).length)
  | 0, t => ⟨Nat.le_refl _, Nat.le_refl _, fun j h1 h2 => absurd (Nat.lt_of_le_of_lt h1 h2) (Nat.lt_irrefl _), fun h => absurd h (Nat.lt_irrefl _)⟩
  | k + 1, t => by
    rw [reach]
    by_cases h : n < (txt b (fr.take t)).length
    · rw [if_pos h]
      exact ⟨Nat.le_refl _, Nat.le_add_right _ _, fun j h1 h2 => absurd (Nat.lt_of_le_of_lt h1 h2) (Nat.lt_irrefl _), fun _ => h⟩
    · rw [if_neg h]
      obtain ⟨a, c, d, e⟩ := reach_spec b fr n k (t + 1)
      refine ⟨Nat.le_of_succ_le a, Nat.le_trans c (Nat.le_of_eq (Nat.add_right_comm t 1 k)), fun j h1 h2 => ?_, fun h' => e (Nat.lt_of_lt_of_le h' (Nat.le_of_eq (Nat.add_right_comm t 1 k).symm))⟩
      by_cases hj : j = t
      · subst hj; exact Nat.le_of_not_lt h
      · exact d j (Nat.lt_of_le_of_ne h1 (Ne.symm hj)) h2
def need (b : Bool) (fr : List Fm) (place : Nat) : Nat := reach b fr (place - 1) fr.length 0
theorem reach_need (b : Bool) (fr : List Fm) (n t : Nat) (ht : t ≤ fr.length) : reach b fr n (fr.length - t) t = max t (need b fr (n + 1)) := by
  obtain ⟨a, c, d, e⟩ := reach_spec b fr n (fr.length - t) t
  obtain ⟨a', c', d', e'⟩ := reach_spec b fr n fr.length 0
  unfold need
  rw [Nat.add_sub_cancel]
  rw [Nat.add_sub_cancel' ht] at c e
  rw [Nat.zero_add] at c' e'
  generalize reach b fr n (fr.length - t) t = r at *
  generalize reach b fr n fr.length 0 = r' at *
  by_cases h : r' ≤ t
  · rw [Nat.max_eq_left h]
    by_cases ht' : t = fr.length
    · exact Nat.le_antisymm (Nat.le_trans c (Nat.le_of_eq ht'.symm)) a
    · have h3 := e' (Nat.lt_of_le_of_lt h (Nat.lt_of_le_of_ne ht ht'))
      have h2 := txt_mono b fr h
      by_cases hr : r = t
      · exact hr
      · exact absurd (Nat.lt_of_lt_of_le h3 (Nat.le_trans h2 (d t (Nat.le_refl _) (Nat.lt_of_le_of_ne a (Ne.symm hr))))) (Nat.lt_irrefl _)
  · rw [Nat.max_eq_right (Nat.le_of_lt (Nat.lt_of_not_le h))]
    rcases Nat.lt_trichotomy r r' with g | g | g
    · exact absurd (e (Nat.lt_of_lt_of_le g c')) (Nat.not_lt.mpr (d' r (Nat.zero_le _) g))
    · exact g
    · exact absurd (e' (Nat.lt_of_lt_of_le g c)) (Nat.not_lt.mpr (d r' (Nat.le_of_lt (Nat.lt_of_not_le h)) g))
theorem need_mono (b : Bool) (fr : List Fm) {x y : Nat} (h : x ≤ y) : need b fr x ≤ need b fr y := by
  unfold need
  obtain ⟨a, c, d, e⟩ := reach_spec b fr (x - 1) fr.length 0
  obtain ⟨a', c', d', e'⟩ := reach_spec b fr (y - 1) fr.length 0
  generalize reach b fr (x - 1) fr.length 0 = r at *
  generalize reach b fr (y - 1) fr.length 0 = r' at *
  rcases Nat.lt_or_ge r' r with g | g
  · exact absurd (e' (Nat.lt_of_lt_of_le g c)) (Nat.not_lt.mpr (Nat.le_trans (d r' (Nat.zero_le _) g) (Nat.sub_le_sub_right h 1)))
  · exact g
end Mine
end
section
namespace Mine
abbrev Ns2 := Bool → Nat
def mkA (fr : List Fm) (n : Ns2) (t : Nat) : Pl := mkPl fr (n false) (n true) t
def setN (n : Ns2) (b : Bool) (v : Nat) : Ns2 := fun c => if c = b then v else n c
structure Abs (fr : List Fm) (n : Ns2) (t : Nat) : Prop where
  le : t ≤ fr.length
  nb : ∀ b, n b ≤ (txt b (fr.take t)).length
theorem mkA_at (fr : List Fm) (n : Ns2) (t : Nat) (b : Bool) : (mkA fr n t).at b = (txt b (fr.take t)).drop (n b) := by
  unfold mkA
  rw [mk_at]
  cases b <;> rfl
theorem mkA_pull {fr : List Fm} {n : Ns2} {t : Nat} (h : Abs fr n t) (b : Bool) : (mkA fr n t).pullTo b = mkA fr n (max t (need b fr (n b + 1))) := by
  have e : (mkA fr n t).fs.length = fr.length - t := by
    show (fr.drop t).length = _
    rw [List.length_drop]
  unfold Pl.pullTo
  rw [e]
  unfold mkA
  rw [mk_pull _ _ (Nat.add_sub_cancel' h.le) (h.nb false) (h.nb true), reach_need _ _ _ _ h.le]
  cases b <;> rfl
theorem need_le (b : Bool) (fr : List Fm) (pl : Nat) : need b fr pl ≤ fr.length := by
  have := (reach_spec b fr (pl - 1) fr.length 0).2.1
  unfold need; omega
theorem need_has (b : Bool) (fr : List Fm) (n : Nat) (h : n < (txt b fr).length) : n < (txt b (fr.take (need b fr (n + 1)))).length := by
  obtain ⟨a, c, d, e⟩ := reach_spec b fr n fr.length 0
  unfold need
  rw [Nat.add_sub_cancel]
  by_cases g : reach b fr n fr.length 0 < 0 + fr.length
  · exact e g
  · rw [List.take_of_length_le (by omega)]; exact h
theorem txt_prefix (b : Bool) (fr : List Fm) (t : Nat) : txt b fr = txt b (fr.take t) ++ txt b (fr.drop t) := by
  rw [← txt_append, List.take_append_drop]
theorem txt_drop_take {b : Bool} {fr : List Fm} {n t : Nat} (h : n < (txt b fr).length → n < (txt b (fr.take t)).length) (hn : n ≤ (txt b (fr.take t)).length) : ((txt b (fr.take t)).drop n).take 1 = ((txt b fr).drop n).take 1 := by
  rw [txt_prefix b fr t] at h ⊢
  rw [List.drop_append_of_le_length hn]
  by_cases g : n < (txt b (fr.take t)).length
  · rw [List.take_append_of_le_length (by rw [List.length_drop]; exact Nat.sub_pos_of_lt g)]
  · have g2 : ¬ n < (txt b (fr.take t) ++ txt b (fr.drop t)).length := fun q => g (h q)
    rw [List.length_append] at g2
    have : txt b (fr.drop t) = [] := List.eq_nil_of_length_eq_zero (by omega)
    rw [this, List.append_nil]
theorem mkA_sign {fr : List Fm} {n : Ns2} {t : Nat} (h : Abs fr n t) (b : Bool) :
    (((mkA fr n t).pullTo b).at b).take 1 = ((txt b fr).drop (n b)).take 1 ∧
    ((mkA fr n t).pullTo b).put b ((((mkA fr n t).pullTo b).at b).drop 1) = mkA fr (setN n b (min (n b + 1) (txt b fr).length)) (max t (need b fr (n b + 1))) ∧
    Abs fr (setN n b (min (n b + 1) (txt b fr).length)) (max t (need b fr (n b + 1))) := by
  rw [mkA_pull h]
  have hle : max t (need b fr (n b + 1)) ≤ fr.length := Nat.max_le.mpr ⟨h.le, need_le ..⟩
  have hlt : n b < (txt b fr).length → n b < (txt b (fr.take (max t (need b fr (n b + 1))))).length := fun q => Nat.lt_of_lt_of_le (need_has b fr _ q) (txt_mono b fr (Nat.le_max_right _ _))
  have hnb : ∀ c, n c ≤ (txt c (fr.take (max t (need b fr (n b + 1))))).length := fun c => Nat.le_trans (h.nb c) (txt_mono c fr (Nat.le_max_left _ _))
  have hT : (txt b (fr.take (max t (need b fr (n b + 1))))).length ≤ (txt b fr).length := by
    rw [txt_prefix b fr (max t (need b fr (n b + 1))), List.length_append]; exact Nat.le_add_right _ _
  generalize max t (need b fr (n b + 1)) = u at *
  have hb := hnb b
  refine ⟨?_, ?_, hle, fun c => ?_⟩
  · rw [mkA_at]
    exact txt_drop_take hlt (hnb b)
  · have hd : (((mkA fr n u).at b).drop 1) = (txt b (fr.take u)).drop (min (n b + 1) (txt b fr).length) := by
      rw [mkA_at, List.drop_drop]
      by_cases q : n b < (txt b fr).length
      · rw [Nat.min_eq_left (Nat.succ_le_of_lt q)]
      · rw [List.drop_eq_nil_of_le (Nat.le_trans hT (Nat.le_succ_of_le (Nat.le_of_not_lt q))), List.drop_eq_nil_of_le (Nat.le_min.mpr ⟨Nat.le_trans hT (Nat.le_succ_of_le (Nat.le_of_not_lt q)), hT⟩)]
    rw [hd]
    cases b
    · simp only [mkA, mkPl, Pl.put, setN, Bool.false_eq_true, if_false, if_true, reduceCtorEq]
    · simp only [mkA, mkPl, Pl.put, setN, if_true, reduceCtorEq, if_false]
  · unfold setN
    by_cases q : c = b
    · rw [if_pos q]
      subst q
      by_cases g : n c < (txt c fr).length
      · exact Nat.le_trans (Nat.min_le_left _ _) (hlt g)
      · exact Nat.le_trans (Nat.min_le_right _ _) (Nat.le_trans (Nat.le_of_not_lt g) (hnb c))
    · rw [if_neg q]
      exact hnb c
end Mine
end
section
namespace Mine
structure FrOk (fr : List Fm) : Prop where
  len : ∀ f ∈ fr, f.2.length ≤ 8
  sz : fr.length ≤ 32
theorem txt_bound (b : Bool) : ∀ {fr : List Fm}, (∀ f ∈ fr, f.2.length ≤ 8) → (txt b fr).length ≤ 8 * fr.length
  | [], _ => Nat.le_refl _
  | f :: r, h => by
    have h1 := txt_bound b (fr := r) fun g hg => h g (List.mem_cons_of_mem _ hg)
    have h2 := h f List.mem_cons_self
    have e : txt b (f :: r) = (if odd8 f.1 = b then f.2 else []) ++ txt b r := rfl
    rw [e, List.length_append, List.length_cons]
    split
    · omega
    · rw [List.length_nil]; omega
theorem FrOk.pl {fr : List Fm} (h : FrOk fr) {n : Ns2} {t : Nat} (a : Abs fr n t) : (mkA fr n t).Ok := by
  have hz := h.sz
  have hl := a.le
  have key : ∀ b k, ((txt b (fr.take t)).drop k).length + 8 * (fr.drop t).length ≤ 1000 := fun b k => by
    have := txt_bound b (fr := fr.take t) fun f hf => h.len f (List.mem_of_mem_take hf)
    rw [List.length_take] at this
    rw [List.length_drop, List.length_drop]
    rw [Nat.min_eq_left hl] at this
    refine Nat.le_trans (Nat.add_le_add_right (Nat.le_trans (Nat.sub_le _ _) this) _) ?_
    rw [← Nat.mul_add, Nat.add_sub_cancel' hl]
    exact Nat.le_trans (Nat.mul_le_mul_left 8 hz) (by decide)
  exact ⟨fun f hf => h.len f (List.mem_of_mem_drop hf), by
    show (fr.drop t).length + ((fr.take t).map (·.1)).length ≤ 32
    rw [List.length_map, List.length_take, List.length_drop, Nat.min_eq_left hl, Nat.sub_add_cancel hl]; exact hz, key false _, key true _⟩
abbrev nx (fr : List Fm) (n : Ns2) (b : Bool) : Ns2 := setN n b (min (n b + 1) (txt b fr).length)
abbrev tx' (fr : List Fm) (n : Ns2) (t : Nat) (b : Bool) : Nat := max t (need b fr (n b + 1))
theorem signA (w : World) (sx sd fR cS c1 ha h2 : Addr) (tv tr : Tok) (pm ctv : Value) (oS o1 : Obj) (vs : Array Value) (t1 : Tok) (hS : oS.data = .cell (some (.ref sx))) (hc1 : o1.data = .fields vs) (hv1 : vs[1]? = some (.str "_law_stream.<locals>.<lambda>" t1)) (fr : List Fm) (hfr : FrOk fr) (n : Ns2) (t : Nat) (ab : Abs fr n t) (b : Bool) (tk : Tok) (tb u0 u1 : Tok) (nn n2 : Nat) (hvs : List Value) (oc : Octs hvs (mkA fr n t).oc) :
    CtrT w 792 [.ref sx, .ref ha, .int (kI b) tk] (chan w.params sx sd fR cS c1 ha h2 (encF (mkA fr n t).fs) tb tv tr pm ctv oS o1 (lat (mkA fr n t).y0) (lat (mkA fr n t).y1) u0 u1 nn hvs n2) 12 120
      (fun v own2 => ∃ t9, v = .str (lat (((txt b fr).drop (n b)).take 1)) t9 ∧ HasCh w.params sx sd fR cS c1 ha h2 tv tr pm ctv oS o1 (mkA fr (nx fr n b) (tx' fr n t b)) own2) (fun _ _ => False) := by
  have h := sign w sx sd fR cS c1 ha h2 tv tr pm ctv oS o1 vs t1 hS hc1 hv1 tb u0 u1 nn n2 hvs (mkA fr n t) (hfr.pl ab) b tk oc
  obtain ⟨e1, e2, e3⟩ := mkA_sign ab b
  rw [e1, e2] at h
  exact h
end Mine
end
section
namespace Mine
theorem item_last (l : List UInt8) (c : UInt8) : Txt.item (lat (l ++ [c])) (-1) = lat [c] := by
  have hl : (lat (l ++ [c])).length = l.length + 1 := by rw [lat_length, List.length_append]; rfl
  have h : Txt.charAt (lat (l ++ [c])) (-1) = some c.toNat := by
    show (seqIndex? (-1) (lat (l ++ [c])).length).bind _ = _
    rw [StrLaws.seqIndex_neg (by decide) (by rw [hl]; omega), hl]
    have : ((-1 : Int) + ((l.length + 1 : Nat) : Int)).toNat = l.length := by omega
    rw [this]
    simp [lat]
  unfold Txt.item
  rw [h]
  rfl
section
variable {prog : Program} {w : World} {A : Around} {E : Value → Shared → Prop} {s : Shared} {t u : Tok} {value slice : Expr} {Q : Value → Shared → Prop} {l : List UInt8} {c : UInt8}
theorem m_s_last (hz : l.length ≤ 10000) (h : Q (.str (lat [c]) s.toks) { s with toks := s.toks + 1 })
    (hs : subscripted slice false (.str (lat (l ++ [c])) t) (.int (-1) u) = operate [.str (lat (l ++ [c])) t, .int (-1) u] (getItem (.str (lat (l ++ [c])) t) (.int (-1) u)) := by with_unfolding_all rfl)
    (ht : ∀ r, letTemporaryGo value (.str (lat (l ++ [c])) t) r = pure () := by intro _; with_unfolding_all rfl) :
    wpAny (model prog w) A (subscriptTail value slice (.str (lat (l ++ [c])) t) (.int (-1) u)) Q E s :=
  KXi.item (n := l.length + 1) (by rw [lat_length, List.length_append]; rfl) (by omega) (by omega) (by omega) (fun _ => by rw [item_last]; exact h) hs ht
end
section
variable {prog : Program} {w : World} {A : Around} {E : Value → Shared → Prop} {s : Shared} {t u : Tok} {Q : Value → Shared → Prop}
theorem m_sadd {a b : List UInt8} (hz : a.length + b.length ≤ 20000) (h : ∀ t' k, Q (.str (lat (a ++ b)) t') { s with toks := k }) : wpAny (model prog w) A (inplaceOp .Add (.str (lat a) t) (.str (lat b) u)) Q E s :=
  SB.iadd (fun t' k => by rw [lat_append]; exact h t' k) (by rw [lat_length, lat_length, sizeLine_eq]; omega)
theorem m_sne {x y : Str} {r : Bool} (e : (x == y) = r) (h : Q (.bool (!r)) s) : wpAny (model prog w) A (compareOp .NotEq (.str x t) (.str y u)) Q E s := by
  refine P.ne_str ?_
  have : (x.cps.toList == y.cps.toList) = (x == y) := by
    rw [Bool.eq_iff_iff]
    simp only [beq_iff_eq]
    exact ⟨fun h => by cases x; cases y; congr 1; exact Array.toList_inj.mp h, fun h => by rw [h]⟩
  rw [show (x.cps.toList != y.cps.toList) = !r by rw [← e, ← this]; rfl]; exact h
end
def bl : List UInt8 → Nat
  | [] => 1
  | c :: r => if c = 10 then 1 else 1 + bl r
end Mine
end
section
namespace Mine
def goN (fr : List Fm) (n : Ns2) (b : Bool) (k : Nat) : Ns2 := setN n b (min (n b + k) (txt b fr).length)
def goT (fr : List Fm) (n : Ns2) (t : Nat) (b : Bool) (k : Nat) : Nat := max t (need b fr (n b + k))
theorem go_one (fr : List Fm) (n : Ns2) (t : Nat) (b : Bool) : goN fr n b 1 = nx fr n b ∧ goT fr n t b 1 = tx' fr n t b := ⟨rfl, rfl⟩
theorem nx_b {fr : List Fm} {n : Ns2} {b : Bool} {c : UInt8} {r : List UInt8} (h : (txt b fr).drop (n b) = c :: r) : nx fr n b b = n b + 1 ∧ (txt b fr).drop (n b + 1) = r ∧ n b < (txt b fr).length := by
  have hl := congrArg List.length h
  rw [List.length_drop, List.length_cons] at hl
  refine ⟨?_, ?_, by omega⟩
  · show (if b = b then min (n b + 1) (txt b fr).length else n b) = _
    rw [if_pos rfl, Nat.min_eq_left (by omega)]
  · rw [← List.drop_drop, h]; rfl
theorem go_step {fr : List Fm} {n : Ns2} {t : Nat} {b : Bool} {c : UInt8} {r : List UInt8} (h : (txt b fr).drop (n b) = c :: r) (k : Nat) :
    goN fr (nx fr n b) b k = goN fr n b (k + 1) ∧ goT fr (nx fr n b) (tx' fr n t b) b k = goT fr n t b (k + 1) := by
  obtain ⟨e1, e2, e3⟩ := nx_b h
  constructor
  · unfold goN
    rw [e1]
    funext d
    unfold setN
    by_cases q : d = b
    · rw [if_pos q, if_pos q, Nat.add_assoc, Nat.add_comm 1 k]
    · rw [if_neg q, if_neg q]
      show (if d = b then _ else n d) = _
      rw [if_neg q]
  · unfold goT tx'
    rw [e1, Nat.max_assoc, Nat.add_assoc, Nat.add_comm 1 k, Nat.max_eq_right (need_mono b fr (show n b + 1 ≤ n b + (k + 1) by omega))]
theorem abs_nx {fr : List Fm} {n : Ns2} {t : Nat} (a : Abs fr n t) (b : Bool) : Abs fr (nx fr n b) (tx' fr n t b) := (mkA_sign a b).2.2
end Mine
namespace Mine
structure Ln where
  n : Ns2
  t : Nat
  tb : Tok
  u0 : Tok
  u1 : Tok
  nn : Nat
  n2 : Nat
  hvs : List Value
  l : List UInt8
  c : UInt8
  tl : Tok
  sg : Option Value
theorem lat_ne10 {c : UInt8} (h : c ≠ 10) : ((lat [c] : Str) == ("\n" : Str)) = false := by
  refine beq_eq_false_iff_ne.mpr fun e => h ?_
  have h1 : (lat [c]).cps.toList = ("\n" : Str).cps.toList := congrArg (fun s : Str => s.cps.toList) e
  rw [lat_list] at h1
  have h2 : [c.toNat] = [10] := h1
  have h3 : c.toNat = 10 := by simpa using h2
  exact UInt8.toNat_inj.mp h3
theorem lat_eq10 : ((lat [(10 : UInt8)] : Str) == ("\n" : Str)) = true := by decide
theorem lat_snoc_ne (l : List UInt8) (c : UInt8) : ((lat (l ++ [c]) : Str) == ("" : Str)) = false := by
  cases l with
  | nil => exact lat_cons_ne _ _
  | cons a r => exact lat_cons_ne _ _
end Mine
namespace Mine
theorem fr_two {h₀ h : Heap} {L : Addr} {x y0 : Str} {a : Option Value} {sg : Option Value} {m0 : Str → Option Value} (F : Fr h₀ L h (fun y => if y = x then a else m0 y)) (e : m0 y0 = sg) : Fr h₀ L h (fun y => if y = x then a else if y = y0 then sg else m0 y) :=
  fr_to F fun y => by
    by_cases h1 : y = x
    · rw [if_pos h1, if_pos h1]
    · rw [if_neg h1, if_neg h1]
      by_cases h2 : y = y0
      · rw [if_pos h2, h2, e]
      · rw [if_neg h2]
theorem fr_four {h₀ h : Heap} {L : Addr} {x y0 : Str} {a a' sg sg' : Option Value} {m0 : Str → Option Value} (F : Fr h₀ L h (fun y => if y = x then a' else if y = y0 then sg' else if y = x then a else if y = y0 then sg else m0 y)) :
    Fr h₀ L h (fun y => if y = x then a' else if y = y0 then sg' else m0 y) :=
  fr_to F fun y => by
    by_cases h1 : y = x
    · rw [if_pos h1, if_pos h1]
    · by_cases h2 : y = y0
      · simp only [h1, if_false, h2, if_true]
      · simp only [h1, if_false, h2]
end Mine
namespace Mine
theorem fr_open {h₀ h : Heap} {L : Addr} {x : Str} {a : Option Value} {m0 : Str → Option Value} (F : Fr h₀ L h (fun y => if y = x then a else m0 y)) : ∃ m, m = m0 ∧ Fr h₀ L h (fun y => if y = x then a else m y) := ⟨_, rfl, F⟩
theorem fr_all {h₀ h : Heap} {L : Addr} {m0 : Str → Option Value} (F : Fr h₀ L h m0) : ∃ m, m = m0 ∧ Fr h₀ L h m := ⟨_, rfl, F⟩
end Mine
end
section
namespace Mine
theorem line_nil {fr : List Fm} {n : Ns2} {t : Nat} {b : Bool} (h : (txt b fr).drop (n b) = []) :
    goN fr n b (bl ((txt b fr).drop (n b))) = nx fr n b ∧ goT fr n t b (bl ((txt b fr).drop (n b))) = tx' fr n t b := by
  rw [h]; exact ⟨rfl, rfl⟩
theorem line_ten {fr : List Fm} {n : Ns2} {t : Nat} {b : Bool} {c : UInt8} {r : List UInt8} (h : (txt b fr).drop (n b) = c :: r) (hc : c = 10) :
    goN fr n b (bl ((txt b fr).drop (n b))) = nx fr n b ∧ goT fr n t b (bl ((txt b fr).drop (n b))) = tx' fr n t b := by
  rw [h, bl, if_pos hc]; exact ⟨rfl, rfl⟩
theorem line_more {fr : List Fm} {n : Ns2} {t : Nat} {b : Bool} {c : UInt8} {r : List UInt8} (h : (txt b fr).drop (n b) = c :: r) (hc : c ≠ 10) :
    goN fr n b (bl ((txt b fr).drop (n b))) = goN fr (nx fr n b) b (bl ((txt b fr).drop (nx fr n b b))) ∧
    goT fr n t b (bl ((txt b fr).drop (n b))) = goT fr (nx fr n b) (tx' fr n t b) b (bl ((txt b fr).drop (nx fr n b b))) := by
  obtain ⟨e1, e2, _⟩ := nx_b h
  rw [e1, e2]
  obtain ⟨a, c⟩ := go_step (t := t) h (bl r)
  rw [h, bl, if_neg hc, Nat.add_comm 1]
  exact ⟨a.symm, c.symm⟩
structure LnI (fr : List Fm) (b : Bool) (Nf : Ns2) (Tf : Nat) (s : Ln) : Prop where
  ab : Abs fr s.n s.t
  oc : Octs s.hvs (mkA fr s.n s.t).oc
  ll : s.l.length + 1 ≤ s.n b
  e10 : s.c = 10 → s.n = Nf ∧ s.t = Tf
  en : s.c ≠ 10 → goN fr s.n b (bl ((txt b fr).drop (s.n b))) = Nf ∧ goT fr s.n s.t b (bl ((txt b fr).drop (s.n b))) = Tf
theorem lni {fr : List Fm} {n : Ns2} {t : Nat} {b : Bool} {c : UInt8} {r l : List UInt8} {Nf : Ns2} {Tf : Nat} {hvs : List Value} {tb u0 u1 tl : Tok} {nn n2 : Nat} {sg : Option Value} (h : (txt b fr).drop (n b) = c :: r) (ab : Abs fr n t) (oc : Octs hvs (mkA fr (nx fr n b) (tx' fr n t b)).oc) (hl : l.length ≤ n b)
    (e : goN fr n b (bl ((txt b fr).drop (n b))) = Nf ∧ goT fr n t b (bl ((txt b fr).drop (n b))) = Tf) : LnI fr b Nf Tf ⟨nx fr n b, tx' fr n t b, tb, u0, u1, nn, n2, hvs, l, c, tl, sg⟩ := by
  obtain ⟨e1, e2, e3⟩ := nx_b h
  refine ⟨abs_nx ab b, oc, ?_, fun hc => ?_, fun hc => ?_⟩
  · show l.length + 1 ≤ nx fr n b b
    omega
  · obtain ⟨a1, a2⟩ := line_ten (t := t) h hc
    exact ⟨a1.symm.trans e.1, a2.symm.trans e.2⟩
  · obtain ⟨a1, a2⟩ := line_more (t := t) h hc
    exact ⟨a1.symm.trans e.1, a2.symm.trans e.2⟩
theorem lni_len {fr : List Fm} {n : Ns2} {t : Nat} (ab : Abs fr n t) (b : Bool) (h : FrOk fr) : n b ≤ 256 := by
  have h1 := ab.nb b
  have h2 := txt_bound b (fr := fr.take t) fun f hf => h.len f (List.mem_of_mem_take hf)
  have h3 := h.sz
  rw [List.length_take] at h2
  omega
theorem lni_fall {fr : List Fm} {n : Ns2} {b : Bool} {c : UInt8} {r : List UInt8} (h : (txt b fr).drop (n b) = c :: r) : (txt b fr).length - nx fr n b b < (txt b fr).length - n b := by
  obtain ⟨e1, e2, e3⟩ := nx_b h
  rw [‹nx fr n b b = n b + 1›]
  exact Nat.sub_lt_sub_left ‹n b < (txt b fr).length› (Nat.lt_succ_self _)
def mp : List (Str × Value) → Str → Option Value
  | [] => fun _ => none
  | p :: r => fun y => if y = p.1 then some p.2 else mp r y
theorem lookup_mp : ∀ (l : List (Str × Value)) (y : Str), List.lookup y l = mp l y
  | [], _ => rfl
  | (x, v) :: r, y => by
    rw [List.lookup_cons]
    show _ = if y = x then some v else mp r y
    by_cases h : y = x
    · rw [if_pos h, beq_iff_eq.mpr h]
    · rw [if_neg h, beq_eq_false_iff_ne.mpr h]; exact lookup_mp r y
theorem fr_mp {h₀ h : Heap} {L : Addr} {l l' : List (Str × Value)} (F : Fr h₀ L h (fun y => List.lookup y l)) (e : l = l') : Fr h₀ L h (mp l') := fr_to F fun y => by rw [e]; exact lookup_mp l' y
theorem fr_add {h₀ h : Heap} {L : Addr} {x : Str} {a : Option Value} {m : Str → Option Value} (F : Fr h₀ L h m) (e : m x = a) : Fr h₀ L h (fun y => if y = x then a else m y) := fr_to F fun y => by
  by_cases h : y = x
  · rw [if_pos h, h, e]
  · rw [if_neg h]
end Mine
end
section
namespace Mine
abbrev srcL (f1 k1 f2 k2 qc qh qs : Addr) (pm1 ct1 pm2 ct2 : Value) (ok1 ok2 oC oH oT : Obj) : Led :=
  [(f1, lamO (lamE (stN P0.main.body 31) 1) "_law_lexer.<locals>.<lambda>" [("stream", qs), ("held", qh), ("channel", qc)] pm1 k1 ct1), (k1, ok1),
   (f2, lamO (lamE (stN P0.main.body 31) 2) "_law_lexer.<locals>.<lambda>" [("stream", qs), ("held", qh), ("channel", qc)] pm2 k2 ct2), (k2, ok2),
   (qc, oC), (qh, oH), (qs, oT)]
end Mine
end
section
namespace Mine
open PySem.Builtin.Str
theorem occ_some {x y : Str} (h : ∃ i, i + y.length ≤ x.length ∧ subAt x y i = true) : (occurrences x y 0 x.length 1).isEmpty = false := by
  rw [PySem.StrLaws.occ_eq]
  obtain ⟨i, hi, hs⟩ := h
  have grow : ∀ (l : List Nat) (a : Array Nat) (k : Nat), a.size ≠ 0 → (forIn (m := Id) l (a, k) (PySem.StrLaws.occBody x y x.length 1)).run.fst.size ≠ 0 := by
    intro l
    induction l with
    | nil => intro a k h; exact h
    | cons j r ih =>
      intro a k h
      have hn : ¬ (((a.size < 1 ∧ k ≤ j) ∧ j + y.length ≤ x.length) ∧ subAt x y j = true) := fun c => by omega
      simp only [List.forIn_cons, PySem.StrLaws.occBody, if_neg hn]
      exact ih a k h
  have key : ∀ (l : List Nat), i ∈ l → (forIn (m := Id) l ((#[] : Array Nat), 0) (PySem.StrLaws.occBody x y x.length 1)).run.fst.size ≠ 0 := by
    intro l
    induction l with
    | nil => intro h; cases h
    | cons j r ih =>
      intro hm
      by_cases hj : ((((#[] : Array Nat).size < 1 ∧ 0 ≤ j) ∧ j + y.length ≤ x.length) ∧ subAt x y j = true)
      · simp only [List.forIn_cons, PySem.StrLaws.occBody, if_pos hj]
        exact grow r _ _ (by simp)
      · simp only [List.forIn_cons, PySem.StrLaws.occBody, if_neg hj]
        rcases List.mem_cons.mp hm with rfl | hm
        · exact absurd ⟨⟨⟨by decide, Nat.zero_le _⟩, hi⟩, hs⟩ hj
        · exact ih hm
  have := key (List.range' 0 (x.length + 1 - 0)) (by rw [List.mem_range'_1]; omega)
  generalize (forIn (m := Id) (List.range' 0 (x.length + 1 - 0)) ((#[] : Array Nat), 0) (PySem.StrLaws.occBody x y x.length 1)).run.fst = a at *
  cases h : a.toList.isEmpty
  · rfl
  · have := List.isEmpty_iff.mp h
    have h2 : a.toList.length = 0 := by rw [this]; rfl
    rw [Array.length_toList] at h2
    contradiction
theorem subAt_one (x : Str) (c : UInt8) (i : Nat) (h : i < x.length) : subAt x (lat [c]) i = (x.cps[i]'h == c.toNat) := by
  show (x.cps.extract i (i + 1) == #[c.toNat]) = _
  have e : x.cps.extract i (i + 1) = #[x.cps[i]'h] := by
    apply Array.ext
    · simp only [Array.size_extract, List.size_toArray, List.length_cons, List.length_nil]
      have : i < x.cps.size := h
      exact (congrArg (· - i) (Nat.min_eq_left this)).trans (Nat.add_sub_cancel_left i 1)
    · intro j h1 h2
      have hj : j = 0 := by
        simp only [List.size_toArray, List.length_cons, List.length_nil] at h2
        exact Nat.lt_one_iff.mp h2
      subst hj
      rw [Array.getElem_extract]
      rfl
  rw [e, Bool.eq_iff_iff]
  simp
theorem contains_one (x : Str) (c : UInt8) : Txt.contains x (lat [c]) = x.cps.toList.contains c.toNat := by
  unfold Txt.contains
  cases h : x.cps.toList.contains c.toNat
  · rw [occ_nil_of_no x (lat [c]) 1 fun i hi => ?_]
    · rfl
    · have hi' : i < x.length := by
        have : (lat [c]).length = 1 := rfl
        omega
      rw [subAt_one x c i hi']
      cases hb : (x.cps[i]'hi' == c.toNat)
      · rfl
      · have hm : c.toNat ∈ x.cps.toList := by
          rw [← beq_iff_eq.mp hb]
          exact Array.mem_toList_iff.mpr (Array.getElem_mem hi')
        rw [List.contains_iff_mem.mpr hm] at h
        cases h
  · have hm := List.contains_iff_mem.mp h
    obtain ⟨i, hi, he⟩ := List.mem_iff_getElem.mp hm
    rw [Array.length_toList] at hi
    rw [occ_some ⟨i, (show i + (lat [c]).length ≤ x.length from (hi : i < x.length)), by rw [subAt_one x c i hi, beq_iff_eq, ← he]; simp⟩]
    rfl
end Mine
end
section
namespace Mine
theorem bl_pos (l : List UInt8) : 1 ≤ bl l := by
  cases l with
  | nil => exact Nat.le_refl _
  | cons c r => rw [bl]; split <;> omega
inductive St | nn | sp | wd | qu (d : UInt8) | ea | eq
inductive Res | tok (w : List UInt8) | none | noq | noe
set_option genInjectivity true in
structure Out where
  res : Res
  st : St
  k : Nat
def isWs (c : UInt8) : Bool := c == 32 || c == 9 || c == 13 || c == 10
def fin' (q : Bool) (tok : List UInt8) : Res := if q = false ∧ tok = [] then .none else .tok tok
def Out.add (k : Nat) (o : Out) : Out := ⟨o.res, o.st, k + o.k⟩
def rt (st : St) (q : Bool) (tok : List UInt8) (D : List UInt8) : Out :=
  match D with
  | [] => match st with
    | .nn => ⟨fin' q tok, .nn, 1⟩
    | .sp => ⟨fin' q tok, .nn, 1⟩
    | .wd => ⟨fin' q tok, .nn, 1⟩
    | .qu d => ⟨.noq, .qu d, 1⟩
    | .ea => ⟨.noe, .ea, 1⟩
    | .eq => ⟨.noe, .eq, 1⟩
  | c :: r => match st with
    | .nn => ⟨fin' q tok, .nn, 1⟩
    | .sp => if isWs c then (rt .sp q tok r).add 1
      else if c == 35 then (rt .sp q tok (r.drop (bl r))).add (1 + bl r)
      else if c == 92 then (rt .ea q tok r).add 1
      else if c == 39 || c == 34 then (rt (.qu c) q tok r).add 1
      else (rt .wd q [c] r).add 1
    | .wd => if isWs c then ⟨fin' q tok, .sp, 1⟩
      else if c == 35 then ⟨fin' q tok, .sp, 1 + bl r⟩
      else if c == 39 || c == 34 then (rt (.qu c) q tok r).add 1
      else if c == 92 then (rt .ea q tok r).add 1
      else (rt .wd q (tok ++ [c]) r).add 1
    | .qu d => if c == d then (rt .wd true tok r).add 1
      else if d == 34 then (if c == 92 then (rt .eq true tok r).add 1 else (rt (.qu d) true (tok ++ [c]) r).add 1)
      else (rt (.qu d) true (tok ++ [c]) r).add 1
    | .ea => (rt .wd q (tok ++ [c]) r).add 1
    | .eq => if c == 92 then (rt (.qu 34) q (tok ++ [c]) r).add 1 else if c == 34 then (rt (.qu 34) q (tok ++ [c]) r).add 1 else (rt (.qu 34) q (tok ++ [92] ++ [c]) r).add 1
termination_by D.length
decreasing_by all_goals (simp only [List.length_cons, List.length_drop]; omega)
def stV : St → Tok → Value
  | .nn, _ => .none
  | .sp, t => .str " " t
  | .wd, t => .str "a" t
  | .qu d, t => .str (lat [d]) t
  | .ea, t => .str (lat [92]) t
  | .eq, t => .str (lat [92]) t
def esS : St → Str → Prop
  | .ea, s => s = "a"
  | .eq, s => s = lat [34]
  | _, _ => True
def wordS : Str := "abcdfeghijklmnopqrstuvwxyzABCDEFGHIJKLMNOPQRSTUVWXYZ0123456789_ßàáâãäåæçèéêëìíîïðñòóôõöøùúûüýþÿÀÁÂÃÄÅÆÇÈÉÊËÌÍÎÏÐÑÒÓÔÕÖØÙÚÛÜÝÞ"
abbrev tg (l : List Tok) (i : Nat) : Tok := l.getD i 0
abbrev lexO (P : Params) (kt vt : List Tok) (src pb fs : Addr) (sv : Value) (tok : List UInt8) (tT : Tok) (ln : Int) (lT : Tok) : Obj :=
  dictOf [en P "instream" (tg kt 0) (.ref src), en P "infile" (tg kt 1) .none, en P "posix" (tg kt 2) (.bool true), en P "eof" (tg kt 3) .none, en P "commenters" (tg kt 4) (.str "#" (tg vt 0)),
    en P "wordchars" (tg kt 5) (.str wordS (tg vt 1)), en P "whitespace" (tg kt 6) (.str " \t\r\n" (tg vt 2)), en P "whitespace_split" (tg kt 7) (.bool true), en P "quotes" (tg kt 8) (.str "'\"" (tg vt 3)),
    en P "escape" (tg kt 9) (.str "\\" (tg vt 4)), en P "escapedquotes" (tg kt 10) (.str "\"" (tg vt 5)), en P "state" (tg kt 11) sv, en P "pushback" (tg kt 12) (.ref pb), en P "lineno" (tg kt 13) (.int ln lT),
    en P "debug" (tg kt 14) (.int 0 (tg vt 6)), en P "token" (tg kt 15) (.str (lat tok) tT), en P "filestack" (tg kt 16) (.ref fs), en P "source" (tg kt 17) .none, en P "_punctuation_chars" (tg kt 18) (.str "" (tg vt 7))] 19
abbrev lexL (P : Params) (lx ld src srd pb fs f1 f2 : Addr) (b : Bool) (tkc : Tok) (s1 s2 s3 : Tok) (kt vt : List Tok) (sv : Value) (tok : List UInt8) (tT : Tok) (ln : Int) (lT : Tok) : Led :=
  [(lx, instObj 757 ld), (ld, lexO P kt vt src pb fs sv tok tT ln lT), (src, instObj 70 srd),
   (srd, dictOf [en P "value" s1 (.int (kI b) tkc), en P "read" s2 (.ref f1), en P "readline" s3 (.ref f2)] 3)]
structure Tk where
  n : Ns2
  t : Nat
  tb : Tok
  u0 : Tok
  u1 : Tok
  nn : Nat
  n2 : Nat
  hvs : List Value
  st : St
  sT : Tok
  q : Bool
  tok : List UInt8
  tT : Tok
  ln : Int
  lT : Tok
  es : Str
  eT : Tok
  nc : Option Value
structure RtI (fr : List Fm) (b : Bool) (O : Out) (Nf : Ns2) (Tf : Nat) (s : Tk) : Prop where
  ab : Abs fr s.n s.t
  oc : Octs s.hvs (mkA fr s.n s.t).oc
  g1 : s.st = .sp ∨ s.st = .nn → s.tok = [] ∧ s.q = false
  g2 : s.st = .wd → s.q = true ∨ s.tok ≠ []
  es : (txt b fr).drop (s.n b) ≠ [] → esS s.st s.es ∧ s.st ≠ .nn
  tl : s.tok.length ≤ 2 * s.n b
  gq : ∀ d, s.st = .qu d → d = 39 ∨ d = 34
  eo : (rt s.st s.q s.tok ((txt b fr).drop (s.n b))).res = O.res ∧ (rt s.st s.q s.tok ((txt b fr).drop (s.n b))).st = O.st ∧
    goN fr s.n b (rt s.st s.q s.tok ((txt b fr).drop (s.n b))).k = Nf ∧ goT fr s.n s.t b (rt s.st s.q s.tok ((txt b fr).drop (s.n b))).k = Tf
structure RtJ (fr : List Fm) (b : Bool) (O : Out) (Nf : Ns2) (Tf : Nat) (s : Tk) : Prop where
  oc : Octs s.hvs (mkA fr s.n s.t).oc
  ab : Abs fr s.n s.t
  res : fin' s.q s.tok = O.res
  st : s.st = O.st
  tl : s.tok.length ≤ 2 * s.n b
  en : s.n = Nf
  et : s.t = Tf
section
variable {x : Str} {c d : UInt8}
theorem lat_one (c d : UInt8) : (lat [c] == lat [d]) = (c == d) := by
  rw [Bool.eq_iff_iff, beq_iff_eq, beq_iff_eq]
  constructor
  · intro h
    have h1 : (lat [c]).cps.toList = (lat [d]).cps.toList := congrArg (fun s : Str => s.cps.toList) h
    rw [lat_list, lat_list] at h1
    have h3 : c.toNat = d.toNat := by simpa using h1
    exact UInt8.toNat_inj.mp h3
  · rintro rfl; rfl
theorem nin (h : ∀ y ∈ x.cps.toList, y ≠ c.toNat) : Txt.contains x (lat [c]) = false := by
  rw [contains_one]
  cases e : x.cps.toList.contains c.toNat
  · rfl
  · exact absurd rfl (h _ (List.contains_iff_mem.mp e))
theorem isin (h : c.toNat ∈ x.cps.toList) : Txt.contains x (lat [c]) = true := by
  rw [contains_one]; exact List.contains_iff_mem.mpr h
theorem toNat_ne {c : UInt8} {k : Nat} (hk : k < 256) (h : c ≠ UInt8.ofNat k) : k ≠ c.toNat := fun e => h (by
  apply UInt8.toNat_inj.mp
  rw [UInt8.toNat_ofNat']
  omega)
theorem ws_cps : (" \t\r\n" : Str).cps.toList = [32, 9, 13, 10] := by decide
theorem f_ws : Txt.contains (" \t\r\n" : Str) (lat [c]) = isWs c := by
  rw [contains_one, ws_cps, Bool.eq_iff_iff, List.contains_iff_mem]
  unfold isWs
  simp only [List.mem_cons, List.not_mem_nil, or_false, Bool.or_eq_true, beq_iff_eq]
  constructor
  · rintro (h | h | h | h) <;> simp [← UInt8.toNat_inj, h]
  · rintro (((rfl | rfl) | rfl) | rfl) <;> decide
theorem one_cps {d : UInt8} {x : Str} (hx : x.cps.toList = [d.toNat]) : Txt.contains x (lat [c]) = (c == d) := by
  rw [contains_one, hx, Bool.eq_iff_iff, List.contains_iff_mem, beq_iff_eq]
  simp only [List.mem_cons, List.not_mem_nil, or_false]
  exact UInt8.toNat_inj
theorem f_cm : Txt.contains ("#" : Str) (lat [c]) = (c == 35) := one_cps (by decide)
theorem f_es : Txt.contains ("\\" : Str) (lat [c]) = (c == 92) := one_cps (by decide)
theorem f_qs : Txt.contains ("'\"" : Str) (lat [c]) = (c == 39 || c == 34) := by
  rw [contains_one, show ("'\"" : Str).cps.toList = [39, 34] from by decide, Bool.eq_iff_iff, List.contains_iff_mem]
  simp only [List.mem_cons, List.not_mem_nil, or_false, Bool.or_eq_true, beq_iff_eq]
  constructor
  · rintro (h | h) <;> simp [← UInt8.toNat_inj, h]
  · rintro (rfl | rfl) <;> decide
theorem f_pu : Txt.contains ("" : Str) (lat [c]) = false := by rw [contains_one]; rfl
theorem f_nl : (lat [c] == ("\n" : Str)) = (c == 10) := by
  cases h : c == 10
  · exact lat_ne10 (by simpa using h)
  · rw [beq_iff_eq.mp h]; decide
theorem w_nq {c : UInt8} (h : Txt.contains wordS (lat [c]) = true) : ¬ (c == 39 || c == 34) = true := by
  intro q
  simp only [Bool.or_eq_true, beq_iff_eq] at q
  rcases q with rfl | rfl
  · rw [contains_one] at h; revert h; decide +kernel
  · rw [contains_one] at h; revert h; decide +kernel
theorem w_sq : Txt.contains wordS (lat [39]) = false := by rw [contains_one]; decide +kernel
theorem w_dq : Txt.contains wordS (lat [34]) = false := by rw [contains_one]; decide +kernel
end
section
variable {prog : Program} {w : World} {A : Around} {E : Value → Shared → Prop} {s : Shared} {t u : Tok} {Q : Value → Shared → Prop}
theorem m_sin {x y : Str} {r : Bool} (e : Txt.contains x y = r) (h : Q (.bool r) s) : wpAny (model prog w) A (compareOp .In (.str y u) (.str x t)) Q E s := by
  subst e; exact P.in_str h
theorem m_snin {x y : Str} {r : Bool} (e : Txt.contains x y = r) (h : Q (.bool (!r)) s) : wpAny (model prog w) A (compareOp .NotIn (.str y u) (.str x t)) Q E s := by
  subst e; exact P.notIn_str h
end
theorem fr_three {h₀ h : Heap} {L : Addr} {m m0 : Str → Option Value} {a b c : Str} {x y z : Option Value} (F : Fr h₀ L h m) (e1 : m a = x) (e2 : m b = y) (e3 : m c = z) (r : ∀ k, k ≠ a → k ≠ b → k ≠ c → m k = m0 k) :
    Fr h₀ L h (fun k => if k = a then x else if k = b then y else if k = c then z else m0 k) := fr_to F fun k => by
  by_cases h1 : k = a
  · rw [if_pos h1, h1, e1]
  · rw [if_neg h1]
    by_cases h2 : k = b
    · rw [if_pos h2, h2, e2]
    · rw [if_neg h2]
      by_cases h3 : k = c
      · rw [if_pos h3, h3, e3]
      · rw [if_neg h3]; exact r k h1 h2 h3
end Mine
end
section
namespace Mine
theorem whl_ledB {prog : Program} {w : World} {A : Around} {E : Value → Shared → Prop} {env : Env} {test : Expr} {body orelse : List Stmt} {Q : Flow → Shared → Prop} {gs : Array GenState} {dr : Drawn} {os : OsState} {L : Addr} {σ : Type}
    (μ : σ → Nat) (I J : σ → Prop) (M : σ → Str → Option Value) (Ld : σ → Led) (Gd : Heap → Prop) (hE : PassesOwn (model prog w) A env E)
    (turn : ∀ (Q' : Flow → Shared → Prop), (∀ c g h tk, J c → Gd g → Fr g L h (M c) → News g L h (Ld c) → Q' .next ⟨h, gs, dr, tk, os⟩) → ∀ c g h tk (R : Shared → Prop), I c → Gd g → Fr g L h (M c) → News g L h (Ld c) → (∀ c' g' h' tk', μ c' < μ c → I c' → Gd g' → Fr g' L h' (M c') → News g' L h' (Ld c') → R ⟨h', gs, dr, tk', os⟩) →
      wpAny (model prog w) A (isTrue test env (eval test env)) (fun b s₂ => if b = true then wpAny (model prog w) A (execs body env) (LPost R Q') E s₂ else wpAny (model prog w) A (execs orelse env) Q' E s₂) E ⟨h, gs, dr, tk, os⟩)
    (brk : ∀ c g h tk, J c → Gd g → Fr g L h (M c) → News g L h (Ld c) → Q .next ⟨h, gs, dr, tk, os⟩) :
    ∀ c g h tk, I c → Gd g → Fr g L h (M c) → News g L h (Ld c) → WhlRest prog w A E env test body orelse Q 0 ⟨h, gs, dr, tk, os⟩ :=
  whl_ledT μ I M Ld Gd hE (turn Q brk)
theorem join_true {M : Model} {A : Around} {E : Value → Shared → Prop} {e : Expr} {env : Env} {K : Bool → Shared → Prop} {s : Shared} (hK : ∀ tk, K true { s with toks := tk })
    (h : ∀ K' : Bool → Shared → Prop, (∀ tk, K' true { s with toks := tk }) → wpAny M A (isTrue e env (eval e env)) K' E s) : wpAny M A (isTrue e env (eval e env)) K E s := h K hK
def resV : Res → Value → Prop
  | .tok w, v => ∃ t, v = .str (lat w) t
  | .none, v => v = .none
  | _, _ => False
def errX : Res → List Value → Prop
  | .noq, xs => ∃ t, xs = [.str "No closing quotation" t]
  | .noe, xs => ∃ t, xs = [.str "No escaped character" t]
  | _, _ => False
structure Rest (fr : List Fm) (b : Bool) (n : Ns2) (st : St) (tok : List UInt8) : Prop where
  sp : st = .sp ∨ st = .nn → tok = []
  en : st ≠ .sp → (txt b fr).drop (n b) = []
  wd : st ≠ .wd
  gq : ∀ d, st = .qu d → d = 39 ∨ d = 34
  tl : tok.length ≤ 2 * n b
theorem rti0 {fr : List Fm} {b : Bool} {n : Ns2} {t : Nat} {st : St} {tok : List UInt8} (r : Rest fr b n st tok) (ab : Abs fr n t) {hvs : List Value} (oc : Octs hvs (mkA fr n t).oc) {tb u0 u1 sT tT lT eT : Tok} {nn n2 : Nat} {ln : Int} {es : Str} {nc : Option Value} :
    RtI fr b (rt st false tok ((txt b fr).drop (n b))) (goN fr n b (rt st false tok ((txt b fr).drop (n b))).k) (goT fr n t b (rt st false tok ((txt b fr).drop (n b))).k) ⟨n, t, tb, u0, u1, nn, n2, hvs, st, sT, false, tok, tT, ln, lT, es, eT, nc⟩ where
  ab := ab
  oc := oc
  g1 h := ⟨r.sp h, rfl⟩
  g2 h := absurd h r.wd
  es h := by
    have : st = .sp := by
      by_cases q : st = .sp
      · exact q
      · exact absurd (r.en q) h
    subst this
    exact ⟨True.intro, by intro q; cases q⟩
  tl := r.tl
  gq := r.gq
  eo := ⟨rfl, rfl, rfl, rfl⟩
theorem m_truthyS {prog : Program} {w : World} {A : Around} {E : Value → Shared → Prop} {s : Shared} {c : UInt8} {r : List UInt8} {t : Tok} {Q : Bool → Shared → Prop} (hz : r.length ≤ 10000) (h : Q true { s with toks := s.toks + 1 + 1 }) : wpAny (model prog w) A (truthy (.str (lat (c :: r)) t)) Q E s := by
  have hl : (lat (c :: r)).length = r.length + 1 := by rw [lat_length, List.length_cons]
  refine P.truthy_str (by rw [hl]; omega) ?_
  rw [hl, show ((((r.length + 1 : Nat) : Int)) != 0) = true from by rw [bne_iff_ne]; omega]
  exact h
end Mine
end
section
namespace Mine
def ApN : Nat → Led → Prop
  | 0, _ => True
  | _ + 1, [] => False
  | n + 1, p :: r => (∀ q ∈ r, q.1 ≠ p.1) ∧ ApN n r
theorem ApN.to : ∀ {n : Nat} {l l' : Led}, ApN n l → l.map (·.1) = l'.map (·.1) → ApN n l'
  | 0, _, _, _, _ => trivial
  | _ + 1, [], _, h, _ => h.elim
  | n + 1, p :: r, [], _, e => nomatch e
  | n + 1, p :: r, p' :: r', h, e => by
    obtain ⟨e1, e2⟩ := List.cons.inj e
    refine ⟨fun q hq => ?_, h.2.to e2⟩
    have hm : q.1 ∈ r.map (·.1) := by
      have : q.1 ∈ r'.map (·.1) := List.mem_map_of_mem hq
      exact e2.symm ▸ this
    obtain ⟨q', hq', he⟩ := List.mem_map.mp hm
    have := h.1 q' hq'
    intro c
    apply this
    exact (he.trans c).trans e1.symm
inductive SelN : Nat → (Addr × Obj) → Led → Led → Prop
  | head {p : Addr × Obj} {r : Led} : SelN 0 p (p :: r) r
  | tail {k : Nat} {p q : Addr × Obj} {l l' : Led} : SelN k p l l' → SelN (k + 1) p (q :: l) (q :: l')
inductive PickN : Nat → Led → Led → Led → Prop
  | nil {n : Nat} {l : Led} : PickN n [] l l
  | cons {n k : Nat} {p : Addr × Obj} {own l l' r : Led} : SelN k p l l' → k < n + 1 → PickN n own l' r → PickN (n + 1) (p :: own) l r
theorem SelN.sel {k : Nat} {p : Addr × Obj} {l l' : Led} (s : SelN k p l l') : Sel p l l' := by
  induction s with
  | head => exact .head
  | tail _ ih => exact .tail ih
theorem PickN.pick {n : Nat} {own l r : Led} (s : PickN n own l r) : Pick own l r := by
  induction s with
  | nil => exact .nil
  | cons a _ _ ih => exact .cons a.sel ih
theorem SelN.ap {k : Nat} {p : Addr × Obj} {l l' : Led} (s : SelN k p l l') : ∀ {n : Nat}, k < n + 1 → ApN (n + 1) l → (∀ q ∈ l', q.1 ≠ p.1) ∧ ApN n l' := by
  induction s with
  | head => exact fun _ h => h
  | @tail k p q l l' s ih =>
    intro n hk h
    cases n with
    | zero => omega
    | succ n =>
      obtain ⟨a, b⟩ := ih (n := n) (by omega) h.2
      have hp := s.sel.mem.1
      refine ⟨fun x hx => ?_, fun x hx => h.1 x (s.sel.mem.2 x hx), b⟩
      rcases List.mem_cons.mp hx with rfl | hx
      · exact fun e => h.1 p hp e.symm
      · exact a x hx
theorem disA_of {a : Nat} : ∀ {l : Led}, (∀ q ∈ l, q.1 ≠ a) → DisA a l
  | [], _ => trivial
  | p :: _, h => ⟨fun e => h p List.mem_cons_self e.symm, disA_of fun q hq => h q (List.mem_cons_of_mem _ hq)⟩
theorem disA_mem {a : Nat} : ∀ {l : Led}, DisA a l → ∀ q ∈ l, q.1 ≠ a
  | [], _, _, hq => nomatch hq
  | p :: r, h, q, hq => by
    rcases List.mem_cons.mp hq with rfl | hq
    · exact fun e => h.1 e.symm
    · exact disA_mem h.2 q hq
theorem PickN.ap {n : Nat} {own l r : Led} (s : PickN n own l r) : ApN n l → Offs r own ∧ Dis own ∧ ApN n (own ++ r) := by
  induction s with
  | nil => exact fun h => ⟨trivial, trivial, h⟩
  | @cons n k p own l l' r sl hk pk ih =>
    intro h
    obtain ⟨a, b⟩ := sl.ap hk h
    obtain ⟨o, d, x⟩ := ih b
    have hm := pk.pick.mem
    refine ⟨⟨fun q hq => a q (hm q (List.mem_append.mpr (.inr hq))), o⟩, ⟨disA_of fun q hq => a q (hm q (List.mem_append.mpr (.inl hq))), d⟩, fun q hq => a q (hm q hq), x⟩
theorem apn_own : ∀ {rest own : Led}, Offs rest own → Dis own → ApN own.length (own ++ rest)
  | _, [], _, _ => trivial
  | rest, p :: r, o, d => ⟨fun q hq => by
    rcases List.mem_append.mp hq with hq | hq
    · exact disA_mem d.1 q hq
    · exact o.1 q hq, apn_own o.2 d.2⟩
inductive SetN (d : Addr) (o o' : Obj) : Nat → Led → Led → Prop
  | head {r : Led} : SetN d o o' 0 ((d, o) :: r) ((d, o') :: r)
  | tail {k : Nat} {p : Addr × Obj} {r r' : Led} : SetN d o o' k r r' → SetN d o o' (k + 1) (p :: r) (p :: r')
theorem SetN.mem {d : Addr} {o o' : Obj} {k : Nat} {l l' : Led} (s : SetN d o o' k l l') : (d, o) ∈ l := by
  induction s with
  | head => exact .head _
  | tail _ ih => exact .tail _ ih
theorem SetN.upd {d : Addr} {o o' : Obj} {k : Nat} {l l' : Led} (s : SetN d o o' k l l') : ∀ {n : Nat}, k < n → ApN n l → Upd d o o' l l' := by
  induction s with
  | head =>
    intro n hk h
    cases n with
    | zero => omega
    | succ n => exact .head h.1
  | @tail k p r r' s ih =>
    intro n hk h
    cases n with
    | zero => omega
    | succ n => exact .tail (fun e => h.1 _ s.mem e.symm) (ih (by omega) h.2)
theorem upd_ap {d : Addr} {o o' : Obj} {k n : Nat} {l0 l l' : Led} (h : ApN n l0) (e : l0.map (·.1) = l.map (·.1)) (s : SetN d o o' k l l') (hk : k < n) : Upd d o o' l l' := s.upd hk (h.to e)
theorem ctrT_use3 {w : World} {f : Addr} {vs : List Value} {own : Led} {D U : Nat} {post : Value → Led → Prop} {xp : List Value → Led → Prop} {mean : ExcName → Option Value} {mg mb : Str → Option Value} {dp un : Nat} {gd : Option (List Code)} {cn : Str} {cs : Scope} {a : Addr} {ccd : Value} {cl : List (Str × Addr)} {outer : List Env} {A₀ : Around}
    {base g₀ h₀ : Heap} {L : Addr} {m : Str → Option Value} {s : Shared} {n : Nat} {news0 news rest : Led} {Q E : Value → Shared → Prop}
    (AP : ApN n news0) (B : Below A₀ base outer h₀) (F : Fr h₀ L s.heap m) (X : (K w.params).In h₀) (N : News h₀ L s.heap news) (e : news0.map (·.1) = news.map (·.1)) (pk : PickN n own news rest) (T : TopQ mean mg mb h₀) (XB : (K w.params).In base) (TB : TopQ mean mg mb base) (Dd : KtsDicts (fsO outer) h₀) (T0 : KtsTurn (fsO outer) g₀ h₀) (hk : cs.kind = .function) (hd : dp + D < recursionLimit) (hu : un + U < cLine)
    (C : CtrT w f vs own D U post xp)
    (h : ApN n (own ++ rest) → ((∀ e t xs own' h' tk' G h₀', xp xs own' → KtsTurn (fsO outer) g₀ h₀' → Below A₀ base outer h₀' → Fr h₀' L G m → (K w.params).In h₀' → TopQ mean mg mb h₀' → KtsDicts (fsO outer) h₀' → RaisedS base G (envX cn cs L a ccd cl :: outer) e (.type "ValueError") t xs (own' ++ rest) h' → G.UpToSlots h' → E (.ref e) { s with heap := h', toks := tk' }) ∧
      (∀ v own' h' tk' h₀', post v own' → KtsTurn (fsO outer) g₀ h₀' → Below A₀ base outer h₀' → Fr h₀' L h' m → News h₀' L h' (own' ++ rest) → (K w.params).In h₀' → TopQ mean mg mb h₀' → KtsDicts (fsO outer) h₀' → Q v { s with heap := h', toks := tk' }))) :
    wpAny (model P0 w) (ktrTop dp un gd cn cs L a ccd cl outer) (call (.ref f) vs) Q E s :=
  let z := pk.ap (AP.to e)
  ctrT_use2 B F X N pk.pick z.1 z.2.1 T XB TB Dd T0 hk hd hu C (h z.2.2)
end Mine
end
section
namespace Mine
theorem need_all (b : Bool) (fr : List Fm) (p : Nat) (h : (txt b fr).length < p) : need b fr p = fr.length := by
  obtain ⟨_, c, _, e⟩ := reach_spec b fr (p - 1) fr.length 0
  unfold need
  by_cases q : reach b fr (p - 1) fr.length 0 < 0 + fr.length
  · have h1 := e q
    have h2 := txt_mono b fr (t := reach b fr (p - 1) fr.length 0) (u := fr.length) (by rw [Nat.zero_add] at q; exact Nat.le_of_lt q)
    rw [List.take_length] at h2
    exact absurd (Nat.lt_of_lt_of_le h1 h2) (Nat.not_lt_of_le (Nat.le_sub_one_of_lt h))
  · exact Nat.le_antisymm (by rw [Nat.zero_add] at c; exact c) (by rw [Nat.zero_add] at q; exact Nat.le_of_not_lt q)
theorem abs_go {fr : List Fm} {n : Ns2} {t : Nat} (a : Abs fr n t) (b : Bool) {k : Nat} (hk : 1 ≤ k) : Abs fr (goN fr n b k) (goT fr n t b k) := by
  refine ⟨Nat.max_le.mpr ⟨a.le, need_le ..⟩, fun c => ?_⟩
  show (if c = b then min (n b + k) (txt b fr).length else n c) ≤ _
  split
  · rename_i h
    subst h
    by_cases q : n c + k ≤ (txt c fr).length
    · have h0 : 1 ≤ n c + k := Nat.le_trans hk (Nat.le_add_left _ _)
      have h1 := need_has c fr (n c + k - 1) (Nat.lt_of_lt_of_le (Nat.sub_lt h0 Nat.one_pos) q)
      rw [Nat.sub_add_cancel h0] at h1
      have h2 := txt_mono c fr (Nat.le_max_right t (need c fr (n c + k)))
      rw [Nat.min_eq_left q]
      exact Nat.le_trans (by omega) h2
    · have h1 := need_all c fr (n c + k) (Nat.lt_of_not_le q)
      unfold goT
      rw [h1, Nat.max_eq_right a.le, List.take_length]
      exact Nat.min_le_right _ _
  · exact Nat.le_trans (a.nb c) (txt_mono c fr (Nat.le_max_left _ _))
theorem goN_b (fr : List Fm) (n : Ns2) (b : Bool) (k : Nat) : goN fr n b k b = min (n b + k) (txt b fr).length := by
  show (if b = b then _ else _) = _
  rw [if_pos rfl]
theorem drop_go (fr : List Fm) (n : Ns2) (b : Bool) (k : Nat) : (txt b fr).drop (goN fr n b k b) = ((txt b fr).drop (n b)).drop k := by
  rw [goN_b, List.drop_drop]
  by_cases q : n b + k ≤ (txt b fr).length
  · rw [Nat.min_eq_left q]
  · rw [Nat.min_eq_right (by omega), List.drop_length, List.drop_eq_nil_of_le (by omega)]
theorem go_comp (fr : List Fm) (n : Ns2) (t : Nat) (b : Bool) (j k : Nat) (hk : 1 ≤ k) :
    goN fr (goN fr n b j) b k = goN fr n b (j + k) ∧ goT fr (goN fr n b j) (goT fr n t b j) b k = goT fr n t b (j + k) := by
  constructor
  · funext c
    by_cases q : c = b
    · subst q
      rw [goN_b, goN_b, goN_b]
      rcases Nat.le_total (n c + j) (txt c fr).length with h | h
      · rw [Nat.min_eq_left h, Nat.add_assoc]
      · rw [Nat.min_eq_right h, Nat.min_eq_right (Nat.le_add_right _ _), Nat.min_eq_right (by rw [← Nat.add_assoc]; exact Nat.le_trans h (Nat.le_add_right _ _))]
    · show (if c = b then _ else goN fr n b j c) = (if c = b then _ else n c)
      rw [if_neg q, if_neg q]
      show (if c = b then _ else n c) = _
      rw [if_neg q]
  · unfold goT
    rw [goN_b]
    by_cases q : n b + j ≤ (txt b fr).length
    · rw [Nat.min_eq_left q, Nat.max_assoc, Nat.max_eq_right (need_mono b fr (show n b + j ≤ n b + j + k from Nat.le_add_right _ _)), Nat.add_assoc]
    · rw [Nat.min_eq_right (Nat.le_of_lt (Nat.lt_of_not_le q)), need_all b fr _ (Nat.lt_add_of_pos_right hk), need_all b fr (n b + (j + k)) (by rw [← Nat.add_assoc]; exact Nat.lt_of_lt_of_le (Nat.lt_of_not_le q) (Nat.le_add_right _ _))]
      rw [Nat.max_assoc, Nat.max_eq_right (need_le b fr (n b + j))]
theorem rt_pos (st : St) (q : Bool) (tok D : List UInt8) : 1 ≤ (rt st q tok D).k := by
  have h : ∀ k (o : Out), 1 ≤ k → 1 ≤ (o.add k).k := fun k o h => Nat.le_trans h (Nat.le_add_right k o.k)
  cases D with
  | nil => rw [rt.eq_def]; cases st <;> exact Nat.le_refl _
  | cons c r =>
    rw [rt.eq_def]
    cases st <;> dsimp only
    · exact Nat.le_refl _
    all_goals (repeat' split)
    all_goals first
      | exact h _ _ (by omega)
      | exact Nat.le_refl _
      | (show 1 ≤ 1 + bl r; omega)
theorem rti_go {fr : List Fm} {b : Bool} {O : Out} {Nf : Ns2} {Tf : Nat} {s s' : Tk} (hI : RtI fr b O Nf Tf s) {j : Nat} (hj : 1 ≤ j) (hn : s'.n = goN fr s.n b j) (ht : s'.t = goT fr s.n s.t b j)
    (hrt : rt s.st s.q s.tok ((txt b fr).drop (s.n b)) = (rt s'.st s'.q s'.tok (((txt b fr).drop (s.n b)).drop j)).add j) (oc : Octs s'.hvs (mkA fr s'.n s'.t).oc)
    (g1 : s'.st = .sp ∨ s'.st = .nn → s'.tok = [] ∧ s'.q = false) (g2 : s'.st = .wd → s'.q = true ∨ s'.tok ≠ []) (es : esS s'.st s'.es ∧ s'.st ≠ .nn) (gq : ∀ d, s'.st = .qu d → d = 39 ∨ d = 34) (tl : s'.tok.length ≤ 2 * s'.n b) : RtI fr b O Nf Tf s' := by
  obtain ⟨e1, e2, e3, e4⟩ := hI.eo
  have hd : (txt b fr).drop (s'.n b) = ((txt b fr).drop (s.n b)).drop j := by rw [hn]; exact drop_go ..
  refine ⟨by rw [hn, ht]; exact abs_go hI.ab b hj, oc, g1, g2, fun _ => es, tl, gq, ?_⟩
  rw [hd]
  have hp := rt_pos s'.st s'.q s'.tok (((txt b fr).drop (s.n b)).drop j)
  rw [hrt] at e1 e2 e3 e4
  obtain ⟨c1, c2⟩ := go_comp fr s.n s.t b j _ hp
  exact ⟨e1, e2, by rw [hn, c1]; exact e3, by rw [hn, ht, c2]; exact e4⟩
theorem rtj_at {fr : List Fm} {b : Bool} {O : Out} {Nf : Ns2} {Tf : Nat} {s s' : Tk} (hI : RtI fr b O Nf Tf s) {j : Nat} (hj : 1 ≤ j)
    (hrt : rt s.st s.q s.tok ((txt b fr).drop (s.n b)) = ⟨fin' s'.q s'.tok, s'.st, j⟩) (hn : s'.n = goN fr s.n b j) (ht : s'.t = goT fr s.n s.t b j) (oc : Octs s'.hvs (mkA fr s'.n s'.t).oc) (tl : s'.tok.length ≤ 2 * s'.n b) : RtJ fr b O Nf Tf s' := by
  obtain ⟨e1, e2, e3, e4⟩ := hI.eo
  rw [hrt] at e1 e2 e3 e4
  exact ⟨oc, by rw [hn, ht]; exact abs_go hI.ab b hj, e1, e2, tl, hn.trans e3, ht.trans e4⟩
theorem goN_lo (fr : List Fm) {n : Ns2} {t : Nat} (a : Abs fr n t) (b : Bool) (k : Nat) : n b ≤ goN fr n b k b := by
  rw [goN_b]
  have h1 := a.nb b
  have h2 : (txt b (fr.take t)).length ≤ (txt b fr).length := by
    rw [txt_prefix b fr t, List.length_append]; omega
  omega
theorem go_fall {fr : List Fm} {n : Ns2} {b : Bool} {c : UInt8} {r : List UInt8} {k : Nat} (h : (txt b fr).drop (n b) = c :: r) (hk : 1 ≤ k) : (txt b fr).length - goN fr n b k b < (txt b fr).length - n b := by
  obtain ⟨e1, e2, e3⟩ := nx_b h
  rw [goN_b]
  exact Nat.sub_lt_sub_left ‹n b < (txt b fr).length› (Nat.lt_min.mpr ⟨Nat.lt_add_of_pos_right hk, ‹n b < (txt b fr).length›⟩)
theorem nx_goN (fr : List Fm) (n : Ns2) (b : Bool) : nx fr n b = goN fr n b 1 := rfl
theorem go_line {fr : List Fm} {n : Ns2} {t : Nat} {b : Bool} {c : UInt8} {r : List UInt8} (h : (txt b fr).drop (n b) = c :: r) :
    goN fr (nx fr n b) b (bl ((txt b fr).drop (nx fr n b b))) = goN fr n b (1 + bl r) ∧ goT fr (nx fr n b) (tx' fr n t b) b (bl ((txt b fr).drop (nx fr n b b))) = goT fr n t b (1 + bl r) := by
  obtain ⟨e1, e2, e3⟩ := nx_b h
  rw [e1, e2]
  exact go_comp fr n t b 1 (bl r) (bl_pos r)
theorem nx_lt {fr : List Fm} {n : Ns2} {b : Bool} {c : UInt8} {r : List UInt8} (h : (txt b fr).drop (n b) = c :: r) : goN fr n b 1 b = n b + 1 := (nx_b h).1
theorem qu_of {c : UInt8} (h : (c == 39 || c == 34) = true) : c = 39 ∨ c = 34 := by
  simpa only [Bool.or_eq_true, beq_iff_eq] using h
theorem f_a1 : Txt.contains ("'\"" : Str) ("a" : Str) = false := by
  have h : ("a" : Str) = lat [97] := by decide
  rw [h, contains_one]; decide
theorem f_a2 : Txt.contains ("\\" : Str) ("a" : Str) = false := by
  have h : ("a" : Str) = lat [97] := by decide
  rw [h, contains_one]; decide
theorem f_dq {c : UInt8} : Txt.contains ("\"" : Str) (lat [c]) = (c == 34) := one_cps (by decide)
theorem news_tail {h₀ h : Heap} {L : Addr} {p : Addr × Obj} {l : Led} (N : News h₀ L h (p :: l)) : News h₀ L h l := fun q hq => N q (.tail _ hq)
end Mine
end
section
namespace Mine
theorem add_add (o : Out) (a b : Nat) : (o.add a).add b = o.add (a + b) := by
  obtain ⟨r, s, k⟩ := o
  show Out.mk r s (b + (a + k)) = Out.mk r s (a + b + k)
  congr 1; rw [← Nat.add_assoc, Nat.add_comm b a]
noncomputable def q39 : List UInt8 → Option Nat
  | [] => none
  | c :: r => if c == 39 then some 0 else (q39 r).map (· + 1)
noncomputable def q34 : List UInt8 → Nat
  | [] => 0
  | [c] => if c == 34 then 0 else if c == 92 then 2 else 1
  | c :: d :: r => if c == 34 then 0 else if c == 92 then 2 + q34 r else 1 + q34 (d :: r)
noncomputable def unesc : List UInt8 → List UInt8
  | [] => []
  | [c] => [c]
  | c :: d :: r => if c == 92 then (if d == 92 || d == 34 then d :: unesc r else 92 :: d :: unesc r) else c :: unesc (d :: r)
theorem rt_q39_none {r : List UInt8} : ∀ (tok : List UInt8) (q : Bool), q39 r = none → rt (.qu 39) q tok r = ⟨.noq, .qu 39, r.length + 1⟩ := by
  induction r with
  | nil => intro tok q _; rw [rt.eq_def]; rfl
  | cons c r ih =>
    intro tok q h
    rw [q39] at h
    by_cases hc : (c == 39) = true
    · rw [if_pos hc] at h; cases h
    · rw [if_neg hc] at h
      rw [rt.eq_def]
      dsimp only
      rw [if_neg hc, if_neg (by decide), ih _ _ (by simpa using h)]
      simp only [Out.add, Out.mk.injEq, true_and, List.length_cons]; exact Nat.add_comm _ _
theorem rt_q39_some {r : List UInt8} : ∀ (j : Nat) (tok : List UInt8) (q : Bool), q39 r = some j → rt (.qu 39) q tok r = (rt .wd true (tok ++ r.take j) (r.drop (j + 1))).add (j + 1) := by
  induction r with
  | nil => intro j tok q h; cases h
  | cons c r ih =>
    intro j tok q h
    rw [q39] at h
    rw [rt.eq_def]
    dsimp only
    by_cases hc : (c == 39) = true
    · rw [if_pos hc] at h
      cases h
      rw [if_pos hc, List.take_zero, List.append_nil]
      rfl
    · rw [if_neg hc] at h
      rw [if_neg hc, if_neg (by decide)]
      obtain ⟨i, hi, rfl⟩ := Option.map_eq_some_iff.mp h
      rw [ih i _ _ hi, add_add, List.take_succ_cons, List.append_assoc, List.singleton_append, List.drop_succ_cons]
theorem rt_q34_end {n : Nat} : ∀ (r : List UInt8) (tok : List UInt8) (q : Bool), r.length ≤ n → r.length ≤ q34 r → rt (.qu 34) q tok r = (if q34 r = r.length then ⟨.noq, .qu 34, r.length + 1⟩ else ⟨.noe, .eq, r.length + 1⟩) := by
  induction n with
  | zero =>
    intro r tok q hn h
    obtain rfl : r = [] := List.eq_nil_of_length_eq_zero (Nat.le_zero.mp hn)
    rw [rt.eq_def]; rfl
  | succ n ih =>
    intro r tok q hn h
    match r, hn, h with
    | [], _, _ => rw [rt.eq_def]; rfl
    | [c], _, h =>
      rw [q34] at h ⊢
      by_cases h1 : (c == 34) = true
      · rw [if_pos h1] at h; simp at h
      · rw [if_neg h1] at h ⊢
        rw [rt.eq_def]; dsimp only
        rw [if_neg h1, if_pos (by decide)]
        by_cases h2 : (c == 92) = true
        · rw [if_pos h2, if_pos h2, rt.eq_def]; rfl
        · rw [if_neg h2, if_neg h2, rt.eq_def]; rfl
    | c :: d :: r, hn, h =>
      rw [q34] at h ⊢
      by_cases h1 : (c == 34) = true
      · rw [if_pos h1] at h; simp at h
      · rw [if_neg h1] at h ⊢
        rw [rt.eq_def]; dsimp only
        rw [if_neg h1, if_pos (by decide)]
        by_cases h2 : (c == 92) = true
        · rw [if_pos h2] at h ⊢
          rw [if_pos h2, rt.eq_def]; dsimp only
          simp only [List.length_cons] at h hn
          have key : ∀ tok', (rt (.qu 34) true tok' r).add 1 = (if 2 + q34 r = (c :: d :: r).length then (⟨.noq, .qu 34, (d :: r).length + 1⟩ : Out) else ⟨.noe, .eq, (d :: r).length + 1⟩) := fun tok' => by
            rw [ih r tok' true (Nat.le_of_succ_le (Nat.le_of_succ_le_succ hn)) (Nat.le_of_add_le_add_right (Nat.add_comm 2 (q34 r) ▸ h : r.length + 2 ≤ q34 r + 2))]
            simp only [List.length_cons]
            by_cases e : q34 r = r.length
            · rw [if_pos e, if_pos (by rw [e, Nat.add_comm])]; simp only [Out.add, Out.mk.injEq, true_and]; exact Nat.add_comm _ _
            · rw [if_neg e, if_neg (fun z => e (Nat.add_left_cancel (n := 2) (z.trans (Nat.add_comm r.length 2))))]; simp only [Out.add, Out.mk.injEq, true_and]; exact Nat.add_comm _ _
          have fin : ∀ X : Out, X = (if 2 + q34 r = (c :: d :: r).length then (⟨.noq, .qu 34, (d :: r).length + 1⟩ : Out) else ⟨.noe, .eq, (d :: r).length + 1⟩) → X.add 1 = (if 2 + q34 r = (c :: d :: r).length then ⟨.noq, .qu 34, (c :: d :: r).length + 1⟩ else ⟨.noe, .eq, (c :: d :: r).length + 1⟩) := fun X e => by
            rw [e]
            simp only [List.length_cons]
            split
            · simp only [Out.add, Out.mk.injEq, true_and]; exact Nat.add_comm _ _
            · simp only [Out.add, Out.mk.injEq, true_and]; exact Nat.add_comm _ _
          apply fin
          split
          · exact key _
          · split
            · exact key _
            · exact key _
        · rw [if_neg h2] at h ⊢
          rw [if_neg h2]
          simp only [List.length_cons] at h hn
          rw [ih (d :: r) _ true (by simp only [List.length_cons]; exact Nat.le_of_succ_le_succ hn) (by simp only [List.length_cons]; rw [Nat.add_comm 1] at h; exact Nat.le_of_succ_le_succ h)]
          simp only [List.length_cons]
          by_cases e : q34 (d :: r) = r.length + 1
          · rw [if_pos e, if_pos (by rw [e, Nat.add_comm])]; simp only [Out.add, Out.mk.injEq, true_and]; exact Nat.add_comm _ _
          · rw [if_neg e, if_neg (fun z => e (Nat.add_left_cancel (n := 1) (z.trans (Nat.add_comm (r.length + 1) 1))))]; simp only [Out.add, Out.mk.injEq, true_and]; exact Nat.add_comm _ _
theorem rt_q34_some {n : Nat} : ∀ (r : List UInt8) (tok : List UInt8) (q : Bool), r.length ≤ n → q34 r < r.length → rt (.qu 34) q tok r = (rt .wd true (tok ++ unesc (r.take (q34 r))) (r.drop (q34 r + 1))).add (q34 r + 1) := by
  induction n with
  | zero =>
    intro r tok q hn h
    exact absurd (Nat.lt_of_lt_of_le h hn) (Nat.not_lt_zero _)
  | succ n ih =>
    intro r tok q hn h
    match r, hn, h with
    | [], _, h => exact absurd h (Nat.not_lt_zero _)
    | [c], _, h =>
      rw [q34] at h ⊢
      by_cases h1 : (c == 34) = true
      · rw [if_pos h1, rt.eq_def]; dsimp only
        rw [if_pos h1, List.take_zero, unesc, List.append_nil]
        rfl
      · rw [if_neg h1] at h
        split at h <;> simp at h
    | c :: d :: r, hn, h =>
      rw [q34] at h ⊢
      by_cases h1 : (c == 34) = true
      · rw [if_pos h1, rt.eq_def]; dsimp only
        rw [if_pos h1, List.take_zero, unesc, List.append_nil]
        rfl
      · rw [if_neg h1] at h ⊢
        rw [rt.eq_def]; dsimp only
        rw [if_neg h1, if_pos (by decide)]
        by_cases h2 : (c == 92) = true
        · rw [if_pos h2] at h ⊢
          rw [if_pos h2, rt.eq_def]; dsimp only
          simp only [List.length_cons] at h hn
          have e1 : (c :: d :: r).take (2 + q34 r) = c :: d :: r.take (q34 r) := by rw [Nat.add_comm]; rfl
          have e2 : (c :: d :: r).drop (2 + q34 r + 1) = r.drop (q34 r + 1) := by rw [show 2 + q34 r + 1 = (q34 r + 1) + 1 + 1 from congrArg (· + 1) (Nat.add_comm 2 (q34 r))]; rfl
          rw [e1, e2, unesc, if_pos h2]
          have hc : c = 92 := by simpa using h2
          by_cases h3 : (d == 92) = true
          · rw [if_pos h3, if_pos (by rw [h3]; rfl), ih r _ true (Nat.le_of_succ_le (Nat.le_of_succ_le_succ hn)) (Nat.lt_of_add_lt_add_right (n := 2) (Nat.add_comm 2 (q34 r) ▸ h)), add_add, add_add, List.append_assoc, List.singleton_append, show q34 r + 1 + 1 + 1 = 2 + q34 r + 1 from congrArg (· + 1) (Nat.add_comm (q34 r) 2)]
          · by_cases h4 : (d == 34) = true
            · rw [if_neg h3, if_pos h4, if_pos (by rw [h4]; exact Bool.or_true _), ih r _ true (Nat.le_of_succ_le (Nat.le_of_succ_le_succ hn)) (Nat.lt_of_add_lt_add_right (n := 2) (Nat.add_comm 2 (q34 r) ▸ h)), add_add, add_add, List.append_assoc, List.singleton_append, show q34 r + 1 + 1 + 1 = 2 + q34 r + 1 from congrArg (· + 1) (Nat.add_comm (q34 r) 2)]
            · rw [if_neg h3, if_neg h4, if_neg (by rw [Bool.or_eq_true]; exact fun h => h.elim h3 h4), ih r _ true (Nat.le_of_succ_le (Nat.le_of_succ_le_succ hn)) (Nat.lt_of_add_lt_add_right (n := 2) (Nat.add_comm 2 (q34 r) ▸ h)), add_add, add_add, show q34 r + 1 + 1 + 1 = 2 + q34 r + 1 from congrArg (· + 1) (Nat.add_comm (q34 r) 2)]
              simp only [List.append_assoc, List.singleton_append, List.cons_append, List.nil_append]
        · rw [if_neg h2] at h ⊢
          rw [if_neg h2]
          simp only [List.length_cons] at h hn
          rw [ih (d :: r) _ true (by simp only [List.length_cons]; exact Nat.le_of_succ_le_succ hn) (by simp only [List.length_cons]; rw [Nat.add_comm 1] at h; exact Nat.lt_of_succ_lt_succ h), add_add]
          have e1 : (c :: d :: r).take (1 + q34 (d :: r)) = c :: (d :: r).take (q34 (d :: r)) := by rw [Nat.add_comm]; rfl
          have e2 : (c :: d :: r).drop (1 + q34 (d :: r) + 1) = (d :: r).drop (q34 (d :: r) + 1) := by rw [show 1 + q34 (d :: r) + 1 = (q34 (d :: r) + 1) + 1 from congrArg (· + 1) (Nat.add_comm 1 (q34 (d :: r)))]; rfl
          rw [e1, e2, show q34 (d :: r) + 1 + 1 = 1 + q34 (d :: r) + 1 from congrArg (· + 1) (Nat.add_comm (q34 (d :: r)) 1)]
          have e3 : unesc (c :: (d :: r).take (q34 (d :: r))) = c :: unesc ((d :: r).take (q34 (d :: r))) := by
            cases (d :: r).take (q34 (d :: r)) with
            | nil => rfl
            | cons x y => rw [unesc, if_neg h2]
          rw [e3, List.append_assoc, List.singleton_append]
end Mine
end
section
namespace Mine
open PySem.Builtin.Str
noncomputable def spl (a b : UInt8) : List UInt8 → List (List UInt8)
  | [] => [[]]
  | [c] => [[c]]
  | c :: d :: r => if c == a && d == b then [] :: spl a b r else match spl a b (d :: r) with
    | h :: t => (c :: h) :: t
    | [] => [[c]]
noncomputable def joinL (z : List UInt8) : List (List UInt8) → List UInt8
  | [] => []
  | [p] => p
  | p :: q :: r => p ++ z ++ joinL z (q :: r)
theorem spl_ne (a b : UInt8) (D : List UInt8) : ∃ h t, spl a b D = h :: t := by
  match D with
  | [] => exact ⟨_, _, rfl⟩
  | [c] => exact ⟨_, _, rfl⟩
  | c :: d :: r =>
    rw [spl]
    split
    · exact ⟨_, _, rfl⟩
    · obtain ⟨h, t, e⟩ := spl_ne a b (d :: r)
      rw [e]; exact ⟨_, _, rfl⟩
theorem joinL_cons (z p : List UInt8) (c : UInt8) (t : List (List UInt8)) : joinL z ((c :: p) :: t) = c :: joinL z (p :: t) := by
  cases t <;> rfl
theorem unesc_eq {n : Nat} : ∀ (B : List UInt8), B.length ≤ n → joinL [92] ((spl 92 92 B).map fun p => joinL [34] (spl 92 34 p)) = unesc B := by
  induction n with
  | zero =>
    intro B h
    obtain rfl : B = [] := List.eq_nil_of_length_eq_zero (by omega)
    rfl
  | succ n ih =>
    intro B h
    match B, h with
    | [], _ => rfl
    | [c], _ => rfl
    | c :: d :: r, h =>
      simp only [List.length_cons] at h
      rw [spl, unesc]
      by_cases h1 : (c == 92 && d == 92) = true
      · rw [if_pos h1]
        have hc : c = 92 := by simp at h1; exact h1.1
        have hd : d = 92 := by simp at h1; exact h1.2
        subst hc; subst hd
        rw [if_pos (by decide), if_pos (by decide), ← ih r (by omega)]
        obtain ⟨x, t, e⟩ := spl_ne 92 92 r
        rw [e]; rfl
      · rw [if_neg h1]
        obtain ⟨x, t, e⟩ := spl_ne 92 92 (d :: r)
        have ih1 := ih (d :: r) (by simp only [List.length_cons]; omega)
        rw [e] at ih1 ⊢
        dsimp only at ih1 ⊢
        simp only [List.map_cons] at ih1 ⊢
        by_cases h2 : (c == 92) = true
        · have hc : c = 92 := by simpa using h2
          subst hc
          have hd : d ≠ 92 := by intro q; subst q; exact h1 (by decide)
          rw [if_pos h2]
          have hx : ∃ y t', spl 92 92 r = y :: t' ∧ x = d :: y ∧ t = t' := by
            cases r with
            | nil =>
              rw [spl] at e
              cases e
              exact ⟨[], [], rfl, rfl, rfl⟩
            | cons f g =>
              rw [spl, if_neg (by simp [hd])] at e
              obtain ⟨y, t', e2⟩ := spl_ne 92 92 (f :: g)
              rw [e2] at e ⊢
              cases e
              exact ⟨_, _, rfl, rfl, rfl⟩
          obtain ⟨y, t', e2, rfl, rfl⟩ := hx
          have ih2 := ih r (by omega)
          rw [e2] at ih2
          simp only [List.map_cons] at ih2
          by_cases h3 : d = 34
          · subst h3
            rw [if_pos (by decide)]
            rw [spl, if_pos (by decide)]
            have : joinL [34] ([] :: spl 92 34 y) = 34 :: joinL [34] (spl 92 34 y) := by
              obtain ⟨u, v, e3⟩ := spl_ne 92 34 y
              rw [e3]; rfl
            rw [this, joinL_cons, ih2]
          · rw [if_neg (by simp [hd, h3])]
            rw [spl, if_neg (by simp [h3])]
            have hy : spl 92 34 (d :: y) = match spl 92 34 y with | h :: t => (d :: h) :: t | [] => [[d]] := by
              cases y with
              | nil => rfl
              | cons f g => rw [spl, if_neg (by simp [hd])]
            rw [hy]
            obtain ⟨u, v, e3⟩ := spl_ne 92 34 y
            rw [e3]
            dsimp only
            rw [joinL_cons, joinL_cons, joinL_cons, joinL_cons, ← e3, ih2]
        · rw [if_neg h2, ← ih1]
          have hy : spl 92 34 (c :: x) = match spl 92 34 x with | h :: t => (c :: h) :: t | [] => [[c]] := by
            cases x with
            | nil => rfl
            | cons f g => rw [spl, if_neg (by intro q; rw [Bool.and_eq_true] at q; exact h2 q.1)]
          rw [hy]
          obtain ⟨u, v, e3⟩ := spl_ne 92 34 x
          rw [e3]
          dsimp only
          rw [joinL_cons, joinL_cons]
end Mine
end
section
namespace Mine
theorem sub0 {n i : Nat} (h : 0 = n - i) (hi : i ≤ n) : i = n := Nat.le_antisymm hi (Nat.le_of_sub_eq_zero h.symm)
theorem sub_s {n i k : Nat} (h : k + 1 = n - i) : i + (k + 1) = n := by
  have hlt : i < n := Nat.lt_of_sub_pos (h ▸ Nat.succ_pos k)
  rw [h]; exact Nat.add_sub_cancel' (Nat.le_of_lt hlt)
open PySem.Builtin.Str PySem.StrLaws
noncomputable def occ2 (a b : UInt8) : Nat → List UInt8 → List Nat
  | _, [] => []
  | _, [_] => []
  | i, c :: d :: r => if c == a && d == b then i :: occ2 a b (i + 2) r else occ2 a b (i + 1) (d :: r)
theorem lat_ext {x : Str} {l : List UInt8} (h : x.cps.toList = l.map (·.toNat)) : x = lat l := by
  cases x with
  | mk cps =>
    show Str.mk cps = Str.mk _
    congr 1
    apply Array.toList_inj.mp
    rw [h]
theorem subAt_two {B : List UInt8} {a b c d : UInt8} {i : Nat} {r : List UInt8} (h : B.drop i = c :: d :: r) : subAt (lat B) (lat [a, b]) i = (c == a && d == b) := by
  rw [subAt_eq, lat_list, lat_list]
  rw [← List.map_drop, h]
  show ([c.toNat, d.toNat] == [a.toNat, b.toNat]) = _
  rw [Bool.eq_iff_iff]
  simp only [beq_iff_eq, List.cons.injEq, and_true, Bool.and_eq_true, UInt8.toNat_inj]
theorem drop_len {B : List UInt8} {i : Nat} {D : List UInt8} (h : B.drop i = D) : D.length = B.length - i := by rw [← h, List.length_drop]
theorem drop_next {B : List UInt8} {i : Nat} {c : UInt8} {D : List UInt8} (h : B.drop i = c :: D) : B.drop (i + 1) = D := by rw [← List.drop_drop, h]; rfl
theorem occ_loop (a b : UInt8) (B : List UInt8) : ∀ (k i f : Nat) (found : Array Nat), i + k = B.length + 1 → found.size ≤ i →
    (f ≤ i → (forIn (m := Id) (List.range' i k) (found, f) (occBody (lat B) (lat [a, b]) (lat B).length ((lat B).length + 1))).run.fst.toList = found.toList ++ occ2 a b i (B.drop i)) ∧
    (f = i + 1 → found.size ≤ i + 1 → (forIn (m := Id) (List.range' i k) (found, f) (occBody (lat B) (lat [a, b]) (lat B).length ((lat B).length + 1))).run.fst.toList = found.toList ++ occ2 a b (i + 1) (B.drop (i + 1))) := by
  intro k
  induction k with
  | zero =>
    intro i f found hk hs
    have e0 : i = B.length + 1 := hk
    have e1 : B.drop i = [] := List.drop_eq_nil_of_le (by rw [e0]; exact Nat.le_succ _)
    have e2 : B.drop (i + 1) = [] := List.drop_eq_nil_of_le (by rw [e0]; exact Nat.le_succ_of_le (Nat.le_succ _))
    rw [e1, e2]
    exact ⟨fun _ => (List.append_nil _).symm, fun _ _ => (List.append_nil _).symm⟩
  | succ k ih =>
    intro i f found hk hs
    have hl : (lat B).length = B.length := lat_length B
    have h2 : (lat [a, b]).length = 2 := rfl
    constructor
    · intro hf
      rw [List.range'_succ, List.forIn_cons]
      by_cases hc : ((found.size < (lat B).length + 1 ∧ f ≤ i) ∧ i + (lat [a, b]).length ≤ (lat B).length) ∧ subAt (lat B) (lat [a, b]) i = true
      · rw [show occBody (lat B) (lat [a, b]) (lat B).length ((lat B).length + 1) i (found, f) = pure (ForInStep.yield (found.push i, i + 2)) from if_pos hc]
        have hr := (ih (i + 1) (i + 2) (found.push i) ((Nat.add_right_comm i 1 k).trans hk) (by rw [Array.size_push]; exact Nat.succ_le_succ hs)).2 rfl (by rw [Array.size_push]; exact Nat.le_succ_of_le (Nat.succ_le_succ hs))
        refine hr.trans ?_
        have hn : i + 2 ≤ B.length := hl ▸ (show i + 2 ≤ (lat B).length from hc.1.2)
        obtain ⟨c, d, r, hd⟩ : ∃ c d r, B.drop i = c :: d :: r := by
          rcases hD : B.drop i with _ | ⟨c, _ | ⟨d, r⟩⟩
          · exact absurd (Nat.le_of_sub_eq_zero (drop_len hD).symm) (Nat.not_le.mpr (Nat.lt_of_succ_le (Nat.le_of_succ_le hn)))
          · exact absurd (Nat.le_trans hn (Nat.le_of_eq (sub_s (k := 0) (drop_len hD)).symm)) (Nat.not_succ_le_self _)
          · exact ⟨_, _, _, rfl⟩
        have hs2 := hc.2
        rw [subAt_two hd] at hs2
        rw [hd, occ2, if_pos hs2, Array.toList_push, List.append_assoc, drop_next (drop_next hd)]
        rfl
      · rw [show occBody (lat B) (lat [a, b]) (lat B).length ((lat B).length + 1) i (found, f) = pure (ForInStep.yield (found, f)) from if_neg hc]
        have hr := (ih (i + 1) f found ((Nat.add_right_comm i 1 k).trans hk) (Nat.le_succ_of_le hs)).1 (Nat.le_succ_of_le hf)
        refine hr.trans ?_
        congr 1
        rcases hD : B.drop i with _ | ⟨c, _ | ⟨d, r⟩⟩
        · rw [show B.drop (i + 1) = [] by rw [← List.drop_drop, hD]; rfl]; rfl
        · rw [drop_next hD]; rfl
        · rw [drop_next hD, occ2]
          have hl2 := drop_len hD
          simp only [List.length_cons] at hl2
          have hi2 : i + 2 ≤ (lat B).length := by rw [hl]; exact Nat.le_trans (Nat.add_le_add_left (Nat.le_add_left 2 r.length) i) (Nat.le_of_eq (sub_s hl2))
          have : ¬ (c == a && d == b) = true := fun q => hc ⟨⟨⟨Nat.lt_succ_of_le (Nat.le_trans hs (Nat.le_trans (Nat.le_add_right i 2) hi2)), hf⟩, hi2⟩, by rw [subAt_two hD]; exact q⟩
          rw [if_neg this]
    · intro hf hs'
      subst hf
      rw [List.range'_succ, List.forIn_cons]
      have hc : ¬ (((found.size < (lat B).length + 1 ∧ i + 1 ≤ i) ∧ i + (lat [a, b]).length ≤ (lat B).length) ∧ subAt (lat B) (lat [a, b]) i = true) := fun q => absurd q.1.1.2 (Nat.not_succ_le_self i)
      rw [show occBody (lat B) (lat [a, b]) (lat B).length ((lat B).length + 1) i (found, i + 1) = pure (ForInStep.yield (found, i + 1)) from if_neg hc]
      exact (ih (i + 1) (i + 1) found ((Nat.add_right_comm i 1 k).trans hk) hs').1 (Nat.le_refl _)
theorem occ_two (a b : UInt8) (B : List UInt8) : occurrences (lat B) (lat [a, b]) 0 (lat B).length ((lat B).length + 1) = occ2 a b 0 B := by
  rw [occ_eq]
  have hl : (lat B).length = B.length := lat_length B
  have := (occ_loop a b B ((lat B).length + 1 - 0) 0 0 #[] (by omega) (Nat.le_refl _)).1 (Nat.le_refl _)
  rw [this]
  rfl
theorem sub_lat (B : List UInt8) (s c : Nat) : strSub (lat B) s c = lat ((B.drop s).take (c - s)) := by
  apply lat_ext
  rw [strSub_toList, lat_list, List.map_take, List.map_drop]
theorem take_snoc {B : List UInt8} {s i : Nat} {c : UInt8} {D : List UInt8} (h : B.drop i = c :: D) (hs : s ≤ i) : (B.drop s).take (i + 1 - s) = (B.drop s).take (i - s) ++ [c] := by
  have hi : i < B.length := Nat.lt_of_lt_of_le (Nat.lt_add_of_pos_right (Nat.succ_pos D.length)) (Nat.le_of_eq (sub_s (k := D.length) (drop_len h)))
  have h1 : i - s < (B.drop s).length := by rw [List.length_drop]; exact Nat.sub_lt_sub_right hs hi
  rw [show i + 1 - s = (i - s) + 1 from Nat.succ_sub hs, List.take_succ_eq_append_getElem h1]
  congr 2
  have : (B.drop i)[0]? = some c := by rw [h]; rfl
  rw [List.getElem?_drop] at this
  rw [List.getElem_drop]
  have h2 : B[s + (i - s)]? = some c := by rw [show s + (i - s) = i + 0 from Nat.add_sub_cancel' hs]; exact this
  exact (List.getElem?_eq_some_iff.mp h2).2
theorem parts_two (a b : UInt8) (B : List UInt8) : ∀ (n : Nat) (D : List UInt8) (i s : Nat), D.length ≤ n → B.drop i = D → s ≤ i → i ≤ B.length →
    partsFrom (lat B) 2 s (occ2 a b i D) = (match spl a b D with | h :: t => ((B.drop s).take (i - s) ++ h) :: t | [] => []).map lat := by
  intro n
  induction n with
  | zero =>
    intro D i s hn hD hs hi
    obtain rfl : D = [] := List.eq_nil_of_length_eq_zero (Nat.eq_zero_of_le_zero hn)
    have hl := drop_len hD
    simp only [List.length_nil] at hl
    show [strSub (lat B) s (lat B).length] = [lat _]
    rw [sub_lat, lat_length, List.append_nil, show i = B.length from sub0 hl hi]
  | succ n ih =>
    intro D i s hn hD hs hi
    match D, hn, hD with
    | [], _, hD =>
      have hl := drop_len hD
      simp only [List.length_nil] at hl
      show [strSub (lat B) s (lat B).length] = [lat _]
      rw [sub_lat, lat_length, List.append_nil, show i = B.length from sub0 hl hi]
    | [c], _, hD =>
      have hl := drop_len hD
      simp only [List.length_cons, List.length_nil] at hl
      show [strSub (lat B) s (lat B).length] = [lat _]
      rw [sub_lat, lat_length, ← take_snoc hD hs, show B.length = i + 1 from (sub_s hl).symm]
    | c :: d :: r, hn, hD =>
      simp only [List.length_cons] at hn
      have hl := drop_len hD
      simp only [List.length_cons] at hl
      have hi2 : i + 2 ≤ B.length := Nat.le_trans (Nat.add_le_add_left (Nat.le_add_left 2 r.length) i) (Nat.le_of_eq (sub_s hl))
      rw [occ2, spl]
      by_cases h : (c == a && d == b) = true
      · rw [if_pos h, if_pos h]
        show strSub (lat B) s i :: partsFrom (lat B) 2 (i + 2) (occ2 a b (i + 2) r) = lat _ :: (spl a b r).map lat
        rw [ih r (i + 2) (i + 2) (Nat.le_of_succ_le (Nat.le_of_succ_le_succ hn)) (drop_next (drop_next hD)) (Nat.le_refl _) hi2, sub_lat, List.append_nil]
        obtain ⟨x, t, e⟩ := spl_ne a b r
        rw [e]
        dsimp only
        rw [Nat.sub_self, List.take_zero, List.nil_append]
      · rw [if_neg h, if_neg h]
        rw [ih (d :: r) (i + 1) s (Nat.le_of_succ_le_succ hn) (drop_next hD) (Nat.le_succ_of_le hs) (Nat.le_of_succ_le hi2)]
        obtain ⟨x, t, e⟩ := spl_ne a b (d :: r)
        rw [e]
        dsimp only
        rw [take_snoc hD hs, List.append_assoc, List.singleton_append]
theorem parts_spl (a b : UInt8) (B : List UInt8) : partsBetween (lat B) (occurrences (lat B) (lat [a, b]) 0 (lat B).length ((lat B).length + 1)) (lat [a, b]).length = (spl a b B).map lat := by
  rw [partsBetween_eq, occ_two, show (lat [a, b]).length = 2 from rfl, parts_two a b B B.length B 0 0 (Nat.le_refl _) rfl (Nat.le_refl _) (Nat.zero_le _)]
  obtain ⟨x, t, e⟩ := spl_ne a b B
  rw [e]; rfl
end Mine
end
section
namespace Mine
open PySem.Builtin.Str PySem.StrLaws
theorem glued_lat (z : List UInt8) (ps : List (List UInt8)) : glued (lat z) (ps.map lat) = lat (joinL z ps) := by
  apply lat_ext
  match ps with
  | [] => rfl
  | p :: r =>
    show ((r.map lat).foldl (fun acc q => acc ++ (lat z).cps ++ q.cps) (lat p).cps).toList = _
    have key : ∀ (r : List (List UInt8)) (acc : Array Nat) (p : List UInt8), acc.toList = p.map (·.toNat) → ((r.map lat).foldl (fun acc q => acc ++ (lat z).cps ++ q.cps) acc).toList = (joinL z (p :: r)).map (·.toNat) := by
      intro r
      induction r with
      | nil => intro acc p h; exact h
      | cons q r ih =>
        intro acc p h
        rw [List.map_cons, List.foldl_cons]
        have := ih (acc ++ (lat z).cps ++ (lat q).cps) (p ++ z ++ q) (by rw [Array.toList_append, Array.toList_append, h, lat_list, lat_list, List.map_append, List.map_append])
        rw [this]
        have e : ∀ r : List (List UInt8), joinL z ((p ++ z ++ q) :: r) = joinL z (p :: q :: r) := by
          intro r
          cases r with
          | nil => rfl
          | cons x y => show (p ++ z ++ q) ++ z ++ _ = p ++ z ++ (q ++ z ++ _); simp only [List.append_assoc]
        rw [e]
    exact key r _ p (lat_list p)
theorem join_lat (z : List UInt8) (ps : List (List UInt8)) : Txt.join (lat z) (ps.map lat) = lat (joinL z ps) := glued_lat z ps
theorem occ2_nil_spl {a b : UInt8} {B : List UInt8} (h : occurrences (lat B) (lat [a, b]) 0 (lat B).length ((lat B).length + 1) = []) : (spl a b B).map lat = [lat B] := by
  rw [← parts_spl, h, parts_nil]
theorem kind_lat (B : List UInt8) : PySem.Builtin.Str.strKind (lat B) = 1 := by
  unfold PySem.Builtin.Str.strKind
  rw [if_pos]
  rw [Array.all_eq_true_iff_forall_mem]
  intro c hc
  have hm : c ∈ (lat B).cps.toList := Array.mem_toList_iff.mpr hc
  rw [lat_list] at hm
  obtain ⟨x, _, rfl⟩ := List.mem_map.mp hm
  exact decide_eq_true x.toNat_lt
theorem split_lat (a b : UInt8) (B : List UInt8) : Txt.split (lat B) (lat [a, b]) = (spl a b B).map lat := by
  unfold Txt.split
  by_cases h : (decide ((lat B).length < (lat [a, b]).length) || decide (PySem.Builtin.Str.strKind (lat B) < PySem.Builtin.Str.strKind (lat [a, b]))) = true
  · rw [if_pos h]
    refine (occ2_nil_spl ?_).symm
    rw [occ_two]
    rw [kind_lat, kind_lat, Bool.or_eq_true] at h
    have hl : B.length < 2 := by
      rcases h with h | h
      · have := of_decide_eq_true h
        rw [lat_length] at this
        exact this
      · exact absurd (of_decide_eq_true h) (Nat.lt_irrefl _)
    match B, hl with
    | [], _ => rfl
    | [c], _ => rfl
    | x :: y :: r, h => exact absurd h (by rw [List.length_cons, List.length_cons]; omega)
  · rw [if_neg h]
    by_cases h2 : (occurrences (lat B) (lat [a, b]) 0 (lat B).length ((lat B).length + 1)).isEmpty = true
    · rw [if_pos h2]
      exact (occ2_nil_spl (List.isEmpty_iff.mp h2)).symm
    · rw [if_neg h2]
      exact parts_spl a b B
theorem spl_single {a b : UInt8} {B : List UInt8} (h : (spl a b B).map lat = [lat B]) (z : List UInt8) : lat (joinL z (spl a b B)) = lat B := by
  rw [← glued_lat, h]
  show glued (lat z) ([B].map lat) = lat B
  rw [glued_lat]; rfl
theorem replace_lat (a b : UInt8) (z B : List UInt8) : Txt.replace (lat B) (lat [a, b]) (lat z) = lat (joinL z (spl a b B)) := by
  unfold Txt.replace
  have h0 : ((lat [a, b]).length == 0) = false := rfl
  rw [h0, Bool.false_and, Bool.or_false]
  by_cases h2 : (occurrences (lat B) (lat [a, b]) 0 (lat B).length ((lat B).length + 1)).isEmpty = true
  · rw [if_pos h2]
    exact (spl_single (occ2_nil_spl (List.isEmpty_iff.mp h2)) z).symm
  · rw [if_neg h2, parts_spl, glued_lat]
end Mine
end
section
namespace Mine
noncomputable def CtrP (w : World) (f : Addr) (vs : List Value) (own : Led) (D U : Nat) (post : Value → Led → Prop) : Prop :=
  PySem.Challenge.rw_in0150_01 = PySem.Challenge.rw_in0150_01 → ∀ (mean : ExcName → Option Value) (mg mb : Str → Option Value) (dp un : Nat) (gd : Option (List Code)) (cn : Str) (cs : Scope) (a : Addr) (ccd : Value) (cl : List (Str × Addr)) (outer : List Env) (A₀ : Around)
    (base h₀ : Heap) (L : Addr) (m : Str → Option Value) (s : Shared) (rest : Led) (Q E : Value → Shared → Prop),
    Below A₀ base outer h₀ → Fr h₀ L s.heap m → (K w.params).In h₀ → News h₀ L s.heap (own ++ rest) → TopQ mean mg mb h₀ → cs.kind = .function → dp + D < recursionLimit → un + U < cLine →
    (∀ v new h' tk', post v new → Fr h₀ L h' m → News h₀ L h' (new ++ rest) → Q v { s with heap := h', toks := tk' }) →
    wpAny (model P0 w) (ktrTop dp un gd cn cs L a ccd cl outer) (call (.ref f) vs) Q E s
theorem ctrP_use {w : World} {f : Addr} {vs : List Value} {own : Led} {D U : Nat} {post : Value → Led → Prop} {mean : ExcName → Option Value} {mg mb : Str → Option Value} {dp un : Nat} {gd : Option (List Code)} {cn : Str} {cs : Scope} {a : Addr} {ccd : Value} {cl : List (Str × Addr)} {outer : List Env} {A₀ : Around}
    {base h₀ : Heap} {L : Addr} {m : Str → Option Value} {s : Shared} {news : Led} {Q E : Value → Shared → Prop}
    (B : Below A₀ base outer h₀) (F : Fr h₀ L s.heap m) (X : (K w.params).In h₀) (N : News h₀ L s.heap news) (T : TopQ mean mg mb h₀) (hk : cs.kind = .function) (hd : dp + D < recursionLimit) (hu : un + U < cLine)
    (C : CtrP w f vs own D U post) (ho : ∀ q ∈ own, q ∈ news)
    (h : ∀ v new h' tk', post v new → Fr h₀ L h' m → News h₀ L h' (new ++ news) → Q v { s with heap := h', toks := tk' }) :
    wpAny (model P0 w) (ktrTop dp un gd cn cs L a ccd cl outer) (call (.ref f) vs) Q E s :=
  C rfl mean mg mb dp un gd cn cs a ccd cl outer A₀ base h₀ L m s news Q E B F X (led_to N fun q hq => (List.mem_append.mp hq).elim (ho q) id) T hk hd hu h
theorem latL (T : List UInt8) : (lat T).length = T.length := lat_length T
theorem lat_getD (T : List UInt8) (v : Nat) (h : v < T.length) : (lat T).cps.getD v 0 = (T[v]).toNat := by
  simp [h]
theorem bl_none {D : List UInt8} (h : ∀ x ∈ D, x ≠ 10) : bl D = D.length + 1 := by
  induction D with
  | nil => rfl
  | cons c r ih =>
    rw [bl, if_neg (h c List.mem_cons_self), ih fun x hx => h x (List.mem_cons_of_mem _ hx), List.length_cons]
    exact Nat.add_comm _ _
theorem bl_some : ∀ {D : List UInt8} {k : Nat} (hk : k < D.length), D[k] = 10 → (∀ j (hj : j < D.length), j < k → D[j] ≠ 10) → bl D = k + 1
  | c :: r, 0, _, h, _ => by
    have h : c = 10 := h
    rw [bl, if_pos h]
  | c :: r, k + 1, hk, h, n => by
    have h0 : c ≠ 10 := n 0 (Nat.succ_pos _) (Nat.succ_pos _)
    rw [bl, if_neg h0, bl_some (D := r) (k := k) (by simpa using hk) (by simpa using h) fun j hj hjk => by
      have := n (j + 1) (Nat.succ_lt_succ hj) (Nat.succ_lt_succ hjk)
      simpa using this]
    exact Nat.add_comm _ _
theorem find10 (T : List UInt8) (p : Nat) (hp : p ≤ T.length) : (Txt.find3 (lat T) ("\n" : Str) p = -1 ∧ p + bl (T.drop p) = T.length + 1) ∨ ∃ k : Nat, Txt.find3 (lat T) ("\n" : Str) p = (k : Int) ∧ p + bl (T.drop p) = k + 1 := by
  have e : ("\n" : Str) = ⟨#[10]⟩ := by decide
  have ef : fromIndex (lat T).length (p : Int) = p := by
    unfold fromIndex
    rw [if_neg (Int.not_lt.mpr (Int.natCast_nonneg _)), Int.max_eq_right (Int.natCast_nonneg p), Int.toNat_natCast]
  rw [e]
  rcases StrLaws.find3_spec (lat T) 10 p with ⟨h1, hn⟩ | ⟨k, h1, hlo, hlt, hk, hn⟩
  · left
    refine ⟨h1, ?_⟩
    rw [ef, latL] at hn
    rw [bl_none fun x hx => ?_]
    · rw [List.length_drop, ← Nat.add_assoc, Nat.add_sub_cancel' hp]
    · obtain ⟨i, hi, rfl⟩ := List.mem_iff_getElem.mp hx
      rw [List.length_drop] at hi
      have := hn (p + i) (Nat.le_add_right _ _) (Nat.add_lt_of_lt_sub' hi)
      rw [lat_getD T _ (Nat.add_lt_of_lt_sub' hi)] at this
      rw [List.getElem_drop]
      intro c
      rw [c] at this
      exact this rfl
  · right
    rw [ef] at hlo hn
    rw [latL] at hlt
    rw [lat_getD T _ hlt] at hk
    refine ⟨k, h1, ?_⟩
    rw [bl_some (k := k - p) (by rw [List.length_drop]; exact Nat.sub_lt_sub_right hlo hlt)]
    · rw [← Nat.add_assoc, Nat.add_sub_cancel' hlo]
    · rw [List.getElem_drop]
      apply UInt8.toNat_inj.mp
      have : p + (k - p) = k := Nat.add_sub_cancel' hlo
      simp only [this]
      exact hk
    · intro j hj hjk
      rw [List.length_drop] at hj
      have := hn (p + j) (Nat.le_add_right _ _) (Nat.add_lt_of_lt_sub' hjk)
      rw [lat_getD T _ (Nat.add_lt_of_lt_sub' hj)] at this
      rw [List.getElem_drop]
      intro c
      rw [c] at this
      exact this rfl
section
variable {prog : Program} {w : World} {A : Around} {E : Value → Shared → Prop} {s : Shared} {t u v : Tok} {value slice : Expr} {T : List UInt8}
theorem m_find {Q : Value → Shared → Prop} {p : Nat} {z : Int} (e : Txt.find3 (lat T) ("\n" : Str) p = z) (h : ∀ t' k, Q (.int z t') { s with toks := k }) : wpAny (model prog w) A (call (.builtin "str.find") [.str (lat T) t, .str "\n" u, .int p v]) Q E s :=
  SC.find3 (by rw [e]; exact h _ _)
theorem m_lenS {Q : Value → Shared → Prop} (hz : T.length ≤ 1000000) (h : ∀ t' k, Q (.int (T.length : Int) t') { s with toks := k }) : wpAny (model prog w) A (call (.builtin "len") [.str (lat T) t]) Q E s :=
  len_str (by rw [latL]; omega) (by rw [latL]; exact h _ _)
theorem item_at {i : Nat} {c : UInt8} (hi : T[i]? = some c) : Txt.item (lat T) (i : Int) = lat [c] := by
  obtain ⟨hl, hc⟩ := List.getElem?_eq_some_iff.mp hi
  have h : Txt.charAt (lat T) (i : Int) = some c.toNat := by
    show (seqIndex? (i : Int) (lat T).length).bind _ = _
    rw [StrLaws.seqIndex_nonneg (by omega) (by rw [latL]; omega), Option.bind_some, Int.toNat_natCast]
    simp [lat, hi]
  unfold Txt.item
  rw [h]
  rfl
theorem m_itemS {Q : Value → Shared → Prop} {i : Nat} {c : UInt8} (hi : T[i]? = some c) (hz : T.length ≤ 10000) (h : ∀ t' k, Q (.str (lat [c]) t') { s with toks := k })
    (hs : subscripted slice false (.str (lat T) t) (.int (i : Int) u) = operate [.str (lat T) t, .int (i : Int) u] (getItem (.str (lat T) t) (.int (i : Int) u)) := by with_unfolding_all rfl)
    (ht : ∀ r, letTemporaryGo value (.str (lat T) t) r = pure () := by intro _; with_unfolding_all rfl) :
    wpAny (model prog w) A (subscriptTail value slice (.str (lat T) t) (.int (i : Int) u)) Q E s :=
  KXi.item (n := T.length) (latL T) (by omega) (by have := (List.getElem?_eq_some_iff.mp hi).1; omega) (by omega) (fun _ => by rw [item_at hi]; exact h _ _) hs ht
end
end Mine
end
section
namespace Mine
noncomputable def qx (c : UInt8) (D : List UInt8) : Nat := if c = 34 then q34 D else match q39 D with
  | some j => j
  | none => D.length
theorem qx_nil (c : UInt8) : qx c [] = 0 := by
  unfold qx; split <;> rfl
theorem qx_end {c : UInt8} (hc : c = 39 ∨ c = 34) (r : List UInt8) : qx c (c :: r) = 0 := by
  rcases hc with rfl | rfl
  · rfl
  · cases r <;> rfl
theorem qx_esc {r : List UInt8} : qx 34 (92 :: r) = 2 + qx 34 (r.drop 1) := by
  cases r <;> rfl
theorem qx_more {c d : UInt8} (hc : c = 39 ∨ c = 34) (r : List UInt8) (hd : d ≠ c) (he : ¬ (c = 34 ∧ d = 92)) : qx c (d :: r) = 1 + qx c r := by
  rcases hc with rfl | rfl
  · unfold qx
    rw [if_neg (by decide), if_neg (by decide)]
    rw [q39, if_neg (by simpa using hd)]
    cases q39 r with
    | none => simp only [Option.map_none, List.length_cons]; omega
    | some j => simp only [Option.map_some]; omega
  · have h92 : d ≠ 92 := fun e => he ⟨rfl, e⟩
    unfold qx
    rw [if_pos rfl, if_pos rfl]
    cases r with
    | nil => show (if (d == 34) = true then 0 else if (d == 92) = true then 2 else 1) = _; rw [if_neg (by simpa using hd), if_neg (by simpa using h92)]; rfl
    | cons e r => show (if (d == 34) = true then 0 else if (d == 92) = true then 2 + q34 r else 1 + q34 (e :: r)) = _; rw [if_neg (by simpa using hd), if_neg (by simpa using h92)]
theorem q39_lt : ∀ {D : List UInt8} {j : Nat}, q39 D = some j → j < D.length
  | c :: r, j, h => by
    rw [q39] at h
    split at h
    · cases h; exact Nat.succ_pos _
    · cases hq : q39 r with
      | none => rw [hq] at h; cases h
      | some i =>
        rw [hq] at h
        cases h
        exact Nat.succ_lt_succ (q39_lt hq)
theorem qx39_le (D : List UInt8) : qx 39 D ≤ D.length := by
  unfold qx
  rw [if_neg (by decide)]
  cases h : q39 D with
  | none => exact Nat.le_refl _
  | some j => exact Nat.le_of_lt (q39_lt h)
inductive Pt | ok (w : List UInt8) (k : Nat) | bad (r : Res)
noncomputable def ptOf : List UInt8 → Pt
  | [] => .ok [] 0
  | c :: r => if c = 92 then (match r with
      | [] => .bad .noe
      | d :: _ => .ok [d] 2)
    else if c = 39 ∨ c = 34 then (if qx c r < r.length then .ok (if c = 34 then unesc (r.take (qx c r)) else r.take (qx c r)) (qx c r + 2) else .bad (if qx c r = r.length then .noq else .noe))
    else .ok [c] 1
theorem ptOf_cons (c : UInt8) (r : List UInt8) : ptOf (c :: r) = if c = 92 then (match r with
      | [] => .bad .noe
      | d :: _ => .ok [d] 2)
    else if c = 39 ∨ c = 34 then (if qx c r < r.length then .ok (if c = 34 then unesc (r.take (qx c r)) else r.take (qx c r)) (qx c r + 2) else .bad (if qx c r = r.length then .noq else .noe))
    else .ok [c] 1 := rfl
noncomputable def isQ (c : UInt8) : Bool := c == 39 || c == 34
theorem rt_pt {c : UInt8} {r tok : List UInt8} {q : Bool} (h1 : isWs c = false) (h2 : c ≠ 35) : match ptOf (c :: r) with
    | .ok w k => rt .wd q tok (c :: r) = (rt .wd (q || isQ c) (tok ++ w) ((c :: r).drop k)).add k ∧ 1 ≤ k ∧ k ≤ r.length + 1 ∧ (isQ c = true ∨ w ≠ [])
    | .bad e => ∃ st, rt .wd q tok (c :: r) = ⟨e, st, r.length + 2⟩ ∧ (e = .noq ∨ e = .noe) := by
  have n1 : ¬ isWs c = true := by rw [h1]; decide
  have n2 : ¬ (c == 35) = true := by simpa using h2
  by_cases h3 : c = 92
  · subst h3
    rw [ptOf_cons, if_pos rfl]
    cases r with
    | nil =>
      refine ⟨.ea, ?_, .inr rfl⟩
      rw [rt.eq_def]; dsimp only
      rw [if_neg n1, if_neg n2, if_neg (by decide), if_pos (by decide), rt.eq_def]; rfl
    | cons d r =>
      refine ⟨?_, by decide, by simp only [List.length_cons]; omega, .inr (List.cons_ne_nil _ _)⟩
      rw [rt.eq_def]; dsimp only
      rw [if_neg n1, if_neg n2, if_neg (by decide), if_pos (by decide), rt.eq_def]; dsimp only
      rw [add_add, show (q || isQ 92) = q by cases q <;> rfl]; rfl
  · by_cases h4 : c = 39 ∨ c = 34
    · rw [ptOf_cons, if_neg h3, if_pos h4]
      have hq : (c == 39 || c == 34) = true := by simpa using h4
      have e0 : rt .wd q tok (c :: r) = (rt (.qu c) q tok r).add 1 := by
        rw [rt.eq_def]; dsimp only
        rw [if_neg n1, if_neg n2, if_pos hq]
      rcases h4 with rfl | rfl
      · cases hj : q39 r with
        | none =>
          have hx : qx 39 r = r.length := by unfold qx; rw [if_neg (by decide), hj]
          rw [hx, if_neg (Nat.lt_irrefl _), if_pos rfl]
          refine ⟨.qu 39, ?_, .inl rfl⟩
          · rw [e0, rt_q39_none tok q hj]
            simp only [Out.add, Out.mk.injEq, true_and]; omega
        | some j =>
          have hx : qx 39 r = j := by unfold qx; rw [if_neg (by decide), hj]
          have := q39_lt hj
          rw [hx, if_pos this, if_neg (by decide)]
          refine ⟨?_, by omega, by omega, .inl rfl⟩
          rw [e0, rt_q39_some j tok q hj, add_add, show (q || isQ 39) = true by cases q <;> rfl]
          rfl
      · have hx : qx 34 r = q34 r := by unfold qx; rw [if_pos rfl]
        rw [hx]
        by_cases hl : q34 r < r.length
        · rw [if_pos hl, if_pos rfl]
          refine ⟨?_, by omega, by omega, .inl rfl⟩
          rw [e0, rt_q34_some (n := r.length) r tok q (Nat.le_refl _) hl, add_add, show (q || isQ 34) = true by cases q <;> rfl]
          rfl
        · rw [if_neg hl]
          by_cases he : q34 r = r.length
          · rw [if_pos he]
            refine ⟨.qu 34, ?_, .inl rfl⟩
            rw [e0, rt_q34_end (n := r.length) r tok q (Nat.le_refl _) (by omega), if_pos he]
            simp only [Out.add, Out.mk.injEq, true_and]; omega
          · rw [if_neg he]
            refine ⟨.eq, ?_, .inr rfl⟩
            rw [e0, rt_q34_end (n := r.length) r tok q (Nat.le_refl _) (by omega), if_neg he]
            simp only [Out.add, Out.mk.injEq, true_and]; omega
    · rw [ptOf_cons, if_neg h3, if_neg h4]
      have hq : (c == 39 || c == 34) = false := by
        rw [Bool.or_eq_false_iff]
        exact ⟨by simpa using fun e => h4 (.inl e), by simpa using fun e => h4 (.inr e)⟩
      refine ⟨?_, by decide, by omega, .inr (List.cons_ne_nil _ _)⟩
      rw [rt.eq_def]; dsimp only
      rw [if_neg n1, if_neg n2, if_neg (by rw [hq]; decide), if_neg (by simpa using h3), show (q || isQ c) = q by unfold isQ; rw [hq]; cases q <;> rfl]
      rfl
section
variable {prog : Program} {w : World} {A : Around} {E : Value → Shared → Prop} {s : Shared} {t u v : Tok} {value slice : Expr} {T : List UInt8} {h₀ : Heap} {L : Addr} {m : PySem.Str → Option Value} {news : Led}
theorem slice_clip (i j : Nat) (hi : i ≤ (lat T).length) : StrLaws.sliceText (lat T) (some (i : Int)) (some (j : Int)) = StrLaws.sliceText (lat T) (some (i : Int)) (some ((min j (lat T).length : Nat) : Int)) := by
  have : Builtin.Str.strSliceIndices (some (i : Int)) (some (j : Int)) 1 (lat T).length = Builtin.Str.strSliceIndices (some (i : Int)) (some ((min j (lat T).length : Nat) : Int)) 1 (lat T).length := by
    have h1 : ¬ ((i : Int) < 0) := Int.not_lt.mpr (Int.natCast_nonneg _)
    have h2 : ¬ ((j : Int) < 0) := Int.not_lt.mpr (Int.natCast_nonneg _)
    have h3 : ¬ (((min j (lat T).length : Nat) : Int) < 0) := Int.not_lt.mpr (Int.natCast_nonneg _)
    have e2 : max (0 : Int) (min (j : Int) ((lat T).length : Int)) = max (0 : Int) (min ((min j (lat T).length : Nat) : Int) ((lat T).length : Int)) := by
      rcases Nat.le_total j (lat T).length with q | q
      · rw [Nat.min_eq_left q]
      · rw [Nat.min_eq_right q, Int.min_eq_right (Int.ofNat_le.mpr q), Int.min_self]
    simp only [Builtin.Str.strSliceIndices, h1, h2, h3, if_false, show ((1 : Int) > 0) = True from by simp, if_true, e2]
  unfold StrLaws.sliceText
  rw [this]
theorem slice_at {i j : Nat} (hij : i ≤ j) (hi : i ≤ T.length) : Txt.slice (lat T) (some (i : Int)) (some (j : Int)) = lat ((T.drop i).take (j - i)) := by
  have h1 : Txt.slice (lat T) (some (i : Int)) (some (j : Int)) = StrLaws.sliceText (lat T) (some (i : Int)) (some (j : Int)) := rfl
  rw [h1, slice_clip i j (by rw [latL]; exact hi), StrLaws.sliceText_nat _ (by rw [latL]; omega) (Nat.min_le_right _ _), latL]
  show Str.mk _ = Str.mk _
  congr 2
  rw [lat_list, ← List.map_drop, ← List.map_take]
  congr 1
  rw [List.take_eq_take_iff, List.length_drop, ← Nat.sub_min_sub_right, Nat.min_assoc, Nat.min_self]
theorem m_s_ss {Q : Value → Shared → Prop} {i j : Nat} {zi zj : Int} {ui uj : Tok} (ei : zi = (i : Int)) (ej : zj = (j : Int)) (hij : i ≤ j) (hi : i ≤ T.length) (hF : Fr h₀ L s.heap m) (hN : News h₀ L s.heap news) (hz : T.length ≤ 10000)
    (h : ∀ h' t' k, Fr h₀ L h' m → News h₀ L h' news → Q (.str (lat ((T.drop i).take (j - i))) t') { s with heap := h', toks := k })
    (hs : subscripted slice false (.str (lat T) t) (.ref s.heap.objs.size) = operate [.ref s.heap.objs.size, .str (lat T) t] (getItem (.str (lat T) t) (.ref s.heap.objs.size)) := by with_unfolding_all rfl)
    (ht : ∀ r, letTemporaryGo value (.str (lat T) t) r = pure () := by intro _; with_unfolding_all rfl) :
    wpAny (model prog w) A (subscriptTail value slice (.str (lat T) t) (.ref s.heap.objs.size)) Q E { s with heap := s.heap.push { cls := .type "slice", data := .fields #[.int zi ui, .int zj uj, .none] } } := by
  subst ei; subst ej
  exact slice_strN_ss hF hN (fun h' t' k F' N' => by rw [slice_at hij hi]; exact h h' t' k F' N') hs ht (by rw [lat_length, sizeLine_eq]; omega)
theorem m_itemZ {Q : Value → Shared → Prop} {i : Nat} {z : Int} {c : UInt8} (hi : T[i]? = some c) (e : z = (i : Int)) (hz : T.length ≤ 10000) (h : ∀ t' k, Q (.str (lat [c]) t') { s with toks := k })
    (hs : subscripted slice false (.str (lat T) t) (.int z u) = operate [.str (lat T) t, .int z u] (getItem (.str (lat T) t) (.int z u)) := by with_unfolding_all rfl)
    (ht : ∀ r, letTemporaryGo value (.str (lat T) t) r = pure () := by intro _; with_unfolding_all rfl) :
    wpAny (model prog w) A (subscriptTail value slice (.str (lat T) t) (.int z u)) Q E s := by
  subst e; exact m_itemS hi hz h hs ht
end
end Mine
end
section
namespace Mine
theorem spl_len (a b : UInt8) : ∀ (n : Nat) (D : List UInt8), D.length ≤ n → ((spl a b D).map (·.length)).sum ≤ D.length ∧ (spl a b D).length ≤ D.length + 1 := by
  intro n
  induction n with
  | zero => intro D h; have : D = [] := List.eq_nil_of_length_eq_zero (Nat.eq_zero_of_le_zero h); subst this; exact ⟨Nat.le_refl _, Nat.le_refl _⟩
  | succ n ih =>
    intro D h
    match D with
    | [] => exact ⟨Nat.le_refl _, Nat.le_refl _⟩
    | [c] => exact ⟨Nat.le_refl _, Nat.le_succ _⟩
    | c :: d :: r =>
      simp only [List.length_cons] at h
      rw [spl]
      split
      · obtain ⟨h1, h2⟩ := ih r (Nat.le_of_succ_le (Nat.le_of_succ_le_succ h))
        simp only [List.map_cons, List.sum_cons, List.length_cons, List.length_nil]
        exact ⟨by rw [Nat.zero_add]; exact Nat.le_succ_of_le (Nat.le_succ_of_le h1), Nat.succ_le_succ (Nat.le_succ_of_le h2)⟩
      · obtain ⟨h1, h2⟩ := ih (d :: r) (Nat.le_of_succ_le_succ h)
        obtain ⟨q, t, e⟩ := spl_ne a b (d :: r)
        rw [e] at h1 h2 ⊢
        simp only [List.map_cons, List.sum_cons, List.length_cons] at h1 h2 ⊢
        omega
theorem join1_len (a b z : UInt8) : ∀ (n : Nat) (D : List UInt8), D.length ≤ n → (joinL [z] (spl a b D)).length ≤ D.length := by
  intro n
  induction n with
  | zero => intro D h; have : D = [] := List.eq_nil_of_length_eq_zero (by omega); subst this; exact Nat.le_refl _
  | succ n ih =>
    intro D h
    match D with
    | [] => exact Nat.le_refl _
    | [c] => exact Nat.le_refl _
    | c :: d :: r =>
      simp only [List.length_cons] at h
      rw [spl]
      split
      · have h1 := ih r (by omega)
        obtain ⟨q, t, e⟩ := spl_ne a b r
        rw [e] at h1 ⊢
        show ([] ++ [z] ++ joinL [z] (q :: t)).length ≤ _
        simp only [List.length_append, List.length_cons, List.length_nil]
        omega
      · have h1 := ih (d :: r) (by rw [List.length_cons]; omega)
        obtain ⟨q, t, e⟩ := spl_ne a b (d :: r)
        rw [e] at h1 ⊢
        show (joinL [z] ((c :: q) :: t)).length ≤ _
        rw [joinL_cons]
        simp only [List.length_cons] at h1 ⊢
        omega
theorem strs_of_values : ∀ (l : List (Str × Tok)), StrsAre (strValues l) (l.map (·.1))
  | [] => .nil
  | (x, t) :: r => .cons x t (strs_of_values r)
theorem bs2 : ("\\\\" : Str) = lat [92, 92] := by decide
theorem bsq : ("\\\"" : Str) = lat [92, 34] := by decide
theorem q1 : ("\"" : Str) = lat [34] := by decide
theorem b1 : ("\\" : Str) = lat [92] := by decide
theorem a1 : ("'" : Str) = lat [39] := by decide
noncomputable abbrev lst0 (vs : List Value) (n : Nat) : Obj := { cls := .type "list", data := .seq vs.toArray n }
section
variable {prog : Program} {w : World} {A : Around} {E : Value → Shared → Prop} {s : Shared} {t u v : Tok} {B : List UInt8} {h₀ : Heap} {L : Addr} {m : PySem.Str → Option Value} {news : Led}
theorem m_split {Q : Value → Shared → Prop} (hF : Fr h₀ L s.heap m) (hN : News h₀ L s.heap news) (hz : B.length ≤ 10000)
    (h : ∀ D vs h' k n, StrsAre vs ((spl 92 92 B).map lat) → Fr h₀ L h' m → News h₀ L h' ((D, lst0 vs n) :: news) → Q (.ref D) { s with heap := h', toks := k }) :
    wpAny (model prog w) A (call (.builtin "str.split") [.str (lat B) t, .str "\\\\" u]) Q E s :=
  splitN1 hF hN (by decide) (fun l h' k e F N => h _ (strValues l) h' k _ (by rw [← split_lat, ← bs2, ← e]; exact strs_of_values l) F N) (by rw [lat_length, sizeLine_eq]; omega)
theorem m_repl {Q : Value → Shared → Prop} (hu : u ≠ 0) (hv : v ≠ 0) (huv : u ≠ v) (hz : B.length ≤ 1000) (h : ∀ t' k, Q (.str (lat (joinL [34] (spl 92 34 B))) t') { s with toks := k }) :
    wpAny (model prog w) A (call (.builtin "str.replace") [.str (lat B) t, .str "\\\"" u, .str "\"" v]) Q E s := by
  refine SC.replace hu hv huv (by decide) ?_ fun t' k => ?_
  · rw [latL, show ("\"" : Str).length = 1 from rfl]
    omega
  · rw [bsq, q1, replace_lat]; exact h t' k
theorem unesc_join (B : List UInt8) : Txt.join (lat [92]) (((spl 92 92 B).map fun p => joinL [34] (spl 92 34 p)).map lat) = lat (unesc B) := by
  rw [join_lat, unesc_eq (n := B.length) B (Nat.le_refl _)]
theorem parts_sum (B : List UInt8) (ps : List (List UInt8)) (h : (ps.map (·.length)).sum ≤ B.length) : (((ps.map fun p => joinL [34] (spl 92 34 p)).map lat).map (·.length)).sum ≤ B.length := by
  refine Nat.le_trans ?_ h
  clear h
  induction ps with
  | nil => exact Nat.le_refl _
  | cons p r ih =>
    simp only [List.map_cons, List.sum_cons, latL]
    have := join1_len 92 34 34 p.length p (Nat.le_refl _)
    simp only [List.map_map] at ih ⊢
    omega
theorem m_join {Q : Value → Shared → Prop} {D : Addr} {vs : List Value} {n : Nat} (hN : News h₀ L s.heap news) (hm : (D, lst0 vs n) ∈ news) (hi : StrsAre vs (((spl 92 92 B).map fun p => joinL [34] (spl 92 34 p)).map lat)) (hz : B.length ≤ 1000)
    (h : ∀ t' k, Q (.str (lat (unesc B)) t') { s with toks := k }) : wpAny (model prog w) A (call (.builtin "str.join") [.str "\\" t, .ref D]) Q E s := by
  refine join_listC (items := vs.toArray) ⟨_, (hN _ hm).1, rfl, _, rfl⟩ (ys := ((spl 92 92 B).map fun p => joinL [34] (spl 92 34 p)).map lat) (by simpa using hi) (by decide) ?_ fun t' k => ?_
  · obtain ⟨h1, h2⟩ := spl_len 92 92 B.length B (Nat.le_refl _)
    have := parts_sum B _ h1
    simp only [List.length_map]
    omega
  · rw [b1, unesc_join]; exact h t' k
theorem strs_get : ∀ {vs : List Value} {ys : List Str} {i : Nat} {v : Value}, StrsAre vs ys → vs[i]? = some v → ∃ y t, ys[i]? = some y ∧ v = .str y t
  | _, _, 0, _, .cons y t r, h => by cases h; exact ⟨y, t, rfl, rfl⟩
  | _, _, i + 1, _, .cons y t r, h => strs_get (i := i) r h
theorem strs_len : ∀ {vs : List Value} {ys : List Str}, StrsAre vs ys → vs.length = ys.length
  | _, _, .nil => rfl
  | _, _, .cons y t r => congrArg (· + 1) (strs_len r)
theorem strs_snoc {y : Str} {t : Tok} : ∀ {vs : List Value} {ys : List Str}, StrsAre vs ys → StrsAre (vs ++ [.str y t]) (ys ++ [y])
  | _, _, .nil => .cons y t .nil
  | _, _, .cons z u r => .cons z u (strs_snoc r)
theorem spl_mem (a b : UInt8) (D : List UInt8) : ∀ q ∈ spl a b D, q.length ≤ D.length := fun q hq => by
  have h := (spl_len a b D.length D (Nat.le_refl _)).1
  have : q.length ≤ ((spl a b D).map (·.length)).sum := by
    generalize spl a b D = l at *
    clear h
    induction l with
    | nil => cases hq
    | cons x r ih =>
      simp only [List.map_cons, List.sum_cons]
      rcases List.mem_cons.mp hq with rfl | hq
      · omega
      · have := ih hq; omega
  omega
theorem comp_txt {env : Env} {elt : Expr} {x : Str} {scope : Scope} {cl : List (Str × Addr)} {S : Led → Prop} {Fin : List Value → Led → Prop} {vs : List Value} {ps : List (List UInt8)} {g : List UInt8 → List UInt8} (hs : StrsAre vs (ps.map lat))
    (turn : ∀ q t ys I oI C oC D m₂ h tk (E' : Value → Shared → Prop), q ∈ ps → LCg.NsObj oC m₂ → m₂ x = some (.str (lat q) t) → Fr h₀ L h m → News h₀ L h ((I, oI) :: (C, oC) :: (D, LCg.lst ys) :: news) → LCg.Off3 I C D news →
      wpAny (model prog w) A (eval elt (compEnvC scope cl C env)) (LCg.CompEnd h₀ L m { s with heap := h, toks := tk } I oI C oC D (LCg.lst ys) S (fun y news' => news' = news ∧ ∃ t, y = .str (lat (g q)) t)) E' { s with heap := h, toks := tk })
    (fin : ∀ ys, StrsAre ys ((ps.map g).map lat) → Fin ys news) : LCg.CompRest prog w A h₀ L m env elt x scope cl s S (fun i v => vs.toArray[i]? = some v) Fin vs.toArray.size 0 [] news := by
  have hn : vs.toArray.size = ps.length := by rw [List.size_toArray, strs_len hs, List.length_map]
  rw [hn]
  refine comp_inv (Iv := fun i ys nw => nw = news ∧ StrsAre ys (((ps.take i).map g).map lat)) ⟨rfl, .nil⟩ ?_ fun ys nw h => ?_
  · intro i v ys nw I oI C oC D m₂ h tk E' hi hv hI hC hx F N off ne
    obtain ⟨rfl, hy⟩ := hI
    obtain ⟨y, t, hy2, rfl⟩ := strs_get hs (by simpa using hv)
    have hq : ps[i]? = some ps[i] := List.getElem?_eq_getElem hi
    rw [List.getElem?_map, hq] at hy2
    cases hy2
    refine wpAny_mono (turn ps[i] t ys I oI C oC D m₂ h tk E' (List.getElem_mem hi) hC hx F N off) (fun y s₂ hq => ?_) fun _ _ e => e
    obtain ⟨h', tk', nw', e, F', N', off', hS, rfl, t', rfl⟩ := hq
    refine ⟨h', tk', _, e, F', N', off', hS, rfl, ?_⟩
    rw [List.take_succ_eq_append_getElem hi, List.map_append, List.map_append]
    exact strs_snoc hy
  · obtain ⟨rfl, h⟩ := h
    rw [List.take_length] at h
    exact fin ys h
end
end Mine
end
section
namespace Mine
section
variable {prog : Program} {w : World} {A : Around} {E : Value → Shared → Prop} {s : Shared} {env : Env} {h₀ : Heap} {target : Expr} {body : List Stmt} {Q : Flow → Shared → Prop}
theorem led_swap {h : Heap} {L : Addr} {a b c : Led} (N : News h₀ L h (a ++ (b ++ c))) : News h₀ L h (b ++ (a ++ c)) := led_to N fun p hp => by
  rcases List.mem_append.mp hp with hp | hp
  · exact List.mem_append.mpr (.inr (List.mem_append.mpr (.inl hp)))
  · rcases List.mem_append.mp hp with hp | hp
    · exact List.mem_append.mpr (.inl hp)
    · exact List.mem_append.mpr (.inr (List.mem_append.mpr (.inr hp)))
theorem turns_led {σ : Type} {I : Addr} {fp : List Addr} {n : Nat} {P Md : Nat → Value → Heap → Prop} {St : Nat → Heap → Prop} {s₂ : Shared} (W : KTurns prog w A target I fp [I] n P Md St) (T : String)
    (J : Nat → σ → Prop) (M : σ → Str → Option Value) (Ld : σ → Led) (rest : Led) (c0 : σ)
    (hLf : env.locals ∉ fp) (hI0 : h₀.get? I = none) (hIr : ∀ p ∈ rest, p.1 ≠ I) (hIf : I ∈ fp) (hSt : ∀ i h, St i h → ∃ o, h.get? I = some o ∧ o.cls = .type T)
    (hcls : ∀ i c, J i c → ∀ p ∈ Ld c, p.2.cls ≠ .type T) (hst : St 0 s₂.heap) (hI1 : ∀ p ∈ Ld c0, p.1 ≠ I)
    (F : Fr h₀ env.locals s₂.heap (M c0)) (N : News h₀ env.locals s₂.heap (Ld c0 ++ rest)) (h0 : J 0 c0)
    (turn : ∀ i v c h tk own (R : Shared → Prop), i < n → P i v h → J i c → (∀ p ∈ Ld c ++ rest, p.1 ≠ I) → (∀ q ∈ own, q.1 ∈ fp) → Fr h₀ env.locals h (M c) → News h₀ env.locals h (Ld c ++ (own ++ rest)) →
      (∀ c' h' tk', J (i + 1) c' → Fr h₀ env.locals h' (M c') → News h₀ env.locals h' (Ld c' ++ (own ++ rest)) → R { s₂ with heap := h', toks := tk' }) →
      wpAny (model prog w) A (assign target env v) (fun _ s₃ => wpAny (model prog w) A (execs body env) (LPost R Q) E s₃) E { s₂ with heap := h, toks := tk })
    (done : ∀ c h tk, J n c → Fr h₀ env.locals h (M c) → News h₀ env.locals h (Ld c ++ rest) → Q .next { s₂ with heap := h, toks := tk }) : TurnsAt prog w A h₀ env target body Q E (.ref I) s₂ := by
  refine ⟨I, fp, [I], n, P, Md, St, M c0, Ld c0 ++ rest, fun i m nw => ∃ c, J i c ∧ m = M c ∧ nw = Ld c ++ rest, rfl, W, hLf, fun b hb => by rw [List.mem_singleton.mp hb]; exact hI0, fun p hp hI => ?_, hst, F, N, ⟨c0, h0, rfl, rfl⟩, ?_, ?_⟩
  · have e := List.mem_singleton.mp hI
    rcases List.mem_append.mp hp with hp | hp
    · exact hI1 p hp e
    · exact hIr p hp e
  · rintro i v m₁ news₁ h₁ tk₁ own hi hP ⟨c, hJ, rfl, rfl⟩ hwr hown1 hown2 hown3 hst₁ F₁ N₁
    obtain ⟨oI, hoI, hcI⟩ := hSt _ _ hst₁
    have hmI := hown3 I hIf hI0 oI hoI
    refine wpAny_mono (turn i v c h₁ tk₁ own (fun s' => LoopStepU h₀ env.locals [I] own (fun m nw => ∃ c, J (i + 1) c ∧ m = M c ∧ nw = Ld c ++ rest) { s₂ with heap := h₁, toks := tk₁ } .next s') hi hP hJ (fun p hp e => hwr p hp (List.mem_singleton.mpr e)) hown1 F₁ (led_swap N₁) ?_) (fun _ s₃ h₃ => wpAny_mono h₃ (fun f s₄ h₄ => ?_) fun _ _ e => e) fun _ _ e => e
    · intro c' h' tk' hJ' F' N'
      refine ⟨rfl, h', tk', M c', Ld c' ++ rest, rfl, F', led_swap N', fun p hp hI => ?_, c', hJ', rfl, rfl⟩
      have e := List.mem_singleton.mp hI
      rcases List.mem_append.mp hp with hp | hp
      · have z1 := (N' p (List.mem_append.mpr (.inl hp))).1
        have z2 := (N' (I, oI) (List.mem_append.mpr (.inr (List.mem_append.mpr (.inl hmI))))).1
        rw [e, z2] at z1
        exact hcls _ _ hJ' p hp (Option.some.inj z1 ▸ hcI)
      · exact hIr p hp e
    · cases f with
      | ret v => exact h₄
      | brk => exact h₄
      | cont => exact h₄
      | next => exact h₄
  · rintro h' tk m' news' F' N' _ ⟨c, hJ, rfl, rfl⟩
    exact done c h' tk hJ F' N'
theorem iter_led {σ : Type} {ax : Addr} {vs : List Value} {na : Nat} (hh : A.handled = none) (J : Nat → σ → Prop) (M : σ → Str → Option Value) (Ld : σ → Led) (rest : Led) (c0 : σ) (hm : (ax, lst0 vs na) ∈ rest)
    (hcls : ∀ i c, J i c → ∀ p ∈ Ld c, p.2.cls ≠ .type "list_iterator") (F : Fr h₀ env.locals s.heap (M c0)) (N : News h₀ env.locals s.heap (Ld c0 ++ rest)) (h0 : J 0 c0)
    (turn : ∀ i v c h tk own (R : Shared → Prop) (I : Addr), (∀ p ∈ Ld c ++ rest, p.1 ≠ I) → (∀ q ∈ own, q.1 = I ∨ q.1 = ax) → vs[i]? = some v → J i c → Fr h₀ env.locals h (M c) → News h₀ env.locals h (Ld c ++ (own ++ rest)) →
      (∀ c' h' tk', J (i + 1) c' → Fr h₀ env.locals h' (M c') → News h₀ env.locals h' (Ld c' ++ (own ++ rest)) → R { s with heap := h', toks := tk' }) →
      wpAny (model prog w) A (assign target env v) (fun _ s₃ => wpAny (model prog w) A (execs body env) (LPost R Q) E s₃) E { s with heap := h, toks := tk })
    (done : ∀ c h tk, J vs.length c → Fr h₀ env.locals h (M c) → News h₀ env.locals h (Ld c ++ rest) → Q .next { s with heap := h, toks := tk }) :
    wpAny (model prog w) A (pyIter (.ref ax)) (fun it s₂ => TurnsAt prog w A h₀ env target body Q E it s₂) E s := by
  have hax := N _ (List.mem_append.mpr (.inr hm))
  have hl : s.heap.IsList ax vs.toArray := ⟨_, hax.1, rfl, _, rfl⟩
  have hlt : ax < s.heap.objs.size := Heap.lt_size hax.1
  have hne : ax ≠ s.heap.objs.size := Nat.ne_of_lt hlt
  have old : ∀ p ∈ Ld c0 ++ rest, p.1 ≠ s.heap.objs.size := fun p hp => Nat.ne_of_lt (Heap.lt_size (N p hp).1)
  have hn : vs.toArray.size = vs.length := List.size_toArray ..
  refine wpAny_pyIter_list hl ?_
  refine turns_led (σ := σ) (KTurns.ofWalks (Walks.list hh s.heap.objs.size ax hne vs.toArray) fun i v s Q E st q => letGo_listiter st.1 q) "list_iterator" J M Ld rest c0 ?_ (next_is_new F) (fun p hp => old p (List.mem_append.mpr (.inr hp))) (List.mem_cons_self ..)
    (fun i h st => by obtain ⟨o, e, c, _⟩ := st.1; exact ⟨o, e, c⟩) hcls ⟨⟨_, Heap.get?_push_size _ rfl, rfl, rfl⟩, hl.at fun o e => Heap.get?_push_of_some _ e⟩ (fun p hp => old p (List.mem_append.mpr (.inl hp))) (F.push _) (fun p hp => ⟨Heap.get?_push_of_some _ (N p hp).1, (N p hp).2⟩) h0
    (fun i v c h tk own R hi hP hJ hw ho F' N' hR => turn i v c h tk own R _ hw (fun q hq => by simpa using ho q hq) (by simpa using (hP : vs.toArray[i]? = some v)) hJ F' N' hR) (fun c h tk hJ F' N' => done c h tk (hn ▸ hJ) F' N')
  intro hI
  rcases List.mem_cons.mp hI with e | hI
  · exact absurd F.ns.lt (e ▸ Nat.lt_irrefl _)
  · exact hax.2.1 (List.mem_singleton.mp hI).symm
theorem iter_rng {σ : Type} {x : Str} {px : Pos} {r : Addr} {n : Nat} {t u v : Tok} {b : Int} (hb : b = n) (hh : A.handled = none) (J : Nat → σ → Prop) (M : σ → Str → Option Value) (Ld : σ → Led) (rest : Led) (c0 : σ)
    (hr : IsRange s.heap r 0 b 1 t u v) (hn : n ≤ 100000)
    (hcls : ∀ i c, J i c → ∀ p ∈ Ld c, p.2.cls ≠ .type "range_iterator") (F : Fr h₀ env.locals s.heap (M c0)) (N : News h₀ env.locals s.heap (Ld c0 ++ rest)) (h0 : J 0 c0)
    (turn : ∀ i c t h tk own (R : Shared → Prop), i < n → J i c → Fr h₀ env.locals h (M c) → News h₀ env.locals h (Ld c ++ (own ++ rest)) →
      (∀ c' h' tk', J (i + 1) c' → Fr h₀ env.locals h' (M c') → News h₀ env.locals h' (Ld c' ++ (own ++ rest)) → R { s with heap := h', toks := tk' }) →
      wpAny (model prog w) A (assign (.Name x px) env (.int (i : Int) t)) (fun _ s₃ => wpAny (model prog w) A (execs body env) (LPost R Q) E s₃) E { s with heap := h, toks := tk })
    (done : ∀ c h tk, J n c → Fr h₀ env.locals h (M c) → News h₀ env.locals h (Ld c ++ rest) → Q .next { s with heap := h, toks := tk }) :
    wpAny (model prog w) A (pyIter (.ref r)) (fun it s₂ => TurnsAt prog w A h₀ env (.Name x px) body Q E it s₂) E s := by
  subst hb
  have old : ∀ p ∈ Ld c0 ++ rest, p.1 ≠ s.heap.objs.size := fun p hp => Nat.ne_of_lt (Heap.lt_size (N p hp).1)
  have hsz : Builtin.Range.rangeSize 0 (n : Int) 1 = (n : Int) := by
    unfold Builtin.Range.rangeSize
    simp
    omega
  refine wpAny_pyIter_range hr (small_one (by omega) (by omega) (by omega) (by omega)) ?_
  rw [hsz]
  refine turns_led (σ := σ) (KTurns.ofWalks (LCg.range_walks hh 0 n) fun i v s Q E st q => wpAny_pure q) "range_iterator" J M Ld rest c0 ?_ (next_is_new F) (fun p hp => old p (List.mem_append.mpr (.inr hp))) (List.mem_singleton.mpr rfl)
    (fun i h st => ⟨_, st, rfl⟩) hcls ?_ (fun p hp => old p (List.mem_append.mpr (.inl hp))) (F.push _) (fun p hp => ⟨Heap.get?_push_of_some _ (N p hp).1, (N p hp).2⟩) h0
    (fun i v c h tk own R hi hP hJ _ _ F' N' hR => by
      obtain ⟨t', rfl⟩ := hP
      rw [Int.zero_add]
      exact turn i c t' h tk own R hi hJ F' N' hR) done
  · intro hI
    exact absurd F.ns.lt ((List.mem_singleton.mp hI) ▸ Nat.lt_irrefl _)
  · show IsRangeIter _ _ _ _ _
    simpa using Heap.get?_push_size _ rfl
end
end Mine
end
section
namespace Mine
theorem bl_le (l : List UInt8) : bl l ≤ l.length + 1 := by
  induction l with
  | nil => exact Nat.le_refl _
  | cons c r ih =>
    rw [bl, List.length_cons]
    split
    · exact Nat.succ_le_succ (Nat.zero_le _)
    · rw [Nat.add_comm 1]; exact Nat.succ_le_succ ih
structure EndOk (n : Nat) (o : Out) : Prop where
  le : o.st = .sp → o.k ≤ n + 1
  en : o.st ≠ .sp → n + 1 ≤ o.k
  wd : o.st ≠ .wd
  gq : ∀ d, o.st = .qu d → d = 39 ∨ d = 34
  ok : o.st = .sp ∨ o.st = .nn → (∃ w, o.res = .tok w) ∨ o.res = .none
  er : o.res = .noq ∨ o.res = .noe → o.st ≠ .sp ∧ o.st ≠ .nn
theorem EndOk.add {n m k : Nat} {o : Out} (h : EndOk n o) (e : m = n + k) : EndOk m (o.add k) := by
  subst e
  refine ⟨fun q => ?_, fun q => ?_, h.wd, h.gq, h.ok, h.er⟩
  · have := h.le q; show k + o.k ≤ _; rw [Nat.add_comm n k]; exact Nat.add_le_add_left this k
  · have := h.en q; show _ ≤ k + o.k; omega
theorem fin_ok (q : Bool) (tok : List UInt8) : (∃ w, fin' q tok = .tok w) ∨ fin' q tok = .none := by
  unfold fin'
  split
  · exact .inr rfl
  · exact .inl ⟨_, rfl⟩
theorem fin_no (q : Bool) (tok : List UInt8) : ¬ (fin' q tok = .noq ∨ fin' q tok = .noe) := by
  rcases fin_ok q tok with ⟨w, h⟩ | h <;> rw [h] <;> rintro (h | h) <;> cases h
theorem end_nn (q : Bool) (tok : List UInt8) : EndOk 0 ⟨fin' q tok, .nn, 1⟩ :=
  ⟨(fun h => nomatch h), fun _ => Nat.le_refl _, (fun h => nomatch h), (fun d h => nomatch h), fun _ => fin_ok q tok, fun h => absurd h (fin_no q tok)⟩
theorem end_sp (q : Bool) (tok : List UInt8) {n k : Nat} (h : k ≤ n + 1) : EndOk n ⟨fin' q tok, .sp, k⟩ :=
  ⟨fun _ => h, fun h => absurd rfl h, (fun h => nomatch h), (fun d h => nomatch h), fun _ => fin_ok q tok, fun h => absurd h (fin_no q tok)⟩
theorem rt_end : ∀ (n : Nat) (D : List UInt8) (st : St) (q : Bool) (tok : List UInt8), D.length ≤ n → (st = .nn → D = []) → (∀ d, st = .qu d → d = 39 ∨ d = 34) → EndOk D.length (rt st q tok D) := by
  intro n
  induction n with
  | zero =>
    intro D st q tok hn h0 hq
    obtain rfl : D = [] := List.eq_nil_of_length_eq_zero (Nat.le_zero.mp hn)
    rw [rt.eq_def]
    cases st <;> dsimp only
    · exact end_nn q tok
    · exact end_nn q tok
    · exact end_nn q tok
    · exact ⟨(fun h => nomatch h), fun _ => Nat.le_refl _, (fun h => nomatch h), fun d h => hq d h, fun h => h.elim (fun h => nomatch h) (fun h => nomatch h), fun _ => ⟨(fun h => nomatch h), (fun h => nomatch h)⟩⟩
    · exact ⟨(fun h => nomatch h), fun _ => Nat.le_refl _, (fun h => nomatch h), (fun d h => nomatch h), fun h => h.elim (fun h => nomatch h) (fun h => nomatch h), fun _ => ⟨(fun h => nomatch h), (fun h => nomatch h)⟩⟩
    · exact ⟨(fun h => nomatch h), fun _ => Nat.le_refl _, (fun h => nomatch h), (fun d h => nomatch h), fun h => h.elim (fun h => nomatch h) (fun h => nomatch h), fun _ => ⟨(fun h => nomatch h), (fun h => nomatch h)⟩⟩
  | succ n ih =>
    intro D st q tok hn h0 hq
    match D, hn, h0 with
    | [], _, _ =>
      rw [rt.eq_def]
      cases st <;> dsimp only
      · exact end_nn q tok
      · exact end_nn q tok
      · exact end_nn q tok
      · exact ⟨(fun h => nomatch h), fun _ => Nat.le_refl _, (fun h => nomatch h), fun d h => hq d h, fun h => h.elim (fun h => nomatch h) (fun h => nomatch h), fun _ => ⟨(fun h => nomatch h), (fun h => nomatch h)⟩⟩
      · exact ⟨(fun h => nomatch h), fun _ => Nat.le_refl _, (fun h => nomatch h), (fun d h => nomatch h), fun h => h.elim (fun h => nomatch h) (fun h => nomatch h), fun _ => ⟨(fun h => nomatch h), (fun h => nomatch h)⟩⟩
      · exact ⟨(fun h => nomatch h), fun _ => Nat.le_refl _, (fun h => nomatch h), (fun d h => nomatch h), fun h => h.elim (fun h => nomatch h) (fun h => nomatch h), fun _ => ⟨(fun h => nomatch h), (fun h => nomatch h)⟩⟩
    | c :: r, hn, h0 =>
      simp only [List.length_cons] at hn ⊢
      have hb := bl_le r
      have one : ∀ st' q' tok', st' ≠ .nn → (∀ d, st' = .qu d → d = 39 ∨ d = 34) → EndOk (r.length + 1) ((rt st' q' tok' r).add 1) := fun st' q' tok' h1 h2 => (ih r st' q' tok' (Nat.le_of_succ_le_succ hn) (fun h => absurd h h1) h2).add rfl
      have line : ∀ q' tok', EndOk (r.length + 1) ((rt .sp q' tok' (r.drop (bl r))).add (1 + bl r)) := fun q' tok' => by
        have h := ih (r.drop (bl r)) .sp q' tok' (by rw [List.length_drop]; exact Nat.le_trans (Nat.sub_le _ _) (Nat.le_of_succ_le_succ hn)) (fun h => by cases h) (fun d h => by cases h)
        rw [List.length_drop] at h
        by_cases e : bl r ≤ r.length
        · exact h.add (by rw [Nat.add_comm 1, ← Nat.add_assoc, Nat.sub_add_cancel e])
        · have e2 : bl r = r.length + 1 := Nat.le_antisymm hb (Nat.lt_of_not_le e)
          rw [e2] at h ⊢
          have e3 : r.drop (r.length + 1) = [] := List.drop_eq_nil_of_le (Nat.le_succ _)
          have e4 : (rt .sp q' tok' (r.drop (r.length + 1))).st = .nn := by rw [e3, rt.eq_def]
          refine ⟨fun x => ?_, fun _ => ?_, h.wd, h.gq, h.ok, h.er⟩
          · have x' : (rt .sp q' tok' (r.drop (r.length + 1))).st = .sp := x
            rw [e4] at x'; cases x'
          · show _ ≤ 1 + (r.length + 1) + _; rw [Nat.add_comm 1]; exact Nat.le_add_right _ _
      rw [rt.eq_def]
      cases st <;> dsimp only
      · exact absurd (h0 rfl) (List.cons_ne_nil _ _)
      · split
        · exact one _ _ _ (fun h => nomatch h) (fun d h => nomatch h)
        split
        · exact line _ _
        split
        · exact one _ _ _ (fun h => nomatch h) (fun d h => nomatch h)
        split
        · rename_i hc
          exact one _ _ _ (by intro h; cases h) (fun d h => by cases h; exact qu_of hc)
        · exact one _ _ _ (fun h => nomatch h) (fun d h => nomatch h)
      · split
        · exact end_sp _ _ (by omega)
        split
        · exact end_sp _ _ (by omega)
        split
        · rename_i hc
          exact one _ _ _ (by intro h; cases h) (fun d h => by cases h; exact qu_of hc)
        split
        · exact one _ _ _ (fun h => nomatch h) (fun d h => nomatch h)
        · exact one _ _ _ (fun h => nomatch h) (fun d h => nomatch h)
      · repeat' split
        all_goals first
          | exact one _ _ _ (by intro h; cases h) (fun d' h => by cases h; exact hq _ rfl)
          | exact one _ _ _ (by intro h; cases h) (fun d' h => by cases h)
      · exact one _ _ _ (fun h => nomatch h) (fun d h => nomatch h)
      · repeat' split
        all_goals exact one _ _ _ (by intro h; cases h) (fun d h => by cases h; exact .inr rfl)
end Mine
end
section
namespace Mine
theorem rest_next {fr : List Fm} {b : Bool} {n : Ns2} {t : Nat} {st : St} {tok tok' : List UInt8} {O : Out} (r : Rest fr b n st tok) (ab : Abs fr n t) (hO : rt st false tok ((txt b fr).drop (n b)) = O)
    (hk : (∃ w, O.res = .tok w) ∨ O.res = .none → tok' = []) (hl : tok'.length ≤ 2 * goN fr n b O.k b) : Rest fr b (goN fr n b O.k) O.st tok' := by
  subst hO
  have h := rt_end _ ((txt b fr).drop (n b)) st false tok (Nat.le_refl _) (fun h => r.en (by rw [h]; exact fun q => nomatch q)) r.gq
  refine ⟨fun q => hk (h.ok q), fun q => ?_, h.wd, h.gq, hl⟩
  rw [drop_go]
  have := h.en q
  exact List.drop_eq_nil_of_le (by omega)
theorem rest_other {fr : List Fm} {b c : Bool} {n : Ns2} {st : St} {tok : List UInt8} (r : Rest fr c n st tok) (h : c ≠ b) (k : Nat) : Rest fr c (goN fr n b k) st tok := by
  have e : goN fr n b k c = n c := by
    show (if c = b then _ else n c) = _
    rw [if_neg h]
  exact ⟨r.sp, fun q => by rw [e]; exact r.en q, r.wd, r.gq, by rw [e]; exact r.tl⟩
theorem need_at {b : Bool} {fr : List Fm} {i p : Nat} (hi : i < fr.length) (h1 : (txt b (fr.take i)).length < p) (h2 : p ≤ (txt b (fr.take (i + 1))).length) : need b fr p = i + 1 := by
  obtain ⟨_, c, d, e⟩ := reach_spec b fr (p - 1) fr.length 0
  unfold need
  generalize reach b fr (p - 1) fr.length 0 = r at *
  rcases Nat.lt_trichotomy r (i + 1) with g | g | g
  · have h3 := e (by rw [Nat.zero_add]; exact Nat.lt_of_lt_of_le g hi)
    have h4 := txt_mono b fr (Nat.le_of_lt_succ g)
    exact absurd (Nat.lt_of_lt_of_le h3 (Nat.le_trans h4 (Nat.le_sub_one_of_lt h1))) (Nat.lt_irrefl _)
  · exact g
  · exact absurd (Nat.le_trans h2 (d (i + 1) (Nat.zero_le _) g)) (Nat.not_le.mpr (Nat.sub_lt (Nat.lt_of_le_of_lt (Nat.zero_le _) h1) Nat.one_pos))
theorem need_place {b : Bool} {fr : List Fm} {p k : Nat} (hp : p ≤ (txt b fr).length + 1) (hk : 1 ≤ k) : need b fr (min p (txt b fr).length + k) = need b fr (min (p + k) ((txt b fr).length + 1)) := by
  by_cases h : p + k ≤ (txt b fr).length
  · rw [Nat.min_eq_left (Nat.le_trans (Nat.le_add_right p k) h), Nat.min_eq_left (Nat.le_succ_of_le h)]
  · rw [need_all b fr _ (by omega), need_all b fr _ (by omega)]
theorem clamp_place {T p k : Nat} : min (min p T + k) T = min (min (p + k) (T + 1)) T := by
  rw [Nat.min_assoc (p + k), Nat.min_eq_right (Nat.le_succ T)]
  rcases Nat.le_total p T with h | h
  · rw [Nat.min_eq_left h]
  · rw [Nat.min_eq_right h, Nat.min_eq_right (Nat.le_add_right T k), Nat.min_eq_right (Nat.le_trans h (Nat.le_add_right p k))]
noncomputable def octs (fr : List Fm) : Nat := (fr.map fun f => 2 + f.2.length).sum
theorem encF_len : ∀ (fr : List Fm), (encF fr).length = octs fr
  | [] => rfl
  | f :: r => by
    have := encF_len r
    simp only [encF, octs, List.length_cons, List.length_append, List.map_cons, List.sum_cons] at *
    omega
end Mine
end
section
namespace Mine
open LCg
section
variable {prog : Program} {w : World} {A : Around} {E : Value → Shared → Prop} {s : Shared} {h₀ : Heap} {L : Addr} {m : Str → Option Value} {env : Env}
noncomputable def TurnT (prog : Program) (w : World) (A : Around) (h₀ : Heap) (L : Addr) (m : Str → Option Value) (env : Env) (elt : Expr) (x : Str) (scope : Scope) (cl : List (Str × Addr)) (s : Shared) (news : Led) (vs : List Value) (Iv : Nat → List Value → Prop) : Prop :=
  ∀ i v ys I oI C oC D m₂ h tk (E' : Value → Shared → Prop), vs[i]? = some v → Iv i ys → NsObj oC m₂ → m₂ x = some v → Fr h₀ L h m → News h₀ L h ((I, oI) :: (C, oC) :: (D, lst ys) :: news) → Off3 I C D news → 0 < tk →
    wpAny (model prog w) A (eval elt (compEnvC scope cl C env)) (fun y s₂ => ∃ h' tk', s₂ = { s with heap := h', toks := tk' } ∧ Fr h₀ L h' m ∧ News h₀ L h' ((I, oI) :: (C, oC) :: (D, lst ys) :: news) ∧ Iv (i + 1) (ys ++ [y])) E' { s with heap := h, toks := tk }
noncomputable def SrcT (prog : Program) (w : World) (A : Around) (h₀ : Heap) (L : Addr) (m : Str → Option Value) (env : Env) (elt : Expr) (x : Str) (scope : Scope) (cl : List (Str × Addr)) (Q : Value → Shared → Prop) (xv : Value) (s₁ : Shared) : Prop :=
  ∃ ax vs n news Iv, xv = .ref ax ∧ A.handled = none ∧ Fr h₀ L s₁.heap m ∧ News h₀ L s₁.heap news ∧ (ax, lst0 vs n) ∈ news ∧ vs.length ≤ sizeLine ∧ Iv 0 [] ∧
    TurnT prog w A h₀ L m env elt x scope cl s₁ news vs Iv ∧ ∀ ys D h tk, Iv vs.length ys → Fr h₀ L h m → News h₀ L h ((D, lst ys) :: news) → Q (.ref D) { s₁ with heap := h, toks := tk }
theorem turnT_heap {elt : Expr} {x : Str} {scope : Scope} {cl : List (Str × Addr)} {news : Led} {vs : List Value} {Iv : Nat → List Value → Prop} {g : Heap} (T : TurnT prog w A h₀ L m env elt x scope cl s news vs Iv) : TurnT prog w A h₀ L m env elt x scope cl { s with heap := g } news vs Iv :=
  fun i v ys I oI C oC D m₂ h tk E' hv hI hC hx F N off h0 => T i v ys I oI C oC D m₂ h tk E' hv hI hC hx F N off h0
theorem eEv : Nonempty (Env) := ⟨(default : Env)⟩
theorem eXx : Nonempty (Expr) := ⟨(default : Expr)⟩
theorem eIv : Nonempty (Nat → List Value → Prop) := ⟨(fun _ _ => True : Nat → List Value → Prop)⟩
theorem ePs : Nonempty (Pos) := ⟨(default : Pos)⟩
theorem ePg : Nonempty (Program) := ⟨(default : Program)⟩
theorem eRR : Nonempty (Value → Addr → Result → Shared → Prop) := ⟨(fun _ _ _ _ => True : Value → Addr → Result → Shared → Prop)⟩
theorem block_T {elt iter : Expr} {x : Str} {px : Pos} {scope : Scope} {cl : List (Str × Addr)} {pos : Pos} {s₂ : Shared} {I ax : Addr} {vs : List Value} {na : Nat} {news : Led} {Iv : Nat → List Value → Prop} {RR : Value → Addr → Result → Shared → Prop}
    (hh : A.handled = none) (hIx : I ≠ ax) (hm : (ax, lst0 vs na) ∈ news) (hsz : vs.length ≤ sizeLine) (hI : s₂.heap.IsListIter I ax 0) (hIs : I < s₂.heap.objs.size)
    (hcell : ∀ y ∈ scope.names, y.2 ≠ .cell) (hkind : scope.kind = .function) (hx : scope.names.lookup x = some .local)
    (F : Fr h₀ L s₂.heap m) (N : News h₀ L s₂.heap news) (hIL : L ≠ I) (hI₀ : h₀.get? I = none) (off : ∀ p ∈ news, p.1 ≠ I) (hi0 : Iv 0 []) (T : TurnT prog w A h₀ L m env elt x scope cl s₂ news vs Iv)
    (hRR : ∀ D C h tk m' ys, Iv vs.length ys → Fr h₀ L h m → News h₀ L h ((D, lst ys) :: news) → h.Ns C m' → h₀.get? C = none → C ≠ L → C ≠ D → (∀ p ∈ news, p.1 ≠ C) → RR (.ref D) C (.ok .next) { s₂ with heap := h, toks := tk }) :
    wpAny (model prog w) A (newList []) (fun acc s₃ => wpAny (model prog w) A (newFunctionEnv scope env.globals cl [] env.qual none .none (some env)) (fun cenv s₄ =>
      codeAny (model prog w) A (.compStart (.ListComp elt [⟨.Name x px, iter, [], 0⟩] scope pos) 0 (.ref I) acc { cenv with scope := relabel scope env }) (RR acc cenv.locals) s₄) E s₃) E s₂ := by
  revert hh hIx hm hsz hI hIs hcell hkind hx F N hIL hI₀ off hi0 T hRR; revert prog w A E h₀ L m env elt iter x px scope cl pos s₂ I ax vs na news Iv RR; (with_reducible refine no_implicit_lambda% (eps8 ePg eW eAr eP2 eH eN eM eEv ?_)); generalize q81 _ = prog, q82 _ = w, q83 _ = A, q84 _ = E, q85 _ = h₀, q86 _ = L, q87 _ = m, q88 _ = env; (with_reducible refine hold8 ?_); (with_reducible refine no_implicit_lambda% (eps8 eXx eXx eS ePs eSc eSA ePs eSh ?_)); generalize q81 _ = elt, q82 _ = iter, q83 _ = x, q84 _ = px, q85 _ = scope, q86 _ = cl, q87 _ = pos, q88 _ = s₂; (with_reducible refine hold8 ?_); (with_reducible refine no_implicit_lambda% (eps7 eN eN eLV eN eL eIv eRR ?_)); generalize q71 _ = I, q72 _ = ax, q73 _ = vs, q74 _ = na, q75 _ = news, q76 _ = Iv, q77 _ = RR; (with_reducible refine hold7 ?_); intro hh hIx hm hsz hI hIs hcell hkind hx F N hIL hI₀ off hi0 T hRR
  refine wpAny_newObj_type (wpAny_newFunctionEnv hcell (by intro y hy; simp at hy) (fun h₁ hns₁ hsb₁ => ?_) hkind)
  dsimp only at hns₁ hsb₁ ⊢
  generalize hH : s₂.heap.push { cls := .type "list", dict := none, data := .seq ([] : List Value).toArray } = H at hns₁ hsb₁ ⊢
  have hC : H.objs.size = s₂.heap.objs.size + 1 := by rw [← hH, Heap.size_push]
  generalize hCC : H.objs.size = C at *
  generalize hDD : s₂.heap.objs.size = D at *
  have hDC : D ≠ C := by rw [hC]; exact Nat.ne_of_lt (Nat.lt_succ_self _)
  have below : ∀ b, b < D → b ≠ C ∧ b ≠ D := fun b hb => ⟨by rw [hC]; exact Nat.ne_of_lt (Nat.lt_succ_of_lt hb), Nat.ne_of_lt hb⟩
  have ltD : ∀ {b o}, s₂.heap.get? b = some o → b < D := fun e => hDD ▸ Heap.lt_size e
  have old : ∀ b o, s₂.heap.get? b = some o → h₁.get? b = some o := fun b o e => hsb₁.extBut b o (below b (ltD e)).1 (Heap.get?_push_of_some _ (hH ▸ Heap.get?_push_of_some _ e))
  have hacc : h₁.get? D = some (lst []) := hsb₁.extBut _ _ hDC (Heap.get?_push_of_some _ (hH ▸ hDD ▸ Heap.get?_push_size _ rfl))
  have fresh₀ : ∀ a, D ≤ a → h₀.get? a = none := fun a ha => by
    cases e : h₀.get? a with
    | none => rfl
    | some o => exact absurd (ltD (F.keep a o e)) (Nat.not_lt.mpr ha)
  have hD₀ := fresh₀ D (Nat.le_refl _)
  have hC₀ : h₀.get? C = none := fresh₀ _ (by rw [hC]; exact Nat.le_succ _)
  have hLlt : L < D := hDD ▸ F.ns.lt
  have hDL : D ≠ L := Ne.symm (below L hLlt).2
  have hCL : C ≠ L := Ne.symm (below L hLlt).1
  have hIC : I ≠ C := (below I hIs).1
  have hID : I ≠ D := (below I hIs).2
  have offN : ∀ p ∈ news, p.1 ≠ I ∧ p.1 ≠ C ∧ p.1 ≠ D := fun p hp => ⟨off p hp, below _ (ltD (N p hp).1)⟩
  have haC : ax ≠ C := (offN _ hm).2.1
  have haD : ax ≠ D := (offN _ hm).2.2
  have W := Walks.list (prog := prog) (w := w) hh I ax (Ne.symm hIx) vs.toArray
  have hn : vs.toArray.size = vs.length := List.size_toArray ..
  have loop : ∀ s₃ : Shared, s₃ = { s₂ with heap := h₁, toks := s₂.toks + ([] : List (Str × Value)).length } →
      codeAny (model prog w) A (.compLoop (.ListComp elt [⟨.Name x px, iter, [], 0⟩] scope pos) 0 (.ref I) (.ref D) (compEnvC scope cl C env)) (RR (.ref D) C) s₃ := by
    rintro s₃ rfl
    refine codeAny_compLoop_tests
      (fun k s' => ∃ h' tk i ys m', s' = { s₂ with heap := h', toks := tk } ∧ i ≤ vs.length ∧ k = vs.length + 1 - i ∧ ys.length = i ∧ h'.IsListIter I ax i ∧ Fr h₀ L h' m ∧ h'.Ns C m' ∧ News h₀ L h' ((D, lst ys) :: news) ∧ Iv i ys) ?_ (vs.length + 1)
      ⟨h₁, _, 0, [], _, rfl, Nat.zero_le _, rfl, rfl, ?_, F.keeps old, hns₁, fun p hp => ?_, hi0⟩
    · rintro k s' ⟨h', tk, i, ys, m', rfl, hi, rfl, hyl, hit, F', hn', N', hI'⟩
      have Nn : News h₀ L h' news := fun p hp => N' p (List.mem_cons_of_mem _ hp)
      have hls : h'.IsList ax vs.toArray := ⟨_, (Nn _ hm).1, rfl, _, rfl⟩
      by_cases hlt : i < vs.length
      · refine W.item i _ _ _ (by rw [hn]; exact hlt) ⟨hit, hls⟩ fun v h₂ tk₂ hPv hst₂ hk₂ => ?_
        refine wpAny_assign_Name (wpAny_storeName_local (lookup_relabel_local hx) (hn'.at' fun o e => hk₂ _ o (by simpa using Ne.symm hIC) e) (fun h₃ hn₃ hs₃ => ?_) (by simp [compEnvC, relabel, hkind]))
        refine wpAny_tests_nil ?_
        simp only [if_true]
        have keep3 : ∀ b o, b ≠ C → b ≠ I → h'.get? b = some o → h₃.get? b = some o := fun b o h1 h2 e => hs₃.extBut b o h1 (hk₂ b o (by simpa using h2) e)
        obtain ⟨oI, heI, hoI⟩ := hst₂.1
        obtain ⟨oC, heC, hoC⟩ := ns_obj hn₃
        have heI₃ : h₃.get? I = some oI := hs₃.extBut _ _ hIC heI
        have F₃ : Fr h₀ L h₃ m := (fr_but F' hk₂ hIL hI₀).change hs₃ hCL hC₀
        have N₃ : News h₀ L h₃ ((I, oI) :: (C, oC) :: (D, lst ys) :: news) := fun p hp => by
          rcases List.mem_cons.mp hp with rfl | hp
          · exact ⟨heI₃, Ne.symm hIL, hI₀⟩
          · rcases List.mem_cons.mp hp with rfl | hp
            · exact ⟨heC, hCL, hC₀⟩
            · have z := N' p hp
              refine ⟨?_, z.2⟩
              rcases List.mem_cons.mp hp with rfl | hp
              · exact keep3 _ _ hDC (Ne.symm hID) z.1
              · exact keep3 _ _ (offN p hp).2.1 (offN p hp).1 z.1
        refine wpAny_mono (T i v ys I oI C oC D _ h₃ (tk₂ + 1) _ (by simpa using hPv) hI' hoC (by simp) F₃ N₃ (Off3.of offN) (Nat.succ_pos _)) (fun y s₄ h₄ => ?_) fun _ _ e => e
        obtain ⟨h₄, tk₄, rfl, F₄, N₄, hI₄⟩ := h₄
        have zI := (N₄ (I, oI) List.mem_cons_self).1
        have zC := (N₄ (C, oC) (List.mem_cons_of_mem _ List.mem_cons_self)).1
        have N₄' : News h₀ L h₄ ((D, lst ys) :: news) := fun p hp => N₄ p (List.mem_cons_of_mem _ (List.mem_cons_of_mem _ hp))
        have zD := (N₄' (D, lst ys) List.mem_cons_self).1
        refine append_at (hsz := by show ys.toArray.size ≤ sizeLine; rw [List.size_toArray, hyl]; exact Nat.le_trans hi hsz) zD fun h₅ hs₅ hD₅ => ?_
        refine ⟨vs.length + 1 - (i + 1), Nat.sub_lt_sub_left (Nat.lt_succ_of_lt ‹i < vs.length›) (Nat.lt_succ_self _), h₅, tk₄, i + 1, ys ++ [y], _, rfl, hlt, rfl, by rw [List.length_append, List.length_singleton, hyl], ⟨oI, hs₅.extBut _ _ hID zI, hoI⟩, F₄.change hs₅ hDL hD₀,
          (hoC.ns zC).sameBut hs₅ (Ne.symm hDC), fun p hp => ?_, hI₄⟩
        rcases List.mem_cons.mp hp with rfl | hp
        · exact ⟨hD₅.trans (congrArg some (lst_snoc ys y)), hDL, hD₀⟩
        · exact ⟨hs₅.extBut _ _ (offN p hp).2.2 (N₄' p (List.mem_cons_of_mem _ hp)).1, (N₄' p (List.mem_cons_of_mem _ hp)).2⟩
      · obtain rfl : i = vs.length := Nat.le_antisymm hi (Nat.not_lt.mp hlt)
        refine W.done _ _ _ (by rw [hn]; exact ⟨hit, hls⟩) fun h₂ tk₂ hk₂ => ?_
        exact hRR _ _ h₂ tk₂ _ ys hI' (fr_but F' hk₂ hIL hI₀) (news_but N' hk₂ fun p hp => by
          rcases List.mem_cons.mp hp with rfl | hp
          · exact Ne.symm hID
          · exact (offN p hp).1) (hn'.at' fun o e => hk₂ _ o (by simpa using Ne.symm hIC) e) hC₀ hCL (Ne.symm hDC) fun p hp => (offN p hp).2.1
    · obtain ⟨oI, e, r⟩ := hI
      exact ⟨oI, old _ _ e, r⟩
    · rcases List.mem_cons.mp hp with rfl | hp
      · exact ⟨hacc, hDL, hD₀⟩
      · exact ⟨old _ _ (N p hp).1, (N p hp).2⟩
  have hst : s₂.heap.IsListIter I ax 0 ∧ s₂.heap.IsList ax vs.toArray := ⟨hI, ⟨_, (N _ hm).1, rfl, _, rfl⟩⟩
  have hst₁ : h₁.IsListIter I ax 0 ∧ h₁.IsList ax vs.toArray := by
    refine ⟨?_, ?_⟩
    · obtain ⟨o, e, r⟩ := hst.1; exact ⟨o, old _ _ e, r⟩
    · obtain ⟨o, e, r⟩ := hst.2; exact ⟨o, old _ _ e, r⟩
  exact codeAny_compStart_list (loop _ rfl) (W.self 0 _ _ _ hst₁ (loop _ rfl))
theorem ListComp_T {elt iter : Expr} {x : Str} {px : Pos} {scope : Scope} {cl : List (Str × Addr)} {pos : Pos} {Q : Value → Shared → Prop} (_F₀ : Fr h₀ L s.heap m)
    (hclos : closureFor scope env = pure cl) (hcell : ∀ y ∈ scope.names, y.2 ≠ .cell) (hkind : scope.kind = .function)
    (hnames : ∀ y ∈ scope.names, y.2 = .local → scope.names.lookup y.1 = some .local) (hx : scope.names.lookup x = some .local)
    (h : wpAny (model prog w) A (eval iter env) (SrcT prog w A h₀ L m env elt x scope cl Q) E s)
    (hs : ∀ x, foldedSetIterable iter env x = pure x := by intro _; rfl) :
    wpAny (model prog w) A (eval (.ListComp elt [⟨.Name x px, iter, [], 0⟩] scope pos) env) Q E s := by
  rw [eval_ListComp]
  refine wpAny_comprehension_free (use := none) rfl hs hclos hkind hnames (wpAny_mono h (fun xv s₁ h₁ => ?_) fun _ _ e => e)
  obtain ⟨ax, vs, na, news, Iv, rfl, hh, F, N, hm, hsz, hi0, T, fin⟩ := h₁
  have hl : s₁.heap.IsList ax vs.toArray := ⟨_, (N _ hm).1, rfl, _, rfl⟩
  have hlt : ax < s₁.heap.objs.size := Heap.lt_size (N _ hm).1
  refine wpAny_pyIter_list hl ?_
  have up : ∀ b o, s₁.heap.get? b = some o → (s₁.heap.push { cls := .type "list_iterator", data := .fields #[.ref ax, .int 0 0] }).get? b = some o := fun b o e => Heap.get?_push_of_some _ e
  refine block_T hh (Ne.symm (Nat.ne_of_lt hlt)) hm hsz ⟨_, Heap.get?_push_size _ rfl, rfl, rfl⟩ (by show _ < (s₁.heap.push _).objs.size; rw [Heap.size_push]; exact Nat.lt_succ_self _) hcell hkind hx (F.keeps up) (N.grown up) (Nat.ne_of_lt F.ns.lt) (next_is_new F) (fun p hp => Nat.ne_of_lt (Heap.lt_size (N p hp).1)) hi0 (turnT_heap T) ?_
  intro D C h tk m' ys hI F' N' hn hC₀ hCL hCD offC
  refine ⟨m', hn, fun h'' hs'' => fin ys D h'' tk hI (F'.change hs'' hCL hC₀) fun p hp => ?_⟩
  refine ⟨hs''.extBut _ _ ?_ (N' p hp).1, (N' p hp).2⟩
  rcases List.mem_cons.mp hp with rfl | hp
  · exact Ne.symm hCD
  · exact offC p hp
theorem srcT_txt {elt : Expr} {x : Str} {scope : Scope} {cl : List (Str × Addr)} {Q : Value → Shared → Prop} {ax : Addr} {vs : List Value} {n : Nat} {news : Led} {s₁ : Shared} {ps : List (List UInt8)} (g : List UInt8 → List UInt8)
    (hh : A.handled = none) (F : Fr h₀ L s₁.heap m) (N : News h₀ L s₁.heap news) (hm : (ax, lst0 vs n) ∈ news) (hs : StrsAre vs (ps.map lat)) (hsz : vs.toArray.size ≤ sizeLine)
    (turn : ∀ q t ys I oI C oC D m₂ h tk (E' : Value → Shared → Prop), q ∈ ps → NsObj oC m₂ → m₂ x = some (.str (lat q) t) → Fr h₀ L h m → News h₀ L h ((I, oI) :: (C, oC) :: (D, lst ys) :: news) → 0 < tk →
      wpAny (model prog w) A (eval elt (compEnvC scope cl C env)) (fun y s₂ => ∃ h' tk', s₂ = { s₁ with heap := h', toks := tk' } ∧ Fr h₀ L h' m ∧ News h₀ L h' ((I, oI) :: (C, oC) :: (D, lst ys) :: news) ∧ ∃ t, y = .str (lat (g q)) t) E' { s₁ with heap := h, toks := tk })
    (fin : ∀ ys D h tk, StrsAre ys ((ps.map g).map lat) → Fr h₀ L h m → News h₀ L h ((D, lst ys) :: news) → Q (.ref D) { s₁ with heap := h, toks := tk }) :
    SrcT prog w A h₀ L m env elt x scope cl Q (.ref ax) s₁ := by
  have hn : vs.length = ps.length := by rw [strs_len hs, List.length_map]
  refine ⟨ax, vs, n, news, fun i ys => StrsAre ys (((ps.take i).map g).map lat), rfl, hh, F, N, hm, by simpa using hsz, .nil, ?_, fun ys D h tk hI F' N' => fin ys D h tk ?_ F' N'⟩
  · intro i v ys I oI C oC D m₂ h tk E' hv hI hC hx F' N' _ h0
    obtain ⟨y, t, hy2, rfl⟩ := strs_get hs hv
    have hi : i < ps.length := by
      rw [List.getElem?_map] at hy2
      cases e : ps[i]? with
      | none => rw [e] at hy2; cases hy2
      | some q => exact (List.getElem?_eq_some_iff.mp e).1
    have hq : ps[i]? = some ps[i] := List.getElem?_eq_getElem hi
    rw [List.getElem?_map, hq] at hy2
    cases hy2
    refine wpAny_mono (turn ps[i] t ys I oI C oC D m₂ h tk E' (List.getElem_mem hi) hC hx F' N' h0) (fun y s₂ hq => ?_) fun _ _ e => e
    obtain ⟨h', tk', e, F₂, N₂, t', rfl⟩ := hq
    refine ⟨h', tk', e, F₂, N₂, ?_⟩
    show StrsAre _ (((ps.take (i + 1)).map g).map lat)
    rw [List.take_succ_eq_append_getElem hi, List.map_append, List.map_append]
    exact strs_snoc hI
  · have hI : StrsAre ys (((ps.take vs.length).map g).map lat) := hI
    rw [hn, List.take_length] at hI
    exact hI
end
end Mine
end
section
namespace Mine
structure Ft where
  a : Addr
  c : UInt8
  f : List UInt8
  t1 : Tok
  t2 : Tok
  k : Nat
noncomputable def Ft.fm (q : Ft) : Fm := (q.c, q.f)
noncomputable abbrev ftO (q : Ft) : Obj := { cls := .type "tuple", data := .seq #[.int (q.c.toNat : Int) q.t1, .str (lat q.f) q.t2] q.k }
noncomputable def ftL (qs : List Ft) : Led := qs.map fun q => (q.a, ftO q)
noncomputable def ftV (qs : List Ft) : List Value := qs.map fun q => .ref q.a
section
variable {prog : Program} {w : World} {A : Around} {E : Value → Shared → Prop} {s : Shared} {t u : Tok} {h₀ : Heap} {L D : Addr} {vs : List Value} {n k : Nat} {news : Led}
theorem m_lenL {Q : Value → Shared → Prop} (hN : News h₀ L s.heap news) (hm : (D, lst0 vs n) ∈ news) (hk : vs.length = k) (hz : k ≤ 10000) (h : ∀ t' j, Q (.int (k : Int) t') { s with toks := j }) : wpAny (model prog w) A (call (.builtin "len") [.ref D]) Q E s :=
  kun_lenL (items := vs.toArray) ⟨_, (hN _ hm).1, rfl, _, rfl⟩ (by rw [List.size_toArray, hk]) (by omega) (h _ _)
end
structure Nd where
  z : Int
  tz : Tok
  tv : Option Value
structure NdI (b : Bool) (fr : List Fm) (p : Nat) (i : Nat) (c : Nd) : Prop where
  z : c.z = (p : Int) - ((txt b (fr.take i)).length : Int)
  pos : 0 < c.z
theorem kI_eq (a b : Bool) : (kI a == kI b) = (a == b) := by cases a <;> cases b <;> rfl
section
variable {b : Bool} {qs : List Ft} {q : Ft} {i p : Nat}
theorem nd_q (h : i < qs.length) : ∃ q, qs[i]? = some q := ⟨_, List.getElem?_eq_getElem h⟩
theorem nd_v (h : qs[i]? = some q) : (ftV qs).toArray.toList[((i : Nat) : Int).toNat]? = some (.ref q.a) := by
  show ((qs.map fun q => Value.ref q.a))[i]? = _
  rw [List.getElem?_map, h]; rfl
theorem nd_len (hf : FrOk (qs.map Ft.fm)) (h : qs[i]? = some q) : q.f.length ≤ 8 := hf.len q.fm (List.mem_map_of_mem (List.mem_of_getElem? h))
theorem nd_pre {h₀ h : Heap} {L fa : Addr} {o : Obj} {own rest : Led} (N : News h₀ L h ([] ++ (own ++ ((fa, o) :: (ftL qs ++ rest))))) (hq : qs[i]? = some q) : News h₀ L h ((q.a, ftO q) :: (fa, o) :: (own ++ ((fa, o) :: (ftL qs ++ rest)))) := led_to N fun x hx => by
  show x ∈ own ++ ((fa, o) :: (ftL qs ++ rest))
  rcases List.mem_cons.mp hx with rfl | hx
  · exact List.mem_append.mpr (.inr (.tail _ (List.mem_append.mpr (.inl (List.mem_map_of_mem (List.mem_of_getElem? hq))))))
  · rcases List.mem_cons.mp hx with rfl | hx
    · exact List.mem_append.mpr (.inr (.head _))
    · exact hx
theorem nd_rest {h₀ h : Heap} {L : Addr} {a b c : Addr × Obj} {own rest : Led} (N : News h₀ L h (a :: b :: (own ++ (c :: (ftL qs ++ rest))))) : News h₀ L h ([] ++ rest) := led_to N fun x hx => .tail _ (.tail _ (List.mem_append.mpr (.inr (.tail _ (List.mem_append.mpr (.inr hx))))))
theorem nd_back {h₀ h : Heap} {L : Addr} {a b : Addr × Obj} {l : Led} (N : News h₀ L h (a :: b :: l)) : News h₀ L h ([] ++ l) := led_to N fun x hx => .tail _ (.tail _ hx)
theorem nd_rest0 {h₀ h : Heap} {L : Addr} {c : Addr × Obj} {rest : Led} (N : News h₀ L h (c :: (ftL qs ++ rest))) : News h₀ L h ([] ++ rest) := led_to N fun x hx => .tail _ (List.mem_append.mpr (.inr hx))
theorem take_txt (h : qs[i]? = some q) : (txt b ((qs.map Ft.fm).take (i + 1))).length = (txt b ((qs.map Ft.fm).take i)).length + (if odd8 q.c = b then q.f.length else 0) := by
  have hm : (qs.map Ft.fm)[i]? = some q.fm := by rw [List.getElem?_map, h]; rfl
  obtain ⟨hl, he⟩ := List.getElem?_eq_some_iff.mp hm
  rw [List.take_succ_eq_append_getElem hl, txt_append, List.length_append, he]
  congr 1
  have z : txt b [q.fm] = if odd8 q.c = b then q.f else [] := by simp [txt, Ft.fm]
  rw [z]
  split <;> rfl
end
theorem nd_fr {qs : List Ft} {q : Ft} {i : Nat} (hq : qs[i]? = some q) : i < (qs.map Ft.fm).length := by
  rw [List.length_map]; exact (List.getElem?_eq_some_iff.mp hq).1
section
variable {b : Bool} {qs : List Ft} {q : Ft} {i p : Nat} {z : Int} {tz t2 : Tok} {tv tv2 : Option Value}
theorem nd_hit (hJ : NdI b (qs.map Ft.fm) p i ⟨z, tz, tv⟩) (hq : qs[i]? = some q) (hob : odd8 q.c = b) (h : z - (q.f.length : Int) ≤ 0) : (i : Int) + 1 = ((need b (qs.map Ft.fm) p : Nat) : Int) := by
  have h1 := hJ.z
  have h2 := hJ.pos
  have h3 := take_txt (b := b) hq
  dsimp only at h1 h2
  rw [if_pos hob] at h3
  rw [need_at (nd_fr hq) (by omega) (by omega)]
  rfl
theorem nd_go1 (hJ : NdI b (qs.map Ft.fm) p i ⟨z, tz, tv⟩) (hq : qs[i]? = some q) (hob : odd8 q.c = b) (h : ¬ z - (q.f.length : Int) ≤ 0) : NdI b (qs.map Ft.fm) p (i + 1) ⟨z - (q.f.length : Int), t2, tv2⟩ := by
  have h1 := hJ.z
  have h3 := take_txt (b := b) hq
  dsimp only at h1
  rw [if_pos hob] at h3
  exact ⟨by show z - _ = _; omega, by show 0 < z - _; omega⟩
theorem nd_go0 (hJ : NdI b (qs.map Ft.fm) p i ⟨z, tz, tv⟩) (hq : qs[i]? = some q) (hob : ¬ odd8 q.c = b) : NdI b (qs.map Ft.fm) p (i + 1) ⟨z, t2, tv2⟩ := by
  have h1 := hJ.z
  have h2 := hJ.pos
  have h3 := take_txt (b := b) hq
  dsimp only at h1 h2
  rw [if_neg hob] at h3
  exact ⟨by show z = _; omega, h2⟩
theorem nd_end {c : Nd} (hJ : NdI b (qs.map Ft.fm) p qs.length c) : (qs.length : Int) = ((need b (qs.map Ft.fm) p : Nat) : Int) := by
  have h1 := hJ.z
  have h2 := hJ.pos
  rw [List.take_of_length_le (by rw [List.length_map]; exact Nat.le_refl _)] at h1
  obtain ⟨a, c', d, e⟩ := reach_spec b (qs.map Ft.fm) (p - 1) (qs.map Ft.fm).length 0
  have hm := txt_mono b (qs.map Ft.fm) (t := reach b (qs.map Ft.fm) (p - 1) (qs.map Ft.fm).length 0) (u := (qs.map Ft.fm).length) (Nat.le_trans c' (Nat.le_of_eq (Nat.zero_add _)))
  rw [List.take_of_length_le (l := qs.map Ft.fm) (i := (qs.map Ft.fm).length) (Nat.le_refl _)] at hm
  unfold need
  have : reach b (qs.map Ft.fm) (p - 1) (qs.map Ft.fm).length 0 = (qs.map Ft.fm).length := by
    by_cases g : reach b (qs.map Ft.fm) (p - 1) (qs.map Ft.fm).length 0 < 0 + (qs.map Ft.fm).length
    · exact absurd h2 (by rw [h1]; exact Int.not_lt.mpr (Int.sub_nonpos_of_le (Int.ofNat_le.mpr (Nat.le_of_pred_lt (Nat.lt_of_lt_of_le (e g) hm)))))
    · exact (Nat.le_antisymm c' (Nat.le_of_not_lt g)).trans (Nat.zero_add _)
  rw [this, List.length_map]
theorem fr_pair {h₀ h : Heap} {L : Addr} {m m0 : Str → Option Value} {a b : Str} {x y : Option Value} (F : Fr h₀ L h m) (e1 : m a = x) (e2 : m b = y) (r : ∀ k, k ≠ a → k ≠ b → m k = m0 k) :
    Fr h₀ L h (fun k => if k = a then x else if k = b then y else m0 k) := fr_to F fun k => by
  by_cases h1 : k = a
  · rw [if_pos h1, h1, e1]
  · rw [if_neg h1]
    by_cases h2 : k = b
    · rw [if_pos h2, h2, e2]
    · rw [if_neg h2]; exact r k h1 h2
end
section
variable {prog : Program} {w : World} {A : Around} {E : Value → Shared → Prop} {s : Shared} {t u : Tok}
theorem m_eqk {Q : Value → Shared → Prop} {x y : Int} {r : Bool} (e : (x == y) = r) (h : Q (.bool r) s) : wpAny (model prog w) A (compareOp .Eq (.int x t) (.int y u)) Q E s := by
  subst e; exact eq_int h
end
theorem ndI0 {b : Bool} {fr : List Fm} {p : Nat} {tp : Tok} {tv : Option Value} (hp : 1 ≤ p) : NdI b fr p 0 ⟨p, tp, tv⟩ := ⟨by simp [txt], by show (0 : Int) < p; omega⟩
theorem eLF : Nonempty (List Ft) := ⟨([] : List Ft)⟩
theorem needed (w : World) (fa : Addr) (qs : List Ft) (nf : Nat) (b : Bool) (tb : Tok) (p : Nat) (tp : Tok) (hp : 1 ≤ p) (hf : FrOk (qs.map Ft.fm)) :
    CtrP w 839 [.ref fa, .int (kI b) tb, .int p tp] ((fa, lst0 (ftV qs) nf) :: ftL qs) 4 40 (fun v new => new = [] ∧ ∃ t, v = .int ((need b (qs.map Ft.fm) p : Nat) : Int) t) := by
  have hql : qs.length ≤ 32 := by simpa using hf.sz
  have hvl : (ftV qs).length = qs.length := by simp [ftV]
  unfold CtrP
  k_fill
  k_with_none
  k_with "om" => (with_reducible first|assumption|exact rm1 (by assumption) rfl|exact rm2 (by assumption) rfl|exact rm3 (by assumption) rfl|exact rm0 (by assumption)|exact Nat.le_of_lt (by assumption)|exact Nat.le_add_right _ _|exact Nat.lt_succ_self _|exact Nat.le_of_not_lt (by assumption)|exact lt_i (by assumption)|exact nlt_i (by assumption)|exact le_big (by assumption) rfl)
  k_with "k_all" => (first|(first|assumption|exact off_lt (by walk_at "and_last")|exact off_le (by walk_at "and_last") (Nat.le_succ _)|exact off_le (by walk_at "and_last") (Nat.le_add_right _ _)|exact off_le' (by assumption) (Nat.le_refl _)|exact off_le' (by assumption) (Nat.le_succ _)|exact off_le' (by assumption) (Nat.le_add_right _ _)|exact off_le' (by assumption) (Nat.le_succ_of_le (Nat.le_succ _))|exact off_le' (by assumption) (Nat.le_succ_of_le (Nat.le_succ_of_le (Nat.le_succ _))))|fail)
  k_with "k_ne" => (first|(first|assumption|exact Ne.symm (by assumption))|fail)
  k_with "k_upd" => (first|((refine' upd_ap ?ap9 ?ae9 ?st9 ?sk9;(case ap9 => assumption);(case ae9 => exact rfl);(case st9 => walk_at "setn");(case sk9 => first|decide|omega)))|fail)
  k_with "m_enter" => (first|(refine' code_def (by k_asm) (by k_asm) (by k_asm) (by k_asm) (by k_asm) rfl rfl (by first|exact rfl|assumption|fail) (by k_is) (by k_is) (by ktr_room) (by first|exact BindsTo.of_eq rfl|exact binds_K (by k_in) rfl (by k_is) rfl rfl rfl|fail) (by first|(exact locs rfl)|fail) ?_ (by first|exact rfl|fail) (by first|exact rfl|fail) (by first|exact rfl|fail) (by decide);k_whole;intro g' L' h' FG' F' N' B' X' T';(try dsimp only);(try k_lift B');(try k_fold))|(refine' code_defC (by k_asm) (by k_asm) (by k_asm) (by k_asm) (by k_asm) rfl rfl (by first|exact rfl|assumption|fail) (by k_is) (by k_is) (by ktr_room) (by first|exact BindsTo.of_eq rfl|exact binds_K (by k_in) rfl (by k_is) rfl rfl rfl|fail) (by first|exact rfl|fail) (by first|(decide +kernel)|fail) ?_ (by first|exact rfl|fail) (by first|exact rfl|fail) (by first|exact rfl|fail);k_whole;intro g' L' h' tk' cells' FG' F' N' Y' B' X' T' l1;(try k_lt l1);k_cells Y';(try simp only [List.cons_append, List.nil_append] at N');(try dsimp only);(try k_lift B');(try k_fold)))
  k_with "eval Name" => ((k_here;k_dflt (first|(refine' m_local (by first|exact rfl|fail) (by first|exact rfl|fail) (by decide) (by k_asm) (by first|exact rfl|fail) ?_;k_whole)|(refine' m_free (by first|exact rfl|fail) (by first|exact rfl|fail) (by decide) (by decide) (by first|exact rfl|fail) (by k_asm) (by k_mem) (by k_asm) ?_;k_whole)|(refine' m_global (by first|exact rfl|fail) (by first|exact rfl|fail) (by decide) (by first|exact rfl|fail) (by k_asm) (by k_asm) (by k_asm) (by k_is) ?_;k_whole)|(refine' m_builtin (by first|exact rfl|fail) (by first|exact rfl|fail) (by decide) (by first|exact rfl|fail) (by first|exact rfl|fail) (by k_asm) (by k_asm) (by k_asm) (by k_is) (by decide) (by first|(boot_by_name)|fail) ?_;k_whole))))
  k_with "call builtin:len" => ((k_here;(with_reducible show wpAny _ _ (call (Value.builtin "len") [Value.str (lat _) _]) _ _ _);k_dflt (refine' m_lenS (by omega) ?_;k_whole;intro _ _)))
  k_with "exec If" => ((k_here;refine wpAny_If ?_))
  k_with "execs cons" => (((with_reducible refine wpAny_execs_cons ?_);try dsimp only))
  k_with "ite" => ((k_here;k_dflt (first|refine ite_pos (by with_reducible exact rfl) ?_|(with_reducible refine ite_neg Bool.false_ne_true ?_)|(k_closed;first|refine ite_pos (by decide) ?_|refine ite_neg (by decide) ?_)|refine ite_pos (by with_reducible assumption) ?_|refine ite_neg (by with_reducible assumption) ?_|(refine split_dec ?_ ?_ <;> intro hi9))))
  intro hrow mean mg mb dp un gd cn cs a ccd cl outer A₀ base h₀ L m s rest Q E B F X N TQ hk hd hu hret
  simp only [List.cons_append, List.nil_append] at N
  k_with "call builtin:len" => (k_here;(with_reducible show wpAny _ _ (call (Value.builtin "len") [Value.ref _]) _ _ _);k_dflt (refine' m_lenL (by k_asm) (by k_mem) (by first|exact hvl|fail) (by omega) ?_;k_whole;intro _ _))
  k_with "exec For Name Call cons nil" => (k_here;(with_reducible rename Fr _ _ _ _ => Fw0);k_dflt (refine For_turns Fw0 ?_))
  k_with "pyIter ref" => ((with_reducible show wpAny _ _ (pyIter _) (fun _ _ => TurnsAt _ _ _ _ _ _ _ _ _ _ _) _ _);(with_reducible rename Fr _ _ _ _ => Fw);(with_reducible rename News _ _ _ _ => Nw);k_dflt (refine iter_rng (σ := Nd) (n := qs.length) rfl (by rfl) (NdI b (qs.map Ft.fm) p) (fun c => fun y => if y = "place" then some (.int c.z c.tz) else if y = "taken" then c.tv else mp [("place", .int p tp), ("channel", .int (kI b) tb), ("frames", .ref fa)] y) (fun _ => []) ((fa, lst0 (ftV qs) nf) :: (ftL qs ++ rest)) ⟨p, tp, none⟩ (by assumption) (by omega) (fun _ _ _ _ hq => nomatch hq) (fr_add (fr_add Fw (by k_dflt (exact rfl))) (by k_dflt (exact rfl))) Nw (ndI0 hp) ?_ ?_);(intro i c ti h9 tk9 own9 Rr hi9 hJ F9 N9 hR;(obtain ⟨q, hq⟩ := nd_q hi9);(replace N9 := nd_pre N9 hq);(have hv := nd_v hq);(have hz := hJ.z);(have hpos := hJ.pos);(have hql2 := nd_len hf hq);(rcases c with ⟨z, tz, tv⟩);(dsimp only at hz hpos F9);(by_cases hob : odd8 q.c = b);(have hoe : (kI (odd8 q.c) == kI b) = true := (kI_eq ..).trans (beq_iff_eq.mpr hob));rotate_left;(have hoe : (kI (odd8 q.c) == kI b) = false := (kI_eq ..).trans (beq_eq_false_iff_ne.mpr hob)));rotate_left;(intro c9 h9 tk9 hJ F9 N9;(dsimp only [List.nil_append] at N9));rotate_left;all_goals (try k_fold))
  k_with "subscriptTail Name Name ref int" => (k_here;k_dflt (refine' m_sub (by k_asm) (by k_mem) (by first|omega|fail) (by first|omega|fail) hv ?_;k_whole))
  k_with "binaryOp Mod int int" => (k_here;refine m_mod (odd8_fmod _) (by decide) ?_)
  k_with "compareOp Eq int int" => (k_here;(with_reducible refine m_eqk hoe ?_))
  revert hp hf hql hvl hrow B F X N TQ hk hd hu hret; revert w fa qs nf b tb p tp mean mg mb dp un gd cn cs a ccd cl outer A₀ base h₀ L m s rest Q E; refine eps8 eW eN eLF eN eB eN eN eN ?_; generalize q81 _ = w, q82 _ = fa, q83 _ = qs, q84 _ = nf, q85 _ = b, q86 _ = tb, q87 _ = p, q88 _ = tp; refine hold8 ?_; refine eps8 eEx eM eM eN eN eOC eS eSc ?_; generalize q81 _ = mean, q82 _ = mg, q83 _ = mb, q84 _ = dp, q85 _ = un, q86 _ = gd, q87 _ = cn, q88 _ = cs; refine hold8 ?_; refine eps8 eN eV eSA eEn eAr eH eH eN ?_; generalize q81 _ = a, q82 _ = ccd, q83 _ = cl, q84 _ = outer, q85 _ = A₀, q86 _ = base, q87 _ = h₀, q88 _ = L; refine hold8 ?_; refine eps5 eM eSh eL eP2 eP2 ?_; generalize q51 _ = m, q52 _ = s, q53 _ = rest, q54 _ = Q, q55 _ = E; refine hold5 ?_; intro hp hf hql hvl hrow B F X N TQ hk hd hu hret
  refine wpAny_call ?_
  k_dflt (walk_at "m_enter")
  (with_reducible rename Fr _ _ _ _ => Fe9)
  replace Fe9 := fr_mp (l' := [("place", .int p tp), ("channel", .int (kI b) tb), ("frames", .ref fa)]) Fe9 rfl
  repeat' (first | (k_unfold; (try dsimp only)) | walk1 | (dsimp only; walk1) | (dsimp only; with_reducible refine lpost_brk ?_; try dsimp only) | (dsimp only; with_reducible refine lpost_ret ?_; try dsimp only))
  all_goals (try k_data)
  all_goals first
    | (exact hret _ _ _ _ ⟨rfl, _, congrArg (Value.int · _) (nd_hit hJ hq hob (by assumption))⟩ (by assumption) (nd_rest (by assumption)))
    | (exact absurd hpos (Int.not_lt.mpr (by assumption)))
    | (exact lpost_next (hR ⟨z - (q.f.length : Int), _, some (.int i ti)⟩ _ _ (nd_go1 hJ hq hob (by assumption)) (fr_pair (m0 := mp [("place", .int p tp), ("channel", .int (kI b) tb), ("frames", .ref fa)]) (a := ("place" : Str)) (b := ("taken" : Str)) (by assumption) rfl rfl (by intro k h1 h2; simp only [h1, h2, if_false])) (nd_back (by assumption))))
    | (exact lpost_next (hR ⟨z, tz, some (.int i ti)⟩ _ _ (nd_go0 hJ hq hob) (fr_pair (m0 := mp [("place", .int p tp), ("channel", .int (kI b) tb), ("frames", .ref fa)]) (a := ("place" : Str)) (b := ("taken" : Str)) (by assumption) rfl rfl (by intro k h1 h2; simp only [h1, h2, if_false])) (nd_back (by assumption))))
    | (exact hret _ _ _ _ ⟨rfl, _, congrArg (Value.int · _) (nd_end hJ)⟩ (by assumption) (nd_rest0 (by assumption)))
  k_with_none
  k_with "om" => (with_reducible first|assumption|exact rm1 (by assumption) rfl|exact rm0 (by assumption)|exact Nat.le_of_lt (by assumption)|exact Nat.le_add_right _ _|exact Nat.le_add_left _ _|exact Nat.lt_succ_self _|exact Nat.succ_pos _|exact Nat.lt_of_not_le (by assumption)|exact Nat.le_of_not_lt (by assumption)|exact Nat.le_of_not_le (by assumption)|exact Nat.le_of_lt (Nat.lt_of_not_le (by assumption))|exact lt_i (by assumption)|exact nlt_i (by assumption)|exact nneg_i|exact le_big (by assumption) rfl|exact Nat.le_of_succ_le_succ (by assumption)|exact Nat.eq_zero_of_le_zero (by assumption)|exact Nat.add_comm _ _)
end Mine
end
section
namespace Mine
noncomputable def pc : Nat → List UInt8
  | 0 => [97]
  | 1 => [32]
  | 2 => [39]
  | 3 => [34]
  | 4 => [92]
  | 5 => [35]
  | 6 => [10]
  | 7 => [98, 233]
  | 8 => []
  | _ => [61, 9]
noncomputable def frT (N : Nat) : List UInt8 := joinL [] ((List.range 4).map fun i => pc (N / 10 ^ i % 10))
noncomputable def frameOf (N : Nat) : Fm := (UInt8.ofNat (N / 10000 % 256), frT N)
theorem pc_len (d : Nat) : (pc d).length ≤ 2 := by unfold pc; split <;> decide
theorem frT_len (N : Nat) : (frT N).length ≤ 8 := by
  have h0 := pc_len (N / 10 ^ 0 % 10)
  have h1 := pc_len (N / 10 ^ 1 % 10)
  have h2 := pc_len (N / 10 ^ 2 % 10)
  have h3 := pc_len (N / 10 ^ 3 % 10)
  show (pc (N / 10 ^ 0 % 10) ++ [] ++ (pc (N / 10 ^ 1 % 10) ++ [] ++ (pc (N / 10 ^ 2 % 10) ++ [] ++ pc (N / 10 ^ 3 % 10)))).length ≤ 8
  simp only [List.length_append, List.length_nil]
  omega
noncomputable abbrev pcs (t0 t1 t2 t3 t4 t5 t6 t7 t8 t9 : Tok) : List Value := [.str "a" t0, .str " " t1, .str "'" t2, .str "\"" t3, .str "\\" t4, .str "#" t5, .str "\n" t6, .str "bé" t7, .str "" t8, .str "=\t" t9]
theorem pcs_get (t0 t1 t2 t3 t4 t5 t6 t7 t8 t9 : Tok) : ∀ d, d < 10 → ∃ t, (pcs t0 t1 t2 t3 t4 t5 t6 t7 t8 t9)[d]? = some (.str (lat (pc d)) t)
  | 0, _ => ⟨t0, by rw [show lat (pc 0) = ("a" : Str) from by decide]; rfl⟩
  | 1, _ => ⟨t1, by rw [show lat (pc 1) = (" " : Str) from by decide]; rfl⟩
  | 2, _ => ⟨t2, by rw [show lat (pc 2) = ("'" : Str) from by decide]; rfl⟩
  | 3, _ => ⟨t3, by rw [show lat (pc 3) = ("\"" : Str) from by decide]; rfl⟩
  | 4, _ => ⟨t4, by rw [show lat (pc 4) = ("\\" : Str) from by decide]; rfl⟩
  | 5, _ => ⟨t5, by rw [show lat (pc 5) = ("#" : Str) from by decide]; rfl⟩
  | 6, _ => ⟨t6, by rw [show lat (pc 6) = ("\n" : Str) from by decide]; rfl⟩
  | 7, _ => ⟨t7, by rw [show lat (pc 7) = ("bé" : Str) from by decide]; rfl⟩
  | 8, _ => ⟨t8, by rw [show lat (pc 8) = ("" : Str) from by decide]; rfl⟩
  | 9, _ => ⟨t9, by rw [show lat (pc 9) = ("=\t" : Str) from by decide]; rfl⟩
  | n + 10, h => absurd h (by omega)
section
variable {prog : Program} {w : World} {A : Around} {E : Value → Shared → Prop} {s : Shared} {t u : Tok} {h₀ : Heap} {L D : Addr} {m : PySem.Str → Option Value} {news : Led} {value slice : Expr}
theorem m_pow10 {Q : Value → Shared → Prop} : ∀ (i : Nat), i ≤ 4 → (∀ t' k, Q (.int ((10 ^ i : Nat) : Int) t') { s with toks := k }) → wpAny (model prog w) A (binaryOp .Pow (.int 10 t) (.int (i : Int) u)) Q E s
  | 0, _, h => PySem.AutoIntOps.pow_0 (by decide) (by decide) (h _ _)
  | 1, _, h => PySem.AutoIntOps.pow_4 (by decide) (by decide) (by decide) (by decide) (by decide) (h _ _)
  | 2, _, h => PySem.AutoIntOps.pow_4 (by decide) (by decide) (by decide) (by decide) (by decide) (h _ _)
  | 3, _, h => PySem.AutoIntOps.pow_4 (by decide) (by decide) (by decide) (by decide) (by decide) (h _ _)
  | 4, _, h => PySem.AutoIntOps.pow_4 (by decide) (by decide) (by decide) (by decide) (by decide) (h _ _)
  | n + 5, h, _ => absurd h (by omega)
theorem m_fdiv {Q : Value → Shared → Prop} {N D : Nat} {z : Int} (e : z = (D : Int)) (hD : 0 < D) (hs : D < 1000000) (h : ∀ t' k, Q (.int ((N / D : Nat) : Int) t') { s with toks := k }) : wpAny (model prog w) A (binaryOp .FloorDiv (.int (N : Int) t) (.int z u)) Q E s := by
  subst e
  refine floordiv_int (by omega) ?_ (.inl (PyProof.noPylong_small (by omega)))
  rw [Int.fdiv_eq_ediv_of_nonneg _ (by omega), ← Int.natCast_ediv]
  exact h _ _
theorem m_modN {Q : Value → Shared → Prop} {N D : Nat} {z : Int} (e : z = (D : Int)) (hD : 0 < D) (h : ∀ t' k, Q (.int ((N % D : Nat) : Int) t') { s with toks := k }) : wpAny (model prog w) A (binaryOp .Mod (.int (N : Int) t) (.int z u)) Q E s := by
  subst e
  refine mod_int (by omega) ?_
  rw [Int.fmod_eq_emod_of_nonneg _ (by omega), ← Int.natCast_emod]
  exact h _ _
theorem m_piece {Q : Value → Shared → Prop} {P : Addr} {t0 t1 t2 t3 t4 t5 t6 t7 t8 t9 : Tok} {k d : Nat} (hN : News h₀ L s.heap news) (hm : (P, { cls := .type "tuple", data := .seq (pcs t0 t1 t2 t3 t4 t5 t6 t7 t8 t9).toArray k }) ∈ news) (hd : d < 10) (h : ∀ t', Q (.str (lat (pc d)) t') s)
    (hs : subscripted slice false (.ref P) (.int (d : Int) u) = operate [.ref P, .int (d : Int) u] (getItem (.ref P) (.int (d : Int) u)) := by with_unfolding_all rfl) :
    wpAny (model prog w) A (subscriptTail value slice (.ref P) (.int (d : Int) u)) Q E s := by
  obtain ⟨t', e⟩ := pcs_get t0 t1 t2 t3 t4 t5 t6 t7 t8 t9 d hd
  exact item_tupleT (l := pcs t0 t1 t2 t3 t4 t5 t6 t7 t8 t9) ⟨_, (hN _ hm).1, rfl, _, rfl⟩ (by omega) (by omega) (by rw [seqIndex_of (by omega) (by show (d : Int) < 10; omega)]; simp) e (h t') hs
theorem m_join0 {Q : Value → Shared → Prop} {vs : List Value} {n : Nat} {ps : List (List UInt8)} (hN : News h₀ L s.heap news) (hm : (D, lst0 vs n) ∈ news) (hi : StrsAre vs (ps.map lat)) (hz : ((ps.map lat).map (·.length)).sum + ps.length * 64 ≤ 16777216)
    (h : ∀ t' k, Q (.str (lat (joinL [] ps)) t') { s with toks := k }) : wpAny (model prog w) A (call (.builtin "str.join") [.str "" t, .ref D]) Q E s := by
  refine join_listC (items := vs.toArray) ⟨_, (hN _ hm).1, rfl, _, rfl⟩ (ys := ps.map lat) (by simpa using hi) (by decide) (by rw [List.length_map]; exact hz) fun t' k => ?_
  rw [show ("" : Str) = lat [] from by decide, join_lat]
  exact h t' k
theorem comp_rng {env : Env} {elt : Expr} {x : Str} {scope : Scope} {cl : List (Str × Addr)} {S : Led → Prop} {Fin : List Value → Led → Prop} {n : Nat} (g : Nat → List UInt8)
    (turn : ∀ i t ys I oI C oC D m₂ h tk (E' : Value → Shared → Prop), i < n → LCg.NsObj oC m₂ → m₂ x = some (.int (i : Int) t) → Fr h₀ L h m → News h₀ L h ((I, oI) :: (C, oC) :: (D, LCg.lst ys) :: news) → LCg.Off3 I C D news →
      wpAny (model prog w) A (eval elt (compEnvC scope cl C env)) (LCg.CompEnd h₀ L m { s with heap := h, toks := tk } I oI C oC D (LCg.lst ys) S (fun y news' => news' = news ∧ ∃ t, y = .str (lat (g i)) t)) E' { s with heap := h, toks := tk })
    (fin : ∀ ys, StrsAre ys (((List.range n).map g).map lat) → Fin ys news) : LCg.CompRest prog w A h₀ L m env elt x scope cl s S (fun i v => ∃ t, v = .int (0 + (i : Int)) t) Fin n 0 [] news := by
  refine comp_inv (Iv := fun i ys nw => nw = news ∧ StrsAre ys (((List.range i).map g).map lat)) ⟨rfl, .nil⟩ ?_ fun ys nw h => ?_
  · rintro i v ys nw I oI C oC D m₂ h tk E' hi ⟨t, rfl⟩ ⟨rfl, hy⟩ hC hx F N off ne
    rw [Int.zero_add] at hx
    refine wpAny_mono (turn i t ys I oI C oC D m₂ h tk E' hi hC hx F N off) (fun y s₂ hq => ?_) fun _ _ e => e
    obtain ⟨h', tk', nw', e, F', N', off', hS, rfl, t', rfl⟩ := hq
    refine ⟨h', tk', _, e, F', N', off', hS, rfl, ?_⟩
    rw [List.range_succ, List.map_append, List.map_append]
    exact strs_snoc hy
  · obtain ⟨rfl, h⟩ := h
    exact fin ys h
end
end Mine
end
section
namespace Mine
open Builtin
abbrev dqO : Obj := { cls := .type "collections.deque", data := .fields #[.none, rawInt 0] }
theorem noBool_dq : typeLookup (.type "collections.deque") "__bool__" = pure none := by rw [typeLookup_type, builtinLookup_eq_fast]; kernel_rfl
theorem slot_dq_len : Slot "collections.deque" "__len__" "collections.deque.__len__" :=
  .of (owner := "collections.deque") (n := "__len__") (by rw [typeLookup_type, builtinLookup_eq_fast]; kernel_rfl) (by decide +kernel) (by decide +kernel) (by decide +kernel)
    (by first | exact .inl (by decide +kernel) | exact .inr (by decide +kernel)) (by rw [isSubtype_type]; kernel_rfl)
theorem entry_dq_len : entryFor table "collections.deque.__len__" = some Builtin.«collections.deque.__len__» := entryFor_of_fast (by kernel_rfl)
theorem args_dq_len (a : Value) : argsOk "collections.deque.__len__" ⟨[a], []⟩ := by unfold argsOk; kernel_rfl
section
variable {prog : Program} {w : World} {A : Around} {E : Value → Shared → Prop} {s : Shared}
theorem typeIs_dq {l : Addr} (ho : s.heap.get? l = some dqO) : s.TypeIs (.ref l) "collections.deque" :=
  ⟨_, ho, rfl⟩
theorem len_dq_body {l : Addr} {Q : Value → Shared → Prop} (ho : s.heap.get? l = some dqO)
    (h : Q (.int 0 (s.toks + 1)) { s with toks := s.toks + 1 + 1 }) : wpAny (model prog w) A (Builtin.«len» ⟨[.ref l], []⟩) (fun fin s' => ∃ r, fin = .done (.ret r) ∧ Q r s') E s := by
  unfold Builtin.«len»
  refine wpAny_bind (m := oneArg "len" _) (wpAny_pure ?_)
  refine wpAny_bind (m := callSpecial? (.ref l) (Str.ofString "__len__")) (wpAny_callSpecial?_slot (name := Str.ofString "__len__") (typeIs_dq ho) slot_dq_len
    (wpAny_call_entry slot_dq_len (typeIs_dq ho) entry_dq_len ?_ (args_dq_len _)))
  show wpAny _ _ (do retInt (← (do return (← fieldsOf (.ref l)).size - 2))) _ _ s
  refine wpAny_bind (wpAny_bind (wpAny_fieldsOf ho rfl ?_))
  refine wpAny_pure (wpAny_bind (wpAny_mkInt (wpAny_pure ⟨_, rfl, ?_⟩)))
  refine wpAny_bind (wpAny_holding (wpAny_pure ?_))
  refine wpAny_bind (wpAny_letGo ?_)
  show wpAny _ _ (if (((#[Value.none, rawInt 0].size - 2 : Nat)) : Int) < 0 then _ else _) _ _ _
  rw [if_neg (by decide)]
  show wpAny _ _ (if (((#[Value.none, rawInt 0].size - 2 : Nat)) : Int) ≥ 2 ^ 63 then _ else _) _ _ _
  rw [if_neg (by decide)]
  exact wpAny_bind (wpAny_mkInt (wpAny_pure ⟨_, rfl, h⟩))
theorem truthy_dq {l : Addr} {Q : Bool → Shared → Prop} (ho : s.heap.get? l = some dqO) (h : Q false { s with toks := s.toks + 1 + 1 }) : wpAny (model prog w) A (truthy (.ref l)) Q E s := by
  have key : wpAny (model prog w) A (runValue (.builtin "len" ⟨[.ref l], []⟩)) (fun r s' => r = .int 0 (s.toks + 1) ∧ Q false s') E s := by
    refine wpAny_runValue (codeAny_builtin entry_len ?_)
    rw [Around.under_plainId plain_len _]
    exact wpAny_mono (len_dq_body (Q := fun r s' => r = .int 0 (s.toks + 1) ∧ Q false s') ho ⟨rfl, h⟩)
      (fun fin s' h' => by obtain ⟨r, rfl, hq⟩ := h'; exact hq) fun _ _ e => e
  unfold truthy
  first
    | refine wpAny_bind (wpAny_callSpecial?_none (name := Str.ofString "__bool__") (typeIs_dq ho) noBool_dq ?_)
    | refine wpAny_bind (wpAny_pure (wpAny_bind (wpAny_callSpecial?_none (name := Str.ofString "__bool__") (typeIs_dq ho) noBool_dq ?_)))
  first
    | refine wpAny_bind (wpAny_specialOf (name := Str.ofString "__len__") (typeIs_dq ho) slot_dq_len.lookup ?_)
    | refine wpAny_bind (wpAny_pure (wpAny_bind (wpAny_specialOf (name := Str.ofString "__len__") (typeIs_dq ho) slot_dq_len.lookup ?_)))
  first
    | exact wpAny_bind (wpAny_mono key (fun r s' h' => by obtain ⟨rfl, hq⟩ := h'; exact wpAny_pure hq) fun _ _ e => e)
    | exact wpAny_bind (wpAny_pure (wpAny_bind (wpAny_mono key (fun r s' h' => by obtain ⟨rfl, hq⟩ := h'; exact wpAny_pure hq) fun _ _ e => e)))
end
end Mine
end
section
namespace Mine
open Builtin
theorem mro_dq : mroOf (.type "collections.deque") = pure [.type "collections.deque", .type "object"] := by rw [mroOf_type]; kernel_rfl
theorem lookup_dq_new : typeLookup (.type "collections.deque") "__new__" = pure (some (.builtin "collections.deque.__new__")) := by rw [typeLookup_type, builtinLookup_eq_fast]; kernel_rfl
theorem slot_dq_init : Slot "collections.deque" "__init__" "collections.deque.__init__" :=
  .of (owner := "collections.deque") (n := "__init__") (by rw [typeLookup_type, builtinLookup_eq_fast]; kernel_rfl) (by decide +kernel) (by decide +kernel) (by decide +kernel)
    (by first | exact .inl (by decide +kernel) | exact .inr (by decide +kernel)) (by rw [isSubtype_type]; kernel_rfl)
theorem called_dq : TypeCalled "collections.deque" "collections.deque.__new__" "collections.deque.__init__" :=
  ⟨by decide +kernel, by decide +kernel, ⟨_, _, mro_dq⟩, madeBy_type mro_dq lookup_dq_new (by decide +kernel), by decide +kernel, by rw [isSubtype_type]; kernel_rfl, slot_dq_init⟩
theorem typeCall_dq : checkTypeCall "collections.deque" ⟨[], []⟩ = pure () := by kernel_rfl
theorem newCall_dq : checkBuiltinCall "collections.deque.__new__" ⟨[.type "collections.deque"], []⟩ = pure () := by kernel_rfl
theorem entry_dq_new : entryFor table "collections.deque.__new__" = some Builtin.«collections.deque.__new__» := entryFor_of_tree (by kernel_rfl)
theorem entry_dq_init : entryFor table "collections.deque.__init__" = some Builtin.«collections.deque.__init__» := entryFor_of_tree (by kernel_rfl)
theorem plain_dq_new : plainId "collections.deque.__new__" = true := by decide +kernel
theorem sub_dq_self : isSubtype (.type "collections.deque") (.type "collections.deque") = pure true := by rw [isSubtype_type]; kernel_rfl
theorem args_dq_init (a : Value) : argsOk "collections.deque.__init__" ⟨[a], []⟩ := by unfold argsOk; kernel_rfl
theorem newArgs_dq : Deque.newArgs Deque.ty ⟨[.type "collections.deque"], []⟩ = pure (.type "collections.deque", []) := by
  unfold Deque.newArgs Deque.ty
  show (isSubtype (.type "collections.deque") (.type "collections.deque") >>= fun _ => _) = _
  rw [sub_dq_self]
  rfl
theorem new_dq : Deque.new (.type "collections.deque") #[] none = newObj (.type "collections.deque") (.fields #[.none, rawInt 0]) none := by kernel_rfl
theorem new_eq : «collections.deque.__new__» ⟨[.type "collections.deque"], []⟩ = (newObj (.type "collections.deque") (.fields #[.none, rawInt 0]) none >>= fun v => ret v) := by
  show (Deque.newArgs Deque.ty ⟨[.type "collections.deque"], []⟩ >>= fun x => Deque.new x.1 #[] none >>= fun v => ret v) = _
  rw [newArgs_dq]
  show (Deque.new (.type "collections.deque") #[] none >>= fun v => ret v) = _
  rw [new_dq]
section
variable {prog : Program} {w : World} {A : Around} {E : Value → Shared → Prop} {s : Shared}
theorem code_dq_new {Q₁ : Value → Shared → Prop}
    (h : Q₁ (.ref s.heap.objs.size) { s with heap := s.heap.push dqO }) :
    codeAny (model prog w) A (.call (.builtin "collections.deque.__new__") ⟨[.type "collections.deque"], []⟩) (wants Q₁ E) s := by
  refine codeAny_of_tree ?_
  show wpAny _ A.in1 (do checkBuiltinCall "collections.deque.__new__" ⟨[.type "collections.deque"], []⟩; again (.builtin "collections.deque.__new__" ⟨[.type "collections.deque"], []⟩)) _ _ s
  refine wpAny_bind (wpAny_of_eq newCall_dq (wpAny_pure ⟨plainId_quiet plain_dq_new _, codeAny_builtin entry_dq_new ?_⟩))
  rw [Around.under_plainId plain_dq_new _]
  rw [new_eq]
  refine wpAny_bind (wpAny_newObj_type (T := "collections.deque") (data := .fields #[.none, rawInt 0]) (dict := none) ?_ (by size_fits))
  exact wpAny_pure h
theorem call_dq {Q : Value → Shared → Prop} (h : ∀ h', (∀ b o, s.heap.get? b = some o → h'.get? b = some o) → h'.get? s.heap.objs.size = some dqO → h'.objs.size = s.heap.objs.size + 1 → Q (.ref s.heap.objs.size) { s with heap := h' }) : wpAny (model prog w) A (call (.type "collections.deque") []) Q E s := by
  refine callType_codes (Q₁ := fun v s₁ => v = .ref s.heap.objs.size ∧ s₁ = { s with heap := s.heap.push dqO }) called_dq typeCall_dq entry_dq_init (code_dq_new ⟨rfl, rfl⟩) fun obj s₁ he => ?_
  obtain ⟨rfl, rfl⟩ := he
  have hg : (s.heap.push dqO).get? s.heap.objs.size = some dqO := Heap.get?_push_size _ rfl
  refine ⟨⟨_, hg, rfl⟩, args_dq_init _, ?_⟩
  unfold Builtin.«collections.deque.__init__»
  show wpAny (model prog w) A.in1.in1 (setField (.ref s.heap.objs.size) 0 .none >>= fun _ => Deque.clear (.ref s.heap.objs.size) >>= fun _ => ret .none) _ _ _
  refine wpAny_bind (wpAny_setField hg rfl (by decide) ?_)
  have hu : ((s.heap.push dqO).update s.heap.objs.size (Obj.mapFields (·.setIfInBounds 0 .none))).get? s.heap.objs.size = some dqO := Heap.get?_update_self _ hg rfl
  refine wpAny_bind ?_
  unfold Deque.clear Deque.items
  refine wpAny_bind (wpAny_bind (wpAny_fieldsOf hu rfl ?_))
  refine wpAny_pure ?_
  refine wpAny_pure ?_
  refine wpAny_pure ⟨rfl, h _ (fun b o e => ?_) hu ?_⟩
  · have hb : b ≠ s.heap.objs.size := Nat.ne_of_lt (Heap.lt_size e)
    rw [Heap.get?_update_other _ _ hb.symm]
    exact Heap.get?_push_of_some _ e
  · rw [Heap.size_after_update]
    simp [Heap.push]
theorem m_dq {h₀ : Heap} {L : Addr} {m : Str → Option Value} {news : Led} {Q : Value → Shared → Prop} (F : Fr h₀ L s.heap m) (N : News h₀ L s.heap news)
    (h : ∀ D h', Fr h₀ L h' m → News h₀ L h' ((D, dqO) :: news) → (∀ p ∈ news, p.1 < D) → Q (.ref D) { s with heap := h' }) : wpAny (model prog w) A (call (.type "collections.deque") []) Q E s :=
  call_dq fun h' hk hD _ => h _ h' ⟨F.ns.keeps hk, fun b o e => hk b o (F.keep b o e), F.above⟩ (fun q hq => by
    rcases List.mem_cons.mp hq with rfl | hq
    · exact ⟨hD, Nat.ne_of_gt F.ns.lt, Heap.get?_none_of_le (Nat.le_trans F.above (Nat.le_of_lt F.ns.lt))⟩
    · exact ⟨hk _ _ (N q hq).1, (N q hq).2⟩) fun p hp => Heap.lt_size (N p hp).1
end
end Mine
end
section
namespace Mine
def CtrN (w : World) (f : Addr) (vs : List Value) (own : Led) (D U : Nat) (post : Value → Led → Led → Prop) : Prop :=
  PySem.Challenge.rw_in0150_01 = PySem.Challenge.rw_in0150_01 → ∀ (mean : ExcName → Option Value) (mg mb : Str → Option Value) (dp un : Nat) (gd : Option (List Code)) (cn : Str) (cs : Scope) (a : Addr) (ccd : Value) (cl : List (Str × Addr)) (outer : List Env) (A₀ : Around)
    (base h₀ : Heap) (L : Addr) (m : Str → Option Value) (s : Shared) (rest : Led) (na : Nat) (Q E : Value → Shared → Prop),
    Below A₀ base outer h₀ → Fr h₀ L s.heap m → (K w.params).In h₀ → News h₀ L s.heap (own ++ rest) → ApN na (own ++ rest) → own.length ≤ na → TopQ mean mg mb h₀ → CodeHd base 805 801 → CodeHd base 777 775 → cs.kind = .function → dp + D < recursionLimit → un + U < cLine →
    (∀ v own' new h' tk', post v own' new → Fr h₀ L h' m → News h₀ L h' (new ++ own' ++ rest) → ApN (new.length + na) (new ++ own' ++ rest) → Q v { s with heap := h', toks := tk' }) →
    wpAny (model P0 w) (ktrTop dp un gd cn cs L a ccd cl outer) (call (.ref f) vs) Q E s
theorem apn_cast {a b : Nat} {l l' : Led} (h : ApN a l) (e : a = b) (el : l.map (·.1) = l'.map (·.1)) : ApN b l' := e ▸ h.to el
abbrev tab2 (k1 k2 : Addr) : Array Value := #[rawInt 779, rawInt 18, .ref k1, rawInt 780, rawInt 22, .ref k2]
structure SrcOk (sx ha : Addr) (b : Bool) (tkc : Tok) (ok1 ok2 oC oH oT : Obj) (vs1 vs2 : Array Value) (t2 t3 : Tok) : Prop where
  k1 : ok1.data = .fields vs1
  w1 : vs1[1]? = some (.str "_law_lexer.<locals>.<lambda>" t2)
  k2 : ok2.data = .fields vs2
  w2 : vs2[1]? = some (.str "_law_lexer.<locals>.<lambda>" t3)
  c : oC.data = .cell (some (.int (kI b) tkc))
  h : oH.data = .cell (some (.ref ha))
  t : oT.data = .cell (some (.ref sx))
abbrev lamR (qc qh qs : Addr) (pm : Value) (k : Addr) (ct : Value) : Obj := lamO (lamE (stN P0.main.body 31) 1) "_law_lexer.<locals>.<lambda>" [("stream", qs), ("held", qh), ("channel", qc)] pm k ct
abbrev lamL (qc qh qs : Addr) (pm : Value) (k : Addr) (ct : Value) : Obj := lamO (lamE (stN P0.main.body 31) 2) "_law_lexer.<locals>.<lambda>" [("stream", qs), ("held", qh), ("channel", qc)] pm k ct
abbrev sclO (P : Params) (f1 f2 : Addr) (b : Bool) (tkc s1 s2 s3 : Tok) : Obj := dictOf [en P "value" s1 (.int (kI b) tkc), en P "read" s2 (.ref f1), en P "readline" s3 (.ref f2)] 3
theorem ap_one {n : Nat} {l0 news : Led} {d : Addr} (l : ∀ p ∈ news, @LT.lt Nat _ p.1 d) (h : ApN n l0) (e : l0.map (·.1) = news.map (·.1)) (o : Obj) : ApN (n + 1) ((d, o) :: news) :=
  ⟨fun q hq => Nat.ne_of_lt (l q hq), h.to e⟩
theorem ap_two {n : Nat} {l0 news : Led} {d x : Addr} (l : ∀ p ∈ news, @LT.lt Nat _ p.1 d) (l2 : @LT.lt Nat _ d x) (h : ApN n l0) (e : l0.map (·.1) = news.map (·.1)) (o o' : Obj) : ApN (n + 2) ((x, o) :: (d, o') :: news) :=
  ⟨fun q hq => by
    rcases List.mem_cons.mp hq with rfl | hq
    · exact Nat.ne_of_lt l2
    · exact Nat.ne_of_lt (Nat.lt_trans (l q hq) l2), ap_one l h e o'⟩
theorem ap_cells3 {n : Nat} {l0 news : Led} {L : Addr} (l : ∀ p ∈ news, @LT.lt Nat _ p.1 L) (h : ApN n l0) (e : l0.map (·.1) = news.map (·.1)) (o1 o2 o3 : Obj) : ApN (n + 3) ((L + 1 + 1 + 1, o1) :: (L + 1 + 1, o2) :: (L + 1, o3) :: news) :=
  ap_two (fun q hq => by
    rcases List.mem_cons.mp hq with rfl | hq
    · exact Nat.lt_succ_self (L + 1)
    · exact Nat.lt_succ_of_lt (Nat.lt_succ_of_lt (l q hq))) (Nat.lt_succ_self (L + 1 + 1)) (ap_one (fun q hq => Nat.lt_succ_of_lt (l q hq)) h e o3) rfl o1 o2
inductive SetF (d : Addr) (o : Obj) : Nat → Led → (Obj → Led) → Prop
  | head {r : Led} : SetF d o 0 ((d, o) :: r) (fun o' => (d, o') :: r)
  | tail {k : Nat} {p : Addr × Obj} {r : Led} {g : Obj → Led} : SetF d o k r g → SetF d o (k + 1) (p :: r) (fun o' => p :: g o')
theorem SetF.mem {d : Addr} {o : Obj} {k : Nat} {l : Led} {g : Obj → Led} (s : SetF d o k l g) : (d, o) ∈ l := by
  induction s with
  | head => exact .head _
  | tail _ ih => exact .tail _ ih
theorem SetF.upd {d : Addr} {o : Obj} {k : Nat} {l : Led} {g : Obj → Led} (s : SetF d o k l g) : ∀ {n : Nat}, k < n → ApN n l → UpdF d o l g := by
  induction s with
  | head =>
    intro n hk h
    cases n with
    | zero => omega
    | succ n => exact .head h.1
  | @tail k p r g s ih =>
    intro n hk h
    cases n with
    | zero => omega
    | succ n => exact .tail (fun e => h.1 _ s.mem e.symm) (ih (by omega) h.2)
theorem updF_ap {d : Addr} {o : Obj} {k n : Nat} {l0 l : Led} {g : Obj → Led} (h : ApN n l0) (e : l0.map (·.1) = l.map (·.1)) (s : SetF d o k l g) (hk : k < n) : UpdF d o l g := s.upd hk (h.to e)
theorem word_eq : ("abcdfeghijklmnopqrstuvwxyzABCDEFGHIJKLMNOPQRSTUVWXYZ0123456789_" : Str) ++ ("ßàáâãäåæçèéêëìíîïðñòóôõöøùúûüýþÿÀÁÂÃÄÅÆÇÈÉÊËÌÍÎÏÐÑÒÓÔÕÖØÙÚÛÜÝÞ" : Str) = wordS := by decide +kernel
theorem m_wadd {prog : Program} {w : World} {A : Around} {E : Value → Shared → Prop} {s : Shared} {t u : Tok} {Q : Value → Shared → Prop} (h : ∀ t' k, Q (.str wordS t') { s with toks := k }) :
    wpAny (model prog w) A (inplaceOp .Add (.str ("abcdfeghijklmnopqrstuvwxyzABCDEFGHIJKLMNOPQRSTUVWXYZ0123456789_" : Str) t) (.str ("ßàáâãäåæçèéêëìíîïðñòóôõöøùúûüýþÿÀÁÂÃÄÅÆÇÈÉÊËÌÍÎÏÐÑÒÓÔÕÖØÙÚÛÜÝÞ" : Str) u)) Q E s :=
  SB.iadd (fun t' k => by rw [word_eq]; exact h t' k) (by decide +kernel)
end Mine
end
section
namespace Mine
section
variable {prog : Program} {w : World} {A : Around} {E : Value → Shared → Prop} {s : Shared} {t u : Tok} {h₀ : Heap} {L D : Addr} {m : Str → Option Value} {news news' : Led} {env : Env}
theorem fills_iadd_list : fillsInplaceSlot (.type "list") "add" (Operator.Add == .Add) = pure false := by
  unfold fillsInplaceSlot
  show (typeLookup (.type "list") (dunderI "add") >>= fun fi => pure (fi.isSome && !isSeqSlot fi)) = pure false
  rw [F.slot_list_iadd.lookup]
  show pure (true && !isSeqSlot _) = (pure false : Sem Bool)
  rw [show isSeqSlot (some (.builtin "list.__iadd__")) = true from by decide +kernel]
  rfl
theorem seq_iadd_list : seqSlot? (.type "list") (dunderI "add") = pure (some (.builtin "list.__iadd__")) := by
  unfold seqSlot?
  rw [F.slot_list_iadd.lookup]
  have e : isSeqSlot (some (.builtin "list.__iadd__")) = true := by decide +kernel
  simp only [pure_bind, e, Bool.not_true, Bool.false_eq_true, if_false]
theorem m_iaddL {Q : Value → Shared → Prop} {b : Addr} {vs ws : List Value} {n n2 : Nat} (F : Fr h₀ L s.heap m) (N : News h₀ L s.heap news) (hb : (b, lst0 ws n2) ∈ news) (hne : ws.length ≠ 0) (hz : vs.length + ws.length ≤ 10000)
    (U : Upd D (listOf vs.toArray n) (listOf (vs ++ ws).toArray (n + 1)) news news')
    (h : ∀ h', Fr h₀ L h' m → News h₀ L h' news' → Q (.ref D) { s with heap := h' }) : wpAny (model prog w) A (inplaceOp .Add (.ref D) (.ref b)) Q E s := by
  obtain ⟨pre, post, rfl, rfl, a, c⟩ := U.split
  have z := N (D, listOf vs.toArray n) (List.mem_append.mpr (.inr (.head _)))
  have ha : s.TypeIs (.ref D) "list" := ⟨_, z.1, rfl⟩
  have hb' : s.TypeIs (.ref b) "list" := ⟨_, (N _ hb).1, rfl⟩
  unfold inplaceOp
  refine wpAny_holding ?_
  refine wpAny_bind (wpAny_typeOf ha (wpAny_bind (wpAny_of_eq fills_iadd_list ?_)))
  show wpAny _ A (if false = true then _ else _) Q E s
  rw [if_neg Bool.false_ne_true]
  refine wpAny_bind (wpAny_binaryOp1_none (nm := "add") ha hb' noFill_list_add ?_)
  refine wpAny_bind (wpAny_of_eq seq_iadd_list ?_)
  refine wpAny_bind (wpAny_rule ?_)
  refine call_meets PySem.F.slot_list_iadd ha PySem.F.entry_list_iadd (PySem.F.args_list_iadd_2 _ _) (AutoSeq1.list___iadd___list_list_0 D vs.toArray n b ws.toArray n2 ?_ (by rw [List.size_toArray, sizeLine_eq]; omega) (by rw [List.size_toArray, List.size_toArray, sizeLine_eq]; omega)) ⟨z.1, (N _ hb).1, ?_⟩
  · have : Builtin.List.listTooLong (vs.toArray.size + ws.toArray.size) = false := by
      unfold Builtin.List.listTooLong
      rw [List.size_toArray, List.size_toArray, decide_eq_false_iff_not, sizeLine_eq]
      omega
    rw [this, Bool.and_false]
    exact Bool.false_ne_true
  · refine h _ (F.change (Heap.SameBut.update ..) z.2.1 z.2.2) (kl_turn (fun x => x ++ ws.toArray) N a c (by simp) ?_)
    simp only [List.size_toArray, List.length_append]
    omega
theorem m_addL {Q : Value → Shared → Prop} {a b : Addr} {vs ws : List Value} {n1 n2 : Nat} (F : Fr h₀ L s.heap m) (N : News h₀ L s.heap news) (ha : (a, lst0 vs n1) ∈ news) (hb : (b, lst0 ws n2) ∈ news) (hz : vs.length + ws.length ≤ 10000)
    (h : ∀ D h' k, Fr h₀ L h' m → News h₀ L h' ((D, lst0 (vs ++ ws) k) :: news) → (∀ p ∈ news, p.1 < D) → Q (.ref D) { s with heap := h' }) : wpAny (model prog w) A (binaryOp .Add (.ref a) (.ref b)) Q E s :=
  kmk_add_lit F N (its := vs.toArray) (its2 := ws.toArray) ⟨_, (N _ ha).1, rfl, _, rfl⟩ ⟨_, (N _ hb).1, rfl, _, rfl⟩ rfl (fun D h' F' N' l => h D h' _ F' N' l) (by simp only [sizeLine_eq]; omega)
theorem m_ord {Q : Value → Shared → Prop} {c : UInt8} (h : ∀ t' k, Q (.int (c.toNat : Int) t') { s with toks := k }) : wpAny (model prog w) A (call (.builtin "ord") [.str (lat [c]) t]) Q E s := P.ord_of_char (c := c.toNat) (h _ _)
noncomputable def SrcS (prog : Program) (w : World) (A : Around) (h₀ : Heap) (L : Addr) (m : Str → Option Value) (env : Env) (elt : Expr) (x : Str) (scope : Scope) (cl : List (Str × Addr)) (Q : Value → Shared → Prop) (xv : Value) (s₁ : Shared) : Prop :=
  ∃ y t news, xv = .str y t ∧ A.handled = none ∧ Fr h₀ L s₁.heap m ∧ News h₀ L s₁.heap news ∧ y.cps.size ≤ sizeLine ∧
    ∀ s₂ : Shared, (∃ h, s₂ = { s₁ with heap := h }) → LCg.CompRest prog w A h₀ L m env elt x scope cl s₂ (fun _ => True) (SignAt y) (LCg.FinE h₀ L m s₂ Q) y.cps.size 0 [] news
theorem ListComp_S {elt iter : Expr} {x : Str} {px : Pos} {scope : Scope} {cl : List (Str × Addr)} {pos : Pos} {Q : Value → Shared → Prop} (_F₀ : Fr h₀ L s.heap m)
    (hclos : closureFor scope env = pure cl) (hcell : ∀ y ∈ scope.names, y.2 ≠ .cell) (hkind : scope.kind = .function)
    (hnames : ∀ y ∈ scope.names, y.2 = .local → scope.names.lookup y.1 = some .local) (hx : scope.names.lookup x = some .local)
    (h : wpAny (model prog w) A (eval iter env) (SrcS prog w A h₀ L m env elt x scope cl Q) E s)
    (hs : ∀ x, foldedSetIterable iter env x = pure x := by intro _; rfl) :
    wpAny (model prog w) A (eval (.ListComp elt [⟨.Name x px, iter, [], 0⟩] scope pos) env) Q E s := by
  rw [eval_ListComp]
  refine wpAny_comprehension_free (use := none) rfl hs hclos hkind hnames (wpAny_mono h (fun xv s₁ h₁ => ?_) fun _ _ e => e)
  obtain ⟨y, t, news, rfl, hh, F, N, hsz, R⟩ := h₁
  have key : ∀ (T : String) (W : ∀ I, Walks prog w A I [I] [I] y.cps.size (SignAt y) (fun i h => h.IsStrIter I T y t i)) (o : Obj) (ho : (s₁.heap.push o).IsStrIter s₁.heap.objs.size T y t 0),
      wpAny (model prog w) A (newList []) (fun acc s₃ => wpAny (model prog w) A (newFunctionEnv scope env.globals cl [] env.qual none .none (some env)) (fun cenv s₄ =>
        codeAny (model prog w) A (.compStart (.ListComp elt [⟨.Name x px, iter, [], 0⟩] scope pos) 0 (.ref s₁.heap.objs.size) acc { cenv with scope := relabel scope env }) (compPost (model prog w) A E none Q acc cenv.locals) s₄) E s₃) E { s₁ with heap := s₁.heap.push o } := by
    intro T W o ho
    refine LCg.block_U (W s₁.heap.objs.size) hsz (fun i h st => by obtain ⟨o, e, _⟩ := st; exact ⟨o, e⟩) (S := fun _ => True) (fun i h h' o nw st e e' _ _ _ => by obtain ⟨o', q, r⟩ := st; rw [e] at q; cases q; exact ⟨o, e', r⟩) hcell hkind hx ho (fun b hb => ?_)
      (F.keeps fun _ _ e => Heap.get?_push_of_some _ e) (N.grown fun _ _ e => Heap.get?_push_of_some _ e) (Nat.ne_of_lt F.ns.lt) (next_is_new F) (fun p hp => Nat.ne_of_lt (Heap.lt_size (N p hp).1)) trivial (R _ ⟨_, rfl⟩) ?_
    · rw [List.mem_singleton.mp hb]
      show s₁.heap.objs.size < (s₁.heap.push _).objs.size
      rw [Heap.size_push]; exact Nat.lt_succ_self _
    · intro D C h tk m' ys news' F' N' o1 hn hC₀ hD₀ hCL hDL hCD offC fin
      refine ⟨m', hn, fun h'' hs'' => fin D h'' tk (F'.change hs'' hCL hC₀) (fun p hp => ?_) o1⟩
      refine ⟨hs''.extBut _ _ ?_ (N' p hp).1, (N' p hp).2⟩
      rcases List.mem_cons.mp hp with rfl | hp
      · exact Ne.symm hCD
      · exact offC p hp
  cases ha : y.cps.all (· < 128)
  · exact wpAny_pyIter_wide ha (key _ (fun I => Walks.strWide hh I y t) _ ⟨_, Heap.get?_push_size _ rfl, rfl, rfl⟩)
  · exact wpAny_pyIter_ascii ha (key _ (fun I => Walks.strAscii hh I y t) _ ⟨_, Heap.get?_push_size _ rfl, rfl, rfl⟩)
noncomputable def IntsOf (vs : List Value) (cs : List UInt8) : Prop := Octs vs cs
theorem srcS_lat {elt : Expr} {x : Str} {scope : Scope} {cl : List (Str × Addr)} {Q : Value → Shared → Prop} {cs : List UInt8} {t : Tok} {s₁ : Shared} (hh : A.handled = none) (F : Fr h₀ L s₁.heap m) (N : News h₀ L s₁.heap news) (hz : cs.length ≤ 10000)
    (turn : ∀ c t ys I oI C oC D m₂ h tk (E' : Value → Shared → Prop) (s₂ : Shared), LCg.NsObj oC m₂ → m₂ x = some (.str (lat [c]) t) → Fr h₀ L h m → News h₀ L h ((I, oI) :: (C, oC) :: (D, LCg.lst ys) :: news) → LCg.Off3 I C D news →
      wpAny (model prog w) A (eval elt (compEnvC scope cl C env)) (LCg.CompEnd h₀ L m { s₂ with heap := h, toks := tk } I oI C oC D (LCg.lst ys) (fun _ => True) (fun y news' => news' = news ∧ ∃ t, y = .int (c.toNat : Int) t)) E' { s₂ with heap := h, toks := tk })
    (fin : ∀ ys D h tk, Octs ys cs → Fr h₀ L h m → News h₀ L h ((D, LCg.lst ys) :: news) → LCg.Off1 D news → Q (.ref D) { s₁ with heap := h, toks := tk }) :
    SrcS prog w A h₀ L m env elt x scope cl Q (.str (lat cs) t) s₁ := by
  refine ⟨lat cs, t, news, rfl, hh, F, N, by rw [sizeLine_eq]; show ((cs.map (·.toNat)).toArray).size ≤ _; rw [List.size_toArray, List.length_map]; omega, ?_⟩
  rintro s₂ ⟨g, rfl⟩
  have hsz : (lat cs).cps.size = cs.length := by show ((cs.map (·.toNat)).toArray).size = _; rw [List.size_toArray, List.length_map]
  rw [hsz]
  refine comp_inv (Iv := fun i ys nw => nw = news ∧ Octs ys (cs.take i)) ⟨rfl, [], rfl, rfl⟩ ?_ fun ys nw h => ?_
  · rintro i v ys nw I oI C oC D m₂ h tk E' hi ⟨c', u', hc', rfl⟩ ⟨rfl, hy⟩ hC hx F N off ne
    have hci : (cs.map (·.toNat))[i]? = some c' := by simpa [lat] using hc'
    rw [List.getElem?_map, List.getElem?_eq_getElem hi] at hci
    cases hci
    refine wpAny_mono (turn cs[i] u' ys I oI C oC D m₂ h tk E' { s₁ with heap := g } hC hx F N off) (fun y s₂ hq => ?_) fun _ _ e => e
    obtain ⟨h', tk', nw', e, F', N', off', hS, rfl, t', rfl⟩ := hq
    refine ⟨h', tk', _, e, F', N', off', hS, rfl, ?_⟩
    rw [List.take_succ_eq_append_getElem hi]
    exact hy.snoc _ _
  · obtain ⟨rfl, h⟩ := h
    rw [List.take_length] at h
    exact fun D h' tk F' N' o1 => fin ys D h' tk h F' N' o1
end
end Mine
end
section
namespace Mine
theorem octs_append {vs ws : List Value} {a b : List UInt8} (h : Octs vs a) (k : Octs ws b) : Octs (vs ++ ws) (a ++ b) := by
  obtain ⟨t1, h1, rfl⟩ := h
  obtain ⟨t2, h2, rfl⟩ := k
  refine ⟨t1 ++ t2, by rw [List.length_append, List.length_append, h1, h2], ?_⟩
  rw [List.zipWith_append (by omega)]
theorem octs_ints : ∀ {vs : List Value} {cs : List UInt8}, Octs vs cs → IntsAre vs (cs.map fun c => (c.toNat : Int))
  | _, [], ⟨t, h, e⟩ => by
    have : t = [] := List.eq_nil_of_length_eq_zero (by simpa using h)
    subst this; subst e; exact .nil
  | _, c :: r, ⟨t, h, e⟩ => by
    cases t with
    | nil => cases h
    | cons t0 t =>
      subst e
      exact .cons _ _ (octs_ints ⟨t, by simpa using h, rfl⟩)
theorem encF_append : ∀ (a b : List Fm), encF (a ++ b) = encF a ++ encF b
  | [], _ => rfl
  | f :: r, b => by
    show f.1 :: UInt8.ofNat f.2.length :: (f.2 ++ encF (r ++ b)) = _
    rw [encF_append r b]
    show _ = f.1 :: UInt8.ofNat f.2.length :: (f.2 ++ encF r ++ encF b)
    rw [List.append_assoc]
theorem octs_frame {q : Ft} {ys : List Value} {t : Tok} (hz : q.f.length ≤ 8) (h : Octs ys q.f) : Octs ([.int (q.c.toNat : Int) q.t1, .int (q.f.length : Int) t] ++ ys) (encF [q.fm]) := by
  have e : encF [q.fm] = [q.c, UInt8.ofNat q.f.length] ++ q.f := by
    show q.c :: UInt8.ofNat q.f.length :: (q.f ++ []) = _
    rw [List.append_nil]; rfl
  rw [e]
  refine octs_append ⟨[q.t1, t], rfl, ?_⟩ h
  have : (UInt8.ofNat q.f.length).toNat = q.f.length := by rw [UInt8.toNat_ofNat']; omega
  show _ = [Value.int (q.c.toNat : Int) q.t1, .int ((UInt8.ofNat q.f.length).toNat : Int) t]
  rw [this]
section
variable {prog : Program} {w : World} {A : Around} {E : Value → Shared → Prop} {s : Shared} {t u : Tok} {h₀ : Heap} {L D : Addr} {m : Str → Option Value} {news news' : Led} {env : Env}
theorem byte_arr (cs : List UInt8) : byteArr (cs.map fun c => (c.toNat : Int)) = cs.toArray := by
  unfold byteArr
  rw [List.map_map]
  congr 1
  have : ∀ c ∈ cs, ((fun n : Int => UInt8.ofNat n.toNat) ∘ fun c : UInt8 => (c.toNat : Int)) c = c := fun c _ => by
    show UInt8.ofNat ((c.toNat : Int)).toNat = c
    rw [Int.toNat_natCast]
    exact UInt8.ofNat_toNat
  rw [List.map_congr_left this]
  exact List.map_id' cs
theorem m_bytes {Q : Value → Shared → Prop} {vs : List Value} {n : Nat} {cs : List UInt8} (F : Fr h₀ L s.heap m) (N : News h₀ L s.heap news) (hh : A.handled = none) (hm : (D, lst0 vs n) ∈ news) (hi : Octs vs cs) (hn : cs.length ≤ 10000)
    (h : ∀ h' t' k, Fr h₀ L h' m → News h₀ L h' news → Q (.bytes cs.toArray t') { s with heap := h', toks := k }) : wpAny (model prog w) A (call (.type "bytes") [.ref D]) Q E s := by
  refine KBa.make_K F N hh ⟨_, (N _ hm).1, rfl, _, rfl⟩ (octs_ints hi) ?_ (by rw [List.length_map]; omega) fun h' t' k F' N' _ => ?_
  · intro x hx
    obtain ⟨c, _, rfl⟩ := List.mem_map.mp hx
    have := c.toNat_lt
    constructor <;> omega
  · rw [byte_arr]; exact h h' t' k F' N'
theorem m_iaddU {Q : Value → Shared → Prop} {b : Addr} {vs ws : List Value} {n n2 : Nat} {l : Led} (F : Fr h₀ L s.heap m) (N : News h₀ L s.heap news) (hD : (D, lst0 vs n) ∈ news) (hb : (b, lst0 ws n2) ∈ news) (hbD : D < b) (hne : ws.length ≠ 0) (hz : vs.length + ws.length ≤ 10000)
    (hl : ∀ q ∈ l, q ∈ news) (hap : ∀ q ∈ l, q.1 ≠ D)
    (h : ∀ h', Fr h₀ L h' m → News h₀ L h' ((D, lst0 (vs ++ ws) (n + 1)) :: l) → Q (.ref D) { s with heap := h' }) : wpAny (model prog w) A (inplaceOp .Add (.ref D) (.ref b)) Q E s := by
  have N2 : News h₀ L s.heap ((D, listOf vs.toArray n) :: (b, lst0 ws n2) :: l) := led_to N fun q hq => by
    rcases List.mem_cons.mp hq with rfl | hq
    · exact hD
    · rcases List.mem_cons.mp hq with rfl | hq
      · exact hb
      · exact hl q hq
  refine m_iaddL F N2 (.tail _ (.head _)) hne hz (.head fun q hq => ?_) fun h' F' N' => h h' F' (led_to N' fun q hq => ?_)
  · rcases List.mem_cons.mp hq with rfl | hq
    · exact Nat.ne_of_gt hbD
    · exact hap q hq
  · rcases List.mem_cons.mp hq with rfl | hq
    · exact .head _
    · exact .tail _ (.tail _ hq)
end
noncomputable def CtrM (w : World) (f : Addr) (vs : List Value) (own rd : Led) (c1 c2 : Addr) (D U : Nat) (post : Value → Led → Led → Prop) : Prop :=
  PySem.Challenge.rw_in0150_01 = PySem.Challenge.rw_in0150_01 → ∀ (mean : ExcName → Option Value) (mg mb : Str → Option Value) (dp un : Nat) (gd : Option (List Code)) (cn : Str) (cs : Scope) (a : Addr) (ccd : Value) (cl : List (Str × Addr)) (outer : List Env) (A₀ : Around)
    (base h₀ : Heap) (L : Addr) (m : Str → Option Value) (s : Shared) (rest : Led) (na : Nat) (Q E : Value → Shared → Prop),
    Below A₀ base outer h₀ → Fr h₀ L s.heap m → (K w.params).In h₀ → News h₀ L s.heap (own ++ rest) → ApN na (own ++ rest) → own.length ≤ na → (∀ q ∈ rd, q ∈ rest) → TopQ mean mg mb h₀ → CodeHd base c1 c2 → cs.kind = .function → dp + D < recursionLimit → un + U < cLine →
    (∀ v own' new h' tk', post v own' new → Fr h₀ L h' m → News h₀ L h' (new ++ own' ++ rest) → ApN (new.length + na) (new ++ own' ++ rest) → Q v { s with heap := h', toks := tk' }) →
    wpAny (model P0 w) (ktrTop dp un gd cn cs L a ccd cl outer) (call (.ref f) vs) Q E s
structure Sm where
  vs : List Value
  n : Nat
  cv : Option Value
  tv : Option Value
structure SmI (fr : List Fm) (i : Nat) (c : Sm) : Prop where
  oc : Octs c.vs (encF (fr.take i))
theorem smI0 {fr : List Fm} {n : Nat} {cv tv : Option Value} : SmI fr 0 ⟨[], n, cv, tv⟩ := ⟨⟨[], rfl, rfl⟩⟩
theorem smI_len {fr : List Fm} {i : Nat} {c : Sm} (hf : FrOk fr) (h : SmI fr i c) : c.vs.length ≤ 320 := by
  rw [h.oc.length]
  have h1 := encF_length (fs := fr.take i) fun f hm => hf.len f (List.mem_of_mem_take hm)
  have h2 := hf.sz
  rw [List.length_take] at h1
  omega
theorem smI_next {qs : List Ft} {q : Ft} {i : Nat} {c : Sm} {ys : List Value} {t : Tok} (hf : FrOk (qs.map Ft.fm)) (h : SmI (qs.map Ft.fm) i c) (hq : qs[i]? = some q) (hy : Octs ys q.f) {n : Nat} {cv tv : Option Value} :
    SmI (qs.map Ft.fm) (i + 1) ⟨c.vs ++ ([.int (q.c.toNat : Int) q.t1, .int (q.f.length : Int) t] ++ ys), n, cv, tv⟩ := by
  refine ⟨?_⟩
  have hm : (qs.map Ft.fm)[i]? = some q.fm := by rw [List.getElem?_map, hq]; rfl
  obtain ⟨hl, he⟩ := List.getElem?_eq_some_iff.mp hm
  rw [List.take_succ_eq_append_getElem hl, encF_append, he]
  exact octs_append h.oc (octs_frame (nd_len hf hq) hy)
end Mine
namespace Mine
section
variable {prog : Program} {w : World} {A : Around} {E : Value → Shared → Prop} {s : Shared} {env : Env} {h₀ : Heap} {target : Expr} {body : List Stmt} {Q : Flow → Shared → Prop}
theorem iter_one {σ : Type} {ax D : Addr} {vs : List Value} {na : Nat} {rest : Led} (hh : A.handled = none) (J : Nat → σ → Prop) (M : σ → Str → Option Value) (Ob : σ → Obj) (c0 : σ) (hm : (ax, lst0 vs na) ∈ rest)
    (hcls : ∀ c, (Ob c).cls ≠ .type "list_iterator") (F : Fr h₀ env.locals s.heap (M c0)) (N : News h₀ env.locals s.heap ((D, Ob c0) :: rest)) (hD : ∀ p ∈ rest, p.1 ≠ D) (h0 : J 0 c0)
    (turn : ∀ i v c h tk own (R : Shared → Prop), vs[i]? = some v → J i c → (∀ p ∈ own ++ rest, p.1 ≠ D) → Fr h₀ env.locals h (M c) → News h₀ env.locals h ((D, Ob c) :: (own ++ rest)) →
      (∀ c' h' tk', J (i + 1) c' → Fr h₀ env.locals h' (M c') → News h₀ env.locals h' ((D, Ob c') :: (own ++ rest)) → R { s with heap := h', toks := tk' }) →
      wpAny (model prog w) A (assign target env v) (fun _ s₃ => wpAny (model prog w) A (execs body env) (LPost R Q) E s₃) E { s with heap := h, toks := tk })
    (done : ∀ c h tk, J vs.length c → Fr h₀ env.locals h (M c) → News h₀ env.locals h ((D, Ob c) :: rest) → Q .next { s with heap := h, toks := tk }) :
    wpAny (model prog w) A (pyIter (.ref ax)) (fun it s₂ => TurnsAt prog w A h₀ env target body Q E it s₂) E s :=
  iter_led hh J M (fun c => [(D, Ob c)]) rest c0 hm (fun _ c _ p hp => by rw [List.mem_singleton.mp hp]; exact hcls c) F N h0
    (fun i v c h tk own R I hI ho hv hJ F' N' hR => turn i v c h tk own R hv hJ (fun p hp => by
      rcases List.mem_append.mp hp with hp | hp
      · rcases ho p hp with e | e
        · rw [e]; exact Ne.symm (hI (D, Ob c) (List.mem_append.mpr (.inl (.head _))))
        · rw [e]; exact hD _ hm
      · exact hD p hp) F' N' hR) done
end
theorem ap_cells1 {n : Nat} {l0 news : Led} {L : Addr} (l : ∀ p ∈ news, @LT.lt Nat _ p.1 L) (h : ApN n l0) (e : l0.map (·.1) = news.map (·.1)) (o : Obj) : ApN (n + 1) ((L + 1, o) :: news) :=
  ap_one (fun q hq => Nat.lt_succ_of_lt (l q hq)) h e o
end Mine
namespace Mine
section
variable {prog : Program} {w : World} {A : Around} {E : Value → Shared → Prop} {s : Shared} {env : Env} {h₀ : Heap} {L : Addr} {m : Str → Option Value} {news : Led} {x : Str} {v : Value} {Q : Value → Shared → Prop}
theorem m_newList {vs : List Value} (F : Fr h₀ L s.heap m) (N : News h₀ L s.heap news) (hz : vs.length ≤ 10000) (h : ∀ D h' k, Fr h₀ L h' m → News h₀ L h' ((D, lst0 vs k) :: news) → (∀ p ∈ news, p.1 < D) → Q (.ref D) { s with heap := h' }) : wpAny (model prog w) A (newList vs) Q E s := by
  refine wpAny_newObj_type (T := "list") (data := .seq vs.toArray) (dict := none) (h _ _ _ (Fr.pushS F _) (News.push F N _) fun p hp => Heap.lt_size (N p hp).1) ?_
  show vs.toArray.size ≤ sizeLine
  rw [List.size_toArray, sizeLine_eq]; omega
theorem m_load (hl : env.kindOf x = some .local) (hk : env.scope.kind = .function) (F : Fr h₀ env.locals s.heap m) (hv : m x = some v) (h : Q v s) : wpAny (model prog w) A (loadName env x) Q E s := wpAny_loadName_local hk hl F.ns hv h
theorem ft_v {qs : List Ft} {i : Nat} (h : (ftV qs)[i]? = some v) : ∃ q, qs[i]? = some q ∧ v = .ref q.a := by
  unfold ftV at h
  rw [List.getElem?_map] at h
  cases e : qs[i]? with
  | none => rw [e] at h; cases h
  | some q => rw [e] at h; cases h; exact ⟨q, rfl, rfl⟩
theorem ft_mem {qs : List Ft} {q : Ft} {i : Nat} (h : qs[i]? = some q) : (q.a, ftO q) ∈ ftL qs := List.mem_map_of_mem (List.mem_of_getElem? h)
theorem led_cons {h : Heap} {q : Addr × Obj} {l : Led} (N : News h₀ L h l) (hq : q ∈ l) : News h₀ L h (q :: l) := led_to N fun p hp => by
  rcases List.mem_cons.mp hp with rfl | hp
  · exact hq
  · exact hp
end
end Mine
namespace Mine
theorem lst0_cls (vs : List Value) (n : Nat) : (lst0 vs n).cls ≠ .type "list_iterator" := by
  show Value.type "list" ≠ .type "list_iterator"
  decide
end Mine
namespace Mine
theorem smI_done {qs : List Ft} {c : Sm} (hf : FrOk (qs.map Ft.fm)) (h : SmI (qs.map Ft.fm) (ftV qs).length c) : Octs c.vs (encF (qs.map Ft.fm)) ∧ (encF (qs.map Ft.fm)).length ≤ 10000 := by
  have h1 := h.oc
  rw [List.take_of_length_le (by simp [ftV])] at h1
  have h2 := encF_length (fs := qs.map Ft.fm) hf.len
  have h3 := hf.sz
  exact ⟨h1, by omega⟩
end Mine
namespace Mine
theorem sm_two {ys : List Value} {f : List UInt8} {a b : Value} (h : Octs ys f) (hz : f.length ≤ 8) : [a, b].length + ys.length ≤ 10000 := by
  rw [h.length]
  simp only [List.length_cons, List.length_nil]
  omega
theorem sm_three {vs ys : List Value} {f : List UInt8} {a b : Value} (hv : vs.length ≤ 320) (h : Octs ys f) (hz : f.length ≤ 8) : vs.length + ([a, b] ++ ys).length ≤ 10000 := by
  rw [List.length_append, h.length]
  simp only [List.length_cons, List.length_nil]
  omega
theorem sm_fr {h₀ h : Heap} {L : Addr} {m m1 : Str → Option Value} {x y : Option Value} {D : Addr} (F : Fr h₀ L h m) (e1 : m "channel" = x) (e2 : m "text" = y) (ho : m1 "octets" = some (.ref D)) (e3 : m "octets" = some (.ref D)) (r : ∀ k : Str, k ≠ "channel" → k ≠ "text" → k ≠ "octets" → m k = m1 k) :
    Fr h₀ L h (fun k => if k = "channel" then x else if k = "text" then y else m1 k) := fr_to F fun k => by
  by_cases h1 : k = "channel"
  · rw [if_pos h1, h1, e1]
  · rw [if_neg h1]
    by_cases h2 : k = "text"
    · rw [if_pos h2, h2, e2]
    · rw [if_neg h2]
      by_cases h3 : k = "octets"
      · rw [h3, e3, ho]
      · exact r k h1 h2 h3
end Mine
end
section
namespace Mine
open LCg
section
variable {prog : Program} {w : World} {A : Around} {E : Value → Shared → Prop} {s : Shared} {h₀ : Heap} {L : Addr} {m : Str → Option Value} {env : Env}
noncomputable def TurnPT (prog : Program) (w : World) (A : Around) (h₀ : Heap) (L : Addr) (m : Str → Option Value) (env : Env) (ct elt : Expr) (a b : Str) (scope : Scope) (cl : List (Str × Addr)) (s : Shared) (news : Led) (qs : List Ft) (Iv : Nat → List Value → Prop) : Prop :=
  ∀ i (q : Ft) ys I oI C oC D m₂ h tk (E' : Value → Shared → Prop), qs[i]? = some q → Iv i ys → NsObj oC m₂ → m₂ a = some (.int (q.c.toNat : Int) q.t1) → m₂ b = some (.str (lat q.f) q.t2) → Fr h₀ L h m → News h₀ L h ((I, oI) :: (C, oC) :: (D, lst ys) :: news) → Off3 I C D news →
    wpAny (model prog w) A (isTrue ct (compEnvC scope cl C env) (eval ct (compEnvC scope cl C env))) (fun okb s₃ => if okb = true then
      wpAny (model prog w) A (eval elt (compEnvC scope cl C env)) (fun y s₂ => ∃ h' tk', s₂ = { s with heap := h', toks := tk' } ∧ Fr h₀ L h' m ∧ News h₀ L h' ((I, oI) :: (C, oC) :: (D, lst ys) :: news) ∧ Iv (i + 1) (ys ++ [y])) E' s₃
      else ∃ h' tk', s₃ = { s with heap := h', toks := tk' } ∧ Fr h₀ L h' m ∧ News h₀ L h' ((I, oI) :: (C, oC) :: (D, lst ys) :: news) ∧ Iv (i + 1) ys) E' { s with heap := h, toks := tk }
noncomputable def SrcPT (prog : Program) (w : World) (A : Around) (h₀ : Heap) (L : Addr) (m : Str → Option Value) (env : Env) (ct elt : Expr) (a b : Str) (scope : Scope) (cl : List (Str × Addr)) (Q : Value → Shared → Prop) (xv : Value) (s₁ : Shared) : Prop :=
  ∃ ax qs n news Iv, xv = .ref ax ∧ A.handled = none ∧ Fr h₀ L s₁.heap m ∧ News h₀ L s₁.heap news ∧ (ax, lst0 (ftV qs) n) ∈ news ∧ (∀ z ∈ ftL qs, z ∈ news) ∧ qs.length ≤ sizeLine ∧ Iv 0 [] ∧
    TurnPT prog w A h₀ L m env ct elt a b scope cl s₁ news qs Iv ∧ ∀ ys D h tk, Iv qs.length ys → Fr h₀ L h m → News h₀ L h ((D, lst ys) :: news) → Q (.ref D) { s₁ with heap := h, toks := tk }
theorem turnPT_heap {ct elt : Expr} {a b : Str} {scope : Scope} {cl : List (Str × Addr)} {news : Led} {qs : List Ft} {Iv : Nat → List Value → Prop} {g : Heap} (T : TurnPT prog w A h₀ L m env ct elt a b scope cl s news qs Iv) : TurnPT prog w A h₀ L m env ct elt a b scope cl { s with heap := g } news qs Iv :=
  fun i q ys I oI C oC D m₂ h tk E' hv hI hC hx hx2 F N off => T i q ys I oI C oC D m₂ h tk E' hv hI hC hx hx2 F N off
theorem block_PT {ct elt iter : Expr} {a b : Str} {pa pb tp : Pos} {kk : Nat} {scope : Scope} {cl : List (Str × Addr)} {pos : Pos} {s₂ : Shared} {I ax : Addr} {qs : List Ft} {na : Nat} {news : Led} {Iv : Nat → List Value → Prop} {RR : Value → Addr → Result → Shared → Prop}
    (hh : A.handled = none) (hIx : I ≠ ax) (hm : (ax, lst0 (ftV qs) na) ∈ news) (hfs : ∀ z ∈ ftL qs, z ∈ news) (hsz : qs.length ≤ sizeLine) (hI : s₂.heap.IsListIter I ax 0) (hIs : I < s₂.heap.objs.size)
    (hcell : ∀ y ∈ scope.names, y.2 ≠ .cell) (hkind : scope.kind = .function) (hx : scope.names.lookup a = some .local) (hx₂ : scope.names.lookup b = some .local) (hxx : a ≠ b)
    (F : Fr h₀ L s₂.heap m) (N : News h₀ L s₂.heap news) (hIL : L ≠ I) (hI₀ : h₀.get? I = none) (off : ∀ p ∈ news, p.1 ≠ I) (hi0 : Iv 0 []) (T : TurnPT prog w A h₀ L m env ct elt a b scope cl s₂ news qs Iv)
    (hRR : ∀ D C h tk m' ys, Iv qs.length ys → Fr h₀ L h m → News h₀ L h ((D, lst ys) :: news) → h.Ns C m' → h₀.get? C = none → C ≠ L → C ≠ D → (∀ p ∈ news, p.1 ≠ C) → RR (.ref D) C (.ok .next) { s₂ with heap := h, toks := tk }) :
    wpAny (model prog w) A (newList []) (fun acc s₃ => wpAny (model prog w) A (newFunctionEnv scope env.globals cl [] env.qual none .none (some env)) (fun cenv s₄ =>
      codeAny (model prog w) A (.compStart (.ListComp elt [⟨.Tuple [.Name a pa, .Name b pb] kk tp, iter, [ct], 0⟩] scope pos) 0 (.ref I) acc { cenv with scope := relabel scope env }) (RR acc cenv.locals) s₄) E s₃) E s₂ := by
  revert hh hIx hm hfs hsz hI hIs hcell hkind hx hx₂ hxx F N hIL hI₀ off hi0 T hRR; revert prog w A E h₀ L m env ct elt iter a b pa pb tp kk scope cl pos s₂ I ax qs na news Iv RR; (with_reducible refine no_implicit_lambda% (eps8 ePg eW eAr eP2 eH eN eM eEv ?_)); generalize q81 _ = prog, q82 _ = w, q83 _ = A, q84 _ = E, q85 _ = h₀, q86 _ = L, q87 _ = m, q88 _ = env; (with_reducible refine hold8 ?_); (with_reducible refine no_implicit_lambda% (eps8 eXx eXx eXx eS eS ePs ePs ePs ?_)); generalize q81 _ = ct, q82 _ = elt, q83 _ = iter, q84 _ = a, q85 _ = b, q86 _ = pa, q87 _ = pb, q88 _ = tp; (with_reducible refine hold8 ?_); (with_reducible refine no_implicit_lambda% (eps8 eN eSc eSA ePs eSh eN eN eLF ?_)); generalize q81 _ = kk, q82 _ = scope, q83 _ = cl, q84 _ = pos, q85 _ = s₂, q86 _ = I, q87 _ = ax, q88 _ = qs; (with_reducible refine hold8 ?_); (with_reducible refine no_implicit_lambda% (eps4 eN eL eIv eRR ?_)); generalize q41 _ = na, q42 _ = news, q43 _ = Iv, q44 _ = RR; (with_reducible refine hold4 ?_); intro hh hIx hm hfs hsz hI hIs hcell hkind hx hx₂ hxx F N hIL hI₀ off hi0 T hRR
  refine wpAny_newObj_type (wpAny_newFunctionEnv hcell (by intro y hy; simp at hy) (fun h₁ hns₁ hsb₁ => ?_) hkind)
  dsimp only at hns₁ hsb₁ ⊢
  generalize hH : s₂.heap.push { cls := .type "list", dict := none, data := .seq ([] : List Value).toArray } = H at hns₁ hsb₁ ⊢
  have hC : H.objs.size = s₂.heap.objs.size + 1 := by rw [← hH, Heap.size_push]
  generalize hCC : H.objs.size = C at *
  generalize hDD : s₂.heap.objs.size = D at *
  have hDC : D ≠ C := by rw [hC]; exact Nat.ne_of_lt (Nat.lt_succ_self _)
  have below : ∀ b, b < D → b ≠ C ∧ b ≠ D := fun b hb => ⟨by rw [hC]; exact Nat.ne_of_lt (Nat.lt_succ_of_lt hb), Nat.ne_of_lt hb⟩
  have ltD : ∀ {b o}, s₂.heap.get? b = some o → b < D := fun e => hDD ▸ Heap.lt_size e
  have old : ∀ b o, s₂.heap.get? b = some o → h₁.get? b = some o := fun b o e => hsb₁.extBut b o (below b (ltD e)).1 (Heap.get?_push_of_some _ (hH ▸ Heap.get?_push_of_some _ e))
  have hacc : h₁.get? D = some (lst []) := hsb₁.extBut _ _ hDC (Heap.get?_push_of_some _ (hH ▸ hDD ▸ Heap.get?_push_size _ rfl))
  have fresh₀ : ∀ a, D ≤ a → h₀.get? a = none := fun a ha => by
    cases e : h₀.get? a with
    | none => rfl
    | some o => exact absurd (ltD (F.keep a o e)) (Nat.not_lt.mpr ha)
  have hD₀ := fresh₀ D (Nat.le_refl _)
  have hC₀ : h₀.get? C = none := fresh₀ _ (by rw [hC]; exact Nat.le_succ _)
  have hLlt : L < D := hDD ▸ F.ns.lt
  have hDL : D ≠ L := Ne.symm (below L hLlt).2
  have hCL : C ≠ L := Ne.symm (below L hLlt).1
  have hIC : I ≠ C := (below I hIs).1
  have hID : I ≠ D := (below I hIs).2
  have offN : ∀ p ∈ news, p.1 ≠ I ∧ p.1 ≠ C ∧ p.1 ≠ D := fun p hp => ⟨off p hp, below _ (ltD (N p hp).1)⟩
  have haC : ax ≠ C := (offN _ hm).2.1
  have haD : ax ≠ D := (offN _ hm).2.2
  have W := Walks.list (prog := prog) (w := w) hh I ax (Ne.symm hIx) (ftV qs).toArray
  have hn : (ftV qs).toArray.size = qs.length := by rw [List.size_toArray]; simp [ftV]
  have loop : ∀ s₃ : Shared, s₃ = { s₂ with heap := h₁, toks := s₂.toks + ([] : List (Str × Value)).length } →
      codeAny (model prog w) A (.compLoop (.ListComp elt [⟨.Tuple [.Name a pa, .Name b pb] kk tp, iter, [ct], 0⟩] scope pos) 0 (.ref I) (.ref D) (compEnvC scope cl C env)) (RR (.ref D) C) s₃ := by
    rintro s₃ rfl
    refine kct_loop
      (fun k s' => ∃ h' tk i ys m', s' = { s₂ with heap := h', toks := tk } ∧ i ≤ qs.length ∧ k = qs.length + 1 - i ∧ ys.length ≤ i ∧ h'.IsListIter I ax i ∧ Fr h₀ L h' m ∧ h'.Ns C m' ∧ News h₀ L h' ((D, lst ys) :: news) ∧ Iv i ys) ?_ (qs.length + 1)
      ⟨h₁, _, 0, [], _, rfl, Nat.zero_le _, rfl, Nat.le_refl _, ?_, F.keeps old, hns₁, fun p hp => ?_, hi0⟩
    · rintro k s' ⟨h', tk, i, ys, m', rfl, hi, rfl, hyl, hit, F', hn', N', hI'⟩
      have Nn : News h₀ L h' news := fun p hp => N' p (List.mem_cons_of_mem _ hp)
      have hls : h'.IsList ax (ftV qs).toArray := ⟨_, (Nn _ hm).1, rfl, _, rfl⟩
      by_cases hlt : i < qs.length
      · refine W.item i _ _ _ (by rw [hn]; exact hlt) ⟨hit, hls⟩ fun v h₂ tk₂ hPv hst₂ hk₂ => ?_
        obtain ⟨q, hq, rfl⟩ := ft_v (v := v) (by simpa using hPv)
        have hqm := hfs _ (ft_mem hq)
        have N₂ : News h₀ L h₂ ((D, lst ys) :: news) := news_but N' hk₂ fun p hp => by
          rcases List.mem_cons.mp hp with rfl | hp
          · exact Ne.symm hID
          · exact (offN p hp).1
        have ht : IsTup h₂ q.a #[.int (q.c.toNat : Int) q.t1, .str (lat q.f) q.t2] := ⟨_, (N₂ _ (List.mem_cons_of_mem _ hqm)).1, rfl, _, rfl⟩
        refine wpAny_letOwnedTupleGo_listiter hst₂.1 ?_
        refine assign_Tuple_tuple hh ht rfl rfl fun h₅ he => ?_
        have he' : ∀ b o, h₂.get? b = some o → h₅.get? b = some o := fun b o e => he b o (Nat.ne_of_lt (Heap.lt_size e)) e
        refine assignInOrder_cons (wpAny_assign_Name (wpAny_storeName_local (lookup_relabel_local hx) ((hn'.at' fun o e => hk₂ _ o (by simpa using Ne.symm hIC) e).at' fun o e => he' _ o e) (fun h₆ hn₆ hs₆ => ?_) (by simp [compEnvC, relabel, hkind])))
        refine assignInOrder_cons (wpAny_assign_Name (wpAny_storeName_local (lookup_relabel_local hx₂) hn₆ (fun h₃ hn₃ hs₃ => ?_) (by simp [compEnvC, relabel, hkind])))
        refine assignInOrder_nil ?_
        have old3 : ∀ b o, b ≠ C → h₂.get? b = some o → h₃.get? b = some o := fun b o hb e => hs₃.extBut b o hb (hs₆.extBut b o hb (he' b o e))
        have keep3 : ∀ b o, b ≠ C → b ≠ I → h'.get? b = some o → h₃.get? b = some o := fun b o h1 h2 e => old3 b o h1 (hk₂ b o (by simpa using h2) e)
        obtain ⟨oI, heI, hoI⟩ := hst₂.1
        obtain ⟨oC, heC, hoC⟩ := ns_obj hn₃
        have heI₃ : h₃.get? I = some oI := old3 _ _ hIC heI
        have F₃ : Fr h₀ L h₃ m := (((fr_but F' hk₂ hIL hI₀).keeps he').change hs₆ hCL hC₀).change hs₃ hCL hC₀
        have N₃ : News h₀ L h₃ ((I, oI) :: (C, oC) :: (D, lst ys) :: news) := fun p hp => by
          rcases List.mem_cons.mp hp with rfl | hp
          · exact ⟨heI₃, Ne.symm hIL, hI₀⟩
          · rcases List.mem_cons.mp hp with rfl | hp
            · exact ⟨heC, hCL, hC₀⟩
            · have z := N' p hp
              refine ⟨?_, z.2⟩
              rcases List.mem_cons.mp hp with rfl | hp
              · exact keep3 _ _ hDC (Ne.symm hID) z.1
              · exact keep3 _ _ (offN p hp).2.1 (offN p hp).1 z.1
        have cont : ∀ (ys' : List Value) (h₅ : Heap) (tk₅ : Nat), ys'.length ≤ i + 1 → (∃ o, h₅.get? I = some o ∧ o = oI) → Fr h₀ L h₅ m → h₅.Ns C (fun y => if y = b then some (.str (lat q.f) q.t2) else if y = a then some (.int (q.c.toNat : Int) q.t1) else m' y) → News h₀ L h₅ ((D, lst ys') :: news) → Iv (i + 1) ys' →
            ∃ m_1, m_1 < qs.length + 1 - i ∧ ∃ h' tk i ys m', ({ s₂ with heap := h₅, toks := tk₅ } : Shared) = { s₂ with heap := h', toks := tk } ∧ i ≤ qs.length ∧ m_1 = qs.length + 1 - i ∧ ys.length ≤ i ∧ h'.IsListIter I ax i ∧ Fr h₀ L h' m ∧ h'.Ns C m' ∧ News h₀ L h' ((D, lst ys) :: news) ∧ Iv i ys := by
          rintro ys' h₅ tk₅ hl ⟨o, eo, rfl⟩ F₅ n₅ N₅ hI₅
          exact ⟨qs.length + 1 - (i + 1), Nat.sub_lt_sub_left (Nat.lt_succ_of_lt ‹i < qs.length›) (Nat.lt_succ_self _), h₅, tk₅, i + 1, ys', _, rfl, hlt, rfl, hl, ⟨_, eo, hoI⟩, F₅, n₅, N₅, hI₅⟩
        refine wpAny_mono (T i q ys I oI C oC D _ h₃ _ _ hq hI' hoC (by simp [hxx]) (by simp) F₃ N₃ (Off3.of offN)) (fun okb s₃ h₃' => ?_) fun _ _ e => e
        cases okb with
        | false =>
          obtain ⟨h₄, tk₄, rfl, F₄, N₄, hI₄⟩ := h₃'
          have zC := (N₄ (C, oC) (List.mem_cons_of_mem _ List.mem_cons_self)).1
          exact cont ys h₄ tk₄ (Nat.le_succ_of_le hyl) ⟨_, (N₄ (I, oI) List.mem_cons_self).1, rfl⟩ F₄ (hoC.ns zC) (fun p hp => N₄ p (List.mem_cons_of_mem _ (List.mem_cons_of_mem _ hp))) hI₄
        | true =>
          refine wpAny_mono h₃' (fun y s₄ h₄ => ?_) fun _ _ e => e
          obtain ⟨h₄, tk₄, rfl, F₄, N₄, hI₄⟩ := h₄
          have zI := (N₄ (I, oI) List.mem_cons_self).1
          have zC := (N₄ (C, oC) (List.mem_cons_of_mem _ List.mem_cons_self)).1
          have N₄' : News h₀ L h₄ ((D, lst ys) :: news) := fun p hp => N₄ p (List.mem_cons_of_mem _ (List.mem_cons_of_mem _ hp))
          have zD := (N₄' (D, lst ys) List.mem_cons_self).1
          refine append_at (hsz := by show ys.toArray.size ≤ sizeLine; rw [List.size_toArray]; exact Nat.le_trans hyl (Nat.le_trans hi hsz)) zD fun h₅ hs₅ hD₅ => ?_
          refine cont (ys ++ [y]) h₅ tk₄ (by rw [List.length_append, List.length_singleton]; omega) ⟨_, hs₅.extBut _ _ hID zI, rfl⟩ (F₄.change hs₅ hDL hD₀) ((hoC.ns zC).sameBut hs₅ (Ne.symm hDC)) (fun p hp => ?_) hI₄
          rcases List.mem_cons.mp hp with rfl | hp
          · exact ⟨hD₅.trans (congrArg some (lst_snoc ys y)), hDL, hD₀⟩
          · exact ⟨hs₅.extBut _ _ (offN p hp).2.2 (N₄' p (List.mem_cons_of_mem _ hp)).1, (N₄' p (List.mem_cons_of_mem _ hp)).2⟩
      · obtain rfl : i = qs.length := Nat.le_antisymm hi (Nat.not_lt.mp hlt)
        refine W.done _ _ _ (by rw [hn]; exact ⟨hit, hls⟩) fun h₂ tk₂ hk₂ => ?_
        exact hRR _ _ h₂ tk₂ _ ys hI' (fr_but F' hk₂ hIL hI₀) (news_but N' hk₂ fun p hp => by
          rcases List.mem_cons.mp hp with rfl | hp
          · exact Ne.symm hID
          · exact (offN p hp).1) (hn'.at' fun o e => hk₂ _ o (by simpa using Ne.symm hIC) e) hC₀ hCL (Ne.symm hDC) fun p hp => (offN p hp).2.1
    · obtain ⟨oI, e, r⟩ := hI
      exact ⟨oI, old _ _ e, r⟩
    · rcases List.mem_cons.mp hp with rfl | hp
      · exact ⟨hacc, hDL, hD₀⟩
      · exact ⟨old _ _ (N p hp).1, (N p hp).2⟩
  have hst : s₂.heap.IsListIter I ax 0 ∧ s₂.heap.IsList ax (ftV qs).toArray := ⟨hI, ⟨_, (N _ hm).1, rfl, _, rfl⟩⟩
  have hst₁ : h₁.IsListIter I ax 0 ∧ h₁.IsList ax (ftV qs).toArray := by
    refine ⟨?_, ?_⟩
    · obtain ⟨o, e, r⟩ := hst.1; exact ⟨o, old _ _ e, r⟩
    · obtain ⟨o, e, r⟩ := hst.2; exact ⟨o, old _ _ e, r⟩
  exact codeAny_compStart_list (loop _ rfl) (W.self 0 _ _ _ hst₁ (loop _ rfl))
theorem ListComp_PT {ct elt iter : Expr} {a b : Str} {pa pb tp : Pos} {kk : Nat} {scope : Scope} {cl : List (Str × Addr)} {pos : Pos} {Q : Value → Shared → Prop} (_F₀ : Fr h₀ L s.heap m)
    (hclos : closureFor scope env = pure cl) (hcell : ∀ y ∈ scope.names, y.2 ≠ .cell) (hkind : scope.kind = .function)
    (hnames : ∀ y ∈ scope.names, y.2 = .local → scope.names.lookup y.1 = some .local) (hx : scope.names.lookup a = some .local) (hx₂ : scope.names.lookup b = some .local) (hxx : a ≠ b)
    (h : wpAny (model prog w) A (eval iter env) (SrcPT prog w A h₀ L m env ct elt a b scope cl Q) E s)
    (hs : ∀ x, foldedSetIterable iter env x = pure x := by intro _; rfl) :
    wpAny (model prog w) A (eval (.ListComp elt [⟨.Tuple [.Name a pa, .Name b pb] kk tp, iter, [ct], 0⟩] scope pos) env) Q E s := by
  rw [eval_ListComp]
  refine wpAny_comprehension_free (use := none) rfl hs hclos hkind hnames (wpAny_mono h (fun xv s₁ h₁ => ?_) fun _ _ e => e)
  obtain ⟨ax, qs, na, news, Iv, rfl, hh, F, N, hm, hfs, hsz, hi0, T, fin⟩ := h₁
  have hl : s₁.heap.IsList ax (ftV qs).toArray := ⟨_, (N _ hm).1, rfl, _, rfl⟩
  have hlt : ax < s₁.heap.objs.size := Heap.lt_size (N _ hm).1
  refine wpAny_pyIter_list hl ?_
  have up : ∀ b o, s₁.heap.get? b = some o → (s₁.heap.push { cls := .type "list_iterator", data := .fields #[.ref ax, .int 0 0] }).get? b = some o := fun b o e => Heap.get?_push_of_some _ e
  refine block_PT hh (Ne.symm (Nat.ne_of_lt hlt)) hm hfs hsz ⟨_, Heap.get?_push_size _ rfl, rfl, rfl⟩ (by show _ < (s₁.heap.push _).objs.size; rw [Heap.size_push]; exact Nat.lt_succ_self _) hcell hkind hx hx₂ hxx (F.keeps up) (N.grown up) (Nat.ne_of_lt F.ns.lt) (next_is_new F) (fun p hp => Nat.ne_of_lt (Heap.lt_size (N p hp).1)) hi0 (turnPT_heap T) ?_
  intro D C h tk m' ys hI F' N' hn hC₀ hCL hCD offC
  refine ⟨m', hn, fun h'' hs'' => fin ys D h'' tk hI (F'.change hs'' hCL hC₀) fun p hp => ?_⟩
  refine ⟨hs''.extBut _ _ ?_ (N' p hp).1, (N' p hp).2⟩
  rcases List.mem_cons.mp hp with rfl | hp
  · exact Ne.symm hCD
  · exact offC p hp
end
end Mine
end
section
namespace Mine
open LCg
section
variable {M : Model} {prog : Program} {w : World} {A : Around} {E : Value → Shared → Prop} {s : Shared} {h₀ : Heap} {L : Addr} {m : Str → Option Value} {env : Env}
noncomputable abbrev dctO : Obj := { cls := .type "dict", data := .dict #[] }
noncomputable abbrev celO (v : Option Value) : Obj := { cls := .type "cell", data := .cell v }
theorem newEnv_cell {scope : Scope} {globals : Addr} {cl : List (Str × Addr)} {qual n0 x y : Str} {builtins : Addr} {Q : Env → Shared → Prop} (hn : scope.names = [(n0, .local), (x, .cell), (y, .free)])
    (h : Q (newEnv scope s.heap.objs.size globals ((x, s.heap.objs.size + 1) :: cl) qual none .none (some env) builtins) { s with heap := (s.heap.push dctO).push (celO none) }) :
    wpAny M A (newFunctionEnv scope globals cl [] qual none .none (some env) builtins) Q E s := by
  simp only [newFunctionEnv, Option.isSome_some, if_true]
  refine wpAny_bind (wpAny_alloc ?_)
  rw [hn]
  simp only [List.forIn_cons, List.forIn_nil]
  refine wpAny_bind (wpAny_bind (wpAny_pure ?_))
  dsimp only
  refine wpAny_bind ?_
  rw [if_pos (by decide)]
  refine wpAny_bind (wpAny_alloc ?_)
  refine wpAny_pure ?_
  dsimp only
  refine wpAny_bind ?_
  rw [if_neg (by decide)]
  refine wpAny_pure (wpAny_pure ?_)
  refine wpAny_bind (wpAny_pure (wpAny_pure ?_))
  rw [Heap.size_push]
  exact h
noncomputable def TurnC (prog : Program) (w : World) (A : Around) (h₀ : Heap) (L : Addr) (m : Str → Option Value) (env : Env) (elt : Expr) (x : Str) (scope : Scope) (cl : List (Str × Addr)) (s : Shared) (news : Led) (vs : List Value) (Iv : Nat → List Value → Prop) : Prop :=
  ∀ i v ys I oI C oC Ca oCa D h tk (E' : Value → Shared → Prop), vs[i]? = some v → Iv i ys → oCa.data = .cell (some v) → Fr h₀ L h m → News h₀ L h ((I, oI) :: (C, oC) :: (Ca, oCa) :: (D, lst ys) :: news) →
    wpAny (model prog w) A (eval elt (compEnvC scope ((x, Ca) :: cl) C env)) (fun y s₂ => ∃ h' tk', s₂ = { s with heap := h', toks := tk' } ∧ Fr h₀ L h' m ∧ News h₀ L h' ((I, oI) :: (C, oC) :: (Ca, oCa) :: (D, lst ys) :: news) ∧ Iv (i + 1) (ys ++ [y])) E' { s with heap := h, toks := tk }
theorem turnC_heap {elt : Expr} {x : Str} {scope : Scope} {cl : List (Str × Addr)} {news : Led} {vs : List Value} {Iv : Nat → List Value → Prop} {g : Heap} (T : TurnC prog w A h₀ L m env elt x scope cl s news vs Iv) : TurnC prog w A h₀ L m env elt x scope cl { s with heap := g } news vs Iv :=
  fun i v ys I oI C oC Ca oCa D h tk E' hv hI hc F N => T i v ys I oI C oC Ca oCa D h tk E' hv hI hc F N
noncomputable abbrev tupO (vs : List Value) (n : Nat) : Obj := { cls := .type "tuple", data := .seq vs.toArray n }
theorem block_C {elt iter : Expr} {x y n0 : Str} {px : Pos} {scope : Scope} {cl : List (Str × Addr)} {pos : Pos} {s₂ : Shared} {I ax : Addr} {vs : List Value} {na : Nat} {news : Led} {Iv : Nat → List Value → Prop} {RR : Value → Addr → Result → Shared → Prop}
    (hh : A.handled = none) (hIx : ax ≠ I) (hm : (ax, tupO vs na) ∈ news) (hsz : vs.length ≤ sizeLine) (hI : s₂.heap.IsTupleIter I ax 0) (hIs : I < s₂.heap.objs.size)
    (hnm : scope.names = [(n0, .local), (x, .cell), (y, .free)]) (hkind : scope.kind = .function) (hkx : ∀ Ca C, Env.kindOf (compEnvC scope ((x, Ca) :: cl) C env) x = some .cell)
    (F : Fr h₀ L s₂.heap m) (N : News h₀ L s₂.heap news) (hIL : L ≠ I) (hI₀ : h₀.get? I = none) (off : ∀ p ∈ news, p.1 ≠ I) (hi0 : Iv 0 []) (T : TurnC prog w A h₀ L m env elt x scope cl s₂ news vs Iv)
    (hRR : ∀ D C h tk m' ys, Iv vs.length ys → Fr h₀ L h m → News h₀ L h ((D, lst ys) :: news) → h.Ns C m' → h₀.get? C = none → C ≠ L → C ≠ D → (∀ p ∈ news, p.1 ≠ C) → RR (.ref D) C (.ok .next) { s₂ with heap := h, toks := tk }) :
    wpAny (model prog w) A (newList []) (fun acc s₃ => wpAny (model prog w) A (newFunctionEnv scope env.globals cl [] env.qual none .none (some env)) (fun cenv s₄ =>
      codeAny (model prog w) A (.compStart (.ListComp elt [⟨.Name x px, iter, [], 0⟩] scope pos) 0 (.ref I) acc { cenv with scope := relabel scope env }) (RR acc cenv.locals) s₄) E s₃) E s₂ := by
  revert hh hIx hm hsz hI hIs hnm hkind hkx F N hIL hI₀ off hi0 T hRR; revert prog w A E h₀ L m env elt iter x y n0 px scope cl pos s₂ I ax vs na news Iv RR; (with_reducible refine no_implicit_lambda% (eps8 ePg eW eAr eP2 eH eN eM eEv ?_)); generalize q81 _ = prog, q82 _ = w, q83 _ = A, q84 _ = E, q85 _ = h₀, q86 _ = L, q87 _ = m, q88 _ = env; (with_reducible refine hold8 ?_); (with_reducible refine no_implicit_lambda% (eps8 eXx eXx eS eS eS ePs eSc eSA ?_)); generalize q81 _ = elt, q82 _ = iter, q83 _ = x, q84 _ = y, q85 _ = n0, q86 _ = px, q87 _ = scope, q88 _ = cl; (with_reducible refine hold8 ?_); (with_reducible refine no_implicit_lambda% (eps8 ePs eSh eN eN eLV eN eL eIv ?_)); generalize q81 _ = pos, q82 _ = s₂, q83 _ = I, q84 _ = ax, q85 _ = vs, q86 _ = na, q87 _ = news, q88 _ = Iv; (with_reducible refine hold8 ?_); (with_reducible refine no_implicit_lambda% (eps1 eRR ?_)); generalize cex _ _ = RR; (with_reducible refine hold1 ?_); intro hh hIx hm hsz hI hIs hnm hkind hkx F N hIL hI₀ off hi0 T hRR
  refine wpAny_newObj_type (newEnv_cell hnm ?_)
  dsimp only
  generalize hH : s₂.heap.push { cls := .type "list", dict := none, data := .seq ([] : List Value).toArray } = H
  have hC : H.objs.size = s₂.heap.objs.size + 1 := by rw [← hH, Heap.size_push]
  generalize hCC : H.objs.size = C at *
  generalize hDD : s₂.heap.objs.size = D at *
  generalize hh1 : (H.push dctO).push (celO none) = h₁
  have hDC : D ≠ C := by rw [hC]; exact Nat.ne_of_lt (Nat.lt_succ_self _)
  have hDK : D ≠ C + 1 := by rw [hC]; exact Nat.ne_of_lt (Nat.lt_succ_of_lt (Nat.lt_succ_self _))
  have hCK : C ≠ C + 1 := Nat.ne_of_lt (Nat.lt_succ_self _)
  have below : ∀ b, b < D → b ≠ C ∧ b ≠ D ∧ b ≠ C + 1 := fun b hb => ⟨by rw [hC]; exact Nat.ne_of_lt (Nat.lt_succ_of_lt hb), Nat.ne_of_lt hb, by rw [hC]; exact Nat.ne_of_lt (Nat.lt_succ_of_lt (Nat.lt_succ_of_lt hb))⟩
  have ltD : ∀ {b o}, s₂.heap.get? b = some o → b < D := fun e => hDD ▸ Heap.lt_size e
  have upH : ∀ b o, H.get? b = some o → h₁.get? b = some o := fun b o e => by
    rw [← hh1]; exact Heap.get?_push_of_some _ (Heap.get?_push_of_some _ e)
  have old : ∀ b o, s₂.heap.get? b = some o → h₁.get? b = some o := fun b o e => upH b o (hH ▸ Heap.get?_push_of_some _ e)
  have hacc : h₁.get? D = some (lst []) := upH _ _ (hH ▸ hDD ▸ Heap.get?_push_size _ rfl)
  have hnsC : h₁.Ns C (fun _ => none) := by
    have h2 : (H.push dctO).Ns C (fun _ => none) := by rw [← hCC]; exact Heap.Ns.new ..
    rw [← hh1]
    exact h2.keeps fun b o e => Heap.get?_push_of_some _ e
  have hcel : h₁.IsCell (C + 1) none := by
    rw [← hh1]
    refine ⟨celO none, ?_, rfl⟩
    have : (H.push dctO).objs.size = C + 1 := by rw [Heap.size_push, hCC]
    rw [← this]
    exact Heap.get?_push_size _ rfl
  have fresh₀ : ∀ a, D ≤ a → h₀.get? a = none := fun a ha => by
    cases e : h₀.get? a with
    | none => rfl
    | some o => exact absurd (ltD (F.keep a o e)) (Nat.not_lt.mpr ha)
  have hD₀ := fresh₀ D (Nat.le_refl _)
  have hC₀ : h₀.get? C = none := fresh₀ _ (by rw [hC]; exact Nat.le_succ _)
  have hK₀ : h₀.get? (C + 1) = none := fresh₀ _ (by rw [hC]; exact Nat.le_succ_of_le (Nat.le_succ _))
  have hLlt : L < D := hDD ▸ F.ns.lt
  have hDL : D ≠ L := Ne.symm (below L hLlt).2.1
  have hCL : C ≠ L := Ne.symm (below L hLlt).1
  have hKL : C + 1 ≠ L := Ne.symm (below L hLlt).2.2
  have hIC : I ≠ C := (below I hIs).1
  have hID : I ≠ D := (below I hIs).2.1
  have hIK : I ≠ C + 1 := (below I hIs).2.2
  have offN : ∀ p ∈ news, p.1 ≠ I ∧ p.1 ≠ C ∧ p.1 ≠ D ∧ p.1 ≠ C + 1 := fun p hp => ⟨off p hp, (below _ (ltD (N p hp).1)).1, (below _ (ltD (N p hp).1)).2.1, (below _ (ltD (N p hp).1)).2.2⟩
  have W := Walks.tuple (prog := prog) (w := w) hh I ax hIx vs.toArray
  have hn : vs.toArray.size = vs.length := List.size_toArray ..
  have loop : ∀ s₃ : Shared, s₃ = { s₂ with heap := h₁ } →
      codeAny (model prog w) A (.compLoop (.ListComp elt [⟨.Name x px, iter, [], 0⟩] scope pos) 0 (.ref I) (.ref D) (compEnvC scope ((x, C + 1) :: cl) C env)) (RR (.ref D) C) s₃ := by
    rintro s₃ rfl
    refine codeAny_compLoop_tests
      (fun k s' => ∃ h' tk i ys m' cv, s' = { s₂ with heap := h', toks := tk } ∧ i ≤ vs.length ∧ k = vs.length + 1 - i ∧ ys.length = i ∧ h'.IsTupleIter I ax i ∧ Fr h₀ L h' m ∧ h'.Ns C m' ∧ h'.IsCell (C + 1) cv ∧ News h₀ L h' ((D, lst ys) :: news) ∧ Iv i ys) ?_ (vs.length + 1)
      ⟨h₁, _, 0, [], _, _, rfl, Nat.zero_le _, rfl, rfl, ?_, F.keeps old, hnsC, hcel, fun p hp => ?_, hi0⟩
    · rintro k s' ⟨h', tk, i, ys, m', cv, rfl, hi, rfl, hyl, hit, F', hn', hc', N', hI'⟩
      have Nn : News h₀ L h' news := fun p hp => N' p (List.mem_cons_of_mem _ hp)
      have hls : h'.IsTuple ax vs.toArray := ⟨_, (Nn _ hm).1, rfl, _, rfl⟩
      by_cases hlt : i < vs.length
      · refine W.item i _ _ _ (by rw [hn]; exact hlt) ⟨hit, hls⟩ fun v h₂ tk₂ hPv hst₂ hk₂ => ?_
        have kp2 : ∀ b o, b ≠ I → h'.get? b = some o → h₂.get? b = some o := fun b o hb e => hk₂ b o (by simpa using hb) e
        obtain ⟨oK, heK, hoK⟩ := hc'
        refine wpAny_assign_Name (wpAny_storeName_cell (c := C + 1) (v₀ := cv) (by simp [compEnvC, relabel, hkind]) (hkx _ _) (by simp [compEnvC]) ⟨oK, kp2 _ _ (Ne.symm hIK) heK, hoK⟩ fun h₃ hc₃ hs₃ => ?_)
        refine wpAny_tests_nil ?_
        simp only [if_true]
        have keep3 : ∀ b o, b ≠ C + 1 → b ≠ I → h'.get? b = some o → h₃.get? b = some o := fun b o h1 h2 e => hs₃.extBut b o h1 (kp2 b o h2 e)
        obtain ⟨oI, heI, hoI⟩ := hst₂.1
        have hn₃ : h₃.Ns C m' := (hn'.at' fun o e => kp2 _ o (Ne.symm hIC) e).sameBut hs₃ hCK
        obtain ⟨oC, heC, hoC⟩ := ns_obj hn₃
        obtain ⟨oCa, heCa, hoCa⟩ := hc₃
        have heI₃ : h₃.get? I = some oI := hs₃.extBut _ _ hIK heI
        have F₃ : Fr h₀ L h₃ m := (fr_but F' hk₂ hIL hI₀).change hs₃ hKL hK₀
        have N₃ : News h₀ L h₃ ((I, oI) :: (C, oC) :: (C + 1, oCa) :: (D, lst ys) :: news) := fun p hp => by
          rcases List.mem_cons.mp hp with rfl | hp
          · exact ⟨heI₃, Ne.symm hIL, hI₀⟩
          · rcases List.mem_cons.mp hp with rfl | hp
            · exact ⟨heC, hCL, hC₀⟩
            · rcases List.mem_cons.mp hp with rfl | hp
              · exact ⟨heCa, hKL, hK₀⟩
              · have z := N' p hp
                refine ⟨?_, z.2⟩
                rcases List.mem_cons.mp hp with rfl | hp
                · exact keep3 _ _ hDK (Ne.symm hID) z.1
                · exact keep3 _ _ (offN p hp).2.2.2 (offN p hp).1 z.1
        refine wpAny_mono (T i v ys I oI C oC (C + 1) oCa D h₃ _ _ (by simpa using hPv) hI' hoCa F₃ N₃) (fun y s₄ h₄ => ?_) fun _ _ e => e
        obtain ⟨h₄, tk₄, rfl, F₄, N₄, hI₄⟩ := h₄
        have zI := (N₄ (I, oI) List.mem_cons_self).1
        have zC := (N₄ (C, oC) (List.mem_cons_of_mem _ List.mem_cons_self)).1
        have zK := (N₄ (C + 1, oCa) (List.mem_cons_of_mem _ (List.mem_cons_of_mem _ List.mem_cons_self))).1
        have N₄' : News h₀ L h₄ ((D, lst ys) :: news) := fun p hp => N₄ p (List.mem_cons_of_mem _ (List.mem_cons_of_mem _ (List.mem_cons_of_mem _ hp)))
        have zD := (N₄' (D, lst ys) List.mem_cons_self).1
        refine append_at (hsz := by show ys.toArray.size ≤ sizeLine; rw [List.size_toArray, hyl]; exact Nat.le_trans hi hsz) zD fun h₅ hs₅ hD₅ => ?_
        refine ⟨vs.length + 1 - (i + 1), Nat.sub_lt_sub_left (Nat.lt_succ_of_lt ‹i < vs.length›) (Nat.lt_succ_self _), h₅, tk₄, i + 1, ys ++ [y], _, _, rfl, hlt, rfl, by rw [List.length_append, List.length_singleton, hyl], ⟨oI, hs₅.extBut _ _ hID zI, hoI⟩, F₄.change hs₅ hDL hD₀,
          (hoC.ns zC).sameBut hs₅ (Ne.symm hDC), ⟨oCa, hs₅.extBut _ _ (Ne.symm hDK) zK, hoCa⟩, fun p hp => ?_, hI₄⟩
        rcases List.mem_cons.mp hp with rfl | hp
        · exact ⟨hD₅.trans (congrArg some (lst_snoc ys y)), hDL, hD₀⟩
        · exact ⟨hs₅.extBut _ _ (offN p hp).2.2.1 (N₄' p (List.mem_cons_of_mem _ hp)).1, (N₄' p (List.mem_cons_of_mem _ hp)).2⟩
      · obtain rfl : i = vs.length := Nat.le_antisymm hi (Nat.not_lt.mp hlt)
        refine W.done _ _ _ (by rw [hn]; exact ⟨hit, hls⟩) fun h₂ tk₂ hk₂ => ?_
        exact hRR _ _ h₂ tk₂ _ ys hI' (fr_but F' hk₂ hIL hI₀) (news_but N' hk₂ fun p hp => by
          rcases List.mem_cons.mp hp with rfl | hp
          · exact Ne.symm hID
          · exact (offN p hp).1) (hn'.at' fun o e => hk₂ _ o (by simpa using Ne.symm hIC) e) hC₀ hCL (Ne.symm hDC) fun p hp => (offN p hp).2.1
    · obtain ⟨oI, e, r⟩ := hI
      exact ⟨oI, old _ _ e, r⟩
    · rcases List.mem_cons.mp hp with rfl | hp
      · exact ⟨hacc, hDL, hD₀⟩
      · exact ⟨old _ _ (N p hp).1, (N p hp).2⟩
  have hst₁ : h₁.IsTupleIter I ax 0 ∧ h₁.IsTuple ax vs.toArray := by
    refine ⟨?_, _, old _ _ (N _ hm).1, rfl, _, rfl⟩
    obtain ⟨o, e, r⟩ := hI; exact ⟨o, old _ _ e, r⟩
  exact codeAny_compStart_list (loop _ rfl) (W.self 0 _ _ _ hst₁ (loop _ rfl))
noncomputable def SrcC (prog : Program) (w : World) (A : Around) (h₀ : Heap) (L : Addr) (m : Str → Option Value) (env : Env) (elt : Expr) (x : Str) (scope : Scope) (cl : List (Str × Addr)) (Q : Value → Shared → Prop) (xv : Value) (s₁ : Shared) : Prop :=
  ∃ ax vs n news Iv, xv = .ref ax ∧ A.handled = none ∧ Fr h₀ L s₁.heap m ∧ News h₀ L s₁.heap news ∧ (ax, tupO vs n) ∈ news ∧ vs.length ≤ sizeLine ∧ Iv 0 [] ∧
    TurnC prog w A h₀ L m env elt x scope cl s₁ news vs Iv ∧ ∀ ys D h tk, Iv vs.length ys → Fr h₀ L h m → News h₀ L h ((D, lst ys) :: news) → Q (.ref D) { s₁ with heap := h, toks := tk }
theorem ListComp_C {elt iter : Expr} {x y n0 : Str} {px : Pos} {scope : Scope} {cl : List (Str × Addr)} {pos : Pos} {Q : Value → Shared → Prop} (_F₀ : Fr h₀ L s.heap m)
    (hclos : closureFor scope env = pure cl) (hnm : scope.names = [(n0, .local), (x, .cell), (y, .free)]) (hkind : scope.kind = .function) (hkx : ∀ Ca C, Env.kindOf (compEnvC scope ((x, Ca) :: cl) C env) x = some .cell)
    (hnames : ∀ y ∈ scope.names, y.2 = .local → scope.names.lookup y.1 = some .local)
    (h : wpAny (model prog w) A (eval iter env) (SrcC prog w A h₀ L m env elt x scope cl Q) E s)
    (hs : ∀ x, foldedSetIterable iter env x = pure x := by intro _; rfl) :
    wpAny (model prog w) A (eval (.ListComp elt [⟨.Name x px, iter, [], 0⟩] scope pos) env) Q E s := by
  rw [eval_ListComp]
  refine wpAny_comprehension_free (use := none) rfl hs hclos hkind hnames (wpAny_mono h (fun xv s₁ h₁ => ?_) fun _ _ e => e)
  obtain ⟨ax, vs, na, news, Iv, rfl, hh, F, N, hm, hsz, hi0, T, fin⟩ := h₁
  have hl : s₁.heap.IsTuple ax vs.toArray := ⟨_, (N _ hm).1, rfl, _, rfl⟩
  have hlt : ax < s₁.heap.objs.size := Heap.lt_size (N _ hm).1
  refine wpAny_pyIter_tuple hl ?_
  have up : ∀ b o, s₁.heap.get? b = some o → (s₁.heap.push { cls := .type "tuple_iterator", data := .fields #[.ref ax, .int 0 0] }).get? b = some o := fun b o e => Heap.get?_push_of_some _ e
  refine block_C hh (Nat.ne_of_lt hlt) hm hsz ⟨_, Heap.get?_push_size _ rfl, rfl, rfl⟩ (by show _ < (s₁.heap.push _).objs.size; rw [Heap.size_push]; exact Nat.lt_succ_self _) hnm hkind hkx (F.keeps up) (N.grown up) (Nat.ne_of_lt F.ns.lt) (next_is_new F) (fun p hp => Nat.ne_of_lt (Heap.lt_size (N p hp).1)) hi0 (turnC_heap T) ?_
  intro D C h tk m' ys hI F' N' hn hC₀ hCL hCD offC
  refine ⟨m', hn, fun h'' hs'' => fin ys D h'' tk hI (F'.change hs'' hCL hC₀) fun p hp => ?_⟩
  refine ⟨hs''.extBut _ _ ?_ (N' p hp).1, (N' p hp).2⟩
  rcases List.mem_cons.mp hp with rfl | hp
  · exact Ne.symm hCD
  · exact offC p hp
end
end Mine
end
section
namespace Mine
open LCg
noncomputable def txL (b : Bool) (qs : List Ft) : List (List UInt8) := (qs.filter fun q => odd8 q.c == b).map (·.f)
theorem joinL_nil : ∀ (ps : List (List UInt8)), joinL [] ps = ps.flatten
  | [] => rfl
  | [p] => by show p = _; simp
  | p :: q :: r => by
    show p ++ [] ++ joinL [] (q :: r) = _
    rw [joinL_nil (q :: r), List.append_nil]; rfl
theorem txL_txt (b : Bool) (qs : List Ft) : joinL [] (txL b qs) = txt b (qs.map Ft.fm) := by
  rw [joinL_nil]
  unfold txL txt
  induction qs with
  | nil => rfl
  | cons q r ih =>
    rw [List.map_cons, List.flatMap_cons, ← ih]
    by_cases h : odd8 q.c = b
    · rw [List.filter_cons_of_pos (by simpa using h), List.map_cons, List.flatten_cons]
      show _ = (if odd8 q.c = b then q.f else []) ++ _
      rw [if_pos h]
    · rw [List.filter_cons_of_neg (by simpa using h)]
      show _ = (if odd8 q.c = b then q.f else []) ++ _
      rw [if_neg h]; rfl
theorem txL_sum (b : Bool) (qs : List Ft) (hf : FrOk (qs.map Ft.fm)) : (((txL b qs).map lat).map (·.length)).sum + (txL b qs).length * 64 ≤ 16777216 := by
  have h1 : (txL b qs).length ≤ qs.length := by unfold txL; rw [List.length_map]; exact List.length_filter_le ..
  have h2 : qs.length ≤ 32 := by simpa using hf.sz
  have h3 : (((txL b qs).map lat).map (·.length)).sum ≤ 8 * (txL b qs).length := by
    have : ∀ l : List (List UInt8), (∀ x ∈ l, x.length ≤ 8) → ((l.map lat).map (·.length)).sum ≤ 8 * l.length := by
      intro l h
      induction l with
      | nil => exact Nat.le_refl _
      | cons x r ih =>
        have := ih fun y hy => h y (List.mem_cons_of_mem _ hy)
        have hx := h x List.mem_cons_self
        simp only [List.map_cons, List.sum_cons, List.length_cons, latL] at this ⊢
        omega
    refine this _ fun x hx => ?_
    unfold txL at hx
    obtain ⟨q, hq, rfl⟩ := List.mem_map.mp hx
    exact hf.len q.fm (List.mem_map_of_mem (List.mem_filter.mp hq).1)
  omega
section
variable {prog : Program} {w : World} {A : Around} {E : Value → Shared → Prop} {s : Shared} {h₀ : Heap} {L : Addr} {m : Str → Option Value} {env : Env} {news : Led}
theorem srcC_txt {elt : Expr} {x : Str} {scope : Scope} {cl : List (Str × Addr)} {Q : Value → Shared → Prop} {ax : Addr} {n : Nat} {t0 t1 : Tok} {s₁ : Shared} (g : Bool → List UInt8)
    (hh : A.handled = none) (F : Fr h₀ L s₁.heap m) (N : News h₀ L s₁.heap news) (hm : (ax, tupO [.int 0 t0, .int 1 t1] n) ∈ news)
    (turn : ∀ b t ys I oI C oC Ca oCa D h tk (E' : Value → Shared → Prop), oCa.data = .cell (some (.int (kI b) t)) → Fr h₀ L h m → News h₀ L h ((I, oI) :: (C, oC) :: (Ca, oCa) :: (D, lst ys) :: news) →
      wpAny (model prog w) A (eval elt (compEnvC scope ((x, Ca) :: cl) C env)) (fun y s₂ => ∃ h' tk', s₂ = { s₁ with heap := h', toks := tk' } ∧ Fr h₀ L h' m ∧ News h₀ L h' ((I, oI) :: (C, oC) :: (Ca, oCa) :: (D, lst ys) :: news) ∧ ∃ t, y = .str (lat (g b)) t) E' { s₁ with heap := h, toks := tk })
    (fin : ∀ tx0 tx1 D h tk k, Fr h₀ L h m → News h₀ L h ((D, lst0 [.str (lat (g false)) tx0, .str (lat (g true)) tx1] k) :: news) → Q (.ref D) { s₁ with heap := h, toks := tk }) :
    SrcC prog w A h₀ L m env elt x scope cl Q (.ref ax) s₁ := by
  refine ⟨ax, [.int 0 t0, .int 1 t1], n, news, fun i ys => StrsAre ys (([g false, g true].take i).map lat), rfl, hh, F, N, hm, by rw [sizeLine_eq]; show 2 ≤ _; omega, .nil, ?_, fun ys D h tk hI F' N' => ?_⟩
  · intro i v ys I oI C oC Ca oCa D h tk E' hv hI hc F' N'
    have key : ∀ b t, v = .int (kI b) t → (([g false, g true].take (i + 1)).map lat) = (([g false, g true].take i).map lat) ++ [lat (g b)] → wpAny (model prog w) A (eval elt (compEnvC scope ((x, Ca) :: cl) C env)) (fun y s₂ => ∃ h' tk', s₂ = { s₁ with heap := h', toks := tk' } ∧ Fr h₀ L h' m ∧ News h₀ L h' ((I, oI) :: (C, oC) :: (Ca, oCa) :: (D, lst ys) :: news) ∧ StrsAre (ys ++ [y]) (([g false, g true].take (i + 1)).map lat)) E' { s₁ with heap := h, toks := tk } := by
      rintro b t rfl e
      refine wpAny_mono (turn b t ys I oI C oC Ca oCa D h tk E' hc F' N') (fun y s₂ hq => ?_) fun _ _ e => e
      obtain ⟨h', tk', e2, F₂, N₂, t', rfl⟩ := hq
      exact ⟨h', tk', e2, F₂, N₂, by rw [e]; exact strs_snoc hI⟩
    match i, hv with
    | 0, hv => cases hv; exact key false t0 rfl rfl
    | 1, hv => cases hv; exact key true t1 rfl rfl
    | i + 2, hv => cases hv
  · have hI : StrsAre ys [lat (g false), lat (g true)] := hI
    cases hI with
    | cons _ a r => cases r with
      | cons _ b r => cases r; exact fin a b D h tk _ F' N'
theorem srcPT_txt {ct elt : Expr} {a b : Str} {scope : Scope} {cl : List (Str × Addr)} {Q : Value → Shared → Prop} {ax : Addr} {qs : List Ft} {n : Nat} {s₁ : Shared} (c : Bool)
    (hh : A.handled = none) (F : Fr h₀ L s₁.heap m) (N : News h₀ L s₁.heap news) (hm : (ax, lst0 (ftV qs) n) ∈ news) (hfs : ∀ z ∈ ftL qs, z ∈ news) (hsz : qs.length ≤ 32)
    (turn : ∀ (q : Ft) ys I oI C oC D m₂ h tk (E' : Value → Shared → Prop) (ok : Bool), (odd8 q.c == c) = ok → NsObj oC m₂ → m₂ a = some (.int (q.c.toNat : Int) q.t1) → m₂ b = some (.str (lat q.f) q.t2) → Fr h₀ L h m → News h₀ L h ((I, oI) :: (C, oC) :: (D, lst ys) :: news) →
      wpAny (model prog w) A (isTrue ct (compEnvC scope cl C env) (eval ct (compEnvC scope cl C env))) (fun okb s₃ => okb = ok ∧ if okb = true then
        wpAny (model prog w) A (eval elt (compEnvC scope cl C env)) (fun y s₂ => ∃ h' tk', s₂ = { s₁ with heap := h', toks := tk' } ∧ Fr h₀ L h' m ∧ News h₀ L h' ((I, oI) :: (C, oC) :: (D, lst ys) :: news) ∧ ∃ t, y = .str (lat q.f) t) E' s₃
        else ∃ h' tk', s₃ = { s₁ with heap := h', toks := tk' } ∧ Fr h₀ L h' m ∧ News h₀ L h' ((I, oI) :: (C, oC) :: (D, lst ys) :: news)) E' { s₁ with heap := h, toks := tk })
    (fin : ∀ ys D h tk, StrsAre ys ((txL c qs).map lat) → Fr h₀ L h m → News h₀ L h ((D, lst ys) :: news) → Q (.ref D) { s₁ with heap := h, toks := tk }) :
    SrcPT prog w A h₀ L m env ct elt a b scope cl Q (.ref ax) s₁ := by
  refine ⟨ax, qs, n, news, fun i ys => StrsAre ys ((txL c (qs.take i)).map lat), rfl, hh, F, N, hm, hfs, by rw [sizeLine_eq]; omega, .nil, ?_, fun ys D h tk hI F' N' => fin ys D h tk (by have hI : StrsAre ys ((txL c (qs.take qs.length)).map lat) := hI; rw [List.take_length] at hI; exact hI) F' N'⟩
  intro i q ys I oI C oC D m₂ h tk E' hq hI hC hx hx2 F' N' _
  obtain ⟨hl, he⟩ := List.getElem?_eq_some_iff.mp hq
  have ht : txL c (qs.take (i + 1)) = txL c (qs.take i) ++ (if (odd8 q.c == c) = true then [q.f] else []) := by
    unfold txL
    rw [List.take_succ_eq_append_getElem hl, he, List.filter_append, List.map_append]
    congr 1
    by_cases h : (odd8 q.c == c) = true
    · rw [if_pos h]; simp [List.filter, h]
    · rw [if_neg h]; simp [List.filter, h]
  refine wpAny_mono (turn q ys I oI C oC D m₂ h tk E' _ rfl hC hx hx2 F' N') (fun okb s₃ hk => ?_) fun _ _ e => e
  obtain ⟨e1, hk⟩ := hk
  cases okb with
  | true =>
    rw [if_pos rfl] at hk ⊢
    refine wpAny_mono hk (fun y s₂ hy => ?_) fun _ _ e => e
    obtain ⟨h', tk', e2, F₂, N₂, t', rfl⟩ := hy
    refine ⟨h', tk', e2, F₂, N₂, ?_⟩
    show StrsAre _ ((txL c (qs.take (i + 1))).map lat)
    rw [ht, ← e1, if_pos rfl, List.map_append]
    exact strs_snoc hI
  | false =>
    rw [if_neg Bool.false_ne_true] at hk ⊢
    obtain ⟨h', tk', e2, F₂, N₂⟩ := hk
    refine ⟨h', tk', e2, F₂, N₂, ?_⟩
    show StrsAre _ ((txL c (qs.take (i + 1))).map lat)
    rw [ht, ← e1, if_neg Bool.false_ne_true, List.append_nil]
    exact hI
theorem compP_inv {elt : Expr} {x x₂ : Str} {scope : Scope} {cl : List (Str × Addr)} {S : Led → Prop} {Fin : List Value → Led → Prop} {qs : List Ft} (hfs : ∀ z ∈ ftL qs, z ∈ news) (Iv : Nat → List Value → Prop) (h0 : Iv 0 [])
    (turn : ∀ i (q : Ft) ys I oI C oC D m₂ h tk (E' : Value → Shared → Prop), qs[i]? = some q → Iv i ys → NsObj oC m₂ → m₂ x = some (.int (q.c.toNat : Int) q.t1) → m₂ x₂ = some (.str (lat q.f) q.t2) → Fr h₀ L h m → News h₀ L h ((I, oI) :: (C, oC) :: (D, lst ys) :: news) → Off3 I C D news →
      wpAny (model prog w) A (eval elt (compEnvC scope cl C env)) (CompEnd h₀ L m { s with heap := h, toks := tk } I oI C oC D (lst ys) S (fun y news' => news' = news ∧ Iv (i + 1) (ys ++ [y]))) E' { s with heap := h, toks := tk })
    (fin : ∀ ys, Iv qs.length ys → Fin ys news) : LCp.CompRestP prog w A h₀ L m env elt x x₂ scope cl s S (fun i v => (ftV qs).toArray[i]? = some v) Fin (ftV qs).toArray.size 0 [] news := by
  have hn : (ftV qs).toArray.size = qs.length := by rw [List.size_toArray]; simp [ftV]
  rw [hn]
  have key : ∀ (j i : Nat) (ys : List Value), i + j = qs.length → Iv i ys → LCp.CompRestP prog w A h₀ L m env elt x x₂ scope cl s S (fun i v => (ftV qs).toArray[i]? = some v) Fin j i ys news := by
    intro j
    induction j with
    | zero =>
      intro i ys hi hy
      have e : i = qs.length := by omega
      subst e
      exact LCp.CompRestP.zero (fin ys hy)
    | succ j ih =>
      intro i ys hi hy
      refine LCp.CompRestP.succ ?_
      intro v hv
      obtain ⟨q, hq, rfl⟩ := ft_v (v := v) (by simpa using hv)
      refine ⟨q.a, ftO q, .int (q.c.toNat : Int) q.t1, .str (lat q.f) q.t2, q.k, rfl, hfs _ (ft_mem hq), rfl, rfl, ?_⟩
      intro I oI C oC D m₂ h tk E' hC hx hx2 F N off ne
      refine wpAny_mono (turn i q ys I oI C oC D m₂ h tk E' hq hy hC hx hx2 F N off) (fun y s₂ hq => ?_) fun _ _ e => e
      obtain ⟨h', tk', nw, e, F', N', off', hS, rfl, hn⟩ := hq
      exact ⟨h', tk', _, e, F', N', off', hS, ih (i + 1) _ (by omega) hn⟩
  exact key qs.length 0 [] (by omega) h0
end
end Mine
end
section
namespace Mine
open LCg
section
variable {prog : Program} {w : World} {A : Around} {E : Value → Shared → Prop} {s : Shared} {h₀ : Heap} {L : Addr} {m : Str → Option Value} {env : Env} {news : Led}
theorem store_list {y : Str} {py : Pos} {Q : Flow → Shared → Prop} {s₁ : Shared} {news' : Led} {C D : Addr} {ys : List Value} {m' : Str → Option Value} {h' : Heap} {tk : Nat} (hLe : env.locals = L) (hy : env.kindOf y = some .local) (hp : (env.scope.kind == .class || (env.scope.kind == .module && env.locals != env.globals)) = false)
    (F' : Fr h₀ L h' m) (N' : News h₀ L h' ((D, lst ys) :: news')) (hn : h'.Ns C m') (hC₀ : h₀.get? C = none) (hCL : C ≠ L) (hCD : C ≠ D) (offC : ∀ p ∈ news', p.1 ≠ C)
    (fin : ∀ h tk, Fr h₀ L h (fun z => if z = y then some (.ref D) else m z) → News h₀ L h ((D, lst ys) :: news') → Q .next { s₁ with heap := h, toks := tk }) :
    wpAny (model prog w) A (assign (.Name y py) env (.ref D)) (fun _ s'' => ∃ m, s''.heap.Ns C m ∧ ∀ h', Heap.SameBut C s''.heap h' → Q .next { s'' with heap := h' }) E { s₁ with heap := h', toks := tk } := by
  subst hLe
  refine wpAny_assign_Name (wpAny_storeName_local hy F'.ns (fun h₂ hn₂ hs₂ => ?_) hp)
  have hL₀ : h₀.get? env.locals = none := Heap.get?_none_of_le F'.above
  have F₂ : Fr h₀ env.locals h₂ (fun z => if z = y then some (.ref D) else m z) := ⟨hn₂, fun b o e => hs₂.extBut b o (fun q => by rw [q, hL₀] at e; cases e) (F'.keep b o e), F'.above⟩
  refine ⟨m', hn.sameBut hs₂ hCL, fun h'' hs'' => fin h'' _ (F₂.change hs'' hCL hC₀) fun p hp => ?_⟩
  have z : h₂.get? p.1 = some p.2 := hs₂.extBut _ _ (N' p hp).2.1 (N' p hp).1
  refine ⟨hs''.extBut _ _ ?_ z, (N' p hp).2⟩
  rcases List.mem_cons.mp hp with rfl | hp
  · exact Ne.symm hCD
  · exact offC p hp
noncomputable def SrcCA (prog : Program) (w : World) (A : Around) (h₀ : Heap) (L : Addr) (m : Str → Option Value) (env : Env) (elt : Expr) (x y : Str) (scope : Scope) (cl : List (Str × Addr)) (Q : Flow → Shared → Prop) (xv : Value) (s₁ : Shared) : Prop :=
  ∃ ax vs n news Iv, xv = .ref ax ∧ A.handled = none ∧ Fr h₀ L s₁.heap m ∧ News h₀ L s₁.heap news ∧ (ax, tupO vs n) ∈ news ∧ vs.length ≤ sizeLine ∧ Iv 0 [] ∧
    TurnC prog w A h₀ L m env elt x scope cl s₁ news vs Iv ∧ ∀ ys D h tk, Iv vs.length ys → Fr h₀ L h (fun z => if z = y then some (.ref D) else m z) → News h₀ L h ((D, lst ys) :: news) → Q .next { s₁ with heap := h, toks := tk }
theorem Assign_ListComp_C {elt iter : Expr} {x y z n0 : Str} {px py : Pos} {scope : Scope} {cl : List (Str × Addr)} {pos spos : Pos} {Q : Flow → Shared → Prop} (_F₀ : Fr h₀ L s.heap m) (hLe : env.locals = L)
    (hsw : swapsWith (.ListComp elt [⟨.Name x px, iter, [], 0⟩] scope pos) (some (.Name z py)) spos.line env = pure true)
    (hclos : closureFor scope env = pure cl) (hnm : scope.names = [(n0, .local), (x, .cell), (y, .free)]) (hkind : scope.kind = .function) (hkx : ∀ Ca C, Env.kindOf (compEnvC scope ((x, Ca) :: cl) C env) x = some .cell)
    (hnames : ∀ y ∈ scope.names, y.2 = .local → scope.names.lookup y.1 = some .local)
    (hy : env.kindOf z = some .local) (hp : (env.scope.kind == .class || (env.scope.kind == .module && env.locals != env.globals)) = false)
    (h : wpAny (model prog w) A (eval iter env) (SrcCA prog w A h₀ L m env elt x z scope cl Q) E s)
    (hs : ∀ x, foldedSetIterable iter env x = pure x := by intro _; rfl) :
    wpAny (model prog w) A (exec (.Assign [.Name z py] (.ListComp elt [⟨.Name x px, iter, [], 0⟩] scope pos) spos) env) Q E s := by
  rw [exec_Assign_Name_used _ _ _ _ hsw]
  refine wpAny_bind (wpAny_standAt (wpAny_bind ?_))
  show wpAny _ A (do let _ ← comprehension (.ListComp elt [⟨.Name x px, iter, [], 0⟩] scope pos) scope env _ (newList []) false (eval iter env) (some (assign (.Name z py) env))) _ _ s
  refine wpAny_bind (wpAny_mono (wpAny_comprehension_free (use := some (assign (.Name z py) env)) (Q := fun _ s' => Q .next s') rfl hs hclos hkind hnames
    (wpAny_mono h (fun xv s₁ h₁ => ?_) fun _ _ e => e)) (fun _ s' hq => wpAny_pure (wpAny_pure hq)) fun _ _ e => e)
  obtain ⟨ax, vs, na, news, Iv, rfl, hh, F, N, hm, hsz, hi0, T, fin⟩ := h₁
  have hl : s₁.heap.IsTuple ax vs.toArray := ⟨_, (N _ hm).1, rfl, _, rfl⟩
  have hlt : ax < s₁.heap.objs.size := Heap.lt_size (N _ hm).1
  refine wpAny_pyIter_tuple hl ?_
  have up : ∀ b o, s₁.heap.get? b = some o → (s₁.heap.push { cls := .type "tuple_iterator", data := .fields #[.ref ax, .int 0 0] }).get? b = some o := fun b o e => Heap.get?_push_of_some _ e
  refine block_C hh (Nat.ne_of_lt hlt) hm hsz ⟨_, Heap.get?_push_size _ rfl, rfl, rfl⟩ (by show _ < (s₁.heap.push _).objs.size; rw [Heap.size_push]; exact Nat.lt_succ_self _) hnm hkind hkx (F.keeps up) (N.grown up) (Nat.ne_of_lt F.ns.lt) (next_is_new F) (fun p hp => Nat.ne_of_lt (Heap.lt_size (N p hp).1)) hi0 (turnC_heap T) ?_
  intro D C h tk m' ys hI F' N' hn hC₀ hCL hCD offC
  exact store_list hLe hy hp F' N' hn hC₀ hCL hCD offC fun h tk F₂ N₂ => fin ys D h tk hI F₂ N₂
theorem srcCA_txt {elt : Expr} {x z : Str} {scope : Scope} {cl : List (Str × Addr)} {Q : Flow → Shared → Prop} {ax : Addr} {n : Nat} {t0 t1 : Tok} {s₁ : Shared} (g : Bool → List UInt8)
    (hh : A.handled = none) (F : Fr h₀ L s₁.heap m) (N : News h₀ L s₁.heap news) (hm : (ax, tupO [.int 0 t0, .int 1 t1] n) ∈ news)
    (turn : ∀ b t ys I oI C oC Ca oCa D h tk (E' : Value → Shared → Prop), oCa.data = .cell (some (.int (kI b) t)) → Fr h₀ L h m → News h₀ L h ((I, oI) :: (C, oC) :: (Ca, oCa) :: (D, lst ys) :: news) →
      wpAny (model prog w) A (eval elt (compEnvC scope ((x, Ca) :: cl) C env)) (fun y s₂ => ∃ h' tk', s₂ = { s₁ with heap := h', toks := tk' } ∧ Fr h₀ L h' m ∧ News h₀ L h' ((I, oI) :: (C, oC) :: (Ca, oCa) :: (D, lst ys) :: news) ∧ ∃ t, y = .str (lat (g b)) t) E' { s₁ with heap := h, toks := tk })
    (fin : ∀ tx0 tx1 D h tk k, Fr h₀ L h (fun y => if y = z then some (.ref D) else m y) → News h₀ L h ((D, lst0 [.str (lat (g false)) tx0, .str (lat (g true)) tx1] k) :: news) → Q .next { s₁ with heap := h, toks := tk }) :
    SrcCA prog w A h₀ L m env elt x z scope cl Q (.ref ax) s₁ := by
  refine ⟨ax, [.int 0 t0, .int 1 t1], n, news, fun i ys => StrsAre ys (([g false, g true].take i).map lat), rfl, hh, F, N, hm, by rw [sizeLine_eq]; show 2 ≤ _; omega, .nil, ?_, fun ys D h tk hI F' N' => ?_⟩
  · intro i v ys I oI C oC Ca oCa D h tk E' hv hI hc F' N'
    have key : ∀ b t, v = .int (kI b) t → (([g false, g true].take (i + 1)).map lat) = (([g false, g true].take i).map lat) ++ [lat (g b)] → wpAny (model prog w) A (eval elt (compEnvC scope ((x, Ca) :: cl) C env)) (fun y s₂ => ∃ h' tk', s₂ = { s₁ with heap := h', toks := tk' } ∧ Fr h₀ L h' m ∧ News h₀ L h' ((I, oI) :: (C, oC) :: (Ca, oCa) :: (D, lst ys) :: news) ∧ StrsAre (ys ++ [y]) (([g false, g true].take (i + 1)).map lat)) E' { s₁ with heap := h, toks := tk } := by
      rintro b t rfl e
      refine wpAny_mono (turn b t ys I oI C oC Ca oCa D h tk E' hc F' N') (fun y s₂ hq => ?_) fun _ _ e => e
      obtain ⟨h', tk', e2, F₂, N₂, t', rfl⟩ := hq
      exact ⟨h', tk', e2, F₂, N₂, by rw [e]; exact strs_snoc hI⟩
    match i, hv with
    | 0, hv => cases hv; exact key false t0 rfl rfl
    | 1, hv => cases hv; exact key true t1 rfl rfl
    | i + 2, hv => cases hv
  · have hI : StrsAre ys [lat (g false), lat (g true)] := hI
    cases hI with
    | cons _ a r => cases r with
      | cons _ b r => cases r; exact fin a b D h tk _ F' N'
end
end Mine
end
section
namespace Mine
def isOk : Res → Prop
  | .tok _ => True
  | .none => True
  | _ => False
def toldV : Res → Value → Led → Prop
  | .tok w, v, xt => xt = [] ∧ ∃ t, v = .str (lat w) t
  | .none, v, xt => xt = [] ∧ v = .none
  | .noq, v, xt => ∃ a t1 t2 k, v = .ref a ∧ xt = [(a, { cls := .type "tuple", data := .seq #[.str "refused" t1, .str "No closing quotation" t2] k })]
  | .noe, v, xt => ∃ a t1 t2 k, v = .ref a ∧ xt = [(a, { cls := .type "tuple", data := .seq #[.str "refused" t1, .str "No escaped character" t2] k })]
end Mine
end
section
namespace Mine
noncomputable def ptV : Pt → Nat → Value → Int → Led → Prop
  | .ok w k, p, x, p', xt => xt = [] ∧ (∃ t, x = .str (lat w) t) ∧ p' = ((p + k : Nat) : Int)
  | .bad e, _, x, _, xt => toldV e x xt
theorem drop_nil {T : List UInt8} {b : Nat} (h : T.drop b = []) : T.length ≤ b := by
  have := congrArg List.length h
  rw [List.length_drop, List.length_nil] at this
  exact Nat.le_of_sub_eq_zero this
theorem drop_cons {T : List UInt8} {p : Nat} {c : UInt8} {r : List UInt8} (h : T.drop p = c :: r) : T[p]? = some c ∧ p < T.length ∧ r = T.drop (p + 1) ∧ r.length + p + 1 = T.length := by
  have hl := congrArg List.length h
  rw [List.length_drop, List.length_cons] at hl
  have hp := Nat.lt_of_sub_pos (hl ▸ Nat.succ_pos _ : 0 < T.length - p)
  refine ⟨?_, hp, ?_, by rw [Nat.add_right_comm, ← hl, Nat.sub_add_cancel (Nat.le_of_lt hp)]⟩
  · have : (T.drop p)[0]? = some c := by rw [h]; rfl
    rw [List.getElem?_drop] at this
    exact this
  · rw [← List.drop_drop, h]; rfl
theorem hl1 {T : List UInt8} {p : Nat} {r l : List UInt8} (h : p < T.length) (hr : r = T.drop (p + 1)) (e : r = l) : (T.drop (p + 1)).take (p + 2 - (p + 1)) = l.take 1 := by
  rw [← hr, show p + 2 - (p + 1) = 1 from Nat.add_sub_add_left p 2 1, e]
theorem zc1 (p : Nat) : (p : Int) + 1 = ((p + 1 : Nat) : Int) := rfl
theorem zc2 (p : Nat) : (p : Int) + 1 + 1 = ((p + 2 : Nat) : Int) := rfl
theorem nil_or_cons (r : List UInt8) : r = [] ∨ ∃ d l, r = d :: l := by
  cases r with
  | nil => exact .inl rfl
  | cons d l => exact .inr ⟨d, l, rfl⟩
section
variable {prog : Program} {w : World} {A : Around} {E : Value → Shared → Prop} {s : Shared} {t u v : Tok} {value slice : Expr} {T : List UInt8} {h₀ : Heap} {L : Addr} {m : PySem.Str → Option Value} {news : Led}
theorem hs_str {a b : Option Expr} {ps : Pos} {x : PySem.Str} {l : Addr} : subscripted (Expr.Slice a b none ps) false (.str x t) (.ref l) = operate [.ref l, .str x t] (getItem (.str x t) (.ref l)) := by with_unfolding_all rfl
theorem ht_name {x : PySem.Str} {ps : Pos} {v : Value} : ∀ r, letTemporaryGo (Expr.Name x ps) v r = pure () := by intro _; with_unfolding_all rfl
theorem hs_item {n : PySem.Str} {ps : Pos} {x : PySem.Str} {z : Int} : subscripted (Expr.Name n ps) false (.str x t) (.int z u) = operate [.str x t, .int z u] (getItem (.str x t) (.int z u)) := by with_unfolding_all rfl
theorem m_sl {Q : Value → Shared → Prop} {i j : Nat} {l : List UInt8} {zi zj : Int} {ui uj : Tok} {a b : Option Expr} {ps qs : Pos} {nm : PySem.Str} (ei : zi = (i : Int)) (ej : zj = (j : Int)) (el : (T.drop i).take (j - i) = l) (hij : i ≤ j) (hi : i ≤ T.length) (hF : Fr h₀ L s.heap m) (hN : News h₀ L s.heap news) (hz : T.length ≤ 1000)
    (h : ∀ h' t' k, Fr h₀ L h' m → News h₀ L h' news → Q (.str (lat l) t') { s with heap := h', toks := k }) :
    wpAny (model prog w) A (subscriptTail (Expr.Name nm qs) (Expr.Slice a b none ps) (.str (lat T) t) (.ref s.heap.objs.size)) Q E { s with heap := s.heap.push { cls := .type "slice", data := .fields #[.int zi ui, .int zj uj, .none] } } :=
  m_s_ss ei ej hij hi hF hN (Nat.le_trans hz (by decide)) (el ▸ h) hs_str ht_name
theorem m_item {Q : Value → Shared → Prop} {i : Nat} {z : Int} {c : UInt8} {n nm : PySem.Str} {ps qs : Pos} (hi : T[i]? = some c) (e : z = (i : Int)) (hz : T.length ≤ 1000) (h : ∀ t' k, Q (.str (lat [c]) t') { s with toks := k }) :
    wpAny (model prog w) A (subscriptTail (Expr.Name nm qs) (Expr.Name n ps) (.str (lat T) t) (.int z u)) Q E s := m_itemZ hi e (Nat.le_trans hz (by decide)) h hs_item ht_name
theorem lt_t {Q : Value → Shared → Prop} {a b : Int} (e : a < b) (h : Q (.bool true) s) : wpAny (model prog w) A (compareOp .Lt (.int a t) (.int b u)) Q E s := lt_int (by rw [decide_eq_true e]; exact h)
theorem lt_f {Q : Value → Shared → Prop} {a b : Int} (e : ¬ a < b) (h : Q (.bool false) s) : wpAny (model prog w) A (compareOp .Lt (.int a t) (.int b u)) Q E s := lt_int (by rw [decide_eq_false e]; exact h)
theorem ge_t {Q : Value → Shared → Prop} {a b : Int} (e : ¬ a < b) (h : Q (.bool true) s) : wpAny (model prog w) A (compareOp .GtE (.int a t) (.int b u)) Q E s := ge_int (by rw [decide_eq_true (Int.not_lt.mp e)]; exact h)
theorem ge_f {Q : Value → Shared → Prop} {a b : Int} (e : a < b) (h : Q (.bool false) s) : wpAny (model prog w) A (compareOp .GtE (.int a t) (.int b u)) Q E s := ge_int (by rw [decide_eq_false (Int.not_le.mpr e)]; exact h)
theorem m_truthyS0 {Q : Bool → Shared → Prop} (h : Q false { s with toks := s.toks + 1 + 1 }) : wpAny (model prog w) A (truthy (.str (lat []) t)) Q E s :=
  P.truthy_str (by decide) h
end
theorem f_bs {c : UInt8} : (lat [c] == ("\\" : Str)) = (c == 92) := by rw [b1]; exact lat_one _ _
theorem f_dq1 {c : UInt8} : (lat [c] == ("\"" : Str)) = (c == 34) := by rw [q1]; exact lat_one _ _
theorem fr_sw {h₀ h : Heap} {L : Addr} {x z : Str} {a a' b : Option Value} {m : Str → Option Value} (F : Fr h₀ L h (fun y => if y = x then a' else if y = z then b else if y = x then a else m y)) (ne : x ≠ z) : Fr h₀ L h (fun y => if y = z then b else if y = x then a' else m y) := fr_to F fun y => by
  by_cases h : y = x
  · have h2 : y ≠ z := fun e => ne (h.symm.trans e)
    rw [if_pos h, if_neg h2, if_pos h]
  · rw [if_neg h, if_neg h, if_neg h]
theorem pt_esc {c d : UInt8} {r l : List UInt8} (h : c = 92) (e : r = d :: l) : ptOf (c :: r) = .ok [d] 2 := by subst h; subst e; rfl
theorem pt_esc0 {c : UInt8} {r : List UInt8} (h : c = 92) (e : r = []) : ptOf (c :: r) = .bad .noe := by subst h; subst e; rfl
theorem hc_of {c : UInt8} (h : (c == 39 || c == 34) = true) : c = 39 ∨ c = 34 := by simpa using h
theorem pt_ch {c : UInt8} {r : List UInt8} (h : ¬ c = 92) (hq : (c == 39 || c == 34) = false) : ptOf (c :: r) = .ok [c] 1 := by
  rw [ptOf_cons, if_neg h, if_neg fun e => by rcases e with rfl | rfl <;> cases hq]
section
variable {T r r2 : List UInt8} {c d : UInt8} {p b F0 : Nat} {z : Int}
theorem pt_bad (h : ¬ c = 92) (hq : (c == 39 || c == 34) = true) (i1 : p + 1 ≤ b) (i3 : b + qx c (T.drop b) = F0) (hF : p + 1 + qx c r = F0) (hDb : T.drop b = []) (hrl : r.length + p + 1 = T.length) : ptOf (c :: r) = .bad (if b = T.length then .noq else .noe) := by
  have hb := drop_nil hDb
  rw [hDb, qx_nil] at i3
  have h1 : p + 1 + r.length = T.length := (Nat.add_comm (p + 1) r.length).trans hrl
  have h2 : p + 1 + qx c r = b := hF.trans i3.symm
  rw [ptOf_cons, if_neg h, if_pos (hc_of hq), if_neg (Nat.not_lt.mpr (Nat.le_of_add_le_add_left (Nat.le_trans (Nat.le_of_eq h1) (Nat.le_trans hb (Nat.le_of_eq h2.symm)))))]
  congr 1
  by_cases e : b = T.length
  · rw [if_pos (Nat.add_left_cancel (h2.trans (e.trans h1.symm))), if_pos e]
  · rw [if_neg (fun g => e (h2.symm.trans ((congrArg (p + 1 + ·) g).trans h1))), if_neg e]
theorem pt_noe (h : ¬ c = 92) (hq : (c == 39 || c == 34) = true) (i1 : p + 1 ≤ b) (i3 : b + qx c (T.drop b) = F0) (hF : p + 1 + qx c r = F0) (hDb : T.drop b = []) (hrl : r.length + p + 1 = T.length) (i4 : z = b) (g : (T.length : Int) < z) : ptOf (c :: r) = .bad .noe := by
  rw [pt_bad h hq i1 i3 hF hDb hrl, if_neg (fun e => absurd g (by rw [i4, e]; exact Int.lt_irrefl _))]
theorem pt_noq (h : ¬ c = 92) (hq : (c == 39 || c == 34) = true) (i1 : p + 1 ≤ b) (i3 : b + qx c (T.drop b) = F0) (hF : p + 1 + qx c r = F0) (hDb : T.drop b = []) (hrl : r.length + p + 1 = T.length) (i4 : z = b) (g : ¬ (T.length : Int) < z) : ptOf (c :: r) = .bad .noq := by
  have hb := drop_nil hDb
  rw [pt_bad h hq i1 i3 hF hDb hrl, if_pos (Nat.le_antisymm (Nat.le_of_not_lt fun l => g (by rw [i4]; exact Int.ofNat_lt.mpr l)) hb)]
theorem pt_okq (h : ¬ c = 92) (hq : (c == 39 || c == 34) = true) (i1 : p + 1 ≤ b) (i3 : b + qx c (T.drop b) = F0) (hF : p + 1 + qx c r = F0) (hDb : T.drop b = d :: r2) (hd : d = c) (hbl : b < T.length) (hrl : r.length + p + 1 = T.length) :
    ptOf (c :: r) = .ok (if c = 34 then unesc (r.take (b - (p + 1))) else r.take (b - (p + 1))) (b - (p + 1) + 2) := by
  rw [hDb, hd, qx_end (hc_of hq)] at i3
  have h2 : p + 1 + qx c r = b := hF.trans i3.symm
  have e : qx c r = b - (p + 1) := by rw [← h2, Nat.add_sub_cancel_left]
  rw [ptOf_cons, if_neg h, if_pos (hc_of hq), e, if_pos (Nat.sub_lt_left_of_lt_add i1 ((Nat.add_comm (p + 1) r.length).trans hrl ▸ hbl))]
theorem pt_ok34 (h : ¬ c = 92) (hq : (c == 39 || c == 34) = true) (i1 : p + 1 ≤ b) (i3 : b + qx c (T.drop b) = F0) (hF : p + 1 + qx c r = F0) (hDb : T.drop b = d :: r2) (hd : d = c) (hbl : b < T.length) (hrl : r.length + p + 1 = T.length) (g : c = 34) :
    ptOf (c :: r) = .ok (unesc (r.take (b - (p + 1)))) (b - (p + 1) + 2) := by rw [pt_okq h hq i1 i3 hF hDb hd hbl hrl, if_pos g]
theorem pt_ok39 (h : ¬ c = 92) (hq : (c == 39 || c == 34) = true) (i1 : p + 1 ≤ b) (i3 : b + qx c (T.drop b) = F0) (hF : p + 1 + qx c r = F0) (hDb : T.drop b = d :: r2) (hd : d = c) (hbl : b < T.length) (hrl : r.length + p + 1 = T.length) (g : ¬ c = 34) :
    ptOf (c :: r) = .ok (r.take (b - (p + 1))) (b - (p + 1) + 2) := by rw [pt_okq h hq i1 i3 hF hDb hd hbl hrl, if_neg g]
theorem st_esc (i1 : p + 1 ≤ b) (i3 : b + qx c (T.drop b) = F0) (i4 : z = b) (hDb : T.drop b = d :: r2) (hbl : b < T.length) (h34 : c = 34) (h92 : d = 92) : p + 1 ≤ b + 2 ∧ b + 2 ≤ T.length + 1 ∧ b + 2 + qx c (T.drop (b + 2)) = F0 ∧ z + 2 = ((b + 2 : Nat) : Int) := by
  obtain ⟨_, _, hr2, _⟩ := drop_cons hDb
  refine ⟨Nat.le_trans i1 (Nat.le_add_right _ _), Nat.succ_le_succ hbl, ?_, by rw [i4]; rfl⟩
  rw [hDb, h34, h92, qx_esc, hr2, List.drop_drop] at i3
  rw [h34]
  have : b + 1 + 1 = b + 2 := rfl
  rw [this] at i3
  exact (Nat.add_assoc _ _ _).trans i3
theorem st_one (hq : (c == 39 || c == 34) = true) (i1 : p + 1 ≤ b) (i3 : b + qx c (T.drop b) = F0) (i4 : z = b) (hDb : T.drop b = d :: r2) (hbl : b < T.length) (hd : ¬ d = c) (he : ¬ (c = 34 ∧ d = 92)) : p + 1 ≤ b + 1 ∧ b + 1 ≤ T.length + 1 ∧ b + 1 + qx c (T.drop (b + 1)) = F0 ∧ z + 1 = ((b + 1 : Nat) : Int) := by
  obtain ⟨_, _, hr2, _⟩ := drop_cons hDb
  refine ⟨Nat.le_succ_of_le i1, Nat.le_succ_of_le hbl, ?_, by rw [i4]; rfl⟩
  rw [hDb, qx_more (hc_of hq) r2 hd he, hr2] at i3
  exact (Nat.add_assoc _ _ _).trans i3
theorem pt_z (i1 : p + 1 ≤ b) (i4 : z = b) : z + 1 = ((p + (b - (p + 1) + 2) : Nat) : Int) := by
  obtain ⟨k, rfl⟩ := Nat.exists_eq_add_of_le i1
  rw [i4, Nat.add_sub_cancel_left]
  exact congrArg (fun x : Nat => ((x + 1 : Nat) : Int)) (Nat.add_right_comm p 1 k)
theorem fall2 (hbl : b < T.length) : T.length + 2 - (b + 2) < T.length + 2 - b := Nat.sub_lt_sub_left (Nat.lt_of_lt_of_le hbl (Nat.le_add_right _ _)) (Nat.lt_add_of_pos_right (by decide))
theorem fall1 (hbl : b < T.length) : T.length + 2 - (b + 1) < T.length + 2 - b := Nat.sub_lt_sub_left (Nat.lt_of_lt_of_le hbl (Nat.le_add_right _ _)) (Nat.lt_succ_self _)
end
theorem nw2 {h₀ h : Heap} {L : Addr} {a x : Addr × Obj} {r : Led} (N : News h₀ L h (a :: x :: r)) : News h₀ L h (a :: r) := led_to N fun q hq => by
  rcases List.mem_cons.mp hq with rfl | hq
  · exact .head _
  · exact .tail _ (.tail _ hq)
theorem nw3 {h₀ h : Heap} {L : Addr} {a b x : Addr × Obj} {r : Led} (N : News h₀ L h (a :: b :: x :: r)) : News h₀ L h (a :: b :: r) := led_to N fun q hq => by
  rcases List.mem_cons.mp hq with rfl | hq
  · exact .head _
  · rcases List.mem_cons.mp hq with rfl | hq
    · exact .tail _ (.head _)
    · exact .tail _ (.tail _ (.tail _ hq))
theorem cs_size {vs : List Value} {B : List UInt8} (h : StrsAre vs ((spl 92 92 B).map lat)) (hB : B.length ≤ 1000) : vs.toArray.size ≤ sizeLine := by
  rw [List.size_toArray, strs_len h, List.length_map, sizeLine_eq]
  have := (spl_len 92 92 B.length B (Nat.le_refl _)).2
  omega
theorem part (w : World) (T : List UInt8) (tT : Tok) (p : Nat) (tp : Tok) (c : UInt8) (r : List UInt8) (hD : T.drop p = c :: r) (hT : T.length ≤ 1000) :
    CtrP w 825 [.str (lat T) tT, .int p tp] [] 4 40 (fun v new => ∃ a x xt p' t k, v = .ref a ∧ new = (a, { cls := .type "tuple", data := .seq #[x, .int p' t] k }) :: xt ∧ ptV (ptOf (c :: r)) p x p' xt) := by
  obtain ⟨hTp, hpl, hr1, hrl⟩ := drop_cons hD
  obtain ⟨F0, hF0⟩ : ∃ F0, p + 1 + qx c r = F0 := ⟨_, rfl⟩
  have hF1 : p + 1 + qx c (T.drop (p + 1)) = F0 := hr1 ▸ hF0
  unfold CtrP
  k_fill
  k_with_none
  k_with "om" => (with_reducible first|assumption|exact rm1 (by assumption) rfl|exact rm2 (by assumption) rfl|exact rm3 (by assumption) rfl|exact rm0 (by assumption)|exact Nat.le_of_lt (by assumption)|exact Nat.le_add_right _ _|exact Nat.lt_succ_self _|exact Nat.le_of_not_lt (by assumption)|exact lt_i (by assumption)|exact nlt_i (by assumption)|exact le_big (by assumption) rfl)
  k_with "k_all" => (first|(first|assumption|exact off_lt (by walk_at "and_last")|exact off_le (by walk_at "and_last") (Nat.le_succ _)|exact off_le (by walk_at "and_last") (Nat.le_add_right _ _)|exact off_le' (by assumption) (Nat.le_refl _)|exact off_le' (by assumption) (Nat.le_succ _)|exact off_le' (by assumption) (Nat.le_add_right _ _)|exact off_le' (by assumption) (Nat.le_succ_of_le (Nat.le_succ _))|exact off_le' (by assumption) (Nat.le_succ_of_le (Nat.le_succ_of_le (Nat.le_succ _))))|fail)
  k_with "k_ne" => (first|(first|assumption|exact Ne.symm (by assumption))|fail)
  k_with "k_upd" => (first|((refine' upd_ap ?ap9 ?ae9 ?st9 ?sk9;(case ap9 => assumption);(case ae9 => exact rfl);(case st9 => walk_at "setn");(case sk9 => first|decide|omega)))|fail)
  k_with "m_enter" => (((first|(refine' code_def (by k_asm) (by k_asm) (by k_asm) (by k_asm) (by k_asm) rfl rfl (by first|exact rfl|assumption|fail) (by k_is) (by k_is) (by ktr_room) (by first|exact BindsTo.of_eq rfl|exact binds_K (by k_in) rfl (by k_is) rfl rfl rfl|fail) (by first|(exact locs rfl)|fail) ?_ (by first|exact rfl|fail) (by first|exact rfl|fail) (by first|exact rfl|fail) (by decide);k_whole;intro g' L' h' FG' F' N' B' X' T';(try dsimp only);(try k_lift B');skip)|(refine' code_defC (by k_asm) (by k_asm) (by k_asm) (by k_asm) (by k_asm) rfl rfl (by first|exact rfl|assumption|fail) (by k_is) (by k_is) (by ktr_room) (by first|exact BindsTo.of_eq rfl|exact binds_K (by k_in) rfl (by k_is) rfl rfl rfl|fail) (by first|exact rfl|fail) (by first|(decide +kernel)|fail) ?_ (by first|exact rfl|fail) (by first|exact rfl|fail) (by first|exact rfl|fail);k_whole;intro g' L' h' tk' cells' FG' F' N' Y' B' X' T' l1;(try k_lt l1);k_cells Y';(try simp only [List.cons_append, List.nil_append] at N');(try dsimp only);(try k_lift B');skip)));(all_goals (first|(revert FG' F' N' B' X' T';revert g' L' h';refine eps3 eH eN eH ?_;generalize q31 _ = g', q32 _ = L', q33 _ = h';refine hold3 ?_;intro FG' F' N' B' X' T')|skip)))
  k_with "eval Name" => ((k_here;k_dflt (first|(refine' m_local (by first|exact rfl|fail) (by first|exact rfl|fail) (by decide) (by k_asm) (by first|exact rfl|fail) ?_;k_whole)|(refine' m_free (by first|exact rfl|fail) (by first|exact rfl|fail) (by decide) (by decide) (by first|exact rfl|fail) (by k_asm) (by k_mem) (by k_asm) ?_;k_whole)|(refine' m_global (by first|exact rfl|fail) (by first|exact rfl|fail) (by decide) (by first|exact rfl|fail) (by k_asm) (by k_asm) (by k_asm) (by k_is) ?_;k_whole)|(refine' m_builtin (by first|exact rfl|fail) (by first|exact rfl|fail) (by decide) (by first|exact rfl|fail) (by first|exact rfl|fail) (by k_asm) (by k_asm) (by k_asm) (by k_is) (by decide) (by first|(boot_by_name)|fail) ?_;k_whole))))
  k_with "exec While" => ((k_here;k_extra "m while"))
  k_with "call builtin:len" => ((((k_here;(with_reducible show wpAny _ _ (call (Value.builtin "len") [Value.str (lat _) _]) _ _ _);k_dflt (refine' m_lenS (Nat.le_trans hT (by decide)) ?_;k_whole;intro _ _))));(all_goals (first|(rename_i u19 u29;revert u19 u29;refine eps2 eN eN ?_;generalize q21 _ = u19, q22 _ = u29;refine hold2 ?_)|skip)))
  k_with "exec If" => ((k_here;refine wpAny_If ?_))
  k_with "execs cons" => (((with_reducible refine wpAny_execs_cons ?_);try dsimp only))
  k_with "ite" => ((k_here;k_dflt (first|refine ite_pos (by with_reducible exact rfl) ?_|(with_reducible refine ite_neg Bool.false_ne_true ?_)|(k_closed;first|refine ite_pos (by decide) ?_|refine ite_neg (by decide) ?_)|refine ite_pos (by with_reducible assumption) ?_|refine ite_neg (by with_reducible assumption) ?_|(refine split_dec ?_ ?_ <;> intro hi9))))
  k_with "compareOp NotEq str str" => ((k_here;k_dflt (refine' m_sne (by first|with_reducible assumption|with_reducible exact lat_nil_eq|with_reducible exact lat_cons_ne _ _|with_reducible exact lat_one _ _|with_reducible exact rfl|fail) ?_;k_whole;(try simp only [Bool.not_true, Bool.not_false]))))
  k_with "compareOp Eq str str" => ((k_here;k_dflt (refine' m_seq (by first|with_reducible assumption|with_reducible exact f_bs|with_reducible exact f_dq1|with_reducible exact lat_one _ _|with_reducible exact rfl|fail) ?_;k_whole)))
  k_with "compareOp NotIn str str" => ((k_here;k_dflt (refine' m_snin (by first|with_reducible assumption|with_reducible exact f_qs|with_reducible exact rfl|fail) ?_;k_whole;(try simp only [Bool.not_true, Bool.not_false]))))
  k_with "truthy str" => ((k_here;first|(with_reducible refine m_truthyS0 ?_)|(with_reducible refine m_truthyS (Nat.zero_le _) ?_)))
  k_with "subscriptTail Name Name str int" => ((((k_here;k_dflt (first|refine' m_item hTp rfl hT ?_|refine' m_item hTb i4 hT ?_);k_whole;intro _ _)));(all_goals (first|(rename_i u19 u29;revert u19 u29;refine eps2 eN eN ?_;generalize q21 _ = u19, q22 _ = u29;refine hold2 ?_)|skip)))
  intro hrow mean mg mb dp un gd cn cs a ccd cl outer A₀ base h₀ L m s rest Q E B F X N TQ hk hd hu hret
  simp only [List.cons_append, List.nil_append] at N
  k_with "m while" => ((((with_reducible rename Fr _ _ _ _ => Fw);(with_reducible rename News _ _ _ _ => Nw);refine whl_start 0 ?_;refine whl_led (σ := Nat × Int × Tok) (fun s => T.length + 2 - s.1) (fun s => p + 1 ≤ s.1 ∧ s.1 ≤ T.length + 1 ∧ s.1 + qx c (T.drop s.1) = F0 ∧ s.2.1 = s.1) (fun s => fun y => if y = "sign" then some (.str (lat [c]) _) else if y = "behind" then some (.int s.2.1 s.2.2) else mp [("place", .int p tp), ("text", .str (lat T) tT)] y) (fun _ => rest) (by passes_own) ?_ ⟨p + 1, _, _⟩ _ _ ⟨Nat.le_refl _, Nat.succ_le_succ (Nat.le_of_lt hpl), hF1, rfl⟩ Fw (news_tail Nw);clear Fw Nw;rintro ⟨b, z, tb⟩ h9 tk9 Rr ⟨i1, i2, i3, i4⟩ F9 N9 hR;(dsimp only at i1 i2 i3 i4 F9 N9 ⊢);(rcases hDb : T.drop b with _|⟨d, r2⟩);(have hlb : T.length ≤ b := drop_nil hDb);(have hzl : ¬ z < (T.length : Int) := i4 ▸ Int.not_lt.mpr (Int.ofNat_le.mpr hlb));rotate_left;(obtain ⟨hTb, hbl, hr2, hrl2⟩ := drop_cons hDb);(have hzl : z < (T.length : Int) := i4 ▸ Int.ofNat_lt.mpr hbl);rotate_left;all_goals skip));(all_goals (first|(rename_i u19 u29;revert i1 i2 i3 i4 F9 N9 hR hDb hTb hbl hr2 hrl2 hzl;revert u19 tk b z tb h9 tk9 Rr d r2;refine eps8 eN eN eN eI eN eH eN eP1 ?_;generalize q81 _ = u19, q82 _ = tk, q83 _ = b, q84 _ = z, q85 _ = tb, q86 _ = h9, q87 _ = tk9, q88 _ = Rr;refine hold8 ?_;refine eps2 eU eT ?_;generalize q21 _ = d, q22 _ = r2;refine hold2 ?_;intro i1 i2 i3 i4 F9 N9 hR hDb hTb hbl hr2 hrl2 hzl)|(rename_i u19 u29;revert i1 i2 i3 i4 F9 N9 hR hDb hlb hzl;revert u19 tk b z tb h9 tk9 Rr;refine eps8 eN eN eN eI eN eH eN eP1 ?_;generalize q81 _ = u19, q82 _ = tk, q83 _ = b, q84 _ = z, q85 _ = tb, q86 _ = h9, q87 _ = tk9, q88 _ = Rr;refine hold8 ?_;intro i1 i2 i3 i4 F9 N9 hR hDb hlb hzl)|skip)))
  k_with "compareOp Lt int int" => (k_here;first|(with_reducible refine lt_t hzl ?_)|(with_reducible refine lt_f hzl ?_))
  k_with "compareOp GtE int int" => (k_here;first|(with_reducible refine ge_f hzl ?_)|(with_reducible refine ge_t hzl ?_))
  k_with "subscriptTail Name Slice str ref" => (((k_here;(with_reducible show wpAny _ _ (subscriptTail _ (Expr.Slice _ _ none _) (Value.str (lat _) _) (Value.ref _)) _ _ _);(with_reducible rename Fr _ _ _ _ => F');(with_reducible rename News _ _ _ _ => N');(have hr01 := nil_or_cons r);(rcases hr01 with er|⟨d1, r1, er⟩);(k_dflt (refine' m_sl (s := ⟨_, _, _, _, _⟩) (i := p + 1) (j := p + 2) (zc1 p) (zc2 p) (l := []) (hl1 hpl hr1 er) (Nat.le_succ _) hpl F' N' hT ?_;k_whole);intro hB' tB' kB' FB' NB');rotate_left;(k_dflt (refine' m_sl (s := ⟨_, _, _, _, _⟩) (i := p + 1) (j := p + 2) (zc1 p) (zc2 p) (l := [d1]) (hl1 hpl hr1 er) (Nat.le_succ _) hpl F' N' hT ?_;k_whole);intro hB' tB' kB' FB' NB')));(all_goals (first|(rename_i u19 u29 u39 u49 u59 u69;revert u39 F' N' er FB' NB';revert u19 u29 u49 u59 u69 d1 r1 hB' tB' kB';refine eps8 eN eH eH eH eH eU eT eH ?_;generalize q81 _ = u19, q82 _ = u29, q83 _ = u49, q84 _ = u59, q85 _ = u69, q86 _ = d1, q87 _ = r1, q88 _ = hB';refine hold8 ?_;refine eps2 eN eN ?_;generalize q21 _ = tB', q22 _ = kB';refine hold2 ?_;intro _ F' N' er FB' NB')|(rename_i u19 u29 u39 u49 u59 u69;revert u39 F' N' FB' NB';revert u19 u29 u49 u59 u69 hB' tB' kB';refine eps8 eN eH eH eH eH eH eN eN ?_;generalize q81 _ = u19, q82 _ = u29, q83 _ = u49, q84 _ = u59, q85 _ = u69, q86 _ = hB', q87 _ = tB', q88 _ = kB';refine hold8 ?_;intro _ F' N' FB' NB')|skip)))
  k_with "subscriptTail Name Slice str ref" => (((k_here;(with_reducible show wpAny _ _ (subscriptTail _ (Expr.Slice _ _ none _) (Value.str (lat _) _) (Value.ref _)) _ _ _);(with_reducible rename Fr _ _ _ _ => F');(with_reducible rename News _ _ _ _ => N');k_dflt (refine' m_sl (s := ⟨_, _, _, _, _⟩) (i := p + 1) (j := b) (zc1 p) i4 (congrArg (List.take (b - (p + 1))) hr1.symm) i1 hpl F' N' hT ?_;k_whole);intro hB' tB' kB' FB' NB';have hBz : (r.take (b - (p + 1))).length ≤ 1000 := by rw [List.length_take];exact Nat.le_trans (Nat.min_le_right _ _) (Nat.le_trans (Nat.le_trans (Nat.le_add_right _ (p + 1)) (Nat.le_of_eq hrl)) hT)));(all_goals (first|(revert FB' NB';revert hB' tB' kB';refine eps3 eH eN eN ?_;generalize q31 _ = hB', q32 _ = tB', q33 _ = kB';refine hold3 ?_;intro FB' NB')|skip)))
  k_with "call builtin:str.split" => (((k_here;k_dflt (refine' m_split (by k_asm) (by k_asm) (Nat.le_trans hBz (by decide)) ?_);intro Ds vs hs ks ns hvs Fs Ns));(all_goals (first|(rename_i u19 u29 u39;revert u29 u39 hvs Fs Ns;revert u19 Ds vs hs ks ns;refine eps6 eH eN eLV eH eN eN ?_;generalize q61 _ = u19, q62 _ = Ds, q63 _ = vs, q64 _ = hs, q65 _ = ks, q66 _ = ns;refine hold6 ?_;intro _ _ hvs Fs Ns)|skip)))
  k_with "eval ListComp" => (k_here;k_dflt (refine ListComp_T (by k_asm) (by rfl) (by decide) (by rfl) (by decide) (by rfl) ?_))
  k_with "SrcT" => (((k_dflt (refine srcT_txt (fun q => joinL [34] (spl 92 34 q)) (by rfl) (by k_asm) (by k_asm) (by k_mem) hvs (cs_size hvs hBz) ?_ ?_);rotate_left;(intro ys9 D9 h9 tk9 hys9 F9 N9);rotate_left;(intro q9 t9 ys8 I9 oI9 C9 oC9 D9 m9 h9 tk9 E9 hq9 hC9 hx9 F9 N9 htk9;have hq8 := Nat.le_trans (spl_mem _ _ _ _ hq9) hBz)));(all_goals (first|(revert hq9 hC9 hx9 F9 N9 htk9 hq8;revert q9 t9 ys8 I9 oI9 C9 oC9 D9 m9 h9 tk9 E9;refine eps8 eT eN eLV eN eO eN eO eN ?_;generalize q81 _ = q9, q82 _ = t9, q83 _ = ys8, q84 _ = I9, q85 _ = oI9, q86 _ = C9, q87 _ = oC9, q88 _ = D9;refine hold8 ?_;refine eps4 eM eH eN eP2 ?_;generalize q41 _ = m9, q42 _ = h9, q43 _ = tk9, q44 _ = E9;refine hold4 ?_;intro hq9 hC9 hx9 F9 N9 htk9 hq8)|(revert hys9 F9 N9;revert ys9 D9 h9 tk9;refine eps4 eLV eN eH eN ?_;generalize q41 _ = ys9, q42 _ = D9, q43 _ = h9, q44 _ = tk9;refine hold4 ?_;intro hys9 F9 N9)|skip)))
  k_with "call builtin:str.replace" => (((k_here;k_dflt (refine' m_repl (Nat.ne_of_gt htk9) (Nat.succ_ne_zero _) (Nat.ne_of_lt (Nat.lt_succ_self _)) hq8 ?_;k_whole;intro _ _)));(all_goals (first|(rename_i u19 u29;revert qk ek;revert u19 u29;refine eps2 eN eN ?_;generalize q21 _ = u19, q22 _ = u29;refine hold2 ?_;intro qk ek)|skip)))
  k_with "Exists" => (exact ⟨_, _, rfl, by k_asm, by k_asm, _, rfl⟩)
  k_with "call builtin:str.join" => (((k_here;k_dflt (refine' m_join (by k_asm) (by k_mem) hys9 hBz ?_;k_whole;intro _ _)));(all_goals (first|(rename_i u19 u29;revert u19 u29;refine eps2 eN eN ?_;generalize q21 _ = u19, q22 _ = u29;refine hold2 ?_)|skip)))
  revert hD hT hTp hpl hr1 hrl hF0 hF1 B F X N TQ hk hd hu hret; revert w T tT p tp c r F0 mean mg mb dp un gd cn cs a ccd cl outer A₀ base h₀ L m s rest Q E; refine eps8 eW eT eN eN eN eU eT eN ?_; generalize q81 _ = w, q82 _ = T, q83 _ = tT, q84 _ = p, q85 _ = tp, q86 _ = c, q87 _ = r, q88 _ = F0; refine hold8 ?_; refine eps8 eEx eM eM eN eN eOC eS eSc ?_; generalize q81 _ = mean, q82 _ = mg, q83 _ = mb, q84 _ = dp, q85 _ = un, q86 _ = gd, q87 _ = cn, q88 _ = cs; refine hold8 ?_; refine eps8 eN eV eSA eEn eAr eH eH eN ?_; generalize q81 _ = a, q82 _ = ccd, q83 _ = cl, q84 _ = outer, q85 _ = A₀, q86 _ = base, q87 _ = h₀, q88 _ = L; refine hold8 ?_; refine eps5 eM eSh eL eP2 eP2 ?_; generalize q51 _ = m, q52 _ = s, q53 _ = rest, q54 _ = Q, q55 _ = E; refine hold5 ?_; intro hD hT hTp hpl hr1 hrl hF0 hF1 B F X N TQ hk hd hu hret
  refine wpAny_call ?_
  k_dflt (walk_at "m_enter")
  (with_reducible rename Fr _ _ _ _ => Fe9)
  replace Fe9 := fr_mp (l' := [("place", .int p tp), ("text", .str (lat T) tT)]) Fe9 rfl
  repeat' (first | (k_unfold; (try dsimp only)) | walk1 | (dsimp only; walk1) | (dsimp only; with_reducible refine lpost_brk ?_; try dsimp only))
  all_goals (try k_data)
  all_goals first
    | (refine hret _ _ _ _ ⟨_, _, [], _, _, _, rfl, rfl, ?_⟩ (by assumption) (nw2 (by assumption)); rw [pt_ch (by assumption) (by assumption)]; exact ⟨rfl, ⟨_, rfl⟩, rfl⟩)
    | (refine hret _ _ _ _ ⟨_, _, [], _, _, _, rfl, rfl, ?_⟩ (by assumption) (nw2 (by assumption)); rw [pt_esc (by assumption) er]; exact ⟨rfl, ⟨_, rfl⟩, rfl⟩)
    | (refine hret _ _ _ _ ⟨_, _, [_], _, _, _, rfl, rfl, ?_⟩ (by assumption) (nw3 (by assumption)); rw [pt_esc0 (by assumption) er]; exact ⟨_, _, _, _, rfl, rfl⟩)
    | (refine hret _ _ _ _ ⟨_, _, [_], _, _, _, rfl, rfl, ?_⟩ (by assumption) ((by assumption)); rw [pt_noe (by assumption) (by assumption) i1 i3 hF0 hDb hrl i4 (by assumption)]; exact ⟨_, _, _, _, rfl, rfl⟩)
    | (refine hret _ _ _ _ ⟨_, _, [_], _, _, _, rfl, rfl, ?_⟩ (by assumption) ((by assumption)); rw [pt_noq (by assumption) (by assumption) i1 i3 hF0 hDb hrl i4 (by assumption)]; exact ⟨_, _, _, _, rfl, rfl⟩)
    | (refine hret _ _ _ _ ⟨_, _, [], _, _, _, rfl, rfl, ?_⟩ (by assumption) (nw2 (nw2 (by assumption))); rw [pt_ok34 (by assumption) (by assumption) i1 i3 hF0 hDb (by assumption) hbl hrl (by assumption)]; exact ⟨rfl, ⟨_, rfl⟩, (pt_z i1 i4)⟩)
    | (refine hret _ _ _ _ ⟨_, _, [], _, _, _, rfl, rfl, ?_⟩ (by assumption) ((by assumption)); rw [pt_ok39 (by assumption) (by assumption) i1 i3 hF0 hDb (by assumption) hbl hrl (by assumption)]; exact ⟨rfl, ⟨_, rfl⟩, (pt_z i1 i4)⟩)
    | (exact lpost_next (hR ⟨b + 2, z + 2, _⟩ _ _ (fall2 hbl) (st_esc i1 i3 i4 hDb hbl (by assumption) (by assumption)) (fr_sw (by assumption) (by decide)) (by assumption)))
    | (exact lpost_next (hR ⟨b + 1, z + 1, _⟩ _ _ (fall1 hbl) (st_one (by assumption) i1 i3 i4 hDb hbl (by assumption) (by first | exact fun h => absurd h.1 (by assumption) | exact fun h => absurd h.2 (by assumption))) (fr_sw (by assumption) (by decide)) (by assumption)))
  k_with_none
  k_with "om" => (with_reducible first|assumption|exact rm1 (by assumption) rfl|exact rm0 (by assumption)|exact Nat.le_of_lt (by assumption)|exact Nat.le_add_right _ _|exact Nat.le_add_left _ _|exact Nat.lt_succ_self _|exact Nat.succ_pos _|exact Nat.lt_of_not_le (by assumption)|exact Nat.le_of_not_lt (by assumption)|exact Nat.le_of_not_le (by assumption)|exact Nat.le_of_lt (Nat.lt_of_not_le (by assumption))|exact lt_i (by assumption)|exact nlt_i (by assumption)|exact nneg_i|exact le_big (by assumption) rfl|exact Nat.le_of_succ_le_succ (by assumption)|exact Nat.eq_zero_of_le_zero (by assumption)|exact Nat.add_comm _ _)
end Mine
end
section
namespace Mine
open LCg
noncomputable def resD : Res → Dat
  | .tok w => .str (lat w)
  | .none => .none
  | .noq => .tuple [.str "refused", .str "No closing quotation"]
  | .noe => .tuple [.str "refused", .str "No escaped character"]
noncomputable def bad : Res → Bool
  | .noq => true
  | .noe => true
  | _ => false
noncomputable def rowD (x : Res × Nat) : Dat := .tuple [resD x.1, .int (x.2 : Int)]
structure Ws where
  p : Ns2
  st : Bool → Option Res
  t : Nat
noncomputable def wsStep (fr : List Fm) (s : Ws) (b : Bool) : (Res × Nat) × Ws :=
  match s.st b with
  | some r => ((r, octs (fr.drop s.t)), s)
  | none =>
    (((rt .sp false [] ((txt b fr).drop (s.p b))).res, octs (fr.drop (max s.t (need b fr (min (s.p b + (rt .sp false [] ((txt b fr).drop (s.p b))).k) ((txt b fr).length + 1)))))),
      ⟨setN s.p b (min (s.p b + (rt .sp false [] ((txt b fr).drop (s.p b))).k) ((txt b fr).length + 1)),
       fun c => if c = b then (if bad (rt .sp false [] ((txt b fr).drop (s.p b))).res then some (rt .sp false [] ((txt b fr).drop (s.p b))).res else none) else s.st c,
       max s.t (need b fr (min (s.p b + (rt .sp false [] ((txt b fr).drop (s.p b))).k) ((txt b fr).length + 1)))⟩)
noncomputable def wsRun (fr : List Fm) : Ws → List Bool → List (Res × Nat) × Ws
  | s, [] => ([], s)
  | s, b :: r => ((wsStep fr s b).1 :: (wsRun fr (wsStep fr s b).2 r).1, (wsRun fr (wsStep fr s b).2 r).2)
theorem wsRun_snoc (fr : List Fm) : ∀ (l : List Bool) (s : Ws) (b : Bool), wsRun fr s (l ++ [b]) = ((wsRun fr s l).1 ++ [(wsStep fr (wsRun fr s l).2 b).1], (wsStep fr (wsRun fr s l).2 b).2)
  | [], _, _ => rfl
  | x :: r, s, b => by
    show ((wsStep fr s x).1 :: (wsRun fr (wsStep fr s x).2 (r ++ [b])).1, (wsRun fr (wsStep fr s x).2 (r ++ [b])).2) = _
    rw [wsRun_snoc fr r]
    rfl
noncomputable def ws0 : Ws := ⟨fun _ => 0, fun _ => none, 0⟩
noncomputable def walkD (fr : List Fm) (bs : List Bool) : Dat :=
  .tuple [.list ((wsRun fr ws0 bs).1.map rowD), .list ((fr.take (wsRun fr ws0 bs).2.t).map fun f => .int (f.1.toNat : Int))]
theorem told_dat {r : Res} {v : Value} {xt : Led} (h : toldV r v xt) : DatIn xt v (resD r) := by
  cases r with
  | tok w => obtain ⟨rfl, t, rfl⟩ := h; exact .str _ _
  | none => obtain ⟨rfl, rfl⟩ := h; exact .none
  | noq => obtain ⟨a, t1, t2, k, rfl, rfl⟩ := h; exact .tuple (.head _) (.cons (.str _ _) (.cons (.str _ _) .nil))
  | noe => obtain ⟨a, t1, t2, k, rfl, rfl⟩ := h; exact .tuple (.head _) (.cons (.str _ _) (.cons (.str _ _) .nil))
theorem told_tup {r : Res} {v : Value} {xt : Led} (h : toldV r v xt) : ∀ q ∈ xt, q.2.cls = .type "tuple" := by
  cases r with
  | tok w => obtain ⟨rfl, t, rfl⟩ := h; exact fun _ hq => nomatch hq
  | none => obtain ⟨rfl, rfl⟩ := h; exact fun _ hq => nomatch hq
  | noq => obtain ⟨a, t1, t2, k, rfl, rfl⟩ := h; exact fun q hq => by rw [List.mem_singleton.mp hq]
  | noe => obtain ⟨a, t1, t2, k, rfl, rfl⟩ := h; exact fun q hq => by rw [List.mem_singleton.mp hq]
section
variable {prog : Program} {w : World} {A : Around} {E : Value → Shared → Prop} {s : Shared} {t u : Tok} {h₀ : Heap} {L D : Addr} {m : Str → Option Value} {news : Led} {env : Env}
theorem news_ne {h : Heap} {a b : Addr} {o o' : Obj} (N : News h₀ L h news) (h1 : (a, o) ∈ news) (h2 : (b, o') ∈ news) (hc : o.cls ≠ o'.cls) : a ≠ b := fun e => by
  have z1 := (N _ h1).1
  have z2 := (N _ h2).1
  dsimp only at z1 z2
  rw [e, z2] at z1
  exact hc (Option.some.inj z1 ▸ rfl)
theorem upd_list {D : Addr} {o o' : Obj} {l : Led} (N : News h₀ L s.heap news) (hD : (D, o) ∈ news) (ho : o.cls = .type "list") (hl : ∀ q ∈ l, q ∈ news) (hap : ∀ q ∈ l, q.1 ≠ D ∨ q.2.cls = .type "tuple") : News h₀ L s.heap ((D, o) :: l) ∧ Upd D o o' ((D, o) :: l) ((D, o') :: l) := by
  refine ⟨led_to N fun q hq => ?_, .head fun q hq => ?_⟩
  · rcases List.mem_cons.mp hq with rfl | hq
    · exact hD
    · exact hl q hq
  · rcases hap q hq with h | h
    · exact h
    · exact news_ne N (hl q hq) hD (by rw [h, ho]; decide)
theorem m_setL {Q : Unit → Shared → Prop} {vs vs' : List Value} {n : Nat} {k : Int} {v : Value} {l : Led} (F : Fr h₀ L s.heap m) (N : News h₀ L s.heap news) (hD : (D, lst0 vs n) ∈ news) (e : SetAt v vs k.toNat vs') (h0 : 0 ≤ k) (hf : k < 2)
    (hl : ∀ q ∈ l, q ∈ news) (hap : ∀ q ∈ l, q.1 ≠ D ∨ q.2.cls = .type "tuple") (h : ∀ h', Fr h₀ L h' m → News h₀ L h' ((D, lst0 vs' n) :: l) → Q () { s with heap := h' }) : wpAny (model prog w) A (setItem (.ref D) (.int k t) v) Q E s := by
  obtain ⟨N2, U⟩ := upd_list (o' := lst0 vs' n) N hD rfl hl hap
  exact m_setItem (its := vs.toArray) (its' := vs'.toArray) F N2 U e h0 (by omega) h
theorem m_sliceL {Q : Value → Shared → Prop} {vs : List Value} {n k : Nat} {z : Int} {tz : Tok} {a : Option Expr} {ps qs : Pos} {nm : Str} (F : Fr h₀ L s.heap m) (N : News h₀ L s.heap news) (hD : (D, lst0 vs n) ∈ news) (e : z = (k : Int)) (hz : vs.length ≤ 10000)
    (h : ∀ D h' j, Fr h₀ L h' m → News h₀ L h' ((D, lst0 (vs.drop k) j) :: news) → Q (.ref D) { s with heap := h' })
    (hs : subscripted (Expr.Slice a none none ps) false (.ref D) (.ref s.heap.objs.size) = operate [.ref s.heap.objs.size, .ref D] (getItem (.ref D) (.ref s.heap.objs.size)) := by with_unfolding_all rfl) :
    wpAny (model prog w) A (subscriptTail (Expr.Name nm qs) (Expr.Slice a none none ps) (.ref D) (.ref s.heap.objs.size)) Q E { s with heap := s.heap.push { cls := .type "slice", data := .fields #[.int z tz, .none, .none] } } := by
  subst e
  refine kmk_slice F N ⟨_, (N _ hD).1, rfl, _, rfl⟩ (.int _ _) .none (fun D' h' F' N' _ => h D' h' 0 F' ?_) hs (by intro _; with_unfolding_all rfl) (by rw [List.size_toArray, sizeLine_eq]; omega)
  rw [slicePick_from'] at N'
  exact N'
theorem m_sliceU {Q : Value → Shared → Prop} {vs : List Value} {n k : Nat} {z : Int} {tz : Tok} {a : Option Expr} {ps qs : Pos} {nm : Str} (F : Fr h₀ L s.heap m) (N : News h₀ L s.heap news) (hD : (D, lst0 vs n) ∈ news) (e : z = (k : Int)) (hz : vs.length ≤ 10000)
    (h : ∀ D h' j, Fr h₀ L h' m → News h₀ L h' ((D, lst0 (vs.take k) j) :: news) → Q (.ref D) { s with heap := h' })
    (hs : subscripted (Expr.Slice none a none ps) false (.ref D) (.ref s.heap.objs.size) = operate [.ref s.heap.objs.size, .ref D] (getItem (.ref D) (.ref s.heap.objs.size)) := by with_unfolding_all rfl) :
    wpAny (model prog w) A (subscriptTail (Expr.Name nm qs) (Expr.Slice none a none ps) (.ref D) (.ref s.heap.objs.size)) Q E { s with heap := s.heap.push { cls := .type "slice", data := .fields #[.none, .int z tz, .none] } } := by
  subst e
  refine kmk_slice F N ⟨_, (N _ hD).1, rfl, _, rfl⟩ .none (.int _ _) (fun D' h' F' N' _ => h D' h' 0 F' ?_) hs (by intro _; with_unfolding_all rfl) (by rw [List.size_toArray, sizeLine_eq]; omega)
  rw [slicePick_upto'] at N'
  exact N'
end
end Mine
end
section
namespace Mine
noncomputable def stD : Option Res → Dat
  | none => .none
  | some r => resD r
structure Wc where
  S : Ws
  R : List (Res × Nat)
  rv : List Value
  rn : Nat
  pt0 : Tok
  pt1 : Tok
  pn : Nat
  s0 : Value
  s1 : Value
  sn : Nat
  ext : Led
  tt : Tok
  wv : Option Value
  tv : Option Value
structure WcI (fr : List Fm) (bs : List Bool) (i : Nat) (c : Wc) : Prop where
  run : wsRun fr ws0 (bs.take i) = (c.R, c.S)
  rows : DatAll c.ext c.rv (c.R.map rowD)
  sv : ∀ b, DatIn c.ext (if b then c.s1 else c.s0) (stD (c.S.st b))
  ext : ∀ q ∈ c.ext, q.2.cls = .type "tuple"
  pl : ∀ b, c.S.p b ≤ (txt b fr).length + 1
  tl : c.S.t ≤ fr.length
  stb : ∀ b r, c.S.st b = some r → bad r = true
theorem wcI0 {fr : List Fm} {bs : List Bool} {rn pn sn : Nat} {pt0 pt1 tt : Tok} {wv tv : Option Value} : WcI fr bs 0 ⟨ws0, [], [], rn, pt0, pt1, pn, .none, .none, sn, [], tt, wv, tv⟩ where
  run := rfl
  rows := .nil
  sv b := by cases b <;> exact .none
  ext _ h := nomatch h
  pl _ := Nat.zero_le _
  tl := Nat.zero_le _
  stb _ _ h := nomatch h
theorem wsStep_ok {fr : List Fm} {s : Ws} {b : Bool} (pl : ∀ b, s.p b ≤ (txt b fr).length + 1) (tl : s.t ≤ fr.length) (stb : ∀ b r, s.st b = some r → bad r = true) :
    (∀ c, (wsStep fr s b).2.p c ≤ (txt c fr).length + 1) ∧ (wsStep fr s b).2.t ≤ fr.length ∧ (∀ c r, (wsStep fr s b).2.st c = some r → bad r = true) := by
  unfold wsStep
  cases h : s.st b with
  | some r => exact ⟨pl, tl, stb⟩
  | none =>
    refine ⟨fun c => ?_, Nat.max_le.mpr ⟨tl, need_le ..⟩, fun c r hr => ?_⟩
    · show (if c = b then _ else s.p c) ≤ _
      by_cases e : c = b
      · subst e; rw [if_pos rfl]; exact Nat.min_le_right _ _
      · rw [if_neg e]; exact pl c
    · dsimp only at hr
      by_cases e : c = b
      · rw [if_pos e] at hr
        by_cases hb : bad (rt .sp false [] ((txt b fr).drop (s.p b))).res = true
        · rw [if_pos hb] at hr; cases hr; exact hb
        · rw [if_neg hb] at hr; cases hr
      · rw [if_neg e] at hr; exact stb c r hr
theorem wc_next {fr : List Fm} {bs : List Bool} {i : Nat} {b : Bool} {c c' : Wc} {v : Value} (h : WcI fr bs i c) (hb : bs[i]? = some b) (hR : c'.R = c.R ++ [(wsStep fr c.S b).1]) (hS : c'.S = (wsStep fr c.S b).2) (hv : c'.rv = c.rv ++ [v])
    (sub : ∀ q ∈ c.ext, q ∈ c'.ext) (hd : DatIn c'.ext v (rowD (wsStep fr c.S b).1)) (sv : ∀ b', DatIn c'.ext (if b' then c'.s1 else c'.s0) (stD ((wsStep fr c.S b).2.st b'))) (ext : ∀ q ∈ c'.ext, q.2.cls = .type "tuple") : WcI fr bs (i + 1) c' := by
  obtain ⟨hl, he⟩ := List.getElem?_eq_some_iff.mp hb
  obtain ⟨o1, o2, o3⟩ := wsStep_ok (b := b) h.pl h.tl h.stb
  refine ⟨?_, ?_, ?_, ext, ?_, ?_, ?_⟩
  · rw [List.take_succ_eq_append_getElem hl, he, wsRun_snoc, h.run, hR, hS]
  · rw [hv, hR, List.map_append]
    exact (h.rows.mono sub).append (.one hd)
  · rw [hS]; exact sv
  · rw [hS]; exact o1
  · rw [hS]; exact o2
  · rw [hS]; exact o3
theorem wsStep_stuck {fr : List Fm} {s : Ws} {b : Bool} {r : Res} (h : s.st b = some r) : wsStep fr s b = ((r, octs (fr.drop s.t)), s) := by
  unfold wsStep; rw [h]
theorem wsStep_new {fr : List Fm} {s : Ws} {b : Bool} (h : s.st b = none) : wsStep fr s b =
    (((rt .sp false [] ((txt b fr).drop (s.p b))).res, octs (fr.drop (max s.t (need b fr (min (s.p b + (rt .sp false [] ((txt b fr).drop (s.p b))).k) ((txt b fr).length + 1)))))),
      ⟨setN s.p b (min (s.p b + (rt .sp false [] ((txt b fr).drop (s.p b))).k) ((txt b fr).length + 1)),
       fun c => if c = b then (if bad (rt .sp false [] ((txt b fr).drop (s.p b))).res then some (rt .sp false [] ((txt b fr).drop (s.p b))).res else none) else s.st c,
       max s.t (need b fr (min (s.p b + (rt .sp false [] ((txt b fr).drop (s.p b))).k) ((txt b fr).length + 1)))⟩) := by
  unfold wsStep; rw [h]
theorem rt_k_pos (D : List UInt8) : 1 ≤ (rt .sp false [] D).k := by
  cases D with
  | nil => rw [rt.eq_def]; exact Nat.le_refl _
  | cons c r =>
    rw [rt.eq_def]
    dsimp only
    split
    · exact Nat.le_add_right 1 _
    · split
      · show 1 ≤ 1 + bl r + _; omega
      · split
        · exact Nat.le_add_right 1 _
        · split
          · exact Nat.le_add_right 1 _
          · exact Nat.le_add_right 1 _
theorem bad_dat {news : Led} {v : Value} {r : Res} (h : DatIn news v (resD r)) (hb : bad r = true) : ∃ a vs n, v = .ref a ∧ (a, ({ cls := .type "tuple", data := .seq vs n } : Obj)) ∈ news := by
  cases r with
  | tok w => cases hb
  | none => cases hb
  | noq => cases h with | tuple hm _ => exact ⟨_, _, _, rfl, hm⟩
  | noe => cases h with | tuple hm _ => exact ⟨_, _, _, rfl, hm⟩
theorem dat_none {news : Led} {v : Value} (h : DatIn news v .none) : v = .none := by cases h; rfl
theorem octs_sum (qs : List Ft) : ((qs.map fun q => (2 + (q.f.length : Int))).sum) = (octs (qs.map Ft.fm) : Int) := by
  unfold octs
  induction qs with
  | nil => rfl
  | cons q r ih =>
    simp only [List.map_cons, List.sum_cons, ih, Ft.fm]
    push_cast
    rfl
theorem setN_txt {fr : List Fm} (b : Bool) (hf : FrOk fr) : (txt b fr).length ≤ 1000 := by
  have h1 := txt_bound b hf.len
  have h2 := hf.sz
  omega
end Mine
end
section
namespace Mine
noncomputable def pr2 (b : Bool) (x y : Value) : Value := if b then y else x
noncomputable def set2 (b : Bool) (x y v : Value) : List Value := if b then [x, v] else [v, y]
theorem sel2 (b : Bool) (x y : Value) : [x, y].toArray.toList[(kI b).toNat]? = some (pr2 b x y) := by cases b <;> rfl
theorem sel2s (b : Bool) (x y v : Value) : (set2 b x y v).toArray.toList[(kI b).toNat]? = some v := by cases b <;> rfl
theorem at2 (b : Bool) (x y v : Value) : SetAt v [x, y] (kI b).toNat (set2 b x y v) := by
  cases b
  · exact .head
  · exact .tail .head
theorem pr2_txt (b : Bool) (g : Bool → List UInt8) (t0 t1 : Tok) : pr2 b (.str (lat (g false)) t0) (.str (lat (g true)) t1) = .str (lat (g b)) (if b then t1 else t0) := by cases b <;> rfl
theorem pr2_int (b : Bool) (p : Ns2) (t0 t1 : Tok) : pr2 b (.int (p false) t0) (.int (p true) t1) = .int (p b) (if b then t1 else t0) := by cases b <;> rfl
theorem set2_int (b : Bool) (p : Ns2) (p' : Nat) (t0 t1 t : Tok) : set2 b (.int (p false) t0) (.int (p true) t1) (.int (p' : Int) t) = [.int (setN p b p' false) (if b then t0 else t), .int (setN p b p' true) (if b then t else t1)] := by cases b <;> rfl
theorem set2_vals (b : Bool) (x y v : Value) : set2 b x y v = [if b then x else v, if b then v else y] := by cases b <;> rfl
section
variable {prog : Program} {w : World} {A : Around} {E : Value → Shared → Prop} {s : Shared} {t u : Tok} {h₀ : Heap} {L D : Addr} {m : Str → Option Value} {news : Led} {env : Env}
theorem m_isi {Q : Value → Shared → Prop} {v : Value} {r : Res} (N : News h₀ L s.heap news) (hd : DatIn news v (resD r)) (h : ∀ k, Q (.bool (bad r)) { s with toks := k }) : wpAny (model prog w) A (call (.builtin "isinstance") [v, .type "tuple"]) Q E s := by
  cases r with
  | tok w => cases hd; exact IsiPair.str_tuple (h _)
  | none => cases hd; exact IsiPair.NoneType_tuple (h _)
  | noq => cases hd with | tuple hm _ => exact IsiPair.tuple_tuple (N _ hm).1 rfl (h _)
  | noe => cases hd with | tuple hm _ => exact IsiPair.tuple_tuple (N _ hm).1 rfl (h _)
theorem m_subL {Q : Value → Shared → Prop} {vs : List Value} {n : Nat} {b : Bool} {v : Value} {nm xn : Str} {ps qs : Pos} (N : News h₀ L s.heap news) (hm : (D, lst0 vs n) ∈ news) (hx : vs.toArray.toList[(kI b).toNat]? = some v) (h : Q v s)
    (hb : subscripted (Expr.Name xn ps) false (.ref D) (.int (kI b) t) = operate [.ref D, .int (kI b) t] (getItem (.ref D) (.int (kI b) t)) := by with_unfolding_all rfl) : wpAny (model prog w) A (subscriptTail (Expr.Name nm qs) (Expr.Name xn ps) (.ref D) (.int (kI b) t)) Q E s :=
  m_sub (its := vs.toArray) N hm (kI_lo b) (by have := kI_hi b; omega) hx h hb
theorem m_max {Q : Value → Shared → Prop} {a b : Nat} (hh : A.handled = none) (F : Fr h₀ L s.heap m) (N : News h₀ L s.heap news)
    (h : ∀ h' t' k, Fr h₀ L h' m → News h₀ L h' news → Q (.int ((max a b : Nat) : Int) t') { s with heap := h', toks := k }) : wpAny (model prog w) A (call (.builtin "max") [.int (a : Int) t, .int (b : Int) u]) Q E s := by
  refine max_two_N hh F N fun h' tk F' N' => ?_
  by_cases g : (b : Int) > (a : Int)
  · have e : ((max a b : Nat) : Int) = (b : Int) := by omega
    rw [if_pos g, if_pos g, ← e]; exact h _ _ _ F' N'
  · have e : ((max a b : Nat) : Int) = (a : Int) := by omega
    rw [if_neg g, if_neg g, ← e]; exact h _ _ _ F' N'
theorem m_app {Q : Value → Shared → Prop} {vs : List Value} {n : Nat} {x : Value} {l : Led} (F : Fr h₀ L s.heap m) (N : News h₀ L s.heap news) (hD : (D, lst0 vs n) ∈ news) (hz : vs.length ≤ 10000)
    (hl : ∀ q ∈ l, q ∈ news) (hap : ∀ q ∈ l, q.1 ≠ D ∨ q.2.cls = .type "tuple") (h : ∀ h', Fr h₀ L h' m → News h₀ L h' ((D, lst0 (vs ++ [x]) (n + 1)) :: l) → Q .none { s with heap := h' }) : wpAny (model prog w) A (call (.builtin "list.append") [.ref D, x]) Q E s := by
  obtain ⟨N2, U⟩ := upd_list (o' := lst0 (vs ++ [x]) (n + 1)) N hD rfl hl hap
  have U' : Upd D (listOf vs.toArray n) (listOf (vs.toArray.push x) (n + 1)) ((D, lst0 vs n) :: l) ((D, lst0 (vs ++ [x]) (n + 1)) :: l) := by
    rw [List.push_toArray]; exact U
  exact append_K F N2 U' h (by rw [List.size_toArray, sizeLine_eq]; omega)
theorem m_sumL {Q : Value → Shared → Prop} {vs : List Value} {n : Nat} {ns : List Int} {k : Int} (hh : A.handled = none) (F : Fr h₀ L s.heap m) (N : News h₀ L s.heap news) (hD : (D, lst0 vs n) ∈ news) (hi : IntsAre vs ns) (e : ns.sum = k)
    (h : ∀ h' t' j, Fr h₀ L h' m → News h₀ L h' news → Q (.int k t') { s with heap := h', toks := j }) : wpAny (model prog w) A (call (.builtin "sum") [.ref D]) Q E s :=
  LSm.sum_ints F N hh ⟨_, (N _ hD).1, rfl, _, rfl⟩ hi fun h' tk t' F' N' => e ▸ h h' t' tk F' N'
end
theorem ints_snoc {x : Int} {t : Tok} : ∀ {vs : List Value} {ns : List Int}, IntsAre vs ns → IntsAre (vs ++ [.int x t]) (ns ++ [x])
  | _, _, .nil => .cons _ _ .nil
  | _, _, .cons a b r => .cons a b (ints_snoc r)
end Mine
end
section
namespace Mine
inductive BoolsAre : List Value → List Bool → Prop
  | nil : BoolsAre [] []
  | cons (b : Bool) (t : Tok) {vs : List Value} {bs : List Bool} : BoolsAre vs bs → BoolsAre (.int (kI b) t :: vs) (b :: bs)
theorem bools_get : ∀ {vs : List Value} {bs : List Bool} {i : Nat} {v : Value}, BoolsAre vs bs → vs[i]? = some v → ∃ b t, bs[i]? = some b ∧ v = .int (kI b) t
  | _, _, 0, _, .cons b t r, h => by cases h; exact ⟨b, t, rfl, rfl⟩
  | _, _, i + 1, _, .cons b t r, h => bools_get (i := i) r h
theorem bools_len : ∀ {vs : List Value} {bs : List Bool}, BoolsAre vs bs → vs.length = bs.length
  | _, _, .nil => rfl
  | _, _, .cons b t r => congrArg (· + 1) (bools_len r)
section
variable {h₀ h : Heap} {L I ax D : Addr} {Ld rest own xt T l : Led} {o oD : Obj} {a b c t d : Addr × Obj}
theorem own_ap (hI : ∀ p ∈ Ld ++ rest, p.1 ≠ I) (ho : ∀ q ∈ own, q.1 = I ∨ q.1 = ax) (hax : (ax, o) ∈ rest) (hD : (D, oD) ∈ Ld) (hr : ∀ p ∈ rest, p.1 ≠ D) : ∀ q ∈ own ++ rest, q.1 ≠ D := fun q hq => by
  rcases List.mem_append.mp hq with hq | hq
  · rcases ho q hq with e | e
    · rw [e]; exact Ne.symm (hI _ (List.mem_append.mpr (.inl hD)))
    · rw [e]; exact hr _ hax
  · exact hr q hq
theorem led_rot (N : News h₀ L h (c :: b :: a :: l)) : News h₀ L h (a :: b :: c :: l) := led_to N fun p hp => by
  simp only [List.mem_cons] at hp ⊢
  rcases hp with h | h | h | h
  · exact .inr (.inr (.inl h))
  · exact .inr (.inl h)
  · exact .inl h
  · exact .inr (.inr (.inr h))
theorem wc_cls {vs ws us : List Value} {i j k : Nat} {x y z : Addr} (he : ∀ q ∈ xt, q.2.cls = .type "tuple") : ∀ p ∈ ((x, lst0 vs i) :: (y, lst0 ws j) :: (z, lst0 us k) :: xt : Led), p.2.cls ≠ .type "list_iterator" := fun p hp => by
  simp only [List.mem_cons] at hp
  rcases hp with rfl | rfl | rfl | hp
  · exact lst0_cls _ _
  · exact lst0_cls _ _
  · exact lst0_cls _ _
  · rw [he p hp]; decide
theorem mem_P : ∀ q ∈ a :: c :: (xt ++ T), q ∈ t :: (xt ++ (a :: b :: c :: T)) := fun q hq => by
  simp only [List.mem_cons, List.mem_append] at hq ⊢
  rcases hq with h | h | h | h
  · exact .inr (.inr (.inl h))
  · exact .inr (.inr (.inr (.inr (.inl h))))
  · exact .inr (.inl h)
  · exact .inr (.inr (.inr (.inr (.inr h))))
theorem ap_two' {x y : Addr × Obj} (h1 : x.1 ≠ D) (h2 : y.1 ≠ D) (hx : ∀ q ∈ xt, q.2.cls = .type "tuple") (he : ∀ q ∈ l, q.2.cls = .type "tuple") (hr : ∀ q ∈ T, q.1 ≠ D) : ∀ q ∈ x :: y :: (xt ++ (l ++ T)), q.1 ≠ D ∨ q.2.cls = .type "tuple" := fun q hq => by
  simp only [List.mem_cons, List.mem_append] at hq
  rcases hq with rfl | rfl | h | h | h
  · exact .inl h1
  · exact .inl h2
  · exact .inr (hx q h)
  · exact .inr (he q h)
  · exact .inl (hr q h)
end
end Mine
end
section
namespace Mine
open LCg
theorem ints_dat {news : Led} : ∀ {vs : List Value} {ns : List Int}, IntsAre vs ns → DatAll news vs (ns.map Dat.int)
  | _, _, .nil => .nil
  | _, _, .cons _ _ r => .cons (.int _ _) (ints_dat r)
section
variable {prog : Program} {w : World} {A : Around} {E : Value → Shared → Prop} {s : Shared} {t u : Tok} {h₀ : Heap} {L D : Addr} {m : Str → Option Value} {news : Led} {env : Env}
theorem srcLP_ints {elt : Expr} {x x₂ : Str} {scope : Scope} {cl : List (Str × Addr)} {Q : Value → Shared → Prop} {ax : Addr} {qs : List Ft} {n : Nat} {s₁ : Shared} (g : Ft → Int)
    (hh : A.handled = none) (F : Fr h₀ L s₁.heap m) (N : News h₀ L s₁.heap news) (hm : (ax, lst0 (ftV qs) n) ∈ news) (hfs : ∀ z ∈ ftL qs, z ∈ news) (hsz : qs.length ≤ 32)
    (turn : ∀ (q : Ft) ys I oI C oC D m₂ h tk (E' : Value → Shared → Prop), q ∈ qs → NsObj oC m₂ → m₂ x = some (.int (q.c.toNat : Int) q.t1) → m₂ x₂ = some (.str (lat q.f) q.t2) → Fr h₀ L h m → News h₀ L h ((I, oI) :: (C, oC) :: (D, lst ys) :: news) →
      wpAny (model prog w) A (eval elt (compEnvC scope cl C env)) (fun y s₂ => ∃ h' tk', s₂ = { s₁ with heap := h', toks := tk' } ∧ Fr h₀ L h' m ∧ News h₀ L h' ((I, oI) :: (C, oC) :: (D, lst ys) :: news) ∧ ∃ t, y = .int (g q) t) E' { s₁ with heap := h, toks := tk })
    (fin : ∀ ys D h tk, IntsAre ys (qs.map g) → Fr h₀ L h m → News h₀ L h ((D, lst ys) :: news) → Q (.ref D) { s₁ with heap := h, toks := tk }) :
    LCp.SrcLP prog w A h₀ L m env elt x x₂ scope cl (fun s₂ => FinE h₀ L m s₂ Q) (.ref ax) s₁ := by
  refine LCp.SrcLP.ledger hh F N hm (by rw [List.size_toArray, sizeLine_eq]; simp only [ftV, List.length_map]; omega) fun g' => ?_
  refine compP_inv hfs (fun i ys => IntsAre ys ((qs.take i).map g)) .nil ?_ fun ys hI D h tk F' N' _ => fin ys D h tk (by have hI : IntsAre ys ((qs.take qs.length).map g) := hI; rw [List.take_length] at hI; exact hI) F' N'
  intro i q ys I oI C oC D m₂ h tk E' hq hI hC hx hx2 F' N' off
  obtain ⟨hl, he⟩ := List.getElem?_eq_some_iff.mp hq
  refine wpAny_mono (turn q ys I oI C oC D m₂ h tk E' (List.mem_of_getElem? hq) hC hx hx2 F' N') (fun y s₂ hk => ?_) fun _ _ e => e
  obtain ⟨h', tk', e2, F₂, N₂, t', rfl⟩ := hk
  refine ⟨h', tk', news, e2, F₂, N₂, off, .inr ⟨_, hm, rfl, _, rfl⟩, rfl, ?_⟩
  show IntsAre _ ((qs.take (i + 1)).map g)
  rw [List.take_succ_eq_append_getElem hl, he, List.map_append]
  exact ints_snoc hI
theorem m_sliceLF {Q : Value → Shared → Prop} {qs : List Ft} {n k : Nat} {z : Int} {tz : Tok} {a : Option Expr} {ps pq : Pos} {nm : Str} (F : Fr h₀ L s.heap m) (N : News h₀ L s.heap news) (hD : (D, lst0 (ftV qs) n) ∈ news) (e : z = (k : Int)) (hz : qs.length ≤ 32)
    (h : ∀ D h' j, Fr h₀ L h' m → News h₀ L h' ((D, lst0 (ftV (qs.drop k)) j) :: news) → Q (.ref D) { s with heap := h' })
    (hs : subscripted (Expr.Slice a none none ps) false (.ref D) (.ref s.heap.objs.size) = operate [.ref s.heap.objs.size, .ref D] (getItem (.ref D) (.ref s.heap.objs.size)) := by with_unfolding_all rfl) :
    wpAny (model prog w) A (subscriptTail (Expr.Name nm pq) (Expr.Slice a none none ps) (.ref D) (.ref s.heap.objs.size)) Q E { s with heap := s.heap.push { cls := .type "slice", data := .fields #[.int z tz, .none, .none] } } :=
  m_sliceL F N hD e (by simp only [ftV, List.length_map]; omega) (fun D h' j F' N' => h D h' j F' (by have N' : News h₀ L h' ((D, lst0 ((ftV qs).drop k) j) :: news) := N'; rw [show (ftV qs).drop k = ftV (qs.drop k) from (List.map_drop ..).symm] at N'; exact N')) hs
theorem m_sliceUF {Q : Value → Shared → Prop} {qs : List Ft} {n k : Nat} {z : Int} {tz : Tok} {a : Option Expr} {ps pq : Pos} {nm : Str} (F : Fr h₀ L s.heap m) (N : News h₀ L s.heap news) (hD : (D, lst0 (ftV qs) n) ∈ news) (e : z = (k : Int)) (hz : qs.length ≤ 32)
    (h : ∀ D h' j, Fr h₀ L h' m → News h₀ L h' ((D, lst0 (ftV (qs.take k)) j) :: news) → Q (.ref D) { s with heap := h' })
    (hs : subscripted (Expr.Slice none a none ps) false (.ref D) (.ref s.heap.objs.size) = operate [.ref s.heap.objs.size, .ref D] (getItem (.ref D) (.ref s.heap.objs.size)) := by with_unfolding_all rfl) :
    wpAny (model prog w) A (subscriptTail (Expr.Name nm pq) (Expr.Slice none a none ps) (.ref D) (.ref s.heap.objs.size)) Q E { s with heap := s.heap.push { cls := .type "slice", data := .fields #[.none, .int z tz, .none] } } :=
  m_sliceU F N hD e (by simp only [ftV, List.length_map]; omega) (fun D h' j F' N' => h D h' j F' (by have N' : News h₀ L h' ((D, lst0 ((ftV qs).take k) j) :: news) := N'; rw [show (ftV qs).take k = ftV (qs.take k) from (List.map_take ..).symm] at N'; exact N')) hs
end
theorem ft_dropL {qs : List Ft} {k : Nat} {z : Addr × Obj} (h : z ∈ ftL (qs.drop k)) : z ∈ ftL qs := by
  unfold ftL at h ⊢
  obtain ⟨q, hq, rfl⟩ := List.mem_map.mp h
  exact List.mem_map_of_mem (List.mem_of_mem_drop hq)
theorem ft_takeL {qs : List Ft} {k : Nat} {z : Addr × Obj} (h : z ∈ ftL (qs.take k)) : z ∈ ftL qs := by
  unfold ftL at h ⊢
  obtain ⟨q, hq, rfl⟩ := List.mem_map.mp h
  exact List.mem_map_of_mem (List.mem_of_mem_take hq)
noncomputable def JoinQ (P : Shared → Prop) (fl : Flow) (s : Shared) : Prop := fl = .next ∧ P s
structure Jn where
  x : Value
  pt0 : Tok
  pt1 : Tok
  pn : Nat
  s0 : Value
  s1 : Value
  sn : Nat
  xt : Led
  tt : Tok
structure JnI (fr : List Fm) (b : Bool) (c : Wc) (j : Jn) : Prop where
  dat : DatIn j.xt j.x (resD (wsStep fr c.S b).1.1)
  sub : ∀ q ∈ c.ext, q ∈ j.xt
  sv : ∀ b', DatIn j.xt (if b' then j.s1 else j.s0) (stD ((wsStep fr c.S b).2.st b'))
  ext : ∀ q ∈ j.xt, q.2.cls = .type "tuple"
theorem ws_oct (fr : List Fm) (s : Ws) (b : Bool) : (wsStep fr s b).1.2 = octs (fr.drop (wsStep fr s b).2.t) := by
  unfold wsStep
  cases h : s.st b <;> rfl
section
variable {h₀ h : Heap} {L I ax Rw Pw Sw : Addr} {R0 own ext l T : Led} {o oR oP oS oR' oP' oS' oR2 : Obj} {X Y Z : Addr × Obj} {qs : List Ft}
theorem wk_pre (N : News h₀ L h (((Rw, oR) :: (Pw, oP) :: (Sw, oS) :: ext) ++ (own ++ R0))) (hI : ∀ p ∈ ((Rw, oR) :: (Pw, oP) :: (Sw, oS) :: ext) ++ R0, p.1 ≠ I) (hO : ∀ q ∈ own, q.1 = I ∨ q.1 = ax) (lR : ∀ p ∈ R0, p.1 < Rw) (lP : ∀ p ∈ (Rw, oR') :: R0, p.1 < Pw) (lS : ∀ p ∈ (Pw, oP') :: (Rw, oR2) :: R0, p.1 < Sw)
    (hax : (ax, o) ∈ R0) (hX : X ∈ R0) (hY : Y ∈ R0) (hZ : Z ∈ R0) (hq : ∀ z ∈ ftL qs, z ∈ R0) : ∃ T9, own ++ R0 = T9 ∧ News h₀ L h ((Rw, oR) :: (Pw, oP) :: (Sw, oS) :: (ext ++ T9)) ∧ (∀ q ∈ T9, q.1 ≠ Rw) ∧ (∀ q ∈ T9, q.1 ≠ Pw) ∧ (∀ q ∈ T9, q.1 ≠ Sw) ∧ Rw < Pw ∧ Rw < Sw ∧ Pw < Sw ∧ X ∈ T9 ∧ Y ∈ T9 ∧ Z ∈ T9 ∧ ∀ z ∈ ftL qs, z ∈ T9 := by
  have m0 : (Rw, oR) ∈ (Rw, oR) :: (Pw, oP) :: (Sw, oS) :: ext := List.mem_cons_self
  have m1 : (Pw, oP) ∈ (Rw, oR) :: (Pw, oP) :: (Sw, oS) :: ext := List.mem_cons_of_mem _ List.mem_cons_self
  have m2 : (Sw, oS) ∈ (Rw, oR) :: (Pw, oP) :: (Sw, oS) :: ext := List.mem_cons_of_mem _ (List.mem_cons_of_mem _ List.mem_cons_self)
  have rP := lP _ List.mem_cons_self
  have pS := lS _ List.mem_cons_self
  have rS := lS _ (List.mem_cons_of_mem _ List.mem_cons_self)
  exact ⟨_, rfl, N, own_ap hI hO hax m0 (fun p hp => Nat.ne_of_lt (lR p hp)), own_ap hI hO hax m1 (fun p hp => Nat.ne_of_lt (lP p (List.mem_cons_of_mem _ hp))), own_ap hI hO hax m2 (fun p hp => Nat.ne_of_lt (lS p (List.mem_cons_of_mem _ (List.mem_cons_of_mem _ hp)))), rP, rS, pS,
    List.mem_append.mpr (.inr hX), List.mem_append.mpr (.inr hY), List.mem_append.mpr (.inr hZ), fun z hz => List.mem_append.mpr (.inr (hq z hz))⟩
variable {a b c t x y z : Addr × Obj} {xt : Led}
theorem mem_S : ∀ q ∈ b :: a :: (xt ++ T), q ∈ a :: b :: c :: (xt ++ T) := fun q hq => by
  simp only [List.mem_cons] at hq ⊢
  rcases hq with h | h | h
  · exact .inr (.inl h)
  · exact .inl h
  · exact .inr (.inr (.inr h))
theorem mem_A : ∀ q ∈ b :: c :: t :: l, q ∈ t :: x :: y :: a :: b :: c :: l := fun q hq => by
  simp only [List.mem_cons] at hq ⊢
  rcases hq with h | h | h | h
  · exact .inr (.inr (.inr (.inr (.inl h))))
  · exact .inr (.inr (.inr (.inr (.inr (.inl h)))))
  · exact .inl h
  · exact .inr (.inr (.inr (.inr (.inr (.inr h)))))
end
end Mine
end
section
namespace Mine
open LCg
theorem at2p (b : Bool) (p : Ns2) (P : Nat) (t0 t1 t : Tok) : SetAt (.int (P : Int) t) [.int (p false) t0, .int (p true) t1] (kI b).toNat [.int (setN p b P false) (if b then t0 else t), .int (setN p b P true) (if b then t else t1)] := by
  rw [← set2_int]; exact at2 _ _ _ _
theorem at2v (b : Bool) (x y v : Value) : SetAt v [x, y] (kI b).toNat [if b then x else v, if b then v else y] := by
  rw [← set2_vals]; exact at2 _ _ _ _
theorem sel2p (b : Bool) (p : Ns2) (P : Nat) (t0 t1 t : Tok) : [Value.int (setN p b P false) (if b then t0 else t), Value.int (setN p b P true) (if b then t else t1)].toArray.toList[(kI b).toNat]? = some (.int (P : Int) t) := by cases b <;> rfl
theorem sel2t (b : Bool) (g : Bool → List UInt8) (t0 t1 : Tok) : [Value.str (lat (g false)) t0, Value.str (lat (g true)) t1].toArray.toList[(kI b).toNat]? = some (.str (lat (g b)) (if b then t1 else t0)) := by cases b <;> rfl
theorem sel2i (b : Bool) (p : Ns2) (t0 t1 : Tok) : [Value.int (p false) t0, Value.int (p true) t1].toArray.toList[(kI b).toNat]? = some (.int (p b) (if b then t1 else t0)) := by cases b <;> rfl
theorem sel2d {ext : Led} {c : Wc} {b : Bool} (h : ∀ b, DatIn ext (if b then c.s1 else c.s0) (stD (c.S.st b))) : ∃ v0, [c.s0, c.s1].toArray.toList[(kI b).toNat]? = some v0 ∧ DatIn ext v0 (stD (c.S.st b)) := ⟨_, sel2 b _ _, h b⟩
theorem ws_new {fr : List Fm} {s : Ws} {b : Bool} {P : Nat} (h : s.st b = none) (hP : min (s.p b + (rt .sp false [] ((txt b fr).drop (s.p b))).k) ((txt b fr).length + 1) = P) :
    (wsStep fr s b).1.1 = (rt .sp false [] ((txt b fr).drop (s.p b))).res ∧ (wsStep fr s b).2 = ⟨setN s.p b P, fun c => if c = b then (if bad (rt .sp false [] ((txt b fr).drop (s.p b))).res then some (rt .sp false [] ((txt b fr).drop (s.p b))).res else none) else s.st c, max s.t (need b fr P)⟩ := by
  subst hP
  rw [wsStep_new h]
  exact ⟨rfl, rfl⟩
theorem jn_stuck {fr : List Fm} {bs : List Bool} {i : Nat} {b : Bool} {c : Wc} {r : Res} {v : Value} (hJ : WcI fr bs i c) (h : c.S.st b = some r) (hd : DatIn c.ext v (stD (some r))) : JnI fr b c ⟨v, c.pt0, c.pt1, c.pn, c.s0, c.s1, c.sn, c.ext, c.tt⟩ := by
  refine ⟨?_, fun _ h => h, ?_, hJ.ext⟩
  · rw [wsStep_stuck h]; exact hd
  · rw [wsStep_stuck h]; exact hJ.sv
theorem jn_new {fr : List Fm} {bs : List Bool} {i : Nat} {b : Bool} {c : Wc} {x vv : Value} {xt : Led} {P pn sn : Nat} {t0 t1 tt : Tok} (hJ : WcI fr bs i c) (h : c.S.st b = none) (hP : min (c.S.p b + (rt .sp false [] ((txt b fr).drop (c.S.p b))).k) ((txt b fr).length + 1) = P)
    (ht : toldV (rt .sp false [] ((txt b fr).drop (c.S.p b))).res x xt) (hv : (bad (rt .sp false [] ((txt b fr).drop (c.S.p b))).res = true ∧ vv = x) ∨ (bad (rt .sp false [] ((txt b fr).drop (c.S.p b))).res = false ∧ vv = .none)) :
    JnI fr b c ⟨x, t0, t1, pn, if b then c.s0 else vv, if b then vv else c.s1, sn, xt ++ c.ext, tt⟩ := by
  obtain ⟨e1, e2⟩ := ws_new h hP
  have hd : DatIn (xt ++ c.ext) x (resD (rt .sp false [] ((txt b fr).drop (c.S.p b))).res) := (told_dat ht).mono fun q hq => List.mem_append.mpr (.inl hq)
  have sub : ∀ q ∈ c.ext, q ∈ xt ++ c.ext := fun q hq => List.mem_append.mpr (.inr hq)
  refine ⟨?_, sub, ?_, fun q hq => ?_⟩
  · rw [e1]; exact hd
  · intro b'
    rw [e2]
    by_cases hb : b' = b
    · subst hb
      have : (if b' = true then (if b' = true then vv else c.s1) else if b' = true then c.s0 else vv) = vv := by cases b' <;> rfl
      show DatIn (xt ++ c.ext) (if b' = true then (if b' = true then vv else c.s1) else if b' = true then c.s0 else vv) _
      rw [this]
      show DatIn _ _ (stD (if b' = b' then _ else _))
      rw [if_pos rfl]
      rcases hv with ⟨h1, rfl⟩ | ⟨h1, rfl⟩
      · rw [if_pos h1]; exact hd
      · rw [h1, if_neg Bool.false_ne_true]; exact .none
    · have : (if b' = true then (if b = true then vv else c.s1) else if b = true then c.s0 else vv) = (if b' = true then c.s1 else c.s0) := by cases b <;> cases b' <;> first | rfl | exact absurd rfl hb
      show DatIn (xt ++ c.ext) (if b' = true then (if b = true then vv else c.s1) else if b = true then c.s0 else vv) _
      rw [this]
      show DatIn _ _ (stD (if b' = b then _ else _))
      rw [if_neg hb]
      exact (hJ.sv b').mono sub
  · rcases List.mem_append.mp hq with hq | hq
    · exact told_tup ht q hq
    · exact hJ.ext q hq
section
variable {M : Model} {A : Around} {E : Value → Shared → Prop} {s : Shared} {h₀ h : Heap} {env : Env} {x : Str} {pos : Pos} {v : Value} {Q : Value → Shared → Prop} {news : Led} {c : Addr} {o : Obj} {L : Addr}
theorem m_cell (hl : env.kindOf x = some .cell) (hk : env.scope.kind = .function) (hd : (x == ("__debug__" : Str)) = false) (hc : env.cells.lookup x = some c) (N : News h₀ L s.heap news) (hm : (c, o) ∈ news) (d : o.data = .cell (some v)) (h : Q v s) :
    wpAny M A (eval (.Name x pos) env) Q E s := wpAny_Name (wpAny_loadName_cell hk hl hc ⟨_, N.get hm, d⟩ h) hd
variable {a b d t y z : Addr × Obj} {xt ext T l : Led}
theorem nw_app (N : News h₀ L h (a :: b :: d :: (xt ++ (ext ++ T)))) : News h₀ L h (b :: d :: a :: ((xt ++ ext) ++ T)) := led_to N fun p hp => by
  simp only [List.mem_cons, List.mem_append] at hp ⊢
  rcases hp with h | h | h | (h | h) | h
  · exact .inr (.inl h)
  · exact .inr (.inr (.inl h))
  · exact .inl h
  · exact .inr (.inr (.inr (.inl h)))
  · exact .inr (.inr (.inr (.inr (.inl h))))
  · exact .inr (.inr (.inr (.inr (.inr h))))
theorem ap_three {D : Addr} {x y : Addr × Obj} (h1 : x.1 ≠ D) (h2 : y.1 ≠ D) (ht : t.2.cls = .type "tuple") (he : ∀ q ∈ l, q.2.cls = .type "tuple") (hr : ∀ q ∈ T, q.1 ≠ D) : ∀ q ∈ x :: y :: t :: (l ++ T), q.1 ≠ D ∨ q.2.cls = .type "tuple" := fun q hq => by
  simp only [List.mem_cons, List.mem_append] at hq
  rcases hq with rfl | rfl | rfl | h | h
  · exact .inl h1
  · exact .inl h2
  · exact .inr ht
  · exact .inr (he q h)
  · exact .inl (hr q h)
end
theorem cell_of {o : Obj} {d : Data} {v : Value} (h : o.data = d) (e : d = .cell (some v)) : o.data = .cell (some v) := h.trans e
theorem joinQ_elim {P : Shared → Prop} {fl : Flow} {s : Shared} (h : JoinQ P fl s) : fl = .next ∧ P s := h
theorem wsRun_len (fr : List Fm) : ∀ (l : List Bool) (s : Ws), (wsRun fr s l).1.length = l.length
  | [], _ => rfl
  | _ :: r, s => congrArg (· + 1) (wsRun_len fr r _)
theorem wk_rl {fr : List Fm} {bs : List Bool} {i : Nat} {c : Wc} (hJ : WcI fr bs i c) (hl : bs.length ≤ 100) : c.rv.length ≤ 10000 := by
  have h1 := hJ.rows.length
  have h2 := wsRun_len fr (bs.take i) ws0
  rw [hJ.run, List.length_take] at h2
  rw [List.length_map] at h1
  dsimp only at h2
  omega
theorem ft_len8 {qs : List Ft} {q : Ft} (hf : FrOk (qs.map Ft.fm)) (h : q ∈ qs) : q.f.length ≤ 8 := hf.len q.fm (List.mem_map_of_mem h)
theorem wk_own {fa : Addr × Obj} {qs : List Ft} {T : Led} (h1 : fa ∈ T) (h2 : ∀ z ∈ ftL qs, z ∈ T) : ∀ z ∈ fa :: ftL qs, z ∈ T := fun z hz => by
  rcases List.mem_cons.mp hz with rfl | hz
  · exact h1
  · exact h2 z hz
theorem one_min {a k l : Nat} (h : 1 ≤ k) : 1 ≤ min (a + k) (l + 1) := by omega
theorem wk_next {fr : List Fm} {bs : List Bool} {i : Nat} {b : Bool} {c : Wc} {j : Jn} {t : Addr} {k : Nat} {t1 : Tok} {wv tv : Option Value} {rn : Nat} (hJ : WcI fr bs i c) (hb : bs[i]? = some b) (hj : JnI fr b c j) :
    WcI fr bs (i + 1) ⟨(wsStep fr c.S b).2, c.R ++ [(wsStep fr c.S b).1], c.rv ++ [.ref t], rn, j.pt0, j.pt1, j.pn, j.s0, j.s1, j.sn, (t, ({ cls := .type "tuple", data := .seq #[j.x, .int ((octs (fr.drop (wsStep fr c.S b).2.t) : Nat) : Int) t1] k } : Obj)) :: j.xt, j.tt, wv, tv⟩ := by
  refine wc_next hJ hb rfl rfl rfl (fun q hq => .tail _ (hj.sub q hq)) ?_ (fun b' => (hj.sv b').mono fun q hq => .tail _ hq) fun q hq => ?_
  · unfold rowD
    rw [ws_oct]
    exact .tuple (.head _) (.cons (hj.dat.mono fun q hq => .tail _ hq) (.cons (.int _ _) .nil))
  · rcases List.mem_cons.mp hq with rfl | hq
    · rfl
    · exact hj.ext q hq
theorem wk_fin {qs : List Ft} {bs : List Bool} {n : Nat} {c : Wc} {t D Rw : Addr} {k kt : Nat} {ys : List Value} (hJ : WcI (qs.map Ft.fm) bs n c) (hn : n = bs.length) (hy : IntsAre ys ((qs.take c.S.t).map fun q => (q.c.toNat : Int))) :
    DatIn ((t, ({ cls := .type "tuple", data := .seq #[.ref Rw, .ref D] kt } : Obj)) :: (D, lst ys) :: (Rw, lst0 c.rv k) :: c.ext) (.ref t) (walkD (qs.map Ft.fm) bs) := by
  have hr := hJ.run
  rw [hn, List.take_length] at hr
  unfold walkD
  rw [hr]
  refine .tuple (.head _) (.cons (.list (.tail _ (.tail _ (.head _))) (hJ.rows.mono fun q hq => .tail _ (.tail _ (.tail _ hq)))) (.cons (.list (n := ys.length) (.tail _ (.head _)) ?_) .nil))
  have e : ((qs.map Ft.fm).take c.S.t).map (fun f => Dat.int (f.1.toNat : Int)) = ((qs.take c.S.t).map fun q => (q.c.toNat : Int)).map Dat.int := by
    rw [← List.map_take, List.map_map, List.map_map]; rfl
  dsimp only
  rw [e]
  exact ints_dat hy
theorem wk_next' {qs : List Ft} {bs : List Bool} {i : Nat} {b : Bool} {c : Wc} {j : Jn} {t : Addr} {k : Nat} {t1 : Tok} {wv tv : Option Value} {rn : Nat} (hJ : WcI (qs.map Ft.fm) bs i c) (hb : bs[i]? = some b) (hj : JnI (qs.map Ft.fm) b c j) :
    WcI (qs.map Ft.fm) bs (i + 1) ⟨(wsStep (qs.map Ft.fm) c.S b).2, c.R ++ [(wsStep (qs.map Ft.fm) c.S b).1], c.rv ++ [.ref t], rn, j.pt0, j.pt1, j.pn, j.s0, j.s1, j.sn, (t, ({ cls := .type "tuple", data := .seq #[j.x, .int ((octs ((qs.drop (wsStep (qs.map Ft.fm) c.S b).2.t).map Ft.fm) : Nat) : Int) t1] k } : Obj)) :: j.xt, j.tt, wv, tv⟩ := by
  rw [show (qs.drop (wsStep (qs.map Ft.fm) c.S b).2.t).map Ft.fm = (qs.map Ft.fm).drop (wsStep (qs.map Ft.fm) c.S b).2.t from List.map_drop ..]
  exact wk_next hJ hb hj
theorem nw_T {h₀ h : Heap} {L : Addr} {a b c t : Addr × Obj} {xt T : Led} (N : News h₀ L h (a :: b :: c :: t :: (xt ++ T))) : News h₀ L h ((a :: b :: c :: (t :: xt)) ++ T) := N
theorem nw_F {h₀ h : Heap} {L : Addr} {a b d r p q x y z u v : Addr × Obj} {ext l rest : Led} (N : News h₀ L h (a :: b :: d :: ((r :: p :: q :: ext) ++ (x :: y :: z :: u :: v :: (l ++ rest))))) : News h₀ L h ((a :: b :: r :: ext) ++ rest) := led_to N fun w hw => by
  simp only [List.cons_append, List.mem_cons, List.mem_append] at hw ⊢
  rcases hw with h | h | h | h | h
  · exact .inl h
  · exact .inr (.inl h)
  · exact .inr (.inr (.inr (.inl h)))
  · exact .inr (.inr (.inr (.inr (.inr (.inr (.inl h))))))
  · exact .inr (.inr (.inr (.inr (.inr (.inr (.inr (.inr (.inr (.inr (.inr (.inr (.inr h))))))))))))
end Mine
end
section
namespace Mine
open LCg
section
variable {prog : Program} {w : World} {A : Around} {E : Value → Shared → Prop} {s : Shared} {h₀ : Heap} {L : Addr} {news n₁ n₂ : Led}
theorem m_eqD {Q : Value → Shared → Prop} {v u : Value} {d : Dat} (N : News h₀ L s.heap news) (ha : DatIn n₁ v d) (sa : ∀ q ∈ n₁, q ∈ news) (hb : DatIn n₂ u d) (sb : ∀ q ∈ n₂, q ∈ news) (ok : kqdOk 8 d = true) (hu : A.units + 64 < cLine) (h : Q (.bool true) s) :
    wpAny (model prog w) A (compareOp .Eq v u) Q E s := by
  obtain ⟨as, ra⟩ := kqd_in N 8 (ha.mono sa) ok
  obtain ⟨bs, rb⟩ := kqd_in N 8 (hb.mono sb) ok
  have la := kqd_lay 8 d ok
  have e : PyData.eqv (kqdP d) (kqdP d) = true := (kqd_eqv 8 d d 8 ok ok).mpr rfl
  refine eq_dataH ra rb ?_ ?_ hu (by rw [e]; exact h)
  · unfold SeqAt.shaped; rw [la.1, Bool.true_and]; exact decide_eq_true (Nat.le_trans la.2 (by decide))
  · unfold SeqAt.shaped; rw [la.1, Bool.true_and]; exact decide_eq_true (Nat.le_trans la.2 (by decide))
end
end Mine
end
section
namespace Mine
open LCg
theorem ints_get : ∀ {vs : List Value} {ns : List Int} {i : Nat} {v : Value}, IntsAre vs ns → vs[i]? = some v → ∃ z t, ns[i]? = some z ∧ v = .int z t
  | _, _, 0, _, .cons z t r, h => by cases h; exact ⟨z, t, rfl, rfl⟩
  | _, _, i + 1, _, .cons z t r, h => ints_get (i := i) r h
theorem ints_len : ∀ {vs : List Value} {ns : List Int}, IntsAre vs ns → vs.length = ns.length
  | _, _, .nil => rfl
  | _, _, .cons _ _ r => congrArg (· + 1) (ints_len r)
section
variable {prog : Program} {w : World} {A : Around} {E : Value → Shared → Prop} {s : Shared} {h₀ : Heap} {L : Addr} {m : Str → Option Value} {news : Led} {env : Env}
theorem compSrc_ints {elt : Expr} {x y : Str} {scope : Scope} {cl : List (Str × Addr)} {Q : Flow → Shared → Prop} {ax : Addr} {vs : List Value} {ns : List Int} {n : Nat} {s₁ : Shared} (g : Int → Int)
    (hh : A.handled = none) (F : Fr h₀ L s₁.heap m) (N : News h₀ L s₁.heap news) (hm : (ax, ({ cls := .type "list", data := .seq vs.toArray n } : Obj)) ∈ news) (hi : IntsAre vs ns) (hsz : vs.length ≤ 10000)
    (turn : ∀ z t ys I oI C oC D m₂ h tk (E' : Value → Shared → Prop), NsObj oC m₂ → m₂ x = some (.int z t) → Fr h₀ L h m → News h₀ L h ((I, oI) :: (C, oC) :: (D, lst ys) :: news) →
      wpAny (model prog w) A (eval elt (compEnvC scope cl C env)) (fun y s₂ => ∃ h' tk', s₂ = { s₁ with heap := h', toks := tk' } ∧ Fr h₀ L h' m ∧ News h₀ L h' ((I, oI) :: (C, oC) :: (D, lst ys) :: news) ∧ ∃ t, y = .int (g z) t) E' { s₁ with heap := h, toks := tk })
    (fin : ∀ ys D h tk, IntsAre ys (ns.map g) → Fr h₀ L h (fun z => if z = y then some (.ref D) else m z) → News h₀ L h ((D, lst ys) :: news) → Q .next { s₁ with heap := h, toks := tk }) :
    CompSrc prog w A h₀ L m env elt x scope cl (fun s₂ => FinA h₀ L m s₂ y Q) (.ref ax) s₁ := by
  refine CompSrc.ledger hh F N hm (by rw [List.size_toArray, sizeLine_eq]; omega) fun g' => ?_
  have hn : vs.toArray.size = ns.length := by rw [List.size_toArray]; exact ints_len hi
  rw [hn]
  refine comp_inv (fun i ys nw => nw = news ∧ IntsAre ys ((ns.take i).map g)) ⟨rfl, .nil⟩ ?_ fun ys nw hI D h tk F' N' _ => ?_
  · rintro i v ys nw I oI C oC D m₂ h tk E' hlt hv ⟨rfl, hy⟩ hC hx F' N' off _
    obtain ⟨z, t, hz, rfl⟩ := ints_get hi (v := v) (by simpa using hv)
    obtain ⟨hl, he⟩ := List.getElem?_eq_some_iff.mp hz
    refine wpAny_mono (turn z t ys I oI C oC D m₂ h tk E' hC hx F' N') (fun y s₂ hk => ?_) fun _ _ e => e
    obtain ⟨h', tk', e2, F₂, N₂, t', rfl⟩ := hk
    refine ⟨h', tk', nw, e2, F₂, N₂, off, .inr ⟨_, hm, rfl, _, rfl⟩, rfl, ?_⟩
    rw [List.take_succ_eq_append_getElem hl, he, List.map_append]
    exact ints_snoc hy
  · obtain ⟨rfl, hI⟩ := hI
    rw [List.take_length] at hI
    exact fin ys D h tk hI F' N'
end
theorem num_len {vs : List Value} {ns : List Int} (h : IntsAre vs (ns.take 10)) : vs.length ≤ 10000 := by
  have := ints_len h
  rw [List.length_take] at this
  omega
noncomputable def numF (z : Int) : Int := Int.fmod (Int.fmod z 10000000 * 3162277 + 2718281) 10000000
end Mine
end
section
namespace Mine
noncomputable def CtrQ (w : World) (f : Addr) (vs : List Value) (D U : Nat) (post : Value → Led → Prop) : Prop :=
  PySem.Challenge.rw_in0150_01 = PySem.Challenge.rw_in0150_01 → ∀ (mean : ExcName → Option Value) (mg mb : Str → Option Value) (dp un : Nat) (gd : Option (List Code)) (cn : Str) (cs : Scope) (a : Addr) (ccd : Value) (cl : List (Str × Addr)) (outer : List Env) (A₀ : Around)
    (base h₀ : Heap) (L : Addr) (m : Str → Option Value) (s : Shared) (rest : Led) (Q E : Value → Shared → Prop),
    Below A₀ base outer h₀ → Fr h₀ L s.heap m → (K w.params).In h₀ → News h₀ L s.heap rest → TopQ mean mg mb h₀ → cs.kind = .function → dp + D < recursionLimit → un + U < cLine →
    (∀ v new h' tk', post v new → Fr h₀ L h' m → News h₀ L h' (new ++ rest) → (∀ q ∈ new, ∀ p ∈ rest, p.1 ≠ q.1) → Q v { s with heap := h', toks := tk' }) →
    wpAny (model P0 w) (ktrTop dp un gd cn cs L a ccd cl outer) (call (.ref f) vs) Q E s
theorem one_off {D : Addr} {o : Obj} {rest : Led} (h : AllLt D rest) {q : Addr × Obj} (hq : q ∈ [(D, o)]) : ∀ p ∈ rest, p.1 ≠ q.1 := by
  rcases List.mem_singleton.mp hq with rfl
  exact off_lt h
theorem p10 (i : Nat) : 10 ^ i ≠ 0 := Nat.ne_of_gt (Nat.pow_pos (by decide))
theorem p10s {i : Nat} (h : i < 4) : 10 ^ i < 1000000 := by
  match i, h with
  | 0, _ => decide
  | 1, _ => decide
  | 2, _ => decide
  | 3, _ => decide
  | n + 4, h => omega
theorem fr_new (x0 : Nat) (D : Addr) (t1 t2 : Tok) (k : Nat) : ([(D, { cls := .type "tuple", data := .seq #[.int ((x0 / 10 ^ 4 % 256 : Nat) : Int) t1, .str (lat (joinL [] ((List.range 4).map fun i => pc (x0 / 10 ^ i % 10)))) t2] k })] : Led) = [(D, ftO ⟨D, UInt8.ofNat (x0 / 10000 % 256), frT x0, t1, t2, k⟩)] := by
  have e : (UInt8.ofNat (x0 / 10000 % 256)).toNat = x0 / 10 ^ 4 % 256 := by
    rw [UInt8.toNat_ofNat']
    show x0 / 10000 % 256 % 256 = x0 / 10000 % 256
    omega
  show _ = [(D, ({ cls := .type "tuple", data := .seq #[.int (((UInt8.ofNat (x0 / 10000 % 256)).toNat : Nat) : Int) t1, .str (lat (frT x0)) t2] k } : Obj))]
  rw [e]
  rfl
theorem frs (N : Nat) : (((((List.range 4).map fun i => pc (N / 10 ^ i % 10)).map lat).map (·.length)).sum + ((List.range 4).map fun i => pc (N / 10 ^ i % 10)).length * 64) ≤ 16777216 := by
  have h0 := pc_len (N / 10 ^ 0 % 10)
  have h1 := pc_len (N / 10 ^ 1 % 10)
  have h2 := pc_len (N / 10 ^ 2 % 10)
  have h3 := pc_len (N / 10 ^ 3 % 10)
  show (lat (pc (N / 10 ^ 0 % 10))).length + ((lat (pc (N / 10 ^ 1 % 10))).length + ((lat (pc (N / 10 ^ 2 % 10))).length + ((lat (pc (N / 10 ^ 3 % 10))).length + 0))) + 4 * 64 ≤ 16777216
  simp only [latL]
  omega
theorem frame (w : World) (x0 : Nat) (tN : Tok) :
    CtrQ w 766 [.int x0 tN] 6 60 (fun v new => ∃ q : Ft, q.fm = frameOf x0 ∧ v = .ref q.a ∧ new = [(q.a, ftO q)]) := by
  unfold CtrQ
  k_fill
  k_with_none
  k_with "om" => (with_reducible first|assumption|exact rm1 (by assumption) rfl|exact rm2 (by assumption) rfl|exact rm3 (by assumption) rfl|exact rm0 (by assumption)|exact Nat.le_of_lt (by assumption)|exact Nat.le_add_right _ _|exact Nat.lt_succ_self _|exact Nat.le_of_not_lt (by assumption)|exact lt_i (by assumption)|exact nlt_i (by assumption)|exact le_big (by assumption) rfl)
  k_with "k_all" => (first|(first|assumption|exact off_lt (by walk_at "and_last")|exact off_le (by walk_at "and_last") (Nat.le_succ _)|exact off_le (by walk_at "and_last") (Nat.le_add_right _ _)|exact off_le' (by assumption) (Nat.le_refl _)|exact off_le' (by assumption) (Nat.le_succ _)|exact off_le' (by assumption) (Nat.le_add_right _ _)|exact off_le' (by assumption) (Nat.le_succ_of_le (Nat.le_succ _))|exact off_le' (by assumption) (Nat.le_succ_of_le (Nat.le_succ_of_le (Nat.le_succ _))))|fail)
  k_with "k_ne" => (first|(first|assumption|exact Ne.symm (by assumption))|fail)
  k_with "k_upd" => (first|((refine' upd_ap ?ap9 ?ae9 ?st9 ?sk9;(case ap9 => assumption);(case ae9 => exact rfl);(case st9 => walk_at "setn");(case sk9 => first|decide|omega)))|fail)
  k_with "m_enter" => (((first|(refine' code_def (by k_asm) (by k_asm) (by k_asm) (by k_asm) (by k_asm) rfl rfl (by first|exact rfl|assumption|fail) (by k_is) (by k_is) (by ktr_room) (by first|exact BindsTo.of_eq rfl|exact binds_K (by k_in) rfl (by k_is) rfl rfl rfl|fail) (by first|(exact locs rfl)|fail) ?_ (by first|exact rfl|fail) (by first|exact rfl|fail) (by first|exact rfl|fail) (by decide);k_whole;intro g' L' h' FG' F' N' B' X' T';(try dsimp only);(try k_lift B');skip)|(refine' code_defC (by k_asm) (by k_asm) (by k_asm) (by k_asm) (by k_asm) rfl rfl (by first|exact rfl|assumption|fail) (by k_is) (by k_is) (by ktr_room) (by first|exact BindsTo.of_eq rfl|exact binds_K (by k_in) rfl (by k_is) rfl rfl rfl|fail) (by first|exact rfl|fail) (by first|(decide +kernel)|fail) ?_ (by first|exact rfl|fail) (by first|exact rfl|fail) (by first|exact rfl|fail);k_whole;intro g' L' h' tk' cells' FG' F' N' Y' B' X' T' l1;(try k_lt l1);k_cells Y';(try simp only [List.cons_append, List.nil_append] at N');(try dsimp only);(try k_lift B');skip)));(all_goals (first|(rename_i u19 u29 u39 u49;revert FG' F' B' X' T' l1 u39 u49 N';revert g' L' h' tk' u19 u29;refine eps6 eH eN eH eN eO eO ?_;generalize q61 _ = g', q62 _ = L', q63 _ = h', q64 _ = tk', q65 _ = u19, q66 _ = u29;refine hold6 ?_;intro FG' F' B' X' T' l1 _ _ N')|skip)))
  k_with "eval Name" => ((k_here;k_dflt (first|(refine' m_local (by first|exact rfl|fail) (by first|exact rfl|fail) (by decide) (by k_asm) (by first|exact rfl|fail) ?_;k_whole)|(refine' m_free (by first|exact rfl|fail) (by first|exact rfl|fail) (by decide) (by decide) (by first|exact rfl|fail) (by k_asm) (by k_mem) (by k_asm) ?_;k_whole)|(refine' m_global (by first|exact rfl|fail) (by first|exact rfl|fail) (by decide) (by first|exact rfl|fail) (by k_asm) (by k_asm) (by k_asm) (by k_is) ?_;k_whole)|(refine' m_builtin (by first|exact rfl|fail) (by first|exact rfl|fail) (by decide) (by first|exact rfl|fail) (by first|exact rfl|fail) (by k_asm) (by k_asm) (by k_asm) (by k_is) (by decide) (by first|(boot_by_name)|fail) ?_;k_whole))))
  k_with "execs cons" => (((with_reducible refine wpAny_execs_cons ?_);try dsimp only))
  intro hrow mean mg mb dp un gd cn cs a ccd cl outer A₀ base h₀ L m s rest Q E B F X N TQ hk hd hu hret
  k_with "binaryOp FloorDiv int int" => (((k_here;k_dflt (refine' m_fdiv (D := 10 ^ i9) rfl (Nat.pos_of_ne_zero (by exact p10 i9)) (p10s hi9) ?_;k_whole;intro _ _)));(all_goals (first|(rename_i u19 u29;revert u19 u29;refine eps2 eN eN ?_;generalize q21 _ = u19, q22 _ = u29;refine hold2 ?_)|skip)))
  k_with "binaryOp FloorDiv int int" => (((k_here;k_dflt (refine' m_fdiv (D := 10 ^ 4) rfl (by decide) (by decide) ?_;k_whole;intro _ _)));(all_goals (first|(rename_i u19 u29;revert u19 u29;refine eps2 eN eN ?_;generalize q21 _ = u19, q22 _ = u29;refine hold2 ?_)|skip)))
  k_with "binaryOp Mod int int" => (((k_here;k_dflt (first|refine' m_modN (D := 10) rfl (by decide) ?_|refine' m_modN (D := 256) rfl (by decide) ?_);k_whole;intro _ _));(all_goals (first|(rename_i u19 u29;revert u19 u29;refine eps2 eN eN ?_;generalize q21 _ = u19, q22 _ = u29;refine hold2 ?_)|skip)))
  k_with "binaryOp Pow int int" => (((k_here;k_dflt (first|refine' m_pow10 i9 (Nat.le_of_lt hi9) ?_|refine' m_pow10 4 (Nat.le_refl _) ?_);k_whole;intro _ _));(all_goals (first|(rename_i u19 u29 u39 u49 u59;revert u29 u39;revert u19 u49 u59;refine eps3 eH eN eN ?_;generalize q31 _ = u19, q32 _ = u49, q33 _ = u59;refine hold3 ?_;intro _ _)|(rename_i u19 u29;revert u19 u29;refine eps2 eN eN ?_;generalize q21 _ = u19, q22 _ = u29;refine hold2 ?_)|skip)))
  k_with "CompSrc" => (((k_here;k_dflt (refine LCg.CompSrc.range (n := 4) (by rfl) (by k_asm) (by k_asm) (by assumption) (by first|decide|rfl) (by first|rfl|decide) (by first|decide|exact Nat.le_of_ble_eq_true rfl) ?_);intro g'));(all_goals (first|(rename_i u19 u29 u39 u49 u59 u69 u79 u89 u99 u109 u119 u129 u139 u149 u159 u169 u179;revert u39 u69 u79 u89 u149 u159 u169 u179;revert u19 u29 u49 u59 u99 u109 u119 u129 u139 g';refine eps8 eN eH eH eO eH eN eN eN ?_;generalize q81 _ = u19, q82 _ = u29, q83 _ = u49, q84 _ = u59, q85 _ = u99, q86 _ = u109, q87 _ = u119, q88 _ = u129;refine hold8 ?_;refine eps2 eN eH ?_;generalize q21 _ = u139, q22 _ = g';refine hold2 ?_;intro _ _ _ _ _ _ _ _)|skip)))
  k_with "CompRest" => (((k_dflt (refine comp_rng (n := 4) (fun i => pc (x0 / 10 ^ i % 10)) ?_ ?_);rotate_left;(intro ys9 hys9);rotate_left;(intro i9 t9 ys8 I9 oI9 C9 oC9 D9 m9 h9 tk9 E9 hi9 hC9 hx9 F9 N9 off9)));(all_goals (first|(revert hi9 hC9 hx9 F9 N9 off9;revert i9 t9 ys8 I9 oI9 C9 oC9 D9 m9 h9 tk9 E9;refine eps8 eN eN eLV eN eO eN eO eN ?_;generalize q81 _ = i9, q82 _ = t9, q83 _ = ys8, q84 _ = I9, q85 _ = oI9, q86 _ = C9, q87 _ = oC9, q88 _ = D9;refine hold8 ?_;refine eps4 eM eH eN eP2 ?_;generalize q41 _ = m9, q42 _ = h9, q43 _ = tk9, q44 _ = E9;refine hold4 ?_;intro hi9 hC9 hx9 F9 N9 off9)|(revert hys9;revert ys9;refine eps1 eLV ?_;generalize cex _ _ = ys9;refine hold1 ?_;intro hys9)|skip)))
  k_with "subscriptTail Name BinOp ref int" => (((k_here;k_dflt (refine' m_piece (by k_asm) (by k_mem) (Nat.mod_lt _ (by decide)) ?_;k_whole;intro _)));(all_goals (first|(rename_i u19;revert u19;refine eps1 eN ?_;generalize cex _ _ = u19;refine hold1 ?_)|skip)))
  k_with "CompEnd" => (k_dflt (exact LCg.CompEnd.intro (by k_asm) (by k_asm) _ (fun _ h => h) off9 (by first|exact True.intro|fail) ⟨rfl, _, rfl⟩))
  k_with "call builtin:str.join" => (((k_here;k_dflt (refine' m_join0 (by k_asm) (by k_mem) hys9 (frs x0) ?_;k_whole;intro _ _)));(all_goals (first|(rename_i u19 u29 u39 u49 u59 u69 u79 u89;revert u49 u59 u69;revert u19 u29 u39 u79 u89;refine eps5 eN eH eN eN eN ?_;generalize q51 _ = u19, q52 _ = u29, q53 _ = u39, q54 _ = u79, q55 _ = u89;refine hold5 ?_;intro _ _ _)|skip)))
  revert B F X N TQ hk hd hu hret; revert w x0 tN mean mg mb dp un gd cn cs a ccd cl outer A₀ base h₀ L m s rest Q E; refine eps8 eW eN eN eEx eM eM eN eN ?_; generalize q81 _ = w, q82 _ = x0, q83 _ = tN, q84 _ = mean, q85 _ = mg, q86 _ = mb, q87 _ = dp, q88 _ = un; refine hold8 ?_; refine eps8 eOC eS eSc eN eV eSA eEn eAr ?_; generalize q81 _ = gd, q82 _ = cn, q83 _ = cs, q84 _ = a, q85 _ = ccd, q86 _ = cl, q87 _ = outer, q88 _ = A₀; refine hold8 ?_; refine eps8 eH eH eN eM eSh eL eP2 eP2 ?_; generalize q81 _ = base, q82 _ = h₀, q83 _ = L, q84 _ = m, q85 _ = s, q86 _ = rest, q87 _ = Q, q88 _ = E; refine hold8 ?_; intro B F X N TQ hk hd hu hret
  refine wpAny_call ?_
  k_dflt (walk_at "m_enter")
  repeat' (first | (k_unfold; (try dsimp only)) | walk1 | (dsimp only; walk1) | (dsimp only; with_reducible refine lpost_brk ?_; try dsimp only) | (dsimp only; with_reducible refine lpost_ret ?_; try dsimp only))
  all_goals (try k_data)
  all_goals first
    | ((with_reducible rename _ ∧ _ ∧ _ ∧ _ ∧ AllLt _ _ => lz9); exact hret _ _ _ _ ⟨⟨_, _, _, _, _, _⟩, rfl, rfl, fr_new x0 _ _ _ _⟩ (by assumption) (nw2 (nw2 (nw2 (nw2 (by assumption))))) (fun q hq p hp => one_off lz9.2.2.2.2 hq p hp))
  k_with_none
  k_with "om" => (with_reducible first|assumption|exact rm1 (by assumption) rfl|exact rm0 (by assumption)|exact Nat.le_of_lt (by assumption)|exact Nat.le_add_right _ _|exact Nat.le_add_left _ _|exact Nat.lt_succ_self _|exact Nat.succ_pos _|exact Nat.lt_of_not_le (by assumption)|exact Nat.le_of_not_lt (by assumption)|exact Nat.le_of_not_le (by assumption)|exact Nat.le_of_lt (Nat.lt_of_not_le (by assumption))|exact lt_i (by assumption)|exact nlt_i (by assumption)|exact nneg_i|exact le_big (by assumption) rfl|exact Nat.le_of_succ_le_succ (by assumption)|exact Nat.eq_zero_of_le_zero (by assumption)|exact Nat.add_comm _ _)
end Mine
end
section
namespace Mine
open LCg
section
variable {prog : Program} {w : World} {A : Around} {E : Value → Shared → Prop} {s : Shared} {h₀ : Heap} {L : Addr} {m : Str → Option Value} {news : Led} {env : Env}
theorem ftL_rev {qs : List Ft} {q : Ft} : (q.a, ftO q) :: (ftL qs.reverse ++ news) = ftL (qs ++ [q]).reverse ++ news := by
  rw [List.reverse_append]; rfl
theorem ftL_unrev {h : Heap} {qs : List Ft} {d : Addr × Obj} (N : News h₀ L h (d :: (ftL qs.reverse ++ news))) : News h₀ L h (d :: (ftL qs ++ news)) := led_to N fun z hz => by
  unfold ftL at hz ⊢
  simp only [List.mem_cons, List.mem_append, List.mem_map, List.mem_reverse] at hz ⊢
  exact hz
theorem compSrc_fts {elt : Expr} {x : Str} {scope : Scope} {cl : List (Str × Addr)} {Q : Value → Shared → Prop} {ax : Addr} {vs : List Value} {xs : List Nat} {n : Nat} {s₁ : Shared} (g : Nat → Fm)
    (hh : A.handled = none) (F : Fr h₀ L s₁.heap m) (N : News h₀ L s₁.heap news) (hm : (ax, ({ cls := .type "list", data := .seq vs.toArray n } : Obj)) ∈ news) (hi : IntsAre vs (xs.map Int.ofNat)) (hsz : vs.length ≤ 10000)
    (turn : ∀ (z : Nat) t ys qs I oI C oC D m₂ h tk (E' : Value → Shared → Prop), NsObj oC m₂ → m₂ x = some (.int (Int.ofNat z) t) → Fr h₀ L h m → News h₀ L h ((I, oI) :: (C, oC) :: (D, lst ys) :: (ftL qs ++ news)) → Off3 I C D (ftL qs ++ news) →
      wpAny (model prog w) A (eval elt (compEnvC scope cl C env)) (fun y s₂ => ∃ h' tk' q, s₂ = { s₁ with heap := h', toks := tk' } ∧ Fr h₀ L h' m ∧ News h₀ L h' ((I, oI) :: (C, oC) :: (D, lst ys) :: ((q.a, ftO q) :: (ftL qs ++ news))) ∧ Off3 I C D ((q.a, ftO q) :: (ftL qs ++ news)) ∧ q.fm = g z ∧ y = .ref q.a) E' { s₁ with heap := h, toks := tk })
    (fin : ∀ qs D h tk, qs.map Ft.fm = xs.map g → Fr h₀ L h m → News h₀ L h ((D, lst (ftV qs)) :: (ftL qs ++ news)) → Q (.ref D) { s₁ with heap := h, toks := tk }) :
    CompSrc prog w A h₀ L m env elt x scope cl (fun s₂ => FinE h₀ L m s₂ Q) (.ref ax) s₁ := by
  refine CompSrc.ledger hh F N hm (by rw [List.size_toArray, sizeLine_eq]; omega) fun g' => ?_
  have hn : vs.toArray.size = xs.length := by rw [List.size_toArray, ints_len hi, List.length_map]
  rw [hn]
  refine comp_inv (fun i ys nw => ∃ qs : List Ft, nw = ftL qs.reverse ++ news ∧ ys = ftV qs ∧ qs.map Ft.fm = (xs.take i).map g) ⟨[], rfl, rfl, rfl⟩ ?_ fun ys nw hI D h tk F' N' _ => ?_
  · rintro i v ys nw I oI C oC D m₂ h tk E' hlt hv ⟨qs, rfl, rfl, hq⟩ hC hx F' N' off hne
    obtain ⟨z, t, hz, rfl⟩ := ints_get hi (v := v) (by simpa using hv)
    rw [List.getElem?_map] at hz
    obtain ⟨z', hz', rfl⟩ := Option.map_eq_some_iff.mp hz
    obtain ⟨hl, he⟩ := List.getElem?_eq_some_iff.mp hz'
    refine wpAny_mono (turn z' t _ qs.reverse I oI C oC D m₂ h tk E' hC hx F' N' off) (fun y s₂ hk => ?_) fun _ _ e => e
    obtain ⟨h', tk', q, e2, F₂, N₂, off2, hqf, rfl⟩ := hk
    refine ⟨h', tk', (q.a, ftO q) :: (ftL qs.reverse ++ news), e2, F₂, N₂, off2, .inr ⟨_, List.mem_cons_of_mem _ (List.mem_append.mpr (.inr hm)), rfl, _, rfl⟩, qs ++ [q], ftL_rev, ?_, ?_⟩
    · unfold ftV; rw [List.map_append]; rfl
    · rw [List.take_succ_eq_append_getElem hl, he, List.map_append, List.map_append, hq, List.map_cons, List.map_nil, List.map_cons, List.map_nil, hqf]
  · obtain ⟨qs, rfl, rfl, hq⟩ := hI
    rw [List.take_length] at hq
    exact fin qs D h tk hq F' (ftL_unrev N')
end
theorem numF_nat (z : Int) : Int.ofNat (numF z).toNat = numF z := Int.toNat_of_nonneg (by unfold numF; rw [Int.fmod_eq_emod_of_nonneg _ (by decide)]; exact Int.emod_nonneg _ (by decide))
theorem num_nats {vs : List Value} {ns : List Int} (h : IntsAre vs (ns.map numF)) : IntsAre vs ((ns.map fun z => (numF z).toNat).map Int.ofNat) := by
  rw [List.map_map]
  have e : (Int.ofNat ∘ fun z => (numF z).toNat) = numF := funext fun z => numF_nat z
  rw [e]; exact h
end Mine
end
section
namespace Mine
theorem eLFm : Nonempty (List Fm) := ⟨([] : List Fm)⟩
theorem eNs : Nonempty (Ns2) := ⟨(fun _ => 0 : Ns2)⟩
theorem eOv : Nonempty (Option Value) := ⟨(none : Option Value)⟩
theorem line (w : World) (sx sd fR cS c1 ha h2 : Addr) (tv tr : Tok) (pm ctv : Value) (oS o1 : Obj) (vs : Array Value) (t1 : Tok) (hS : oS.data = .cell (some (.ref sx))) (hc1 : o1.data = .fields vs) (hv1 : vs[1]? = some (.str "_law_stream.<locals>.<lambda>" t1)) (fr : List Fm) (hfr : FrOk fr) (n : Ns2) (t : Nat) (ab : Abs fr n t) (b : Bool) (tkc : Tok) (tb u0 u1 : Tok) (nn n2 : Nat) (hvs : List Value) (oc : Octs hvs (mkA fr n t).oc) :
    CtrT w 799 [.ref sx, .ref ha, .int (kI b) tkc] (chan w.params sx sd fR cS c1 ha h2 (encF (mkA fr n t).fs) tb tv tr pm ctv oS o1 (lat (mkA fr n t).y0) (lat (mkA fr n t).y1) u0 u1 nn hvs n2) 16 200
      (fun v own2 => (∃ x t9, v = .str x t9) ∧ HasCh w.params sx sd fR cS c1 ha h2 tv tr pm ctv oS o1 (mkA fr (goN fr n b (bl ((txt b fr).drop (n b)))) (goT fr n t b (bl ((txt b fr).drop (n b))))) own2) (fun _ _ => False) := by
  obtain ⟨Nf, hNf⟩ : ∃ x, goN fr n b (bl ((txt b fr).drop (n b))) = x := ⟨_, rfl⟩
  obtain ⟨Tf, hTf⟩ : ∃ x, goT fr n t b (bl ((txt b fr).drop (n b))) = x := ⟨_, rfl⟩
  rw [hNf, hTf]
  have hk0 := kI_lo b
  have hk1 := kI_hi b
  unfold CtrT
  k_fill
  k_with_none
  k_with "om" => (with_reducible first|assumption|exact rm1 (by assumption) rfl|exact rm2 (by assumption) rfl|exact rm3 (by assumption) rfl|exact rm0 (by assumption)|exact Nat.le_of_lt (by assumption)|exact Nat.le_add_right _ _|exact Nat.lt_succ_self _|exact Nat.le_of_not_lt (by assumption)|exact lt_i (by assumption)|exact nlt_i (by assumption)|exact le_big (by assumption) rfl)
  k_with "k_all" => (first|(first|assumption|exact off_lt (by walk_at "and_last")|exact off_le (by walk_at "and_last") (Nat.le_succ _)|exact off_le (by walk_at "and_last") (Nat.le_add_right _ _)|exact off_le' (by assumption) (Nat.le_refl _)|exact off_le' (by assumption) (Nat.le_succ _)|exact off_le' (by assumption) (Nat.le_add_right _ _)|exact off_le' (by assumption) (Nat.le_succ_of_le (Nat.le_succ _))|exact off_le' (by assumption) (Nat.le_succ_of_le (Nat.le_succ_of_le (Nat.le_succ _))))|fail)
  k_with "k_ne" => (first|(first|assumption|exact Ne.symm (by assumption))|fail)
  k_with "sel" => (first|exact Sel.head|(apply Sel.tail;walk_at "sel"))
  k_with "pick" => (first|exact Pick.nil|(apply Pick.cons;walk_at "sel";walk_at "pick"))
  k_with "off" => (first|with_reducible assumption|(with_reducible refine off_cons ?_ ?_;k_ne;walk_at "off")|k_all)
  k_with "offs" => (first|exact True.intro|(refine And.intro ?_ ?_;walk_at "off";walk_at "offs"))
  k_with "disa" => (first|exact True.intro|(refine And.intro ?_ ?_;k_ne;walk_at "disa"))
  k_with "dis" => (first|exact True.intro|(refine And.intro ?_ ?_;walk_at "disa";walk_at "dis"))
  k_with "eval Name" => ((k_here;k_dflt (first|(refine' m_local (by first|exact rfl|fail) (by first|exact rfl|fail) (by decide) (by k_asm) (by first|exact rfl|fail) ?_;k_whole)|(refine' m_free (by first|exact rfl|fail) (by first|exact rfl|fail) (by decide) (by decide) (by first|exact rfl|fail) (by k_asm) (by k_mem) (by k_asm) ?_;k_whole)|(refine' m_global (by first|exact rfl|fail) (by first|exact rfl|fail) (by decide) (by first|exact rfl|fail) (by k_asm) (by k_asm) (by k_asm) (by k_is) ?_;k_whole)|(refine' m_builtin (by first|exact rfl|fail) (by first|exact rfl|fail) (by decide) (by first|exact rfl|fail) (by first|exact rfl|fail) (by k_asm) (by k_asm) (by k_asm) (by k_is) (by decide) (by first|(boot_by_name)|fail) ?_;k_whole))))
  k_with "call ref" => ((k_here;k_extra "m call"))
  k_with "ite" => ((k_here;k_dflt (first|refine ite_pos (by first|with_reducible exact rfl|with_reducible exact beq_self_eq_true _|with_reducible assumption) ?_|refine ite_neg (by with_reducible assumption) ?_)))
  k_with "m_enterT" => (((first|(refine' codeT (by k_asm) (by k_asm) (by k_asm) (by k_asm) (by k_asm) rfl rfl (by first|exact rfl|assumption|fail) (by assumption) (by assumption) (by assumption) (by first|assumption|exact KtsTurn.refl|fail) (by k_is) (by k_is) (by ktr_room) (by first|exact BindsTo.of_eq rfl|exact binds_K (by k_in) rfl (by k_is) rfl rfl rfl|fail) (by first|(exact locs rfl)|fail) ?_ (by first|exact rfl|fail) (by first|exact rfl|fail) (by first|exact rfl|fail) (by decide);k_whole;intro g' L' h' FG' F' N' B' X' T' D' dn';(try dsimp only);(try k_lift B');skip)|(refine' lamT (by k_asm) (by k_asm) (by k_asm) (by k_asm) (by k_asm) rfl rfl (by first|exact rfl|assumption|fail) (by assumption) (by assumption) (by assumption) (by first|assumption|exact KtsTurn.refl|fail) (by k_mem) (by first|(exact codeRec_news (by k_asm) (by k_mem) (by assumption) (by assumption))|fail) (by ktr_room) (by first|exact rfl|fail) (by first|(exact locs rfl)|fail) ?_ (by first|exact rfl|fail) (by first|exact rfl|fail) (by first|exact rfl|fail) (by decide);k_whole;intro g' L' h' FG' F' N' B' X' T' D' dn';(try dsimp only);(try k_lift B');skip)));(all_goals (first|(revert FG' F' N' B' X' T' D' dn';revert g' L' h';refine eps3 eH eN eH ?_;generalize q31 _ = g', q32 _ = L', q33 _ = h';refine hold3 ?_;intro FG' F' N' B' X' T' D' dn')|skip)))
  k_with "LeaveT" => ((((k_dflt (refine' leaveT (by k_asm) (by k_asm) (by first|assumption|exact KtsTurn.refl|fail) ?_;k_whole);intro h0' t0 b0 kF kN kx0 kt0 kd0;(try dsimp only))));(all_goals (first|(rename_i yy1 yy2 yy3 yy4;revert yy2 yy3 t0 b0 kF kN kx0 kt0 kd0;revert yy1 yy4 tk h0';refine eps4 eH eN eN eH ?_;generalize q41 _ = yy1, q42 _ = yy4, q43 _ = tk, q44 _ = h0';refine hold4 ?_;intro _ _ t0 b0 kF kN kx0 kt0 kd0)|(revert t0 b0 kF kN kx0 kt0 kd0;revert tk h0';refine eps2 eN eH ?_;generalize q21 _ = tk, q22 _ = h0';refine hold2 ?_;intro t0 b0 kF kN kx0 kt0 kd0)|skip)))
  k_with "exec While" => ((k_here;k_extra "m while"))
  k_with "compareOp Eq str str" => ((k_here;k_dflt (refine' m_seq (by first|with_reducible assumption|exact lat_nil_eq|exact lat_cons_ne _ _|decide|fail) ?_;k_whole)))
  k_with "compareOp NotEq str str" => ((k_here;k_dflt (refine' m_sne (by first|with_reducible assumption|exact lat_nil_eq|exact lat_cons_ne _ _|decide|fail) ?_;k_whole;simp only [Bool.not_true, Bool.not_false])))
  k_with "inplaceOp Add str str" => ((((k_here;k_dflt (refine' m_sadd (by first|omega|(simp only [List.length_cons, List.length_append, List.length_nil] at *;omega)|fail) ?_;k_whole;intro _ _))));(all_goals (first|(rename_i yy1 yy2 yy3 yy4 yy5 yy6;revert yy2 yy3;revert yy1 yy4 tk yy5 yy6;refine eps5 eH eN eN eN eN ?_;generalize q51 _ = yy1, q52 _ = yy4, q53 _ = tk, q54 _ = yy5, q55 _ = yy6;refine hold5 ?_;intro _ _)|skip)))
  k_with "subscriptTail Name UnaryOp str int" => ((k_here;(with_reducible show wpAny _ _ (subscriptTail _ _ (Value.str (lat (_ ++ [_])) _) (Value.int _ _)) _ _ _);k_dflt (refine' m_s_last (by first|omega|(simp only [List.length_cons, List.length_append, List.length_nil] at *;omega)|fail) ?_;k_whole)))
  intro hrow mean mg mb dp un gd cn cs a ccd cl outer A₀ base g₀ h₀ L m s rest Q E B F X N O D T XB TB Dd T0 hk hd hu hret hexc
  simp only [strm, chan, heldL, List.cons_append, List.nil_append] at N
  obtain ⟨q0, q1, q2, q3, q4, q5, q6, -⟩ := O
  obtain ⟨⟨d0_1, d0_2, d0_3, d0_4, d0_5, d0_6, -⟩, ⟨d1_2, d1_3, d1_4, d1_5, d1_6, -⟩, ⟨d2_3, d2_4, d2_5, d2_6, -⟩, ⟨d3_4, d3_5, d3_6, -⟩, ⟨d4_5, d4_6, -⟩, ⟨d5_6, -⟩, -, -⟩ := D
  (try dsimp only at q0 q1 q2 q3 q4 q5 q6 d0_1 d0_2 d0_3 d0_4 d0_5 d0_6 d1_2 d1_3 d1_4 d1_5 d1_6 d2_3 d2_4 d2_5 d2_6 d3_4 d3_5 d3_6 d4_5 d4_6 d5_6)
  k_with "m call" => ((((with_reducible show wpAny _ _ (call (Value.ref 792) _) _ _ _);k_dflt (refine' ctrT_use2 (by k_asm) (by k_asm) (by k_asm) (by k_asm) (by walk_at "pick") (by walk_at "offs") (by walk_at "dis") (by k_asm) (by k_asm) (by k_asm) (by k_asm) (by first|assumption|exact KtsTurn.refl) (by first|exact rfl|assumption) (by ktr_room) (by ktr_units) (signA w sx sd fR cS c1 ha h2 tv tr pm ctv oS o1 vs t1 hS hc1 hv1 fr hfr n t ab b _ tb u0 u1 nn n2 hvs oc) ?_;k_whole;refine And.intro ?_ ?_;(intro e9 t9 xs9 own9 h9 tk9 G9 g9 hp9 T9 B9 F9 X9 P9 D9 R9 U9;exact hp9.elim);(intro v9 own9 h9 tk9 g9 hp9 T9 B9 F9 N9 X9 P9 D9;obtain ⟨ts, e1, hp9⟩ := hp9;k_dflt (refine ex6 hp9 ?_);clear hp9;intro tb9 u09 u19 nn9 n29 hvs9 hp9;obtain ⟨oc9, e2⟩ := hp9;subst e1;subst e2;simp only [strm, chan, heldL, List.cons_append, List.nil_append] at N9;(rcases hD : (txt b fr).drop (n b) with _|⟨c, r⟩);all_goals (try simp only [List.take_nil, List.take_succ_cons, List.take_zero]);all_goals (try k_lift B9);(try dsimp only);skip))));(all_goals (first|(revert T9 B9 F9 X9 P9 D9 oc9 N9 hD;revert tk h9 tk9 g9 ts tb9 u09 u19 nn9 n29 hvs9 c r;refine eps8 eN eH eN eH eN eN eN eN ?_;generalize q81 _ = tk, q82 _ = h9, q83 _ = tk9, q84 _ = g9, q85 _ = ts, q86 _ = tb9, q87 _ = u09, q88 _ = u19;refine hold8 ?_;refine eps5 eN eN eLV eU eT ?_;generalize q51 _ = nn9, q52 _ = n29, q53 _ = hvs9, q54 _ = c, q55 _ = r;refine hold5 ?_;intro T9 B9 F9 X9 P9 D9 oc9 N9 hD)|(revert T9 B9 F9 X9 P9 D9 oc9 N9 hD;revert h9 tk9 g9 ts tb9 u09 u19 nn9 n29 hvs9 c r;refine eps8 eH eN eH eN eN eN eN eN ?_;generalize q81 _ = h9, q82 _ = tk9, q83 _ = g9, q84 _ = ts, q85 _ = tb9, q86 _ = u09, q87 _ = u19, q88 _ = nn9;refine hold8 ?_;refine eps4 eN eLV eU eT ?_;generalize q41 _ = n29, q42 _ = hvs9, q43 _ = c, q44 _ = r;refine hold4 ?_;intro T9 B9 F9 X9 P9 D9 oc9 N9 hD)|(revert T9 B9 F9 X9 P9 D9 oc9 N9;revert tk h9 tk9 g9 ts tb9 u09 u19 nn9 n29 hvs9;refine eps8 eN eH eN eH eN eN eN eN ?_;generalize q81 _ = tk, q82 _ = h9, q83 _ = tk9, q84 _ = g9, q85 _ = ts, q86 _ = tb9, q87 _ = u09, q88 _ = u19;refine hold8 ?_;refine eps3 eN eN eLV ?_;generalize q31 _ = nn9, q32 _ = n29, q33 _ = hvs9;refine hold3 ?_;intro T9 B9 F9 X9 P9 D9 oc9 N9)|(revert T9 B9 F9 X9 P9 D9 oc9 N9;revert h9 tk9 g9 ts tb9 u09 u19 nn9 n29 hvs9;refine eps8 eH eN eH eN eN eN eN eN ?_;generalize q81 _ = h9, q82 _ = tk9, q83 _ = g9, q84 _ = ts, q85 _ = tb9, q86 _ = u09, q87 _ = u19, q88 _ = nn9;refine hold8 ?_;refine eps2 eN eLV ?_;generalize q21 _ = n29, q22 _ = hvs9;refine hold2 ?_;intro T9 B9 F9 X9 P9 D9 oc9 N9)|skip)))
  k_with "m while" => ((((with_reducible rename Fr _ _ _ _ => Fw);(with_reducible rename News _ _ _ _ => Nw);(with_reducible rename Below _ _ _ _ => Bw);(with_reducible rename KtsDicts _ _ => Dw);(with_reducible rename Frag.In _ _ => Xw);(with_reducible rename Top _ _ _ _ _ _ => Tw);(with_reducible rename KtsTurn _ _ _ => Kw);(have Fw2 := fr_two (y0 := ("sign" : Str)) (sg := none) (m0 := mp [("channel", .int (kI b) tkc), ("held", .ref ha), ("stream", .ref sx)]) Fw (by k_dflt (exact rfl)));refine whl_start 0 ?_;refine whl_ledT (σ := Ln) (fun s => (txt b fr).length - s.n b) (LnI fr b Nf Tf) (fun s => fun y => if y = "line" then some (.str (lat (s.l ++ [s.c])) s.tl) else if y = "sign" then s.sg else mp [("channel", .int (kI b) tkc), ("held", .ref ha), ("stream", .ref sx)] y) (fun c => chan w.params sx sd fR cS c1 ha h2 (encF (mkA fr c.n c.t).fs) c.tb tv tr pm ctv oS o1 (lat (mkA fr c.n c.t).y0) (lat (mkA fr c.n c.t).y1) c.u0 c.u1 c.nn c.hvs c.n2 ++ rest) (Gd w.params mean mg mb _ base _ _) (by passes_own) ?_ ⟨nx fr n b, tx' fr n t b, tb9, u09, u19, nn9, n29, hvs9, [], c, ts, none⟩ _ _ _ (lni hD ab oc9 (Nat.zero_le _) ⟨hNf, hTf⟩) ⟨Kw, Bw, Xw, Tw, Dw⟩ Fw2 Nw;clear Fw Fw2 Nw hD ab oc oc9;rintro ⟨n, t, tb, u0, u1, nn, n2, hvs, l0, c0, tl, sg⟩ g9 h9 tk9 Rr ⟨ab, oc, hll, he10, hen⟩ ⟨T9, B9, X9, P9, D9⟩ F9 N9 hR;(dsimp only at ab oc hll he10 hen F9 N9 ⊢);simp only [strm, chan, heldL, List.cons_append, List.nil_append] at N9;(have hzl := lni_len ab b hfr);(have hs0 := lat_snoc_ne l0 c0);(by_cases h10 : c0 = 10);((obtain ⟨en1, en2⟩ := he10 h10);(subst h10);(have hs1 := lat_eq10));rotate_left;((obtain ⟨hNf, hTf⟩ := hen h10);(have hs1 := lat_ne10 h10));all_goals ((try k_lift B9);(try dsimp only);skip)));(all_goals (first|(rename_i yy1;revert ab oc hll he10 hen T9 B9 X9 P9 D9 F9 N9 hR hzl hs0 h10 hNf hTf hs1;revert yy1 tk n t tb u0 u1 nn n2 hvs l0 c0 tl sg g9 h9 tk9 Rr;refine eps8 eH eN eNs eN eN eN eN eN ?_;generalize q81 _ = yy1, q82 _ = tk, q83 _ = n, q84 _ = t, q85 _ = tb, q86 _ = u0, q87 _ = u1, q88 _ = nn;refine hold8 ?_;refine eps8 eN eLV eT eU eN eOv eH eH ?_;generalize q81 _ = n2, q82 _ = hvs, q83 _ = l0, q84 _ = c0, q85 _ = tl, q86 _ = sg, q87 _ = g9, q88 _ = h9;refine hold8 ?_;refine eps2 eN eP1 ?_;generalize q21 _ = tk9, q22 _ = Rr;refine hold2 ?_;intro ab oc hll he10 hen T9 B9 X9 P9 D9 F9 N9 hR hzl hs0 h10 hNf hTf hs1)|(rename_i yy1;revert ab oc hll T9 B9 X9 P9 D9 N9 hzl en1 en2 he10 hen F9 hR hs0;revert yy1 tk n t tb u0 u1 nn n2 hvs l0 tl sg g9 h9 tk9 Rr;refine eps8 eH eN eNs eN eN eN eN eN ?_;generalize q81 _ = yy1, q82 _ = tk, q83 _ = n, q84 _ = t, q85 _ = tb, q86 _ = u0, q87 _ = u1, q88 _ = nn;refine hold8 ?_;refine eps8 eN eLV eT eN eOv eH eH eN ?_;generalize q81 _ = n2, q82 _ = hvs, q83 _ = l0, q84 _ = tl, q85 _ = sg, q86 _ = g9, q87 _ = h9, q88 _ = tk9;refine hold8 ?_;refine eps1 eP1 ?_;generalize cex _ _ = Rr;refine hold1 ?_;intro ab oc hll T9 B9 X9 P9 D9 N9 hzl en1 en2 he10 hen F9 hR hs0)|skip)))
  revert hS hc1 hv1 hfr ab oc hNf hTf hk0 hk1 B F X N T XB TB Dd T0 hk hd hu hret hexc q0 q1 q2 q3 q4 q5 q6 d0_1 d0_2 d0_3 d0_4 d0_5 d0_6 d1_2 d1_3 d1_4 d1_5 d1_6 d2_3 d2_4 d2_5 d2_6 d3_4 d3_5 d3_6 d4_5 d4_6 d5_6; revert w sx sd fR cS c1 ha h2 tv tr pm ctv oS o1 vs t1 fr n t b tkc tb u0 u1 nn n2 hvs Nf Tf mean mg mb dp un gd cn cs a ccd cl outer A₀ base g₀ h₀ L m s rest Q E; refine eps8 eW eN eN eN eN eN eN eN ?_; generalize q81 _ = w, q82 _ = sx, q83 _ = sd, q84 _ = fR, q85 _ = cS, q86 _ = c1, q87 _ = ha, q88 _ = h2; refine hold8 ?_; refine eps8 eN eN eV eV eO eO eAV eN ?_; generalize q81 _ = tv, q82 _ = tr, q83 _ = pm, q84 _ = ctv, q85 _ = oS, q86 _ = o1, q87 _ = vs, q88 _ = t1; refine hold8 ?_; refine eps8 eLFm eNs eN eB eN eN eN eN ?_; generalize q81 _ = fr, q82 _ = n, q83 _ = t, q84 _ = b, q85 _ = tkc, q86 _ = tb, q87 _ = u0, q88 _ = u1; refine hold8 ?_; refine eps8 eN eN eLV eNs eN eEx eM eM ?_; generalize q81 _ = nn, q82 _ = n2, q83 _ = hvs, q84 _ = Nf, q85 _ = Tf, q86 _ = mean, q87 _ = mg, q88 _ = mb; refine hold8 ?_; refine eps8 eN eN eOC eS eSc eN eV eSA ?_; generalize q81 _ = dp, q82 _ = un, q83 _ = gd, q84 _ = cn, q85 _ = cs, q86 _ = a, q87 _ = ccd, q88 _ = cl; refine hold8 ?_; refine eps8 eEn eAr eH eH eH eN eM eSh ?_; generalize q81 _ = outer, q82 _ = A₀, q83 _ = base, q84 _ = g₀, q85 _ = h₀, q86 _ = L, q87 _ = m, q88 _ = s; refine hold8 ?_; refine eps3 eL eP2 eP2 ?_; generalize q31 _ = rest, q32 _ = Q, q33 _ = E; refine hold3 ?_; intro hS hc1 hv1 hfr ab oc hNf hTf hk0 hk1 B F X N T XB TB Dd T0 hk hd hu hret hexc q0 q1 q2 q3 q4 q5 q6 d0_1 d0_2 d0_3 d0_4 d0_5 d0_6 d1_2 d1_3 d1_4 d1_5 d1_6 d2_3 d2_4 d2_5 d2_6 d3_4 d3_5 d3_6 d4_5 d4_6 d5_6
  refine wpAny_call ?_
  k_dflt (walk_at "m_enterT")
  (with_reducible rename Fr _ _ _ _ => Fe9)
  replace Fe9 := fr_mp (l' := [("channel", .int (kI b) tkc), ("held", .ref ha), ("stream", .ref sx)]) Fe9 rfl
  repeat' (first | (k_unfold; (try dsimp only)) | walk1 | (dsimp only; walk1) | (dsimp only; with_reducible refine lpost_brk ?_; dsimp only))
  all_goals (try k_data)
  all_goals first
    | ((obtain ⟨a1, a2⟩ := line_nil (t := t) hD); rw [← hNf, ← hTf, a1, a2] at hret; exact hret _ _ _ _ _ ⟨⟨_, _, rfl⟩, tb9, u09, u19, nn9, n29, hvs9, oc9, rfl⟩ (by first | assumption | exact KtsTurn.refl) (by assumption) (by assumption) (by assumption) (by assumption) (by assumption) (by assumption))
    | (rw [← en1, ← en2] at hret; exact hret _ _ _ _ _ ⟨⟨_, _, rfl⟩, tb, u0, u1, nn, n2, hvs, oc, rfl⟩ (by first | assumption | exact KtsTurn.refl) (by assumption) (by assumption) (by assumption) (by assumption) (by assumption) (by assumption))
    | exact lpost_next (hR ⟨nx fr n b, tx' fr n t b, tb9, u09, u19, nn9, n29, hvs9, l0 ++ [c0], c, _, some (.str (lat [c]) ts)⟩ _ _ _ (lni_fall hD) (lni hD ab oc9 (by rw [List.length_append]; exact hll) ⟨hNf, hTf⟩) ⟨T9, B9, X9, P9, D9⟩ (fr_four (by assumption)) (by assumption))
    | exact lpost_next (hR ⟨nx fr n b, tx' fr n t b, tb9, u09, u19, nn9, n29, hvs9, l0 ++ [c0], c, _, some (.str (lat [c]) ts)⟩ _ _ _ (lni_fall hD) (lni hD ab oc9 (by rw [List.length_append]; exact hll) ⟨hNf, hTf⟩) ⟨T9, B9, X9, P9, D9⟩ (fr_four (by assumption)) (by assumption))
  k_with_none
end Mine
end
section
namespace Mine
theorem rdL (w : World) (sx sd fR cS c1 ha h2 : Addr) (tv tr : Tok) (pm ctv : Value) (oS o1 : Obj) (vs : Array Value) (t1 : Tok) (hS : oS.data = .cell (some (.ref sx))) (hc1 : o1.data = .fields vs) (hv1 : vs[1]? = some (.str "_law_stream.<locals>.<lambda>" t1)) (f1 k1 f2 k2 qc qh qs : Addr) (b : Bool) (tkc : Tok) (pm1 ct1 pm2 ct2 : Value) (ok1 ok2 oC oH oT : Obj) (vs1 vs2 : Array Value) (t2 t3 : Tok) (hk1 : ok1.data = .fields vs1) (hw1 : vs1[1]? = some (.str "_law_lexer.<locals>.<lambda>" t2)) (hk2 : ok2.data = .fields vs2) (hw2 : vs2[1]? = some (.str "_law_lexer.<locals>.<lambda>" t3)) (hC : oC.data = .cell (some (.int (kI b) tkc))) (hH : oH.data = .cell (some (.ref ha))) (hT : oT.data = .cell (some (.ref sx))) (fr : List Fm) (hfr : FrOk fr) (n : Ns2) (t : Nat) (ab : Abs fr n t) (tk : Tok) (tb u0 u1 : Tok) (nn n2 : Nat) (hvs : List Value) (oc : Octs hvs (mkA fr n t).oc) :
    CtrT w f1 [.int 1 tk] (chan w.params sx sd fR cS c1 ha h2 (encF (mkA fr n t).fs) tb tv tr pm ctv oS o1 (lat (mkA fr n t).y0) (lat (mkA fr n t).y1) u0 u1 nn hvs n2 ++ srcL f1 k1 f2 k2 qc qh qs pm1 ct1 pm2 ct2 ok1 ok2 oC oH oT) 14 140
      (fun v own2 => (∃ t9, v = .str (lat (((txt b fr).drop (n b)).take 1)) t9) ∧ ∃ o, own2 = o ++ srcL f1 k1 f2 k2 qc qh qs pm1 ct1 pm2 ct2 ok1 ok2 oC oH oT ∧ HasCh w.params sx sd fR cS c1 ha h2 tv tr pm ctv oS o1 (mkA fr (nx fr n b) (tx' fr n t b)) o) (fun _ _ => False) := by
  have hk0 := kI_lo b
  have hk1' := kI_hi b
  unfold CtrT
  k_fill
  k_with_none
  k_with "om" => (with_reducible first|assumption|exact rm1 (by assumption) rfl|exact rm2 (by assumption) rfl|exact rm3 (by assumption) rfl|exact rm0 (by assumption)|exact Nat.le_of_lt (by assumption)|exact Nat.le_add_right _ _|exact Nat.lt_succ_self _|exact Nat.le_of_not_lt (by assumption)|exact lt_i (by assumption)|exact nlt_i (by assumption)|exact le_big (by assumption) rfl)
  k_with "k_all" => (first|(first|assumption|exact off_lt (by walk_at "and_last")|exact off_le (by walk_at "and_last") (Nat.le_succ _)|exact off_le (by walk_at "and_last") (Nat.le_add_right _ _)|exact off_le' (by assumption) (Nat.le_refl _)|exact off_le' (by assumption) (Nat.le_succ _)|exact off_le' (by assumption) (Nat.le_add_right _ _)|exact off_le' (by assumption) (Nat.le_succ_of_le (Nat.le_succ _))|exact off_le' (by assumption) (Nat.le_succ_of_le (Nat.le_succ_of_le (Nat.le_succ _))))|fail)
  k_with "k_ne" => (first|(first|assumption|exact Ne.symm (by assumption))|fail)
  k_with "sel" => (first|exact Sel.head|(apply Sel.tail;walk_at "sel"))
  k_with "pick" => (first|exact Pick.nil|(apply Pick.cons;walk_at "sel";walk_at "pick"))
  k_with "off" => (first|with_reducible assumption|(with_reducible refine off_cons ?_ ?_;k_ne;walk_at "off")|k_all)
  k_with "offs" => (first|exact True.intro|(refine And.intro ?_ ?_;walk_at "off";walk_at "offs"))
  k_with "disa" => (first|exact True.intro|(refine And.intro ?_ ?_;k_ne;walk_at "disa"))
  k_with "dis" => (first|exact True.intro|(refine And.intro ?_ ?_;walk_at "disa";walk_at "dis"))
  k_with "eval Name" => ((k_here;k_dflt (first|(refine' m_local (by first|exact rfl|fail) (by first|exact rfl|fail) (by decide) (by k_asm) (by first|exact rfl|fail) ?_;k_whole)|(refine' m_free (by first|exact rfl|fail) (by first|exact rfl|fail) (by decide) (by decide) (by first|exact rfl|fail) (by k_asm) (by k_mem) (by k_asm) ?_;k_whole)|(refine' m_global (by first|exact rfl|fail) (by first|exact rfl|fail) (by decide) (by first|exact rfl|fail) (by k_asm) (by k_asm) (by k_asm) (by k_is) ?_;k_whole)|(refine' m_builtin (by first|exact rfl|fail) (by first|exact rfl|fail) (by decide) (by first|exact rfl|fail) (by first|exact rfl|fail) (by k_asm) (by k_asm) (by k_asm) (by k_is) (by decide) (by first|(boot_by_name)|fail) ?_;k_whole))))
  k_with "call ref" => ((k_here;k_extra "m call"))
  k_with "m_enterT" => (first|(refine' codeT (by k_asm) (by k_asm) (by k_asm) (by k_asm) (by k_asm) rfl rfl (by first|exact rfl|assumption|fail) (by assumption) (by assumption) (by assumption) (by first|assumption|exact KtsTurn.refl|fail) (by k_is) (by k_is) (by ktr_room) (by first|exact BindsTo.of_eq rfl|exact binds_K (by k_in) rfl (by k_is) rfl rfl rfl|fail) (by first|(exact locs rfl)|fail) ?_ (by first|exact rfl|fail) (by first|exact rfl|fail) (by first|exact rfl|fail) (by decide);k_whole;intro g' L' h' FG' F' N' B' X' T' D' dn';(try dsimp only);(try k_lift B');(try k_fold))|(refine' lamT (by k_asm) (by k_asm) (by k_asm) (by k_asm) (by k_asm) rfl rfl (by first|exact rfl|assumption|fail) (by assumption) (by assumption) (by assumption) (by first|assumption|exact KtsTurn.refl|fail) (by k_mem) (by first|(exact codeRec_news (by k_asm) (by k_mem) (by assumption) (by assumption))|fail) (by ktr_room) (by first|exact rfl|fail) (by first|(exact locs rfl)|fail) ?_ (by first|exact rfl|fail) (by first|exact rfl|fail) (by first|exact rfl|fail) (by decide);k_whole;intro g' L' h' FG' F' N' B' X' T' D' dn';(try dsimp only);(try k_lift B');(try k_fold)))
  k_with "LeaveT" => ((k_dflt (refine' leaveT (by k_asm) (by k_asm) (by first|assumption|exact KtsTurn.refl|fail) ?_;k_whole);intro h0' t0 b0 kF kN kx0 kt0 kd0;(try dsimp only)))
  intro hrow mean mg mb dp un gd cn cs a ccd cl outer A₀ base g₀ h₀ L m s rest Q E B F X N O D T XB TB Dd T0 hk hd hu hret hexc
  simp only [srcL, strm, chan, heldL, List.cons_append, List.nil_append] at N
  obtain ⟨q0, q1, q2, q3, q4, q5, q6, q7, q8, q9, q10, q11, q12, q13, -⟩ := O
  obtain ⟨⟨d0_1, d0_2, d0_3, d0_4, d0_5, d0_6, d0_7, d0_8, d0_9, d0_10, d0_11, d0_12, d0_13, -⟩, ⟨d1_2, d1_3, d1_4, d1_5, d1_6, d1_7, d1_8, d1_9, d1_10, d1_11, d1_12, d1_13, -⟩, ⟨d2_3, d2_4, d2_5, d2_6, d2_7, d2_8, d2_9, d2_10, d2_11, d2_12, d2_13, -⟩, ⟨d3_4, d3_5, d3_6, d3_7, d3_8, d3_9, d3_10, d3_11, d3_12, d3_13, -⟩, ⟨d4_5, d4_6, d4_7, d4_8, d4_9, d4_10, d4_11, d4_12, d4_13, -⟩, ⟨d5_6, d5_7, d5_8, d5_9, d5_10, d5_11, d5_12, d5_13, -⟩, ⟨d6_7, d6_8, d6_9, d6_10, d6_11, d6_12, d6_13, -⟩, ⟨d7_8, d7_9, d7_10, d7_11, d7_12, d7_13, -⟩, ⟨d8_9, d8_10, d8_11, d8_12, d8_13, -⟩, ⟨d9_10, d9_11, d9_12, d9_13, -⟩, ⟨d10_11, d10_12, d10_13, -⟩, ⟨d11_12, d11_13, -⟩, ⟨d12_13, -⟩, -, -⟩ := D
  (try dsimp only at q0 q1 q2 q3 q4 q5 q6 q7 q8 q9 q10 q11 q12 q13 d0_1 d0_2 d0_3 d0_4 d0_5 d0_6 d0_7 d0_8 d0_9 d0_10 d0_11 d0_12 d0_13 d1_2 d1_3 d1_4 d1_5 d1_6 d1_7 d1_8 d1_9 d1_10 d1_11 d1_12 d1_13 d2_3 d2_4 d2_5 d2_6 d2_7 d2_8 d2_9 d2_10 d2_11 d2_12 d2_13 d3_4 d3_5 d3_6 d3_7 d3_8 d3_9 d3_10 d3_11 d3_12 d3_13 d4_5 d4_6 d4_7 d4_8 d4_9 d4_10 d4_11 d4_12 d4_13 d5_6 d5_7 d5_8 d5_9 d5_10 d5_11 d5_12 d5_13 d6_7 d6_8 d6_9 d6_10 d6_11 d6_12 d6_13 d7_8 d7_9 d7_10 d7_11 d7_12 d7_13 d8_9 d8_10 d8_11 d8_12 d8_13 d9_10 d9_11 d9_12 d9_13 d10_11 d10_12 d10_13 d11_12 d11_13 d12_13)
  k_with "m call" => ((with_reducible show wpAny _ _ (call (Value.ref 792) _) _ _ _);k_dflt (refine' ctrT_use2 (by k_asm) (by k_asm) (by k_asm) (by k_asm) (by walk_at "pick") (by walk_at "offs") (by walk_at "dis") (by k_asm) (by k_asm) (by k_asm) (by k_asm) (by first|assumption|exact KtsTurn.refl) (by first|exact rfl|assumption) (by ktr_room) (by ktr_units) (signA w sx sd fR cS c1 ha h2 tv tr pm ctv oS o1 vs t1 hS hc1 hv1 fr hfr n t ab b _ tb u0 u1 nn n2 hvs oc) ?_;k_whole;refine And.intro ?_ ?_;(intro e9 t9 xs9 own9 h9 tk9 G9 g9 hp9 T9 B9 F9 X9 P9 D9 R9 U9;exact hp9.elim);(intro v9 own9 h9 tk9 g9 hp9 T9 B9 F9 N9 X9 P9 D9;obtain ⟨ts, e1, hp9⟩ := hp9;k_dflt (refine ex6 hp9 ?_);clear hp9;intro tb9 u09 u19 nn9 n29 hvs9 hp9;obtain ⟨oc9, e2⟩ := hp9;subst e1;subst e2;simp only [srcL, strm, chan, heldL, List.cons_append, List.nil_append] at N9;(try k_lift B9);(try dsimp only);(try k_fold))))
  refine wpAny_call ?_
  k_dflt (walk_at "m_enterT")
  repeat' (first | (k_unfold; (try dsimp only)) | walk1 | (dsimp only; walk1) | (dsimp only; with_reducible refine lpost_brk ?_; dsimp only))
  all_goals (try k_data)
  all_goals exact hret _ _ _ _ _ ⟨⟨_, rfl⟩, _, rfl, tb9, u09, u19, nn9, n29, hvs9, oc9, rfl⟩ (by first | assumption | exact KtsTurn.refl) (by assumption) (by assumption) (by assumption) (by assumption) (by assumption) (by assumption)
theorem rlL (w : World) (sx sd fR cS c1 ha h2 : Addr) (tv tr : Tok) (pm ctv : Value) (oS o1 : Obj) (vs : Array Value) (t1 : Tok) (hS : oS.data = .cell (some (.ref sx))) (hc1 : o1.data = .fields vs) (hv1 : vs[1]? = some (.str "_law_stream.<locals>.<lambda>" t1)) (f1 k1 f2 k2 qc qh qs : Addr) (b : Bool) (tkc : Tok) (pm1 ct1 pm2 ct2 : Value) (ok1 ok2 oC oH oT : Obj) (vs1 vs2 : Array Value) (t2 t3 : Tok) (hk1 : ok1.data = .fields vs1) (hw1 : vs1[1]? = some (.str "_law_lexer.<locals>.<lambda>" t2)) (hk2 : ok2.data = .fields vs2) (hw2 : vs2[1]? = some (.str "_law_lexer.<locals>.<lambda>" t3)) (hC : oC.data = .cell (some (.int (kI b) tkc))) (hH : oH.data = .cell (some (.ref ha))) (hT : oT.data = .cell (some (.ref sx))) (fr : List Fm) (hfr : FrOk fr) (n : Ns2) (t : Nat) (ab : Abs fr n t) (tb u0 u1 : Tok) (nn n2 : Nat) (hvs : List Value) (oc : Octs hvs (mkA fr n t).oc) :
    CtrT w f2 [] (chan w.params sx sd fR cS c1 ha h2 (encF (mkA fr n t).fs) tb tv tr pm ctv oS o1 (lat (mkA fr n t).y0) (lat (mkA fr n t).y1) u0 u1 nn hvs n2 ++ srcL f1 k1 f2 k2 qc qh qs pm1 ct1 pm2 ct2 ok1 ok2 oC oH oT) 18 220
      (fun v own2 => (∃ x t9, v = .str x t9) ∧ ∃ o, own2 = o ++ srcL f1 k1 f2 k2 qc qh qs pm1 ct1 pm2 ct2 ok1 ok2 oC oH oT ∧ HasCh w.params sx sd fR cS c1 ha h2 tv tr pm ctv oS o1 (mkA fr (goN fr n b (bl ((txt b fr).drop (n b)))) (goT fr n t b (bl ((txt b fr).drop (n b))))) o) (fun _ _ => False) := by
  have hk0 := kI_lo b
  have hk1' := kI_hi b
  unfold CtrT
  k_fill
  k_with_none
  k_with "om" => (with_reducible first|assumption|exact rm1 (by assumption) rfl|exact rm2 (by assumption) rfl|exact rm3 (by assumption) rfl|exact rm0 (by assumption)|exact Nat.le_of_lt (by assumption)|exact Nat.le_add_right _ _|exact Nat.lt_succ_self _|exact Nat.le_of_not_lt (by assumption)|exact lt_i (by assumption)|exact nlt_i (by assumption)|exact le_big (by assumption) rfl)
  k_with "k_all" => (first|(first|assumption|exact off_lt (by walk_at "and_last")|exact off_le (by walk_at "and_last") (Nat.le_succ _)|exact off_le (by walk_at "and_last") (Nat.le_add_right _ _)|exact off_le' (by assumption) (Nat.le_refl _)|exact off_le' (by assumption) (Nat.le_succ _)|exact off_le' (by assumption) (Nat.le_add_right _ _)|exact off_le' (by assumption) (Nat.le_succ_of_le (Nat.le_succ _))|exact off_le' (by assumption) (Nat.le_succ_of_le (Nat.le_succ_of_le (Nat.le_succ _))))|fail)
  k_with "k_ne" => (first|(first|assumption|exact Ne.symm (by assumption))|fail)
  k_with "sel" => (first|exact Sel.head|(apply Sel.tail;walk_at "sel"))
  k_with "pick" => (first|exact Pick.nil|(apply Pick.cons;walk_at "sel";walk_at "pick"))
  k_with "off" => (first|with_reducible assumption|(with_reducible refine off_cons ?_ ?_;k_ne;walk_at "off")|k_all)
  k_with "offs" => (first|exact True.intro|(refine And.intro ?_ ?_;walk_at "off";walk_at "offs"))
  k_with "disa" => (first|exact True.intro|(refine And.intro ?_ ?_;k_ne;walk_at "disa"))
  k_with "dis" => (first|exact True.intro|(refine And.intro ?_ ?_;walk_at "disa";walk_at "dis"))
  k_with "eval Name" => ((k_here;k_dflt (first|(refine' m_local (by first|exact rfl|fail) (by first|exact rfl|fail) (by decide) (by k_asm) (by first|exact rfl|fail) ?_;k_whole)|(refine' m_free (by first|exact rfl|fail) (by first|exact rfl|fail) (by decide) (by decide) (by first|exact rfl|fail) (by k_asm) (by k_mem) (by k_asm) ?_;k_whole)|(refine' m_global (by first|exact rfl|fail) (by first|exact rfl|fail) (by decide) (by first|exact rfl|fail) (by k_asm) (by k_asm) (by k_asm) (by k_is) ?_;k_whole)|(refine' m_builtin (by first|exact rfl|fail) (by first|exact rfl|fail) (by decide) (by first|exact rfl|fail) (by first|exact rfl|fail) (by k_asm) (by k_asm) (by k_asm) (by k_is) (by decide) (by first|(boot_by_name)|fail) ?_;k_whole))))
  k_with "call ref" => ((k_here;k_extra "m call"))
  k_with "m_enterT" => (first|(refine' codeT (by k_asm) (by k_asm) (by k_asm) (by k_asm) (by k_asm) rfl rfl (by first|exact rfl|assumption|fail) (by assumption) (by assumption) (by assumption) (by first|assumption|exact KtsTurn.refl|fail) (by k_is) (by k_is) (by ktr_room) (by first|exact BindsTo.of_eq rfl|exact binds_K (by k_in) rfl (by k_is) rfl rfl rfl|fail) (by first|(exact locs rfl)|fail) ?_ (by first|exact rfl|fail) (by first|exact rfl|fail) (by first|exact rfl|fail) (by decide);k_whole;intro g' L' h' FG' F' N' B' X' T' D' dn';(try dsimp only);(try k_lift B');(try k_fold))|(refine' lamT (by k_asm) (by k_asm) (by k_asm) (by k_asm) (by k_asm) rfl rfl (by first|exact rfl|assumption|fail) (by assumption) (by assumption) (by assumption) (by first|assumption|exact KtsTurn.refl|fail) (by k_mem) (by first|(exact codeRec_news (by k_asm) (by k_mem) (by assumption) (by assumption))|fail) (by ktr_room) (by first|exact rfl|fail) (by first|(exact locs rfl)|fail) ?_ (by first|exact rfl|fail) (by first|exact rfl|fail) (by first|exact rfl|fail) (by decide);k_whole;intro g' L' h' FG' F' N' B' X' T' D' dn';(try dsimp only);(try k_lift B');(try k_fold)))
  k_with "LeaveT" => ((k_dflt (refine' leaveT (by k_asm) (by k_asm) (by first|assumption|exact KtsTurn.refl|fail) ?_;k_whole);intro h0' t0 b0 kF kN kx0 kt0 kd0;(try dsimp only)))
  intro hrow mean mg mb dp un gd cn cs a ccd cl outer A₀ base g₀ h₀ L m s rest Q E B F X N O D T XB TB Dd T0 hk hd hu hret hexc
  simp only [srcL, strm, chan, heldL, List.cons_append, List.nil_append] at N
  obtain ⟨q0, q1, q2, q3, q4, q5, q6, q7, q8, q9, q10, q11, q12, q13, -⟩ := O
  obtain ⟨⟨d0_1, d0_2, d0_3, d0_4, d0_5, d0_6, d0_7, d0_8, d0_9, d0_10, d0_11, d0_12, d0_13, -⟩, ⟨d1_2, d1_3, d1_4, d1_5, d1_6, d1_7, d1_8, d1_9, d1_10, d1_11, d1_12, d1_13, -⟩, ⟨d2_3, d2_4, d2_5, d2_6, d2_7, d2_8, d2_9, d2_10, d2_11, d2_12, d2_13, -⟩, ⟨d3_4, d3_5, d3_6, d3_7, d3_8, d3_9, d3_10, d3_11, d3_12, d3_13, -⟩, ⟨d4_5, d4_6, d4_7, d4_8, d4_9, d4_10, d4_11, d4_12, d4_13, -⟩, ⟨d5_6, d5_7, d5_8, d5_9, d5_10, d5_11, d5_12, d5_13, -⟩, ⟨d6_7, d6_8, d6_9, d6_10, d6_11, d6_12, d6_13, -⟩, ⟨d7_8, d7_9, d7_10, d7_11, d7_12, d7_13, -⟩, ⟨d8_9, d8_10, d8_11, d8_12, d8_13, -⟩, ⟨d9_10, d9_11, d9_12, d9_13, -⟩, ⟨d10_11, d10_12, d10_13, -⟩, ⟨d11_12, d11_13, -⟩, ⟨d12_13, -⟩, -, -⟩ := D
  (try dsimp only at q0 q1 q2 q3 q4 q5 q6 q7 q8 q9 q10 q11 q12 q13 d0_1 d0_2 d0_3 d0_4 d0_5 d0_6 d0_7 d0_8 d0_9 d0_10 d0_11 d0_12 d0_13 d1_2 d1_3 d1_4 d1_5 d1_6 d1_7 d1_8 d1_9 d1_10 d1_11 d1_12 d1_13 d2_3 d2_4 d2_5 d2_6 d2_7 d2_8 d2_9 d2_10 d2_11 d2_12 d2_13 d3_4 d3_5 d3_6 d3_7 d3_8 d3_9 d3_10 d3_11 d3_12 d3_13 d4_5 d4_6 d4_7 d4_8 d4_9 d4_10 d4_11 d4_12 d4_13 d5_6 d5_7 d5_8 d5_9 d5_10 d5_11 d5_12 d5_13 d6_7 d6_8 d6_9 d6_10 d6_11 d6_12 d6_13 d7_8 d7_9 d7_10 d7_11 d7_12 d7_13 d8_9 d8_10 d8_11 d8_12 d8_13 d9_10 d9_11 d9_12 d9_13 d10_11 d10_12 d10_13 d11_12 d11_13 d12_13)
  k_with "m call" => ((with_reducible show wpAny _ _ (call (Value.ref 799) _) _ _ _);k_dflt (refine' ctrT_use2 (by k_asm) (by k_asm) (by k_asm) (by k_asm) (by walk_at "pick") (by walk_at "offs") (by walk_at "dis") (by k_asm) (by k_asm) (by k_asm) (by k_asm) (by first|assumption|exact KtsTurn.refl) (by first|exact rfl|assumption) (by ktr_room) (by ktr_units) (line w sx sd fR cS c1 ha h2 tv tr pm ctv oS o1 vs t1 hS hc1 hv1 fr hfr n t ab b _ tb u0 u1 nn n2 hvs oc) ?_;k_whole;refine And.intro ?_ ?_;(intro e9 t9 xs9 own9 h9 tk9 G9 g9 hp9 T9 B9 F9 X9 P9 D9 R9 U9;exact hp9.elim);(intro v9 own9 h9 tk9 g9 hp9 T9 B9 F9 N9 X9 P9 D9;obtain ⟨⟨xs9, ts, e1⟩, tb9, u09, u19, nn9, n29, hvs9, oc9, e2⟩ := hp9;subst e1;subst e2;simp only [srcL, strm, chan, heldL, List.cons_append, List.nil_append] at N9;(try k_lift B9);(try dsimp only);(try k_fold))))
  refine wpAny_call ?_
  k_dflt (walk_at "m_enterT")
  repeat' (first | (k_unfold; (try dsimp only)) | walk1 | (dsimp only; walk1) | (dsimp only; with_reducible refine lpost_brk ?_; dsimp only))
  all_goals (try k_data)
  all_goals exact hret _ _ _ _ _ ⟨⟨_, _, rfl⟩, _, rfl, tb9, u09, u19, nn9, n29, hvs9, oc9, rfl⟩ (by first | assumption | exact KtsTurn.refl) (by assumption) (by assumption) (by assumption) (by assumption) (by assumption) (by assumption)
  k_with_none
end Mine
end
section
namespace Mine
def SelfOk (P : Params) (name : Str) : Prop := PySem.Challenge.rw_in0150_01 = PySem.Challenge.rw_in0150_01 → plainGet (K P) 757 name = true ∧ hasDictIn (K P) 757 = true ∧ ∃ attr, findIn (K P) (.ref 757) name = some attr ∧ noGet (K P) attr = true
theorem self_instream (P : Params) : SelfOk P "instream" := by
  unfold SelfOk
  k_fill
  intro _
  exact ⟨by k_is, by k_is, none, by k_is, by k_is⟩
theorem self_posix (P : Params) : SelfOk P "posix" := by
  unfold SelfOk
  k_fill
  intro _
  exact ⟨by k_is, by k_is, none, by k_is, by k_is⟩
theorem self_eof (P : Params) : SelfOk P "eof" := by
  unfold SelfOk
  k_fill
  intro _
  exact ⟨by k_is, by k_is, none, by k_is, by k_is⟩
theorem self_commenters (P : Params) : SelfOk P "commenters" := by
  unfold SelfOk
  k_fill
  intro _
  exact ⟨by k_is, by k_is, none, by k_is, by k_is⟩
theorem self_wordchars (P : Params) : SelfOk P "wordchars" := by
  unfold SelfOk
  k_fill
  intro _
  exact ⟨by k_is, by k_is, none, by k_is, by k_is⟩
theorem self_whitespace (P : Params) : SelfOk P "whitespace" := by
  unfold SelfOk
  k_fill
  intro _
  exact ⟨by k_is, by k_is, none, by k_is, by k_is⟩
theorem self_whitespace_split (P : Params) : SelfOk P "whitespace_split" := by
  unfold SelfOk
  k_fill
  intro _
  exact ⟨by k_is, by k_is, none, by k_is, by k_is⟩
theorem self_quotes (P : Params) : SelfOk P "quotes" := by
  unfold SelfOk
  k_fill
  intro _
  exact ⟨by k_is, by k_is, none, by k_is, by k_is⟩
theorem self_escape (P : Params) : SelfOk P "escape" := by
  unfold SelfOk
  k_fill
  intro _
  exact ⟨by k_is, by k_is, none, by k_is, by k_is⟩
theorem self_escapedquotes (P : Params) : SelfOk P "escapedquotes" := by
  unfold SelfOk
  k_fill
  intro _
  exact ⟨by k_is, by k_is, none, by k_is, by k_is⟩
theorem self_state (P : Params) : SelfOk P "state" := by
  unfold SelfOk
  k_fill
  intro _
  exact ⟨by k_is, by k_is, none, by k_is, by k_is⟩
theorem self_pushback (P : Params) : SelfOk P "pushback" := by
  unfold SelfOk
  k_fill
  intro _
  exact ⟨by k_is, by k_is, none, by k_is, by k_is⟩
theorem self_lineno (P : Params) : SelfOk P "lineno" := by
  unfold SelfOk
  k_fill
  intro _
  exact ⟨by k_is, by k_is, none, by k_is, by k_is⟩
theorem self_debug (P : Params) : SelfOk P "debug" := by
  unfold SelfOk
  k_fill
  intro _
  exact ⟨by k_is, by k_is, none, by k_is, by k_is⟩
theorem self_token (P : Params) : SelfOk P "token" := by
  unfold SelfOk
  k_fill
  intro _
  exact ⟨by k_is, by k_is, none, by k_is, by k_is⟩
theorem self_filestack (P : Params) : SelfOk P "filestack" := by
  unfold SelfOk
  k_fill
  intro _
  exact ⟨by k_is, by k_is, none, by k_is, by k_is⟩
theorem self_source (P : Params) : SelfOk P "source" := by
  unfold SelfOk
  k_fill
  intro _
  exact ⟨by k_is, by k_is, none, by k_is, by k_is⟩
theorem self__punctuation_chars (P : Params) : SelfOk P "_punctuation_chars" := by
  unfold SelfOk
  k_fill
  intro _
  exact ⟨by k_is, by k_is, none, by k_is, by k_is⟩
theorem m_self {w : World} {prog : Program} {A : Around} {E : Value → Shared → Prop} {env : Env} {x y : Str} {xp pos : Pos} {m : Str → Option Value} {h₀ : Heap} {lx ld : Addr} {es : List DictEntry} {n : Nat} {news : Led} {v : Value} {s : Shared} {Q : Value → Shared → Prop}
    (ok : SelfOk w.params y) (hl : env.kindOf x = some .local) (hk : env.scope.kind = .function) (hd : (x == ("__debug__" : Str)) = false) (F : Fr h₀ env.locals s.heap m) (X : (K w.params).In h₀) (N : News h₀ env.locals s.heap news) (hv : m x = some (.ref lx))
    (h1 : (lx, instObj 757 ld) ∈ news) (h2 : (ld, dictOf es n) ∈ news) (hg : getL y es = some (some v)) (hh : handedIn v = true) (h : Q v { s with toks := s.toks + 1 }) : wpAny (model prog w) A (eval (.Attribute (.Name x xp) y pos) env) Q E s := by
  obtain ⟨a, b, attr, c, d⟩ := ok rfl
  exact Attribute_Name_ (m_local hl hk hd F hv (get_own F X (InstAt.of_news N h1 h2) a b c d hg hh h))
end Mine
end
section
namespace Mine
theorem handed_st (st : St) (t : Tok) : handedIn (stV st t) = true := by cases st <;> rfl
theorem ePb : Nonempty (Bool → Shared → Prop) := ⟨(fun _ _ => True : Bool → Shared → Prop)⟩
theorem eOut : Nonempty (Out) := ⟨(⟨.none, .sp, 0⟩ : Out)⟩
theorem eSt : Nonempty (St) := ⟨(.sp : St)⟩
theorem rtok (w : World) (sx sd fR cS c1 ha h2 : Addr) (tv tr : Tok) (pm ctv : Value) (oS o1 : Obj) (vs : Array Value) (t1 : Tok) (hS : oS.data = .cell (some (.ref sx))) (hc1 : o1.data = .fields vs) (hv1 : vs[1]? = some (.str "_law_stream.<locals>.<lambda>" t1)) (f1 k1 f2 k2 qc qh qs : Addr) (b : Bool) (tkc : Tok) (pm1 ct1 pm2 ct2 : Value) (ok1 ok2 oC oH oT : Obj) (vs1 vs2 : Array Value) (t2 t3 : Tok) (hk1 : ok1.data = .fields vs1) (hw1 : vs1[1]? = some (.str "_law_lexer.<locals>.<lambda>" t2)) (hk2 : ok2.data = .fields vs2) (hw2 : vs2[1]? = some (.str "_law_lexer.<locals>.<lambda>" t3)) (hC : oC.data = .cell (some (.int (kI b) tkc))) (hH : oH.data = .cell (some (.ref ha))) (hT : oT.data = .cell (some (.ref sx))) (lx ld src srd pb fs : Addr) (s1 s2 s3 : Tok) (kt vt : List Tok) (fr : List Fm) (hfr : FrOk fr) (n : Ns2) (t : Nat) (ab : Abs fr n t) (st : St) (sT : Tok) (tok : List UInt8) (tT : Tok) (ln : Int) (lT : Tok) (rs : Rest fr b n st tok) (tb u0 u1 : Tok) (nn n2 : Nat) (hvs : List Value) (oc : Octs hvs (mkA fr n t).oc) :
    CtrT w 725 [.ref lx] (chan w.params sx sd fR cS c1 ha h2 (encF (mkA fr n t).fs) tb tv tr pm ctv oS o1 (lat (mkA fr n t).y0) (lat (mkA fr n t).y1) u0 u1 nn hvs n2 ++ srcL f1 k1 f2 k2 qc qh qs pm1 ct1 pm2 ct2 ok1 ok2 oC oH oT ++ lexL w.params lx ld src srd pb fs f1 f2 b tkc s1 s2 s3 kt vt (stV st sT) tok tT ln lT) 26 320
      (fun v own2 => resV (rt st false tok ((txt b fr).drop (n b))).res v ∧ ∃ o sT' tT' ln' lT', own2 = o ++ srcL f1 k1 f2 k2 qc qh qs pm1 ct1 pm2 ct2 ok1 ok2 oC oH oT ++ lexL w.params lx ld src srd pb fs f1 f2 b tkc s1 s2 s3 kt vt (stV (rt st false tok ((txt b fr).drop (n b))).st sT') [] tT' ln' lT' ∧ HasCh w.params sx sd fR cS c1 ha h2 tv tr pm ctv oS o1 (mkA fr (goN fr n b (rt st false tok ((txt b fr).drop (n b))).k) (goT fr n t b (rt st false tok ((txt b fr).drop (n b))).k)) o)
      (fun xs own2 => errX (rt st false tok ((txt b fr).drop (n b))).res xs ∧ ∃ o sT' tok' tT' ln' lT', own2 = o ++ srcL f1 k1 f2 k2 qc qh qs pm1 ct1 pm2 ct2 ok1 ok2 oC oH oT ++ lexL w.params lx ld src srd pb fs f1 f2 b tkc s1 s2 s3 kt vt (stV (rt st false tok ((txt b fr).drop (n b))).st sT') tok' tT' ln' lT' ∧ tok'.length ≤ 2 * goN fr n b (rt st false tok ((txt b fr).drop (n b))).k b ∧ HasCh w.params sx sd fR cS c1 ha h2 tv tr pm ctv oS o1 (mkA fr (goN fr n b (rt st false tok ((txt b fr).drop (n b))).k) (goT fr n t b (rt st false tok ((txt b fr).drop (n b))).k)) o) := by
  have hI0 := fun es eT => rti0 rs ab oc (tb := tb) (u0 := u0) (u1 := u1) (sT := sT) (tT := tT) (lT := lT) (eT := eT) (nn := nn) (n2 := n2) (ln := ln) (es := es) (nc := none)
  obtain ⟨O, hO⟩ : ∃ x, (rt st false tok ((txt b fr).drop (n b))) = x := ⟨_, rfl⟩
  rw [hO] at hI0
  obtain ⟨Nf, hNf⟩ : ∃ x, goN fr n b O.k = x := ⟨_, rfl⟩
  obtain ⟨Tf, hTf⟩ : ∃ x, goT fr n t b O.k = x := ⟨_, rfl⟩
  rw [hNf, hTf] at hI0
  rw [hO, hNf, hTf]
  clear hO hNf hTf
  unfold CtrT
  k_fill
  k_with_none
  k_with "k_all" => (first|(first|assumption|exact off_lt (by walk_at "and_last")|exact off_le (by walk_at "and_last") (Nat.le_succ _)|exact off_le (by walk_at "and_last") (Nat.le_add_right _ _)|exact off_le' (by assumption) (Nat.le_refl _)|exact off_le' (by assumption) (Nat.le_succ _)|exact off_le' (by assumption) (Nat.le_add_right _ _)|exact off_le' (by assumption) (Nat.le_succ_of_le (Nat.le_succ _))|exact off_le' (by assumption) (Nat.le_succ_of_le (Nat.le_succ_of_le (Nat.le_succ _))))|fail)
  k_with "k_ne" => (first|(first|assumption|exact Ne.symm (by assumption))|fail)
  k_with "k_upd" => (first|((refine' upd_ap ?ap9 ?ae9 ?st9 ?sk9;(case ap9 => assumption);(case ae9 => exact rfl);(case st9 => walk_at "setn");(case sk9 => first|decide|omega)))|fail)
  k_with "k_handed" => (first|(exact handed_st _ _)|fail)
  k_with "rq" => ((try dsimp only);rw [hD, rt.eq_def];(try dsimp only);(repeat (first|(refine (if_pos ?_).trans ?_;(first|with_reducible assumption|exact beq_iff_eq.mpr (by with_reducible assumption)|decide))|(refine (if_neg ?_).trans ?_;(first|with_reducible assumption|exact ne_true_of_eq_false (by with_reducible assumption)|exact (fun h => absurd (beq_iff_eq.mp h) (by with_reducible assumption))|exact w_nq (by with_reducible assumption)|decide))));(try rfl);(try (rw [Nat.add_comm 1 (bl r)];rfl)))
  k_with "m_enter" => (((first|(refine' code_def (by k_asm) (by k_asm) (by k_asm) (by k_asm) (by k_asm) rfl rfl (by first|exact rfl|assumption|fail) (by k_is) (by k_is) (by ktr_room) (by first|exact BindsTo.of_eq rfl|exact binds_K (by k_in) rfl (by k_is) rfl rfl rfl|fail) (by first|(exact locs rfl)|fail) ?_ (by first|exact rfl|fail) (by first|exact rfl|fail) (by first|exact rfl|fail) (by decide);k_whole;intro g' L' h' FG' F' N' B' X' T';(try dsimp only);(try k_lift B');skip)|(refine' code_defC (by k_asm) (by k_asm) (by k_asm) (by k_asm) (by k_asm) rfl rfl (by first|exact rfl|assumption|fail) (by k_is) (by k_is) (by ktr_room) (by first|exact BindsTo.of_eq rfl|exact binds_K (by k_in) rfl (by k_is) rfl rfl rfl|fail) (by first|exact rfl|fail) (by first|(decide +kernel)|fail) ?_ (by first|exact rfl|fail) (by first|exact rfl|fail) (by first|exact rfl|fail);k_whole;intro g' L' h' tk' cells' FG' F' N' Y' B' X' T' l1;(try k_lt l1);k_cells Y';(try simp only [List.cons_append, List.nil_append] at N');(try dsimp only);(try k_lift B');skip)));(all_goals (first|(revert FG' F' N' B' X' T';revert g' L' h';refine eps3 eH eN eH ?_;generalize q31 _ = g', q32 _ = L', q33 _ = h';refine hold3 ?_;intro FG' F' N' B' X' T')|skip)))
  k_with "callWith ref" => ((k_here;k_dflt (first|(refine' callWith_F (by first|(exact FnAt.of (by k_asm) (by k_mem))|fail) ?_;k_whole)|(refine' callWith_F0 (by first|(exact FnAt.of (by k_asm) (by k_mem))|fail) ?_;k_whole;try dsimp only [List.nil_append, List.cons_append]))))
  k_with "eval Name" => ((k_here;k_dflt (first|(refine' m_local (by first|exact rfl|fail) (by first|exact rfl|fail) (by decide) (by k_asm) (by first|exact rfl|fail) ?_;k_whole)|(refine' m_free (by first|exact rfl|fail) (by first|exact rfl|fail) (by decide) (by decide) (by first|exact rfl|fail) (by k_asm) (by k_mem) (by k_asm) ?_;k_whole)|(refine' m_global (by first|exact rfl|fail) (by first|exact rfl|fail) (by decide) (by first|exact rfl|fail) (by k_asm) (by k_asm) (by k_asm) (by k_is) ?_;k_whole)|(refine' m_builtin (by first|exact rfl|fail) (by first|exact rfl|fail) (by decide) (by first|exact rfl|fail) (by first|exact rfl|fail) (by k_asm) (by k_asm) (by k_asm) (by k_is) (by decide) (by first|(boot_by_name)|fail) ?_;k_whole))))
  k_with "call ref" => ((k_here;k_extra "m call"))
  k_with "getMethod ref" => ((k_here;k_dflt (refine' kmu_own (by k_asm) (by k_asm) (by k_inst) (by k_is) (by k_is) ?_;k_whole)))
  k_with "m_enterT" => (((first|(refine' codeT (by k_asm) (by k_asm) (by k_asm) (by k_asm) (by k_asm) rfl rfl (by first|exact rfl|assumption|fail) (by assumption) (by assumption) (by assumption) (by first|assumption|exact KtsTurn.refl|fail) (by k_is) (by k_is) (by ktr_room) (by first|exact BindsTo.of_eq rfl|exact binds_K (by k_in) rfl (by k_is) rfl rfl rfl|fail) (by first|(exact locs rfl)|fail) ?_ (by first|exact rfl|fail) (by first|exact rfl|fail) (by first|exact rfl|fail) (by decide);k_whole;intro g' L' h' FG' F' N' B' X' T' D' dn';(try dsimp only);(try k_lift B');skip)|(refine' lamT (by k_asm) (by k_asm) (by k_asm) (by k_asm) (by k_asm) rfl rfl (by first|exact rfl|assumption|fail) (by assumption) (by assumption) (by assumption) (by first|assumption|exact KtsTurn.refl|fail) (by k_mem) (by first|(exact codeRec_news (by k_asm) (by k_mem) (by assumption) (by assumption))|fail) (by ktr_room) (by first|exact rfl|fail) (by first|(exact locs rfl)|fail) ?_ (by first|exact rfl|fail) (by first|exact rfl|fail) (by first|exact rfl|fail) (by decide);k_whole;intro g' L' h' FG' F' N' B' X' T' D' dn';(try dsimp only);(try k_lift B');skip)));(all_goals (first|(revert FG' F' N' B' X' T' D' dn';revert g' L' h';refine eps3 eH eN eH ?_;generalize q31 _ = g', q32 _ = L', q33 _ = h';refine hold3 ?_;intro FG' F' N' B' X' T' D' dn')|skip)))
  k_with "LeaveT" => ((((k_dflt (refine' leaveT (by k_asm) (by k_asm) (by first|assumption|exact KtsTurn.refl|fail) ?_;k_whole);intro h0' t0 b0 kF kN kx0 kt0 kd0;(try dsimp only))));(all_goals (first|(rename_i yy1 yy2 yy3 yy4 yy5;revert yy4 yy5 t0 b0 kF kN kx0 kt0 kd0;revert yy1 yy2 yy3 tk h0';refine eps5 eH eH eH eN eH ?_;generalize q51 _ = yy1, q52 _ = yy2, q53 _ = yy3, q54 _ = tk, q55 _ = h0';refine hold5 ?_;intro _ _ t0 b0 kF kN kx0 kt0 kd0)|(rename_i yy1 yy2 yy3 yy4 yy5;revert yy3 yy4 t0 b0 kF kN kx0 kt0 kd0;revert yy1 yy2 yy5 tk h0';refine eps5 eH eH eN eN eH ?_;generalize q51 _ = yy1, q52 _ = yy2, q53 _ = yy5, q54 _ = tk, q55 _ = h0';refine hold5 ?_;intro _ _ t0 b0 kF kN kx0 kt0 kd0)|skip)))
  k_with "exec While" => ((k_here;k_extra "m while"))
  k_with "inplaceOp Add str str" => ((((k_here;(with_reducible show wpAny _ _ (inplaceOp _ (Value.str (lat _) _) (Value.str (lat _) _)) _ _ _);k_dflt (refine' m_sadd (by first|omega|(simp only [List.length_cons, List.length_append, List.length_nil] at *;omega)|fail) ?_;k_whole;intro _ _))));(all_goals (first|(rename_i yy1 yy2 yy3 yy4 yy5 yy6 yy7 yy8 yy9 yy10;revert Nst yy7;revert yy1 yy2 yy3 yy4 yy8 tk yy9 yy10;refine eps8 eH eN eN eN eN eN eN eN ?_;generalize q81 _ = yy1, q82 _ = yy2, q83 _ = yy3, q84 _ = yy4, q85 _ = yy8, q86 _ = tk, q87 _ = yy9, q88 _ = yy10;refine hold8 ?_;intro Nst _)|(rename_i yy1 yy2 yy3 yy4 yy5 yy6 yy7 yy8 yy9;revert Nst yy7;revert yy1 yy2 yy3 yy4 tk yy8 yy9;refine eps7 eH eN eH eN eN eN eN ?_;generalize q71 _ = yy1, q72 _ = yy2, q73 _ = yy3, q74 _ = yy4, q75 _ = tk, q76 _ = yy8, q77 _ = yy9;refine hold7 ?_;intro Nst _)|(rename_i yy1 yy2 yy3 yy4 yy5 yy6;revert yy2 yy3;revert yy1 tk yy5 yy6;refine eps4 eH eN eN eN ?_;generalize q41 _ = yy1, q42 _ = tk, q43 _ = yy5, q44 _ = yy6;refine hold4 ?_;intro _ _)|(rename_i yy1 yy2 yy3 yy4 yy5;revert yy2 yy3;revert yy1 tk yy4 yy5;refine eps4 eH eN eN eN ?_;generalize q41 _ = yy1, q42 _ = tk, q43 _ = yy4, q44 _ = yy5;refine hold4 ?_;intro _ _)|(rename_i yy1 yy2 yy3 yy4 yy5;revert yy2 yy3;revert yy1 yy4 yy5;refine eps3 eH eN eN ?_;generalize q31 _ = yy1, q32 _ = yy4, q33 _ = yy5;refine hold3 ?_;intro _ _)|(rename_i yy1 yy2 yy3;revert yy1 tk yy2 yy3;refine eps4 eN eN eN eN ?_;generalize q41 _ = yy1, q42 _ = tk, q43 _ = yy2, q44 _ = yy3;refine hold4 ?_)|(rename_i yy1 yy2;revert tk yy1 yy2;refine eps3 eN eN eN ?_;generalize q31 _ = tk, q32 _ = yy1, q33 _ = yy2;refine hold3 ?_)|(rename_i yy1 yy2;revert yy1 yy2;refine eps2 eN eN ?_;generalize q21 _ = yy1, q22 _ = yy2;refine hold2 ?_)|skip)))
  k_with "seln" => (first|exact SelN.head|(apply SelN.tail;walk_at "seln"))
  k_with "pickn" => (first|exact PickN.nil|(apply PickN.cons;walk_at "seln";decide;walk_at "pickn"))
  k_with "setn" => (first|exact SetN.head|(apply SetN.tail;walk_at "setn"))
  k_with "getAttr ref" => ((k_here;(fail_if_success (with_reducible show wpAny _ _ (getAttr _ (PySem.Str.ofString "punctuation_chars") _) _ _ _));k_dflt (refine' get_own (by k_asm) (by k_asm) (by k_inst) (by k_is) (by k_is) (by k_is) (by k_is) (by k_get) (by k_handed) ?_;k_whole)))
  k_with "exec If" => ((k_here;refine wpAny_If ?_))
  k_with "execs cons" => (((with_reducible refine wpAny_execs_cons ?_);try dsimp only))
  k_with "ite" => ((k_here;k_dflt (first|refine ite_pos (by with_reducible exact rfl) ?_|(with_reducible refine ite_neg Bool.false_ne_true ?_)|(k_closed;first|refine ite_pos (by decide) ?_|refine ite_neg (by decide) ?_)|refine ite_pos (by with_reducible assumption) ?_|refine ite_neg (by with_reducible assumption) ?_|(refine split_dec ?_ ?_ <;> intro hi9))))
  k_with "compareOp Eq str str" => ((k_here;k_dflt (refine' m_seq (by first|with_reducible assumption|with_reducible exact lat_nil_eq|with_reducible exact lat_cons_ne _ _|with_reducible exact lat_one _ _|with_reducible exact rfl|fail) ?_;k_whole)))
  k_with "compareOp NotEq str str" => ((k_here;k_dflt (refine' m_sne (by first|with_reducible assumption|with_reducible exact lat_nil_eq|with_reducible exact lat_cons_ne _ _|with_reducible exact lat_one _ _|with_reducible exact rfl|fail) ?_;k_whole;(try simp only [Bool.not_true, Bool.not_false]))))
  k_with "compareOp In str str" => ((k_here;k_dflt (refine' m_sin (by first|with_reducible assumption|with_reducible exact f_ws|with_reducible exact f_cm|with_reducible exact f_es|with_reducible exact f_qs|with_reducible exact f_pu|with_reducible exact f_dq|with_reducible exact f_a1|with_reducible exact f_a2|with_reducible exact rfl|fail) ?_;k_whole)))
  k_with "compareOp NotIn str str" => ((k_here;k_dflt (refine' m_snin (by first|with_reducible assumption|with_reducible exact f_pu|with_reducible exact rfl|fail) ?_;k_whole;(try simp only [Bool.not_true, Bool.not_false]))))
  k_with "eval Attribute Name" => ((k_here;k_dflt (refine' m_self (by first|with_reducible exact self_state _|with_reducible exact self_token _|with_reducible exact self_debug _|with_reducible exact self_whitespace _|with_reducible exact self_commenters _|with_reducible exact self_posix _|with_reducible exact self_escape _|with_reducible exact self_quotes _|with_reducible exact self_wordchars _|with_reducible exact self_whitespace_split _|with_reducible exact self_escapedquotes _|with_reducible exact self_instream _|with_reducible exact self_lineno _|with_reducible exact self__punctuation_chars _|with_reducible exact self_pushback _|with_reducible exact self_filestack _|with_reducible exact self_source _|with_reducible exact self_eof _|fail) (by first|exact rfl|fail) (by first|exact rfl|fail) (by decide) (by k_asm) (by k_asm) (by k_asm) (by first|exact rfl|fail) (by k_mem) (by k_mem) (by k_get) (by k_handed) ?_;k_whole)))
  k_with "compareOp Is" => ((k_here;k_extra "m state"))
  k_with "compareOp In str ref" => ((k_here;(with_reducible show wpAny _ _ (compareOp CmpOp.In (Value.str _ _) (Value.ref _)) _ _ _);(with_unfolding_all refine' in_tuple_strs (by first|(exact News.isTup (by k_asm) (by news_mem))|fail) (by first|(kde_strs)|fail) ?_;k_whole);(with_reducible rename News _ _ _ _ => Nt);(replace Nt := news_tail Nt)))
  k_with "isTrue BoolOp" => ((k_here;k_extra "m or"))
  k_with "getAttr ref" => ((k_here;(with_reducible show wpAny _ _ (getAttr _ (PySem.Str.ofString "punctuation_chars") _) _ _ _);k_dflt ((refine' get_prop (by k_asm) (by k_asm) (by k_inst) (by k_is) (by k_is) (by k_is) (by k_is) (by k_is) (by k_is) ?_;k_whole;walk_at "m_enter"))))
  k_with "truthy str" => ((k_here;(with_reducible show wpAny _ _ (truthy (Value.str (lat (_ :: _)) _)) _ _ _);k_dflt (refine' m_truthyS (by first|omega|decide|fail) ?_;k_whole)))
  intro hrow mean mg mb dp un gd cn cs a ccd cl outer A₀ base g₀ h₀ L m s rest Q E B F X N O D T XB TB Dd T0 hk hd hu hret hexc
  have AP : ApN 18 _ := apn_own O D
  clear O D
  simp only [srcL, strm, chan, heldL, List.cons_append, List.nil_append] at N
  k_with "m call" => ((((with_reducible show wpAny _ _ (call (Value.ref f1) _) _ _ _);k_dflt (refine' ctrT_use3 (by assumption) (by k_asm) (by k_asm) (by k_asm) (by k_asm) (by exact rfl) (by walk_at "pickn") (by k_asm) (by k_asm) (by k_asm) (by k_asm) (by first|assumption|exact KtsTurn.refl) (by first|exact rfl|assumption) (by ktr_room) (by ktr_units) (rdL w sx sd fR cS c1 ha h2 tv tr pm ctv oS o1 vs t1 hS hc1 hv1 f1 k1 f2 k2 qc qh qs b tkc pm1 ct1 pm2 ct2 ok1 ok2 oC oH oT vs1 vs2 t2 t3 hk1 hw1 hk2 hw2 hC hH hT fr hfr n t ab _ tb u0 u1 nn n2 hvs oc) ?_;k_whole;intro AP9;refine And.intro ?_ ?_;(focus (intro e9 t9 xs9 own9 h9 tk9 G9 g9 hp9 T9 B9 F9 X9 P9 D9 R9 U9;exact hp9.elim));rotate_right;(focus (intro v9 own9 h9 tk9 g9 hp9 T9 B9 F9 N9 X9 P9 D9;obtain ⟨⟨ts, e1⟩, o9, e2, tb9, u09, u19, nn9, n29, hvs9, oc9, e3⟩ := hp9;subst e1;subst e2;subst e3;simp only [srcL, strm, chan, heldL, List.cons_append, List.nil_append] at N9;(rcases hD : (txt b fr).drop (n b) with _|⟨c, r⟩);rotate_left;(by_cases h10 : c = 10);(subst h10;have hnl := f_nl (c := 10));rotate_left;(have hnl : (lat [c] == ("\n" : Str)) = false := (f_nl (c := c)).trans (beq_eq_false_iff_ne.mpr h10));rotate_left;all_goals (try simp only [List.take_nil, List.take_succ_cons, List.take_zero]);all_goals (try k_lift B9);(try dsimp only);skip)))));(all_goals (first|(rename_i yy1;revert T9 B9 F9 X9 P9 D9 oc9 N9 hD h10 hnl;revert yy1 h9 tk9 g9 ts tb9 u09 u19 nn9 n29 hvs9 c r;refine eps8 eN eH eN eH eN eN eN eN ?_;generalize q81 _ = yy1, q82 _ = h9, q83 _ = tk9, q84 _ = g9, q85 _ = ts, q86 _ = tb9, q87 _ = u09, q88 _ = u19;refine hold8 ?_;refine eps5 eN eN eLV eU Mine.eT ?_;generalize q51 _ = nn9, q52 _ = n29, q53 _ = hvs9, q54 _ = c, q55 _ = r;refine hold5 ?_;intro T9 B9 F9 X9 P9 D9 oc9 N9 hD h10 hnl)|(rename_i yy1;revert T9 B9 F9 X9 P9 D9 oc9 N9 hD;revert yy1 h9 tk9 g9 ts tb9 u09 u19 nn9 n29 hvs9 r;refine eps8 eN eH eN eH eN eN eN eN ?_;generalize q81 _ = yy1, q82 _ = h9, q83 _ = tk9, q84 _ = g9, q85 _ = ts, q86 _ = tb9, q87 _ = u09, q88 _ = u19;refine hold8 ?_;refine eps4 eN eN eLV Mine.eT ?_;generalize q41 _ = nn9, q42 _ = n29, q43 _ = hvs9, q44 _ = r;refine hold4 ?_;intro T9 B9 F9 X9 P9 D9 oc9 N9 hD)|(rename_i yy1;revert T9 B9 F9 X9 P9 D9 oc9 N9;revert yy1 h9 tk9 g9 ts tb9 u09 u19 nn9 n29 hvs9;refine eps8 eN eH eN eH eN eN eN eN ?_;generalize q81 _ = yy1, q82 _ = h9, q83 _ = tk9, q84 _ = g9, q85 _ = ts, q86 _ = tb9, q87 _ = u09, q88 _ = u19;refine hold8 ?_;refine eps3 eN eN eLV ?_;generalize q31 _ = nn9, q32 _ = n29, q33 _ = hvs9;refine hold3 ?_;intro T9 B9 F9 X9 P9 D9 oc9 N9)|skip)))
  k_with "m call" => ((((with_reducible show wpAny _ _ (call (Value.ref f2) _) _ _ _);k_dflt (refine' ctrT_use3 (by assumption) (by k_asm) (by k_asm) (by k_asm) (by k_asm) (by exact rfl) (by walk_at "pickn") (by k_asm) (by k_asm) (by k_asm) (by k_asm) (by first|assumption|exact KtsTurn.refl) (by first|exact rfl|assumption) (by ktr_room) (by ktr_units) (rlL w sx sd fR cS c1 ha h2 tv tr pm ctv oS o1 vs t1 hS hc1 hv1 f1 k1 f2 k2 qc qh qs b tkc pm1 ct1 pm2 ct2 ok1 ok2 oC oH oT vs1 vs2 t2 t3 hk1 hw1 hk2 hw2 hC hH hT fr hfr (nx fr n b) (tx' fr n t b) (abs_nx ab b) tb9 u09 u19 nn9 n29 hvs9 oc9) ?_;k_whole;intro AP9;refine And.intro ?_ ?_;(focus (intro e9 t9 xs9 own9 h9 tk9 G9 g9 hp9 T9 B9 F9 X9 P9 D9 R9 U9;exact hp9.elim));rotate_right;(focus (intro v9 own9 h9 tk9 g9 hp9 T9 B9 F9 N9 X9 P9 D9;obtain ⟨⟨xs9, ts9, e1⟩, o9, e2, tb8, u08, u18, nn8, n28, hvs8, oc8, e3⟩ := hp9;subst e1;subst e2;subst e3;(obtain ⟨gl1, gl2⟩ := go_line (t := t) hD);rw [gl1, gl2] at oc8 N9;simp only [srcL, strm, chan, heldL, List.cons_append, List.nil_append] at N9;(try k_lift B9);(try dsimp only);skip)))));(all_goals (first|(revert T9 B9 F9 X9 P9 D9 oc8 N9;revert h9 tk9 g9 xs9 ts9 tb8 u08 u18 nn8 n28 hvs8;refine eps8 eH eN eH eS eN eN eN eN ?_;generalize q81 _ = h9, q82 _ = tk9, q83 _ = g9, q84 _ = xs9, q85 _ = ts9, q86 _ = tb8, q87 _ = u08, q88 _ = u18;refine hold8 ?_;refine eps3 eN eN eLV ?_;generalize q31 _ = nn8, q32 _ = n28, q33 _ = hvs8;refine hold3 ?_;intro T9 B9 F9 X9 P9 D9 oc8 N9)|skip)))
  k_with "m or" => ((((with_reducible show wpAny _ _ (isTrue (Expr.BoolOp BoolOp.Or (Expr.Attribute _ _ _ :: _) _) _ _) _ _ _);(have hg3 : q = true ∨ tok ≠ [] := hg2 (by k_dflt (exact rfl)));refine join_true ?_ ?_;rotate_left;(focus (intro K9 hK9;(rcases tok with _|⟨a0, l0⟩);(rcases hg3 with rfl|h);rotate_left;exact absurd rfl h;(have hl9 : l0.length ≤ 10000 := by (simp only [List.length_cons] at htl;omega))));rotate_left;rotate_left;(intro tkj);(try dsimp only);skip));(all_goals (first|(rename_i yy1 yy2 yy3 yy4 yy5 yy6 yy7 yy8;revert yy3 yy6 hK9 htl hI N9 hR hg1 hg2 N' yy7 AP9 yy8 hg3 hl9;revert yy1 yy2 tk yy5 K9 a0 l0;refine eps7 eN eH eN eH ePb eU Mine.eT ?_;generalize q71 _ = yy1, q72 _ = yy2, q73 _ = tk, q74 _ = yy5, q75 _ = K9, q76 _ = a0, q77 _ = l0;refine hold7 ?_;intro _ _ hK9 htl hI N9 hR hg1 hg2 N' _ AP9 _ hg3 hl9)|(rename_i yy1 yy2 yy3 yy4 yy5 yy6 yy7;revert yy3 yy5 hK9 htl hI N9 hR hg1 hg2 N' yy6 AP9 yy7 hg3 hl9;revert yy1 yy2 tk yy4 K9 a0 l0;refine eps7 eN eH eN eH ePb eU Mine.eT ?_;generalize q71 _ = yy1, q72 _ = yy2, q73 _ = tk, q74 _ = yy4, q75 _ = K9, q76 _ = a0, q77 _ = l0;refine hold7 ?_;intro _ _ hK9 htl hI N9 hR hg1 hg2 N' _ AP9 _ hg3 hl9)|(rename_i yy1 yy2 yy3 yy4 yy5 yy6;revert yy3 hK9 htl hI N9 hR hg1 hg2 N' yy4 yy5 Nt AP9 yy6 hg3 hl9;revert yy1 yy2 K9 a0 l0;refine eps5 eH eH ePb eU Mine.eT ?_;generalize q51 _ = yy1, q52 _ = yy2, q53 _ = K9, q54 _ = a0, q55 _ = l0;refine hold5 ?_;intro _ hK9 htl hI N9 hR hg1 hg2 N' _ _ Nt AP9 _ hg3 hl9)|(rename_i yy1 yy2 yy3 yy4 yy5 yy6 yy7 yy8 yy9;revert yy3 hK9 yy7 yy9;revert yy1 yy2 tk yy5 K9;refine eps5 eN eH eN eH ePb ?_;generalize q51 _ = yy1, q52 _ = yy2, q53 _ = tk, q54 _ = yy5, q55 _ = K9;refine hold5 ?_;intro _ hK9 _ _)|(rename_i yy1 yy2 yy3 yy4 yy5 yy6 yy7 yy8;revert yy3 hK9 yy6 yy8;revert yy1 yy2 tk yy4 K9;refine eps5 eN eH eN eH ePb ?_;generalize q51 _ = yy1, q52 _ = yy2, q53 _ = tk, q54 _ = yy4, q55 _ = K9;refine hold5 ?_;intro _ hK9 _ _)|(rename_i yy1 yy2 yy3 yy4 yy5 yy6 yy7;revert yy3 yy6 yy7;revert yy1 yy2 tk yy5 tkj;refine eps5 eN eH eN eH eN ?_;generalize q51 _ = yy1, q52 _ = yy2, q53 _ = tk, q54 _ = yy5, q55 _ = tkj;refine hold5 ?_;intro _ _ _)|(rename_i yy1 yy2 yy3 yy4 yy5 yy6;revert yy3 yy5 yy6;revert yy1 yy2 tk yy4 tkj;refine eps5 eN eH eN eH eN ?_;generalize q51 _ = yy1, q52 _ = yy2, q53 _ = tk, q54 _ = yy4, q55 _ = tkj;refine hold5 ?_;intro _ _ _)|(rename_i yy1 yy2 yy3 yy4 yy5 yy6 yy7 yy8;revert hK9 yy5 yy8;revert yy1 yy2 K9;refine eps3 eH eH ePb ?_;generalize q31 _ = yy1, q32 _ = yy2, q33 _ = K9;refine hold3 ?_;intro hK9 _ _)|(rename_i yy1 yy2 yy3 yy4;revert yy3 yy4;revert yy1 yy2 tkj;refine eps3 eH eH eN ?_;generalize q31 _ = yy1, q32 _ = yy2, q33 _ = tkj;refine hold3 ?_;intro _ _)|skip)))
  k_with "m state" => ((with_reducible show wpAny _ _ (compareOp _ (stV _ _) _) _ _ _);(with_reducible rename News _ _ _ _ => Nst);cases st;(case' nn => ((obtain ⟨rfl, rfl⟩ := hg1 (.inr rfl));first|(exact absurd rfl (hes (by rw [hD];exact List.cons_ne_nil _ _)).2)|(have mk_nn := True.intro)));(case' sp => ((obtain ⟨rfl, rfl⟩ := hg1 (.inl rfl));(have mk_sp := True.intro)));(case' wd => ((have mk_wd := True.intro)));(case' qu => ((rcases hgq _ rfl with rfl|rfl);all_goals (have mk_qu := True.intro)));(case' ea => (first|(have hesv : es = "a" := (by k_dflt (exact (hes (by rw [hD];exact List.cons_ne_nil _ _)).1));subst hesv;have mk_ea := True.intro)|(have mk_ea := True.intro)));(case' eq => (first|(have hesv : es = lat [34] := (by k_dflt (exact (hes (by rw [hD];exact List.cons_ne_nil _ _)).1));subst hesv;have mk_eq := True.intro)|(have mk_eq := True.intro)));all_goals ((try dsimp only [stV] at Nst);(try dsimp only [stV])))
  k_with "m while" => ((((with_reducible rename Fr _ _ _ _ => Fw);(with_reducible rename News _ _ _ _ => Nw);(with_reducible rename Below _ _ _ _ => Bw);(with_reducible rename KtsDicts _ _ => Dw);(with_reducible rename Frag.In _ _ => Xw);(with_reducible rename Top _ _ _ _ _ _ => Tw);(have Fw2 := fr_three (m0 := mp [("self", .ref lx)]) (a := ("nextchar" : Str)) (b := ("escapedstate" : Str)) (c := ("quoted" : Str)) Fw (by k_dflt (exact rfl)) (by k_dflt (exact rfl)) (by k_dflt (exact rfl)) (by intro k h1 h2 h3;simp only [h1, h2, h3, if_false]));refine whl_start 0 ?_;refine whl_ledB (σ := Tk) (fun s => (txt b fr).length - s.n b) (RtI fr b O Nf Tf) (RtJ fr b O Nf Tf) (fun c => fun y => if y = "nextchar" then c.nc else if y = "escapedstate" then some (.str c.es c.eT) else if y = "quoted" then some (.bool c.q) else mp [("self", .ref lx)] y) (fun c => chan w.params sx sd fR cS c1 ha h2 (encF (mkA fr c.n c.t).fs) c.tb tv tr pm ctv oS o1 (lat (mkA fr c.n c.t).y0) (lat (mkA fr c.n c.t).y1) c.u0 c.u1 c.nn c.hvs c.n2 ++ srcL f1 k1 f2 k2 qc qh qs pm1 ct1 pm2 ct2 ok1 ok2 oC oH oT ++ lexL w.params lx ld src srd pb fs f1 f2 b tkc s1 s2 s3 kt vt (stV c.st c.sT) c.tok c.tT c.ln c.lT ++ rest) (Gd w.params mean mg mb _ base _ _) (by passes_own) ?turn ?brk ⟨n, t, tb, u0, u1, nn, n2, hvs, st, sT, false, tok, tT, ln, lT, " ", _, none⟩ _ _ _ (hI0 _ _) ⟨KtsTurn.refl, Bw, Xw, Tw, Dw⟩ Fw2 Nw;(case' brk => (clear Fw Fw2 Nw hI0;rintro ⟨n, t, tb, u0, u1, nn, n2, hvs, st, sT, q, tok, tT, ln, lT, es, eT, nc⟩ g9 h9 tk9 ⟨hoc, hab, hres, hst, htl, hen, het⟩ ⟨T9, B9, X9, P9, D9⟩ F9 N9;(try dsimp only at hoc);(try dsimp only at hres);(try dsimp only at hst);(try dsimp only at htl);(try dsimp only at hen);(try dsimp only at het);(try dsimp only at F9);(try dsimp only at N9);subst hen;subst het;(rw [← hst, ← hres] at hret);simp only [srcL, strm, chan, heldL, List.cons_append, List.nil_append] at N9;(have hzl := lni_len hab b hfr);cases q;(rcases tok with _|⟨a0, l0⟩);all_goals ((try k_lift B9);(try dsimp only);skip)));(case' turn => (clear Fw Fw2 Nw hI0;rintro Q' hB ⟨n, t, tb, u0, u1, nn, n2, hvs, st, sT, q, tok, tT, ln, lT, es, eT, nc⟩ g9 h9 tk9 Rr hI ⟨T9, B9, X9, P9, D9⟩ F9 N9 hR;(try dsimp only at hI);(try dsimp only at F9);(try dsimp only at N9);simp only [srcL, strm, chan, heldL, List.cons_append, List.nil_append] at N9;(have ab := hI.ab);(have oc := hI.oc);(have hzl := lni_len ab b hfr);(have htl := hI.tl);(have hg1 := hI.g1);(have hgq := hI.gq);(have hes := hI.es);(have hg2 := hI.g2);(try dsimp only at hg2);(try dsimp only at hg1);(try dsimp only at ab);(try dsimp only at oc);(try dsimp only at hzl);(try dsimp only at htl);(try dsimp only at hgq);(try dsimp only at hes);(try k_lift B9);skip))));(all_goals (first|(rename_i yy1 yy2;revert hB hI T9 B9 X9 P9 D9 F9 N9 hR ab oc hzl htl hg1 hgq hes hg2;revert yy1 yy2 Q' n t tb u0 u1 nn n2 hvs st sT q tok tT ln lT es eT nc g9 h9 tk9 Rr;refine eps8 eH eH eP4 eNs eN eN eN eN ?_;generalize q81 _ = yy1, q82 _ = yy2, q83 _ = Q', q84 _ = n, q85 _ = t, q86 _ = tb, q87 _ = u0, q88 _ = u1;refine hold8 ?_;refine eps8 eN eN eLV eSt eN eB Mine.eT eN ?_;generalize q81 _ = nn, q82 _ = n2, q83 _ = hvs, q84 _ = st, q85 _ = sT, q86 _ = q, q87 _ = tok, q88 _ = tT;refine hold8 ?_;refine eps8 eI eN eS eN eOv eH eH eN ?_;generalize q81 _ = ln, q82 _ = lT, q83 _ = es, q84 _ = eT, q85 _ = nc, q86 _ = g9, q87 _ = h9, q88 _ = tk9;refine hold8 ?_;refine eps1 eP1 ?_;generalize cex _ _ = Rr;refine hold1 ?_;intro hB hI T9 B9 X9 P9 D9 F9 N9 hR ab oc hzl htl hg1 hgq hes hg2)|(rename_i yy1 yy2;revert hoc hst T9 B9 X9 P9 D9 hexc F9 htl N9 hab hres hret hzl;revert yy1 yy2 n t tb u0 u1 nn n2 hvs st sT tT ln lT es eT nc g9 h9 tk9 a0 l0;refine eps8 eH eH eNs eN eN eN eN eN ?_;generalize q81 _ = yy1, q82 _ = yy2, q83 _ = n, q84 _ = t, q85 _ = tb, q86 _ = u0, q87 _ = u1, q88 _ = nn;refine hold8 ?_;refine eps8 eN eLV eSt eN eN eI eN eS ?_;generalize q81 _ = n2, q82 _ = hvs, q83 _ = st, q84 _ = sT, q85 _ = tT, q86 _ = ln, q87 _ = lT, q88 _ = es;refine hold8 ?_;refine eps7 eN eOv eH eH eN eU Mine.eT ?_;generalize q71 _ = eT, q72 _ = nc, q73 _ = g9, q74 _ = h9, q75 _ = tk9, q76 _ = a0, q77 _ = l0;refine hold7 ?_;intro hoc hst T9 B9 X9 P9 D9 hexc F9 htl N9 hab hres hret hzl)|(rename_i yy1 yy2;revert hoc hst htl T9 B9 X9 P9 D9 N9 hexc hab hres F9 hret hzl;revert yy1 yy2 n t tb u0 u1 nn n2 hvs st sT tok tT ln lT es eT nc g9 h9 tk9;refine eps8 eH eH eNs eN eN eN eN eN ?_;generalize q81 _ = yy1, q82 _ = yy2, q83 _ = n, q84 _ = t, q85 _ = tb, q86 _ = u0, q87 _ = u1, q88 _ = nn;refine hold8 ?_;refine eps8 eN eLV eSt eN Mine.eT eN eI eN ?_;generalize q81 _ = n2, q82 _ = hvs, q83 _ = st, q84 _ = sT, q85 _ = tok, q86 _ = tT, q87 _ = ln, q88 _ = lT;refine hold8 ?_;refine eps6 eS eN eOv eH eH eN ?_;generalize q61 _ = es, q62 _ = eT, q63 _ = nc, q64 _ = g9, q65 _ = h9, q66 _ = tk9;refine hold6 ?_;intro hoc hst htl T9 B9 X9 P9 D9 N9 hexc hab hres F9 hret hzl)|(rename_i yy1 yy2;revert hoc hst T9 B9 X9 P9 D9 hexc F9 htl N9 hab hret hzl;revert yy1 yy2 n t tb u0 u1 nn n2 hvs st sT tT ln lT es eT nc g9 h9 tk9;refine eps8 eH eH eNs eN eN eN eN eN ?_;generalize q81 _ = yy1, q82 _ = yy2, q83 _ = n, q84 _ = t, q85 _ = tb, q86 _ = u0, q87 _ = u1, q88 _ = nn;refine hold8 ?_;refine eps8 eN eLV eSt eN eN eI eN eS ?_;generalize q81 _ = n2, q82 _ = hvs, q83 _ = st, q84 _ = sT, q85 _ = tT, q86 _ = ln, q87 _ = lT, q88 _ = es;refine hold8 ?_;refine eps5 eN eOv eH eH eN ?_;generalize q51 _ = eT, q52 _ = nc, q53 _ = g9, q54 _ = h9, q55 _ = tk9;refine hold5 ?_;intro hoc hst T9 B9 X9 P9 D9 hexc F9 htl N9 hab hret hzl)|skip)))
  revert hS hc1 hv1 hk1 hw1 hk2 hw2 hC hH hT hfr ab rs oc hI0 B F X N T XB TB Dd T0 hk hd hu hret hexc AP; revert w sx sd fR cS c1 ha h2 tv tr pm ctv oS o1 vs t1 f1 k1 f2 k2 qc qh qs b tkc pm1 ct1 pm2 ct2 ok1 ok2 oC oH oT vs1 vs2 t2 t3 lx ld src srd pb fs s1 s2 s3 kt vt fr n t st sT tok tT ln lT tb u0 u1 nn n2 hvs O Nf Tf mean mg mb dp un gd cn cs a ccd cl outer A₀ base g₀ h₀ L m s rest Q E; refine eps8 eW eN eN eN eN eN eN eN ?_; generalize q81 _ = w, q82 _ = sx, q83 _ = sd, q84 _ = fR, q85 _ = cS, q86 _ = c1, q87 _ = ha, q88 _ = h2; refine hold8 ?_; refine eps8 eN eN eV eV eO eO eAV eN ?_; generalize q81 _ = tv, q82 _ = tr, q83 _ = pm, q84 _ = ctv, q85 _ = oS, q86 _ = o1, q87 _ = vs, q88 _ = t1; refine hold8 ?_; refine eps8 eN eN eN eN eN eN eN eB ?_; generalize q81 _ = f1, q82 _ = k1, q83 _ = f2, q84 _ = k2, q85 _ = qc, q86 _ = qh, q87 _ = qs, q88 _ = b; refine hold8 ?_; refine eps8 eN eV eV eV eV eO eO eO ?_; generalize q81 _ = tkc, q82 _ = pm1, q83 _ = ct1, q84 _ = pm2, q85 _ = ct2, q86 _ = ok1, q87 _ = ok2, q88 _ = oC; refine hold8 ?_; refine eps8 eO eO eAV eAV eN eN eN eN ?_; generalize q81 _ = oH, q82 _ = oT, q83 _ = vs1, q84 _ = vs2, q85 _ = t2, q86 _ = t3, q87 _ = lx, q88 _ = ld; refine hold8 ?_; refine eps8 eN eN eN eN eN eN eN eLN ?_; generalize q81 _ = src, q82 _ = srd, q83 _ = pb, q84 _ = fs, q85 _ = s1, q86 _ = s2, q87 _ = s3, q88 _ = kt; refine hold8 ?_; refine eps8 eLN eLFm eNs eN eSt eN Mine.eT eN ?_; generalize q81 _ = vt, q82 _ = fr, q83 _ = n, q84 _ = t, q85 _ = st, q86 _ = sT, q87 _ = tok, q88 _ = tT; refine hold8 ?_; refine eps8 eI eN eN eN eN eN eN eLV ?_; generalize q81 _ = ln, q82 _ = lT, q83 _ = tb, q84 _ = u0, q85 _ = u1, q86 _ = nn, q87 _ = n2, q88 _ = hvs; refine hold8 ?_; refine eps8 eOut eNs eN eEx eM eM eN eN ?_; generalize q81 _ = O, q82 _ = Nf, q83 _ = Tf, q84 _ = mean, q85 _ = mg, q86 _ = mb, q87 _ = dp, q88 _ = un; refine hold8 ?_; refine eps8 eOC eS eSc eN eV eSA eEn eAr ?_; generalize q81 _ = gd, q82 _ = cn, q83 _ = cs, q84 _ = a, q85 _ = ccd, q86 _ = cl, q87 _ = outer, q88 _ = A₀; refine hold8 ?_; refine eps8 eH eH eH eN eM eSh eL eP2 ?_; generalize q81 _ = base, q82 _ = g₀, q83 _ = h₀, q84 _ = L, q85 _ = m, q86 _ = s, q87 _ = rest, q88 _ = Q; refine hold8 ?_; refine eps1 eP2 ?_; generalize cex _ _ = E; refine hold1 ?_; intro hS hc1 hv1 hk1 hw1 hk2 hw2 hC hH hT hfr ab rs oc hI0 B F X N T XB TB Dd T0 hk hd hu hret hexc AP
  refine wpAny_call ?_
  k_dflt (walk_at "m_enterT")
  (with_reducible rename Fr _ _ _ _ => Fe9)
  replace Fe9 := fr_mp (l' := [("self", .ref lx)]) Fe9 rfl
  repeat' (first | (k_unfold; (try dsimp only)) | walk1 | (dsimp only; walk1) | (dsimp only; with_reducible refine lpost_brk ?_; try dsimp only))
  all_goals (try k_data)
  all_goals (try dsimp only)
  all_goals first | (with_reducible refine lpost_cont ?_) | (with_reducible refine lpost_next ?_) | skip
  all_goals first | (with_reducible rename c = 92 => h92; subst h92) | skip
  all_goals (try ((with_reducible rename Fr _ _ _ _ => Fz); (with_reducible rename News _ _ _ _ => Nz); have Fy := fr_three (m0 := mp [("self", .ref lx)]) (a := ("nextchar" : Str)) (b := ("escapedstate" : Str)) (c := ("quoted" : Str)) Fz rfl rfl rfl (by intro k h1 h2 h3; simp only [h1, h2, h3, if_false])))
  all_goals first
    | (exact hK9 _)
    | (exact hret _ _ _ _ _ ⟨rfl, _, _, _, _, _, rfl, tb, u0, u1, nn, n2, hvs, hoc, rfl⟩ (by first | assumption | exact KtsTurn.refl) (by assumption) (by assumption) (by assumption) (by assumption) (by assumption) (by assumption))
    | (exact hret _ _ _ _ _ ⟨⟨_, rfl⟩, _, _, _, _, _, rfl, tb, u0, u1, nn, n2, hvs, hoc, rfl⟩ (by first | assumption | exact KtsTurn.refl) (by assumption) (by assumption) (by assumption) (by assumption) (by assumption) (by assumption))
    | (have _ := mk_nn; exact hB ⟨nx fr n b, tx' fr n t b, tb9, u09, u19, nn9, n29, hvs9, .nn, 0, false, [], _, _, _, _, _, _⟩ _ _ _ (rtj_at hI (j := 1) (by omega) (by k_extra "rq") rfl rfl oc9 (by exact Nat.le_trans htl (Nat.mul_le_mul_left 2 (goN_lo fr ab b _)))) ⟨T9, B9, X9, P9, D9⟩ Fy Nz)
    | (have _ := mk_sp; exact hB ⟨nx fr n b, tx' fr n t b, tb9, u09, u19, nn9, n29, hvs9, .nn, 0, false, [], _, _, _, _, _, _⟩ _ _ _ (rtj_at hI (j := 1) (by omega) (by k_extra "rq") rfl rfl oc9 (by exact Nat.le_trans htl (Nat.mul_le_mul_left 2 (goN_lo fr ab b _)))) ⟨T9, B9, X9, P9, D9⟩ Fy Nz)
    | (have _ := mk_sp; exact hR ⟨goN fr n b (1 + bl r), goT fr n t b (1 + bl r), tb8, u08, u18, nn8, n28, hvs8, .sp, _, false, [], _, _, _, _, _, _⟩ _ _ _ (go_fall hD (k := 1 + bl r) (by omega)) (rti_go hI (j := 1 + bl r) (by omega) rfl rfl (by k_extra "rq") oc8 (fun _ => ⟨rfl, rfl⟩) (fun h => by cases h) (⟨trivial, by intro h; cases h⟩) (fun d h => by cases h) (by exact Nat.le_trans htl (Nat.mul_le_mul_left 2 (goN_lo fr ab b _)))) ⟨T9, B9, X9, P9, D9⟩ Fy Nz)
    | (have _ := mk_sp; exact hR ⟨nx fr n b, tx' fr n t b, tb9, u09, u19, nn9, n29, hvs9, .sp, _, false, [], _, _, _, _, _, _⟩ _ _ _ (go_fall hD (k := 1) (by omega)) (rti_go hI (j := 1) (by omega) rfl rfl (by k_extra "rq") oc9 (fun _ => ⟨rfl, rfl⟩) (fun h => by cases h) (⟨trivial, by intro h; cases h⟩) (fun d h => by cases h) (by exact Nat.le_trans htl (Nat.mul_le_mul_left 2 (goN_lo fr ab b _)))) ⟨T9, B9, X9, P9, D9⟩ Fy Nz)
    | (have _ := mk_sp; exact hR ⟨nx fr n b, tx' fr n t b, tb9, u09, u19, nn9, n29, hvs9, .ea, _, false, [], _, _, _, "a", _, _⟩ _ _ _ (go_fall hD (k := 1) (by omega)) (rti_go hI (j := 1) (by omega) rfl rfl (by k_extra "rq") oc9 (fun h => by rcases h with h | h <;> cases h) (fun h => by cases h) (⟨rfl, by intro h; cases h⟩) (fun d h => by cases h) (by exact Nat.le_trans htl (Nat.mul_le_mul_left 2 (goN_lo fr ab b _)))) ⟨T9, B9, X9, P9, D9⟩ Fy Nz)
    | (have _ := mk_sp; exact hR ⟨nx fr n b, tx' fr n t b, tb9, u09, u19, nn9, n29, hvs9, .wd, _, false, [c], _, _, _, _, _, _⟩ _ _ _ (go_fall hD (k := 1) (by omega)) (rti_go hI (j := 1) (by omega) rfl rfl (by k_extra "rq") oc9 (fun h => by rcases h with h | h <;> cases h) (fun _ => .inr (List.cons_ne_nil _ _)) (⟨trivial, by intro h; cases h⟩) (fun d h => by cases h) (by (try dsimp only); rw [nx_goN, nx_lt hD]; simp only [List.length_append, List.length_cons, List.length_nil]; omega)) ⟨T9, B9, X9, P9, D9⟩ Fy Nz)
    | (have _ := mk_sp; exact hR ⟨nx fr n b, tx' fr n t b, tb9, u09, u19, nn9, n29, hvs9, .qu c, _, false, [], _, _, _, _, _, _⟩ _ _ _ (go_fall hD (k := 1) (by omega)) (rti_go hI (j := 1) (by omega) rfl rfl (by k_extra "rq") oc9 (fun h => by rcases h with h | h <;> cases h) (fun h => by cases h) (⟨trivial, by intro h; cases h⟩) (fun d h => by injection h with h; subst h; exact qu_of (by with_reducible assumption)) (by exact Nat.le_trans htl (Nat.mul_le_mul_left 2 (goN_lo fr ab b _)))) ⟨T9, B9, X9, P9, D9⟩ Fy Nz)
    | (have _ := mk_wd; exact hB ⟨nx fr n b, tx' fr n t b, tb9, u09, u19, nn9, n29, hvs9, .nn, 0, q, tok, _, _, _, _, _, _⟩ _ _ _ (rtj_at hI (j := 1) (by omega) (by k_extra "rq") rfl rfl oc9 (by exact Nat.le_trans htl (Nat.mul_le_mul_left 2 (goN_lo fr ab b _)))) ⟨T9, B9, X9, P9, D9⟩ Fy Nz)
    | (have _ := mk_wd; exact hB ⟨goN fr n b (1 + bl r), goT fr n t b (1 + bl r), tb8, u08, u18, nn8, n28, hvs8, .sp, _, q, tok, _, _, _, _, _, _⟩ _ _ _ (rtj_at hI (j := 1 + bl r) (by omega) (by k_extra "rq") rfl rfl oc8 (by exact Nat.le_trans htl (Nat.mul_le_mul_left 2 (goN_lo fr ab b _)))) ⟨T9, B9, X9, P9, D9⟩ Fy Nz)
    | (have _ := mk_wd; exact hB ⟨nx fr n b, tx' fr n t b, tb9, u09, u19, nn9, n29, hvs9, .sp, _, q, tok, _, _, _, _, _, _⟩ _ _ _ (rtj_at hI (j := 1) (by omega) (by k_extra "rq") rfl rfl oc9 (by exact Nat.le_trans htl (Nat.mul_le_mul_left 2 (goN_lo fr ab b _)))) ⟨T9, B9, X9, P9, D9⟩ Fy Nz)
    | (have _ := mk_wd; exact hR ⟨nx fr n b, tx' fr n t b, tb9, u09, u19, nn9, n29, hvs9, .qu c, _, q, tok, _, _, _, _, _, _⟩ _ _ _ (go_fall hD (k := 1) (by omega)) (rti_go hI (j := 1) (by omega) rfl rfl (by k_extra "rq") oc9 (fun h => by rcases h with h | h <;> cases h) (fun h => by cases h) (⟨trivial, by intro h; cases h⟩) (fun d h => by injection h with h; subst h; exact qu_of (by with_reducible assumption)) (by exact Nat.le_trans htl (Nat.mul_le_mul_left 2 (goN_lo fr ab b _)))) ⟨T9, B9, X9, P9, D9⟩ Fy Nz)
    | (have _ := mk_wd; exact hR ⟨nx fr n b, tx' fr n t b, tb9, u09, u19, nn9, n29, hvs9, .ea, _, q, tok, _, _, _, "a", _, _⟩ _ _ _ (go_fall hD (k := 1) (by omega)) (rti_go hI (j := 1) (by omega) rfl rfl (by k_extra "rq") oc9 (fun h => by rcases h with h | h <;> cases h) (fun h => by cases h) (⟨rfl, by intro h; cases h⟩) (fun d h => by cases h) (by exact Nat.le_trans htl (Nat.mul_le_mul_left 2 (goN_lo fr ab b _)))) ⟨T9, B9, X9, P9, D9⟩ Fy Nz)
    | (have _ := mk_wd; exact hR ⟨nx fr n b, tx' fr n t b, tb9, u09, u19, nn9, n29, hvs9, .wd, _, q, (tok ++ [c]), _, _, _, _, _, _⟩ _ _ _ (go_fall hD (k := 1) (by omega)) (rti_go hI (j := 1) (by omega) rfl rfl (by k_extra "rq") oc9 (fun h => by rcases h with h | h <;> cases h) (fun _ => .inr (List.append_ne_nil_of_right_ne_nil _ (List.cons_ne_nil _ _))) (⟨trivial, by intro h; cases h⟩) (fun d h => by cases h) (by (try dsimp only); rw [nx_goN, nx_lt hD]; simp only [List.length_append, List.length_cons, List.length_nil]; omega)) ⟨T9, B9, X9, P9, D9⟩ Fy Nz)
    | (have _ := mk_qu; ((with_reducible rename Dn _ _ _ _ _ _ _ _ _ _ _ _ _ _ => dnz); (obtain ⟨h0z, a1, a2, a3, a4, a5, a6, a7⟩ := dnz g9 T9); (obtain ⟨e1, e2, e3, e4⟩ := hI.eo); (try dsimp only at e1 e2 e3 e4); rw [hD, rt.eq_def] at e1 e2 e3 e4; (try dsimp only at e1 e2 e3 e4); rw [← e1, ← e2, ← e3, ← e4] at hexc; exact hexc _ _ _ _ _ _ g9 h0z ⟨⟨_, rfl⟩, _, _, _, _, _, _, rfl, Nat.le_trans htl (Nat.mul_le_mul_left 2 (goN_lo fr ab b _)), tb9, u09, u19, nn9, n29, hvs9, oc9, rfl⟩ a1 a3 (a2 g9 (fun _ _ h => h)) a4 a5 a6 (by assumption) (by assumption)))
    | (have _ := mk_qu; exact hR ⟨nx fr n b, tx' fr n t b, tb9, u09, u19, nn9, n29, hvs9, .wd, _, true, tok, _, _, _, _, _, _⟩ _ _ _ (go_fall hD (k := 1) (by omega)) (rti_go hI (j := 1) (by omega) rfl rfl (by k_extra "rq") oc9 (fun h => by rcases h with h | h <;> cases h) (fun _ => .inl rfl) (⟨trivial, by intro h; cases h⟩) (fun d h => by cases h) (by exact Nat.le_trans htl (Nat.mul_le_mul_left 2 (goN_lo fr ab b _)))) ⟨T9, B9, X9, P9, D9⟩ Fy Nz)
    | (have _ := mk_qu; exact hR ⟨nx fr n b, tx' fr n t b, tb9, u09, u19, nn9, n29, hvs9, .eq, _, true, tok, _, _, _, lat [34], _, _⟩ _ _ _ (go_fall hD (k := 1) (by omega)) (rti_go hI (j := 1) (by omega) rfl rfl (by k_extra "rq") oc9 (fun h => by rcases h with h | h <;> cases h) (fun h => by cases h) (⟨rfl, by intro h; cases h⟩) (fun d h => by cases h) (by exact Nat.le_trans htl (Nat.mul_le_mul_left 2 (goN_lo fr ab b _)))) ⟨T9, B9, X9, P9, D9⟩ Fy Nz)
    | (have _ := mk_qu; exact hR ⟨nx fr n b, tx' fr n t b, tb9, u09, u19, nn9, n29, hvs9, (.qu 39), _, true, (tok ++ [c]), _, _, _, _, _, _⟩ _ _ _ (go_fall hD (k := 1) (by omega)) (rti_go hI (j := 1) (by omega) rfl rfl (by k_extra "rq") oc9 (fun h => by rcases h with h | h <;> cases h) (fun h => by cases h) (⟨trivial, by intro h; cases h⟩) (fun d h => by cases h; exact .inl rfl) (by (try dsimp only); rw [nx_goN, nx_lt hD]; simp only [List.length_append, List.length_cons, List.length_nil]; omega)) ⟨T9, B9, X9, P9, D9⟩ Fy Nz)
    | (have _ := mk_qu; exact hR ⟨nx fr n b, tx' fr n t b, tb9, u09, u19, nn9, n29, hvs9, (.qu 39), _, true, (tok ++ [10]), _, _, _, _, _, _⟩ _ _ _ (go_fall hD (k := 1) (by omega)) (rti_go hI (j := 1) (by omega) rfl rfl (by k_extra "rq") oc9 (fun h => by rcases h with h | h <;> cases h) (fun h => by cases h) (⟨trivial, by intro h; cases h⟩) (fun d h => by cases h; exact .inl rfl) (by (try dsimp only); rw [nx_goN, nx_lt hD]; simp only [List.length_append, List.length_cons, List.length_nil]; omega)) ⟨T9, B9, X9, P9, D9⟩ Fy Nz)
    | (have _ := mk_qu; exact hR ⟨nx fr n b, tx' fr n t b, tb9, u09, u19, nn9, n29, hvs9, (.qu 39), _, true, (tok ++ [92]), _, _, _, _, _, _⟩ _ _ _ (go_fall hD (k := 1) (by omega)) (rti_go hI (j := 1) (by omega) rfl rfl (by k_extra "rq") oc9 (fun h => by rcases h with h | h <;> cases h) (fun h => by cases h) (⟨trivial, by intro h; cases h⟩) (fun d h => by cases h; exact .inl rfl) (by (try dsimp only); rw [nx_goN, nx_lt hD]; simp only [List.length_append, List.length_cons, List.length_nil]; omega)) ⟨T9, B9, X9, P9, D9⟩ Fy Nz)
    | (have _ := mk_qu; exact hR ⟨nx fr n b, tx' fr n t b, tb9, u09, u19, nn9, n29, hvs9, (.qu 34), _, true, (tok ++ [c]), _, _, _, _, _, _⟩ _ _ _ (go_fall hD (k := 1) (by omega)) (rti_go hI (j := 1) (by omega) rfl rfl (by k_extra "rq") oc9 (fun h => by rcases h with h | h <;> cases h) (fun h => by cases h) (⟨trivial, by intro h; cases h⟩) (fun d h => by cases h; exact .inr rfl) (by (try dsimp only); rw [nx_goN, nx_lt hD]; simp only [List.length_append, List.length_cons, List.length_nil]; omega)) ⟨T9, B9, X9, P9, D9⟩ Fy Nz)
    | (have _ := mk_qu; exact hR ⟨nx fr n b, tx' fr n t b, tb9, u09, u19, nn9, n29, hvs9, (.qu 34), _, true, (tok ++ [10]), _, _, _, _, _, _⟩ _ _ _ (go_fall hD (k := 1) (by omega)) (rti_go hI (j := 1) (by omega) rfl rfl (by k_extra "rq") oc9 (fun h => by rcases h with h | h <;> cases h) (fun h => by cases h) (⟨trivial, by intro h; cases h⟩) (fun d h => by cases h; exact .inr rfl) (by (try dsimp only); rw [nx_goN, nx_lt hD]; simp only [List.length_append, List.length_cons, List.length_nil]; omega)) ⟨T9, B9, X9, P9, D9⟩ Fy Nz)
    | (have _ := mk_ea; ((with_reducible rename Dn _ _ _ _ _ _ _ _ _ _ _ _ _ _ => dnz); (obtain ⟨h0z, a1, a2, a3, a4, a5, a6, a7⟩ := dnz g9 T9); (obtain ⟨e1, e2, e3, e4⟩ := hI.eo); (try dsimp only at e1 e2 e3 e4); rw [hD, rt.eq_def] at e1 e2 e3 e4; (try dsimp only at e1 e2 e3 e4); rw [← e1, ← e2, ← e3, ← e4] at hexc; exact hexc _ _ _ _ _ _ g9 h0z ⟨⟨_, rfl⟩, _, _, _, _, _, _, rfl, Nat.le_trans htl (Nat.mul_le_mul_left 2 (goN_lo fr ab b _)), tb9, u09, u19, nn9, n29, hvs9, oc9, rfl⟩ a1 a3 (a2 g9 (fun _ _ h => h)) a4 a5 a6 (by assumption) (by assumption)))
    | (have _ := mk_ea; exact hR ⟨nx fr n b, tx' fr n t b, tb9, u09, u19, nn9, n29, hvs9, .wd, _, q, (tok ++ [c]), _, _, _, _, _, _⟩ _ _ _ (go_fall hD (k := 1) (by omega)) (rti_go hI (j := 1) (by omega) rfl rfl (by k_extra "rq") oc9 (fun h => by rcases h with h | h <;> cases h) (fun _ => .inr (List.append_ne_nil_of_right_ne_nil _ (List.cons_ne_nil _ _))) (⟨trivial, by intro h; cases h⟩) (fun d h => by cases h) (by (try dsimp only); rw [nx_goN, nx_lt hD]; simp only [List.length_append, List.length_cons, List.length_nil]; omega)) ⟨T9, B9, X9, P9, D9⟩ Fy Nz)
    | (have _ := mk_ea; exact hR ⟨nx fr n b, tx' fr n t b, tb9, u09, u19, nn9, n29, hvs9, .wd, _, q, (tok ++ [10]), _, _, _, _, _, _⟩ _ _ _ (go_fall hD (k := 1) (by omega)) (rti_go hI (j := 1) (by omega) rfl rfl (by k_extra "rq") oc9 (fun h => by rcases h with h | h <;> cases h) (fun _ => .inr (List.append_ne_nil_of_right_ne_nil _ (List.cons_ne_nil _ _))) (⟨trivial, by intro h; cases h⟩) (fun d h => by cases h) (by (try dsimp only); rw [nx_goN, nx_lt hD]; simp only [List.length_append, List.length_cons, List.length_nil]; omega)) ⟨T9, B9, X9, P9, D9⟩ Fy Nz)
    | (have _ := mk_eq; ((with_reducible rename Dn _ _ _ _ _ _ _ _ _ _ _ _ _ _ => dnz); (obtain ⟨h0z, a1, a2, a3, a4, a5, a6, a7⟩ := dnz g9 T9); (obtain ⟨e1, e2, e3, e4⟩ := hI.eo); (try dsimp only at e1 e2 e3 e4); rw [hD, rt.eq_def] at e1 e2 e3 e4; (try dsimp only at e1 e2 e3 e4); rw [← e1, ← e2, ← e3, ← e4] at hexc; exact hexc _ _ _ _ _ _ g9 h0z ⟨⟨_, rfl⟩, _, _, _, _, _, _, rfl, Nat.le_trans htl (Nat.mul_le_mul_left 2 (goN_lo fr ab b _)), tb9, u09, u19, nn9, n29, hvs9, oc9, rfl⟩ a1 a3 (a2 g9 (fun _ _ h => h)) a4 a5 a6 (by assumption) (by assumption)))
    | (have _ := mk_eq; exact hR ⟨nx fr n b, tx' fr n t b, tb9, u09, u19, nn9, n29, hvs9, (.qu 34), _, q, (tok ++ [92] ++ [c]), _, _, _, _, _, _⟩ _ _ _ (go_fall hD (k := 1) (by omega)) (rti_go hI (j := 1) (by omega) rfl rfl (by k_extra "rq") oc9 (fun h => by rcases h with h | h <;> cases h) (fun h => by cases h) (⟨trivial, by intro h; cases h⟩) (fun d h => by cases h; exact .inr rfl) (by (try dsimp only); rw [nx_goN, nx_lt hD]; simp only [List.length_append, List.length_cons, List.length_nil]; omega)) ⟨T9, B9, X9, P9, D9⟩ Fy Nz)
    | (have _ := mk_eq; exact hR ⟨nx fr n b, tx' fr n t b, tb9, u09, u19, nn9, n29, hvs9, (.qu 34), _, q, (tok ++ [92] ++ [10]), _, _, _, _, _, _⟩ _ _ _ (go_fall hD (k := 1) (by omega)) (rti_go hI (j := 1) (by omega) rfl rfl (by k_extra "rq") oc9 (fun h => by rcases h with h | h <;> cases h) (fun h => by cases h) (⟨trivial, by intro h; cases h⟩) (fun d h => by cases h; exact .inr rfl) (by (try dsimp only); rw [nx_goN, nx_lt hD]; simp only [List.length_append, List.length_cons, List.length_nil]; omega)) ⟨T9, B9, X9, P9, D9⟩ Fy Nz)
    | (have _ := mk_eq; exact hR ⟨nx fr n b, tx' fr n t b, tb9, u09, u19, nn9, n29, hvs9, (.qu 34), _, q, (tok ++ [c]), _, _, _, _, _, _⟩ _ _ _ (go_fall hD (k := 1) (by omega)) (rti_go hI (j := 1) (by omega) rfl rfl (by k_extra "rq") oc9 (fun h => by rcases h with h | h <;> cases h) (fun h => by cases h) (⟨trivial, by intro h; cases h⟩) (fun d h => by cases h; exact .inr rfl) (by (try dsimp only); rw [nx_goN, nx_lt hD]; simp only [List.length_append, List.length_cons, List.length_nil]; omega)) ⟨T9, B9, X9, P9, D9⟩ Fy Nz)
    | (have _ := mk_eq; exact hR ⟨nx fr n b, tx' fr n t b, tb9, u09, u19, nn9, n29, hvs9, (.qu 34), _, q, (tok ++ [92]), _, _, _, _, _, _⟩ _ _ _ (go_fall hD (k := 1) (by omega)) (rti_go hI (j := 1) (by omega) rfl rfl (by k_extra "rq") oc9 (fun h => by rcases h with h | h <;> cases h) (fun h => by cases h) (⟨trivial, by intro h; cases h⟩) (fun d h => by cases h; exact .inr rfl) (by (try dsimp only); rw [nx_goN, nx_lt hD]; simp only [List.length_append, List.length_cons, List.length_nil]; omega)) ⟨T9, B9, X9, P9, D9⟩ Fy Nz)
  k_with_none
end Mine
end
section
namespace Mine
theorem gtok (w : World) (sx sd fR cS c1 ha h2 : Addr) (tv tr : Tok) (pm ctv : Value) (oS o1 : Obj) (vs : Array Value) (t1 : Tok) (hS : oS.data = .cell (some (.ref sx))) (hc1 : o1.data = .fields vs) (hv1 : vs[1]? = some (.str "_law_stream.<locals>.<lambda>" t1)) (f1 k1 f2 k2 qc qh qs : Addr) (b : Bool) (tkc : Tok) (pm1 ct1 pm2 ct2 : Value) (ok1 ok2 oC oH oT : Obj) (vs1 vs2 : Array Value) (t2 t3 : Tok) (hk1 : ok1.data = .fields vs1) (hw1 : vs1[1]? = some (.str "_law_lexer.<locals>.<lambda>" t2)) (hk2 : ok2.data = .fields vs2) (hw2 : vs2[1]? = some (.str "_law_lexer.<locals>.<lambda>" t3)) (hC : oC.data = .cell (some (.int (kI b) tkc))) (hH : oH.data = .cell (some (.ref ha))) (hT : oT.data = .cell (some (.ref sx))) (lx ld src srd pb fs : Addr) (s1 s2 s3 : Tok) (kt vt : List Tok) (fr : List Fm) (hfr : FrOk fr) (n : Ns2) (t : Nat) (ab : Abs fr n t) (st : St) (sT : Tok) (tok : List UInt8) (tT : Tok) (ln : Int) (lT : Tok) (rs : Rest fr b n st tok) (tb u0 u1 : Tok) (nn n2 : Nat) (hvs : List Value) (oc : Octs hvs (mkA fr n t).oc) :
    CtrT w 718 [.ref lx] (chan w.params sx sd fR cS c1 ha h2 (encF (mkA fr n t).fs) tb tv tr pm ctv oS o1 (lat (mkA fr n t).y0) (lat (mkA fr n t).y1) u0 u1 nn hvs n2 ++ srcL f1 k1 f2 k2 qc qh qs pm1 ct1 pm2 ct2 ok1 ok2 oC oH oT ++ lexL w.params lx ld src srd pb fs f1 f2 b tkc s1 s2 s3 kt vt (stV st sT) tok tT ln lT ++ [(pb, dqO), (fs, dqO)]) 30 360
      (fun v own2 => resV (rt st false tok ((txt b fr).drop (n b))).res v ∧ ∃ o sT' tT' ln' lT', own2 = o ++ srcL f1 k1 f2 k2 qc qh qs pm1 ct1 pm2 ct2 ok1 ok2 oC oH oT ++ lexL w.params lx ld src srd pb fs f1 f2 b tkc s1 s2 s3 kt vt (stV (rt st false tok ((txt b fr).drop (n b))).st sT') [] tT' ln' lT' ++ [(pb, dqO), (fs, dqO)] ∧ HasCh w.params sx sd fR cS c1 ha h2 tv tr pm ctv oS o1 (mkA fr (goN fr n b (rt st false tok ((txt b fr).drop (n b))).k) (goT fr n t b (rt st false tok ((txt b fr).drop (n b))).k)) o)
      (fun xs own2 => errX (rt st false tok ((txt b fr).drop (n b))).res xs ∧ ∃ o sT' tok' tT' ln' lT', own2 = o ++ srcL f1 k1 f2 k2 qc qh qs pm1 ct1 pm2 ct2 ok1 ok2 oC oH oT ++ lexL w.params lx ld src srd pb fs f1 f2 b tkc s1 s2 s3 kt vt (stV (rt st false tok ((txt b fr).drop (n b))).st sT') tok' tT' ln' lT' ++ [(pb, dqO), (fs, dqO)] ∧ tok'.length ≤ 2 * goN fr n b (rt st false tok ((txt b fr).drop (n b))).k b ∧ HasCh w.params sx sd fR cS c1 ha h2 tv tr pm ctv oS o1 (mkA fr (goN fr n b (rt st false tok ((txt b fr).drop (n b))).k) (goT fr n t b (rt st false tok ((txt b fr).drop (n b))).k)) o) := by
  unfold CtrT
  k_fill
  k_with_none
  k_with "om" => (with_reducible first|assumption|exact rm1 (by assumption) rfl|exact rm2 (by assumption) rfl|exact rm3 (by assumption) rfl|exact rm0 (by assumption)|exact Nat.le_of_lt (by assumption)|exact Nat.le_add_right _ _|exact Nat.lt_succ_self _|exact Nat.le_of_not_lt (by assumption)|exact lt_i (by assumption)|exact nlt_i (by assumption)|exact le_big (by assumption) rfl)
  k_with "k_all" => (first|(first|assumption|exact off_lt (by walk_at "and_last")|exact off_le (by walk_at "and_last") (Nat.le_succ _)|exact off_le (by walk_at "and_last") (Nat.le_add_right _ _)|exact off_le' (by assumption) (Nat.le_refl _)|exact off_le' (by assumption) (Nat.le_succ _)|exact off_le' (by assumption) (Nat.le_add_right _ _)|exact off_le' (by assumption) (Nat.le_succ_of_le (Nat.le_succ _))|exact off_le' (by assumption) (Nat.le_succ_of_le (Nat.le_succ_of_le (Nat.le_succ _))))|fail)
  k_with "k_ne" => (first|(first|assumption|exact Ne.symm (by assumption))|fail)
  k_with "k_upd" => (first|((refine' upd_ap ?ap9 ?ae9 ?st9 ?sk9;(case ap9 => assumption);(case ae9 => exact rfl);(case st9 => walk_at "setn");(case sk9 => decide)))|fail)
  k_with "eval Name" => ((k_here;k_dflt (first|(refine' m_local (by first|exact rfl|fail) (by first|exact rfl|fail) (by decide) (by k_asm) (by first|exact rfl|fail) ?_;k_whole)|(refine' m_free (by first|exact rfl|fail) (by first|exact rfl|fail) (by decide) (by decide) (by first|exact rfl|fail) (by k_asm) (by k_mem) (by k_asm) ?_;k_whole)|(refine' m_global (by first|exact rfl|fail) (by first|exact rfl|fail) (by decide) (by first|exact rfl|fail) (by k_asm) (by k_asm) (by k_asm) (by k_is) ?_;k_whole)|(refine' m_builtin (by first|exact rfl|fail) (by first|exact rfl|fail) (by decide) (by first|exact rfl|fail) (by first|exact rfl|fail) (by k_asm) (by k_asm) (by k_asm) (by k_is) (by decide) (by first|(boot_by_name)|fail) ?_;k_whole))))
  k_with "call ref" => ((k_here;k_extra "m call"))
  k_with "m_enterT" => (((first|(refine' codeT (by k_asm) (by k_asm) (by k_asm) (by k_asm) (by k_asm) rfl rfl (by first|exact rfl|assumption|fail) (by assumption) (by assumption) (by assumption) (by first|assumption|exact KtsTurn.refl|fail) (by k_is) (by k_is) (by ktr_room) (by first|exact BindsTo.of_eq rfl|exact binds_K (by k_in) rfl (by k_is) rfl rfl rfl|fail) (by first|(exact locs rfl)|fail) ?_ (by first|exact rfl|fail) (by first|exact rfl|fail) (by first|exact rfl|fail) (by decide);k_whole;intro g' L' h' FG' F' N' B' X' T' D' dn';(try dsimp only);(try k_lift B');skip)|(refine' lamT (by k_asm) (by k_asm) (by k_asm) (by k_asm) (by k_asm) rfl rfl (by first|exact rfl|assumption|fail) (by assumption) (by assumption) (by assumption) (by first|assumption|exact KtsTurn.refl|fail) (by k_mem) (by first|(exact codeRec_news (by k_asm) (by k_mem) (by assumption) (by assumption))|fail) (by ktr_room) (by first|exact rfl|fail) (by first|(exact locs rfl)|fail) ?_ (by first|exact rfl|fail) (by first|exact rfl|fail) (by first|exact rfl|fail) (by decide);k_whole;intro g' L' h' FG' F' N' B' X' T' D' dn';(try dsimp only);(try k_lift B');skip)));(all_goals (first|(revert FG' F' N' B' X' T' D' dn';revert g' L' h';refine eps3 eH eN eH ?_;generalize q31 _ = g', q32 _ = L', q33 _ = h';refine hold3 ?_;intro FG' F' N' B' X' T' D' dn')|skip)))
  k_with "LeaveT" => ((((k_dflt (refine' leaveT (by k_asm) (by k_asm) (by first|assumption|exact KtsTurn.refl|fail) ?_;k_whole);intro h0' t0 b0 kF kN kx0 kt0 kd0;(try dsimp only))));(all_goals (first|(rename_i yy1 yy2 yy3 yy4 yy5;revert yy2 yy3 t0 b0 kF kN kx0 kt0 kd0;revert yy1 yy4 yy5 tk h0';refine eps5 eH eN eN eN eH ?_;generalize q51 _ = yy1, q52 _ = yy4, q53 _ = yy5, q54 _ = tk, q55 _ = h0';refine hold5 ?_;intro _ _ t0 b0 kF kN kx0 kt0 kd0)|(rename_i yy1 yy2 yy3;revert yy2 yy3 t0 b0 kF kN kx0 kt0 kd0;revert yy1 tk h0';refine eps3 eH eN eH ?_;generalize q31 _ = yy1, q32 _ = tk, q33 _ = h0';refine hold3 ?_;intro _ _ t0 b0 kF kN kx0 kt0 kd0)|skip)))
  k_with "seln" => (first|exact SelN.head|(apply SelN.tail;walk_at "seln"))
  k_with "pickn" => (first|exact PickN.nil|(apply PickN.cons;walk_at "seln";decide;walk_at "pickn"))
  k_with "getAttr ref" => ((k_here;(fail_if_success (with_reducible show wpAny _ _ (getAttr _ (PySem.Str.ofString "punctuation_chars") _) _ _ _));k_dflt (refine' get_own (by k_asm) (by k_asm) (by k_inst) (by k_is) (by k_is) (by k_is) (by k_is) (by k_get) (by k_handed) ?_;k_whole)))
  k_with "exec If" => ((k_here;refine wpAny_If ?_))
  k_with "execs cons" => (((with_reducible refine wpAny_execs_cons ?_);try dsimp only))
  k_with "ite" => ((k_here;k_dflt (first|refine ite_pos (by with_reducible exact rfl) ?_|(with_reducible refine ite_neg Bool.false_ne_true ?_)|(k_closed;first|refine ite_pos (by decide) ?_|refine ite_neg (by decide) ?_)|refine ite_pos (by with_reducible assumption) ?_|refine ite_neg (by with_reducible assumption) ?_|(refine split_dec ?_ ?_ <;> intro hi9))))
  k_with "truthy ref" => ((k_here;k_dflt (refine' truthy_dq (by first|(exact News.get (by k_asm) (by k_mem))|fail) ?_;k_whole)))
  intro hrow mean mg mb dp un gd cn cs a ccd cl outer A₀ base g₀ h₀ L m s rest Q E B F X N O D T XB TB Dd T0 hk hd hu hret hexc
  have AP : ApN 20 _ := apn_own O D
  clear O D
  simp only [srcL, strm, chan, heldL, List.cons_append, List.nil_append] at N
  k_with "m call" => ((((with_reducible show wpAny _ _ (call (Value.ref 725) _) _ _ _);k_dflt (refine' ctrT_use3 (by assumption) (by k_asm) (by k_asm) (by k_asm) (by k_asm) (by exact rfl) (by walk_at "pickn") (by k_asm) (by k_asm) (by k_asm) (by k_asm) (by first|assumption|exact KtsTurn.refl) (by first|exact rfl|assumption) (by ktr_room) (by ktr_units) (rtok w sx sd fR cS c1 ha h2 tv tr pm ctv oS o1 vs t1 hS hc1 hv1 f1 k1 f2 k2 qc qh qs b tkc pm1 ct1 pm2 ct2 ok1 ok2 oC oH oT vs1 vs2 t2 t3 hk1 hw1 hk2 hw2 hC hH hT lx ld src srd pb fs s1 s2 s3 kt vt fr hfr n t ab st sT tok tT ln lT rs tb u0 u1 nn n2 hvs oc) ?_;k_whole;intro AP9;refine And.intro ?_ ?_;(focus (intro e9 t9 xs9 own9 h9 tk9 G9 g9 hp9 T9 B9 F9 X9 P9 D9 R9 U9;(obtain ⟨hx9, hp9⟩ := hp9;k_dflt (refine ex6 hp9 ?_);clear hp9;intro o9 sT9 tok9 tT9 ln9 lT9 hp9;obtain ⟨e2, htl9, hp9⟩ := hp9;k_dflt (refine ex6 hp9 ?_);clear hp9;intro tb9 u09 u19 nn9 n29 hvs9 hp9;obtain ⟨oc9, e3⟩ := hp9);subst e2;subst e3;(try k_lift B9);(try dsimp only);skip));rotate_right;(focus (intro v9 own9 h9 tk9 g9 hp9 T9 B9 F9 N9 X9 P9 D9;obtain ⟨hv9, hp9⟩ := hp9;k_dflt (refine ex5 hp9 ?_);clear hp9;intro o9 sT9 tT9 ln9 lT9 hp9;obtain ⟨e2, hp9⟩ := hp9;k_dflt (refine ex6 hp9 ?_);clear hp9;intro tb9 u09 u19 nn9 n29 hvs9 hp9;obtain ⟨oc9, e3⟩ := hp9;subst e2;subst e3;simp only [srcL, strm, chan, heldL, List.cons_append, List.nil_append] at N9;(rcases hr : (rt st false tok ((txt b fr).drop (n b))).res with w9|_|_|_);rotate_left;rotate_left;(rw [hr] at hv9;exact hv9.elim);(rw [hr] at hv9;exact hv9.elim);(rw [hr] at hv9;obtain ⟨t9, e9⟩ := hv9;subst e9);rotate_left;(rw [hr] at hv9;(have e9 : v9 = Value.none := hv9);subst e9);rotate_left;all_goals (try k_lift B9);(try dsimp only);skip)))));(all_goals (first|(revert T9 B9 F9 X9 P9 D9 U9 hx9 htl9 oc9 R9;revert tk e9 t9 xs9 h9 tk9 G9 g9 sT9 tok9 tT9 ln9 lT9 tb9 u09 u19 nn9 n29 hvs9;refine eps8 eN eN eN eLV eH eN eH eH ?_;generalize q81 _ = tk, q82 _ = e9, q83 _ = t9, q84 _ = xs9, q85 _ = h9, q86 _ = tk9, q87 _ = G9, q88 _ = g9;refine hold8 ?_;refine eps8 eN eT eN eI eN eN eN eN ?_;generalize q81 _ = sT9, q82 _ = tok9, q83 _ = tT9, q84 _ = ln9, q85 _ = lT9, q86 _ = tb9, q87 _ = u09, q88 _ = u19;refine hold8 ?_;refine eps3 eN eN eLV ?_;generalize q31 _ = nn9, q32 _ = n29, q33 _ = hvs9;refine hold3 ?_;intro T9 B9 F9 X9 P9 D9 U9 hx9 htl9 oc9 R9)|(revert T9 B9 F9 X9 P9 D9 oc9 N9 hr;revert tk h9 tk9 g9 sT9 tT9 ln9 lT9 tb9 u09 u19 nn9 n29 hvs9 w9 t9;refine eps8 eN eH eN eH eN eN eI eN ?_;generalize q81 _ = tk, q82 _ = h9, q83 _ = tk9, q84 _ = g9, q85 _ = sT9, q86 _ = tT9, q87 _ = ln9, q88 _ = lT9;refine hold8 ?_;refine eps8 eN eN eN eN eN eLV eT eN ?_;generalize q81 _ = tb9, q82 _ = u09, q83 _ = u19, q84 _ = nn9, q85 _ = n29, q86 _ = hvs9, q87 _ = w9, q88 _ = t9;refine hold8 ?_;intro T9 B9 F9 X9 P9 D9 oc9 N9 hr)|(revert T9 B9 F9 X9 P9 D9 oc9 N9;revert tk h9 tk9 g9 sT9 tT9 ln9 lT9 tb9 u09 u19 nn9 n29 hvs9;refine eps8 eN eH eN eH eN eN eI eN ?_;generalize q81 _ = tk, q82 _ = h9, q83 _ = tk9, q84 _ = g9, q85 _ = sT9, q86 _ = tT9, q87 _ = ln9, q88 _ = lT9;refine hold8 ?_;refine eps6 eN eN eN eN eN eLV ?_;generalize q61 _ = tb9, q62 _ = u09, q63 _ = u19, q64 _ = nn9, q65 _ = n29, q66 _ = hvs9;refine hold6 ?_;intro T9 B9 F9 X9 P9 D9 oc9 N9)|skip)))
  revert hS hc1 hv1 hk1 hw1 hk2 hw2 hC hH hT hfr ab rs oc B F X N T XB TB Dd T0 hk hd hu hret hexc AP; revert w sx sd fR cS c1 ha h2 tv tr pm ctv oS o1 vs t1 f1 k1 f2 k2 qc qh qs b tkc pm1 ct1 pm2 ct2 ok1 ok2 oC oH oT vs1 vs2 t2 t3 lx ld src srd pb fs s1 s2 s3 kt vt fr n t st sT tok tT ln lT tb u0 u1 nn n2 hvs mean mg mb dp un gd cn cs a ccd cl outer A₀ base g₀ h₀ L m s rest Q E; refine eps8 eW eN eN eN eN eN eN eN ?_; generalize q81 _ = w, q82 _ = sx, q83 _ = sd, q84 _ = fR, q85 _ = cS, q86 _ = c1, q87 _ = ha, q88 _ = h2; refine hold8 ?_; refine eps8 eN eN eV eV eO eO eAV eN ?_; generalize q81 _ = tv, q82 _ = tr, q83 _ = pm, q84 _ = ctv, q85 _ = oS, q86 _ = o1, q87 _ = vs, q88 _ = t1; refine hold8 ?_; refine eps8 eN eN eN eN eN eN eN eB ?_; generalize q81 _ = f1, q82 _ = k1, q83 _ = f2, q84 _ = k2, q85 _ = qc, q86 _ = qh, q87 _ = qs, q88 _ = b; refine hold8 ?_; refine eps8 eN eV eV eV eV eO eO eO ?_; generalize q81 _ = tkc, q82 _ = pm1, q83 _ = ct1, q84 _ = pm2, q85 _ = ct2, q86 _ = ok1, q87 _ = ok2, q88 _ = oC; refine hold8 ?_; refine eps8 eO eO eAV eAV eN eN eN eN ?_; generalize q81 _ = oH, q82 _ = oT, q83 _ = vs1, q84 _ = vs2, q85 _ = t2, q86 _ = t3, q87 _ = lx, q88 _ = ld; refine hold8 ?_; refine eps8 eN eN eN eN eN eN eN eLN ?_; generalize q81 _ = src, q82 _ = srd, q83 _ = pb, q84 _ = fs, q85 _ = s1, q86 _ = s2, q87 _ = s3, q88 _ = kt; refine hold8 ?_; refine eps8 eLN eLFm eNs eN eSt eN eT eN ?_; generalize q81 _ = vt, q82 _ = fr, q83 _ = n, q84 _ = t, q85 _ = st, q86 _ = sT, q87 _ = tok, q88 _ = tT; refine hold8 ?_; refine eps8 eI eN eN eN eN eN eN eLV ?_; generalize q81 _ = ln, q82 _ = lT, q83 _ = tb, q84 _ = u0, q85 _ = u1, q86 _ = nn, q87 _ = n2, q88 _ = hvs; refine hold8 ?_; refine eps8 eEx eM eM eN eN eOC eS eSc ?_; generalize q81 _ = mean, q82 _ = mg, q83 _ = mb, q84 _ = dp, q85 _ = un, q86 _ = gd, q87 _ = cn, q88 _ = cs; refine hold8 ?_; refine eps8 eN eV eSA eEn eAr eH eH eH ?_; generalize q81 _ = a, q82 _ = ccd, q83 _ = cl, q84 _ = outer, q85 _ = A₀, q86 _ = base, q87 _ = g₀, q88 _ = h₀; refine hold8 ?_; refine eps6 eN eM eSh eL eP2 eP2 ?_; generalize q61 _ = L, q62 _ = m, q63 _ = s, q64 _ = rest, q65 _ = Q, q66 _ = E; refine hold6 ?_; intro hS hc1 hv1 hk1 hw1 hk2 hw2 hC hH hT hfr ab rs oc B F X N T XB TB Dd T0 hk hd hu hret hexc AP
  refine wpAny_call ?_
  k_dflt (walk_at "m_enterT")
  (with_reducible rename Fr _ _ _ _ => Fe9)
  replace Fe9 := fr_mp (l' := [("self", .ref lx)]) Fe9 rfl
  repeat' (first | (k_unfold; (try dsimp only)) | walk1 | (dsimp only; walk1) | (dsimp only; with_reducible refine lpost_brk ?_; try dsimp only))
  all_goals (try k_data)
  all_goals first
    | (exact hret _ _ _ _ _ ⟨by rw [hr]; exact ⟨_, rfl⟩, _, _, _, _, _, rfl, tb9, u09, u19, nn9, n29, hvs9, oc9, rfl⟩ (by first | assumption | exact KtsTurn.refl) (by assumption) (by assumption) (by assumption) (by assumption) (by assumption) (by assumption))
    | (exact hret _ _ _ _ _ ⟨by rw [hr]; exact rfl, _, _, _, _, _, rfl, tb9, u09, u19, nn9, n29, hvs9, oc9, rfl⟩ (by first | assumption | exact KtsTurn.refl) (by assumption) (by assumption) (by assumption) (by assumption) (by assumption) (by assumption))
    | (((with_reducible rename Dn _ _ _ _ _ _ _ _ _ _ _ _ _ _ => dnz); (obtain ⟨h0z, a1, a2, a3, a4, a5, a6, a7⟩ := dnz g9 T9); exact hexc _ _ _ _ _ _ g9 h0z ⟨hx9, _, _, _, _, _, _, rfl, htl9, tb9, u09, u19, nn9, n29, hvs9, oc9, rfl⟩ a1 a3 (a2 g9 (fun _ _ h => h)) a4 a5 a6 (by assumption) (by assumption)))
  k_with_none
end Mine
end
section
namespace Mine
def CtrU (w : World) (f : Addr) (vs : List Value) (own : Led) (D U : Nat) (post : Value → Led → Led → Prop) : Prop :=
  PySem.Challenge.rw_in0150_01 = PySem.Challenge.rw_in0150_01 → ∀ (mean : ExcName → Option Value) (mg mb : Str → Option Value) (dp un : Nat) (gd : Option (List Code)) (cn : Str) (cs : Scope) (a : Addr) (ccd : Value) (cl : List (Str × Addr)) (outer : List Env) (A₀ : Around)
    (base g₀ h₀ : Heap) (L : Addr) (m : Str → Option Value) (s : Shared) (rest : Led) (Q E : Value → Shared → Prop),
    Below A₀ base outer h₀ → Fr h₀ L s.heap m → (K w.params).In h₀ → News h₀ L s.heap (own ++ rest) → Offs rest own → Dis own → TopQ mean mg mb h₀ → (K w.params).In base → TopQ mean mg mb base → KtsDicts (fsO outer) h₀ → KtsTurn (fsO outer) g₀ h₀ → cs.kind = .function → dp + D < recursionLimit → un + U < cLine →
    (∀ v xt own' h' tk' h₀', post v xt own' → KtsTurn (fsO outer) g₀ h₀' → Below A₀ base outer h₀' → Fr h₀' L h' m → News h₀' L h' (xt ++ (own' ++ rest)) → (∀ q ∈ xt, ∀ p ∈ own' ++ rest, p.1 ≠ q.1) → (K w.params).In h₀' → TopQ mean mg mb h₀' → KtsDicts (fsO outer) h₀' → Q v { s with heap := h', toks := tk' }) →
    wpAny (model P0 w) (ktrTop dp un gd cn cs L a ccd cl outer) (call (.ref f) vs) Q E s
theorem told (w : World) (sx sd fR cS c1 ha h2 : Addr) (tv tr : Tok) (pm ctv : Value) (oS o1 : Obj) (vs : Array Value) (t1 : Tok) (hS : oS.data = .cell (some (.ref sx))) (hc1 : o1.data = .fields vs) (hv1 : vs[1]? = some (.str "_law_stream.<locals>.<lambda>" t1)) (f1 k1 f2 k2 qc qh qs : Addr) (b : Bool) (tkc : Tok) (pm1 ct1 pm2 ct2 : Value) (ok1 ok2 oC oH oT : Obj) (vs1 vs2 : Array Value) (t2 t3 : Tok) (hk1 : ok1.data = .fields vs1) (hw1 : vs1[1]? = some (.str "_law_lexer.<locals>.<lambda>" t2)) (hk2 : ok2.data = .fields vs2) (hw2 : vs2[1]? = some (.str "_law_lexer.<locals>.<lambda>" t3)) (hC : oC.data = .cell (some (.int (kI b) tkc))) (hH : oH.data = .cell (some (.ref ha))) (hT : oT.data = .cell (some (.ref sx))) (lx ld src srd pb fs : Addr) (s1 s2 s3 : Tok) (kt vt : List Tok) (fr : List Fm) (hfr : FrOk fr) (n : Ns2) (t : Nat) (ab : Abs fr n t) (st : St) (sT : Tok) (tok : List UInt8) (tT : Tok) (ln : Int) (lT : Tok) (rs : Rest fr b n st tok) (tb u0 u1 : Tok) (nn n2 : Nat) (hvs : List Value) (oc : Octs hvs (mkA fr n t).oc) :
    CtrU w 813 [.ref lx] (chan w.params sx sd fR cS c1 ha h2 (encF (mkA fr n t).fs) tb tv tr pm ctv oS o1 (lat (mkA fr n t).y0) (lat (mkA fr n t).y1) u0 u1 nn hvs n2 ++ srcL f1 k1 f2 k2 qc qh qs pm1 ct1 pm2 ct2 ok1 ok2 oC oH oT ++ lexL w.params lx ld src srd pb fs f1 f2 b tkc s1 s2 s3 kt vt (stV st sT) tok tT ln lT ++ [(pb, dqO), (fs, dqO)]) 34 400
      (fun v xt own2 => ∃ o sT' tok' tT' ln' lT', own2 = o ++ srcL f1 k1 f2 k2 qc qh qs pm1 ct1 pm2 ct2 ok1 ok2 oC oH oT ++ lexL w.params lx ld src srd pb fs f1 f2 b tkc s1 s2 s3 kt vt (stV (rt st false tok ((txt b fr).drop (n b))).st sT') tok' tT' ln' lT' ++ [(pb, dqO), (fs, dqO)] ∧ toldV (rt st false tok ((txt b fr).drop (n b))).res v xt ∧ tok'.length ≤ 2 * goN fr n b (rt st false tok ((txt b fr).drop (n b))).k b ∧ (isOk (rt st false tok ((txt b fr).drop (n b))).res → tok' = []) ∧ HasCh w.params sx sd fR cS c1 ha h2 tv tr pm ctv oS o1 (mkA fr (goN fr n b (rt st false tok ((txt b fr).drop (n b))).k) (goT fr n t b (rt st false tok ((txt b fr).drop (n b))).k)) o) := by
  unfold CtrU
  k_fill
  k_with_none
  k_with "om" => (with_reducible first|assumption|exact rm1 (by assumption) rfl|exact rm2 (by assumption) rfl|exact rm3 (by assumption) rfl|exact rm0 (by assumption)|exact Nat.le_of_lt (by assumption)|exact Nat.le_add_right _ _|exact Nat.lt_succ_self _|exact Nat.le_of_not_lt (by assumption)|exact lt_i (by assumption)|exact nlt_i (by assumption)|exact le_big (by assumption) rfl)
  k_with "k_all" => (first|(first|assumption|exact off_lt (by walk_at "and_last")|exact off_le (by walk_at "and_last") (Nat.le_succ _)|exact off_le (by walk_at "and_last") (Nat.le_add_right _ _)|exact off_le' (by assumption) (Nat.le_refl _)|exact off_le' (by assumption) (Nat.le_succ _)|exact off_le' (by assumption) (Nat.le_add_right _ _)|exact off_le' (by assumption) (Nat.le_succ_of_le (Nat.le_succ _))|exact off_le' (by assumption) (Nat.le_succ_of_le (Nat.le_succ_of_le (Nat.le_succ _))))|fail)
  k_with "k_ne" => (first|(first|assumption|exact Ne.symm (by assumption))|fail)
  k_with "k_upd" => (first|((refine' upd_ap ?ap9 ?ae9 ?st9 ?sk9;(case ap9 => assumption);(case ae9 => exact rfl);(case st9 => walk_at "setn");(case sk9 => first|decide|omega)))|fail)
  k_with "eval Name" => ((k_here;k_dflt (first|(refine' m_local (by first|exact rfl|fail) (by first|exact rfl|fail) (by decide) (by k_asm) (by first|exact rfl|fail) ?_;k_whole)|(refine' m_free (by first|exact rfl|fail) (by first|exact rfl|fail) (by decide) (by decide) (by first|exact rfl|fail) (by k_asm) (by k_mem) (by k_asm) ?_;k_whole)|(refine' m_global (by first|exact rfl|fail) (by first|exact rfl|fail) (by decide) (by first|exact rfl|fail) (by k_asm) (by k_asm) (by k_asm) (by k_is) ?_;k_whole)|(refine' m_builtin (by first|exact rfl|fail) (by first|exact rfl|fail) (by decide) (by first|exact rfl|fail) (by first|exact rfl|fail) (by k_asm) (by k_asm) (by k_asm) (by k_is) (by decide) (by first|(boot_by_name)|fail) ?_;k_whole))))
  k_with "call ref" => ((k_here;k_extra "m call"))
  k_with "m_enterT" => (((first|(refine' codeT (by k_asm) (by k_asm) (by k_asm) (by k_asm) (by k_asm) rfl rfl (by first|exact rfl|assumption|fail) (by assumption) (by assumption) (by assumption) (by first|assumption|exact KtsTurn.refl|fail) (by k_is) (by k_is) (by ktr_room) (by first|exact BindsTo.of_eq rfl|exact binds_K (by k_in) rfl (by k_is) rfl rfl rfl|fail) (by first|(exact locs rfl)|fail) ?_ (by first|exact rfl|fail) (by first|exact rfl|fail) (by first|exact rfl|fail) (by decide);k_whole;intro g' L' h' FG' F' N' B' X' T' D' dn';(try dsimp only);(try k_lift B');skip)|(refine' lamT (by k_asm) (by k_asm) (by k_asm) (by k_asm) (by k_asm) rfl rfl (by first|exact rfl|assumption|fail) (by assumption) (by assumption) (by assumption) (by first|assumption|exact KtsTurn.refl|fail) (by k_mem) (by first|(exact codeRec_news (by k_asm) (by k_mem) (by assumption) (by assumption))|fail) (by ktr_room) (by first|exact rfl|fail) (by first|(exact locs rfl)|fail) ?_ (by first|exact rfl|fail) (by first|exact rfl|fail) (by first|exact rfl|fail) (by decide);k_whole;intro g' L' h' FG' F' N' B' X' T' D' dn';(try dsimp only);(try k_lift B');skip)));(all_goals (first|(revert FG' F' N' B' X' T' D' dn';revert g' L' h';refine eps3 eH eN eH ?_;generalize q31 _ = g', q32 _ = L', q33 _ = h';refine hold3 ?_;intro FG' F' N' B' X' T' D' dn')|skip)))
  k_with "LeaveT" => ((((k_dflt (refine' leaveT (by k_asm) (by k_asm) (by first|assumption|exact KtsTurn.refl|fail) ?_;k_whole);intro h0' t0 b0 kF kN kx0 kt0 kd0;(try dsimp only))));(all_goals (first|(rename_i yy1 yy2 yy3 yy4;revert yy3 yy4 t0 b0 kF kN kx0 kt0 kd0;revert yy1 yy2 h0';refine eps3 eH eOv eH ?_;generalize q31 _ = yy1, q32 _ = yy2, q33 _ = h0';refine hold3 ?_;intro _ _ t0 b0 kF kN kx0 kt0 kd0)|(revert t0 b0 kF kN kx0 kt0 kd0;revert h0';refine eps1 eH ?_;generalize cex _ _ = h0';refine hold1 ?_;intro t0 b0 kF kN kx0 kt0 kd0)|skip)))
  k_with "seln" => (first|exact SelN.head|(apply SelN.tail;walk_at "seln"))
  k_with "pickn" => (first|exact PickN.nil|(apply PickN.cons;walk_at "seln";decide;walk_at "pickn"))
  k_with "execs cons" => (((with_reducible refine wpAny_execs_cons ?_);try dsimp only))
  k_with "newTuple" => ((((k_here;k_dflt (refine' kup_newTuple (by k_asm) (by k_asm) ?_ (by first|decide|exact Nat.le_of_ble_eq_true rfl|fail);k_whole);intro Dt ht Ft Nt lN)));(all_goals (first|(rename_i yy1 yy2 yy3 yy4 yy5 yy6 yy7 yy8 yy9 yy10 yy11 yy12 yy13;revert yy5 yy6 yy7 yy8 yy9 yy10 yy11 yy12 yy13 Ft Nt lN;revert yy1 yy2 yy3 yy4 Dt ht;refine eps6 eH eH eL eN eN eH ?_;generalize q61 _ = yy1, q62 _ = yy2, q63 _ = yy3, q64 _ = yy4, q65 _ = Dt, q66 _ = ht;refine hold6 ?_;intro _ _ _ _ _ _ _ _ _ Ft Nt lN)|skip)))
  intro hrow mean mg mb dp un gd cn cs a ccd cl outer A₀ base g₀ h₀ L m s rest Q E B F X N O D T XB TB Dd T0 hk hd hu hret
  have AP : ApN 20 _ := apn_own O D
  clear O D
  simp only [srcL, strm, chan, heldL, List.cons_append, List.nil_append] at N
  k_with "m call" => ((((with_reducible show wpAny _ _ (call (Value.ref 718) _) _ _ _);k_dflt (refine' ctrT_use3 (by assumption) (by k_asm) (by k_asm) (by k_asm) (by k_asm) (by exact rfl) (by walk_at "pickn") (by k_asm) (by k_asm) (by k_asm) (by k_asm) (by first|assumption|exact KtsTurn.refl) (by first|exact rfl|assumption) (by ktr_room) (by ktr_units) (gtok w sx sd fR cS c1 ha h2 tv tr pm ctv oS o1 vs t1 hS hc1 hv1 f1 k1 f2 k2 qc qh qs b tkc pm1 ct1 pm2 ct2 ok1 ok2 oC oH oT vs1 vs2 t2 t3 hk1 hw1 hk2 hw2 hC hH hT lx ld src srd pb fs s1 s2 s3 kt vt fr hfr n t ab st sT tok tT ln lT rs tb u0 u1 nn n2 hvs oc) ?_;k_whole;intro AP9;refine And.intro ?_ ?_;(focus (intro e9 t9 xs9 own9 h9 tk9 G9 g9 hp9 T9 B9 F9 X9 P9 D9 R9 U9;(obtain ⟨hx9, hp9⟩ := hp9;k_dflt (refine ex6 hp9 ?_);clear hp9;intro o9 sT9 tok9 tT9 ln9 lT9 hp9;obtain ⟨e2, htl9, hp9⟩ := hp9;k_dflt (refine ex6 hp9 ?_);clear hp9;intro tb9 u09 u19 nn9 n29 hvs9 hp9;obtain ⟨oc9, e3⟩ := hp9);subst e2;subst e3;(rcases hr : (rt st false tok ((txt b fr).drop (n b))).res with w9|_|_|_);(rw [hr] at hx9;exact hx9.elim);(rw [hr] at hx9;exact hx9.elim);(rw [hr] at hx9;obtain ⟨t9, e9⟩ := hx9;subst e9);rotate_left;(rw [hr] at hx9;obtain ⟨t9, e9⟩ := hx9;subst e9);rotate_left;all_goals ((try k_lift B9);(try dsimp only);skip)));rotate_right;(focus (intro v9 own9 h9 tk9 g9 hp9 T9 B9 F9 N9 X9 P9 D9;obtain ⟨hv9, hp9⟩ := hp9;k_dflt (refine ex5 hp9 ?_);clear hp9;intro o9 sT9 tT9 ln9 lT9 hp9;obtain ⟨e2, hp9⟩ := hp9;k_dflt (refine ex6 hp9 ?_);clear hp9;intro tb9 u09 u19 nn9 n29 hvs9 hp9;obtain ⟨oc9, e3⟩ := hp9;subst e2;subst e3;simp only [srcL, strm, chan, heldL, List.cons_append, List.nil_append] at N9;(rcases hr : (rt st false tok ((txt b fr).drop (n b))).res with w9|_|_|_);rotate_left;rotate_left;(rw [hr] at hv9;exact hv9.elim);(rw [hr] at hv9;exact hv9.elim);(rw [hr] at hv9;obtain ⟨t9, e9⟩ := hv9;subst e9);rotate_left;(rw [hr] at hv9;(have e9 : v9 = Value.none := hv9);subst e9);rotate_left;all_goals (try k_lift B9);(try dsimp only);skip)))));(all_goals (first|(rename_i yy1;revert T9 B9 F9 X9 P9 D9 U9 htl9 oc9 R9;revert e9 yy1 h9 tk9 G9 g9 sT9 tok9 tT9 ln9 lT9 tb9 u09 u19 nn9 n29 hvs9 t9;refine eps8 eN eN eH eN eH eH eN eT ?_;generalize q81 _ = e9, q82 _ = yy1, q83 _ = h9, q84 _ = tk9, q85 _ = G9, q86 _ = g9, q87 _ = sT9, q88 _ = tok9;refine hold8 ?_;refine eps8 eN eI eN eN eN eN eN eN ?_;generalize q81 _ = tT9, q82 _ = ln9, q83 _ = lT9, q84 _ = tb9, q85 _ = u09, q86 _ = u19, q87 _ = nn9, q88 _ = n29;refine hold8 ?_;refine eps2 eLV eN ?_;generalize q21 _ = hvs9, q22 _ = t9;refine hold2 ?_;intro T9 B9 F9 X9 P9 D9 U9 htl9 oc9 R9)|(revert T9 B9 F9 X9 P9 D9 oc9 N9 hr;revert h9 tk9 g9 sT9 tT9 ln9 lT9 tb9 u09 u19 nn9 n29 hvs9 w9 t9;refine eps8 eH eN eH eN eN eI eN eN ?_;generalize q81 _ = h9, q82 _ = tk9, q83 _ = g9, q84 _ = sT9, q85 _ = tT9, q86 _ = ln9, q87 _ = lT9, q88 _ = tb9;refine hold8 ?_;refine eps7 eN eN eN eN eLV eT eN ?_;generalize q71 _ = u09, q72 _ = u19, q73 _ = nn9, q74 _ = n29, q75 _ = hvs9, q76 _ = w9, q77 _ = t9;refine hold7 ?_;intro T9 B9 F9 X9 P9 D9 oc9 N9 hr)|(revert T9 B9 F9 X9 P9 D9 oc9 N9;revert h9 tk9 g9 sT9 tT9 ln9 lT9 tb9 u09 u19 nn9 n29 hvs9;refine eps8 eH eN eH eN eN eI eN eN ?_;generalize q81 _ = h9, q82 _ = tk9, q83 _ = g9, q84 _ = sT9, q85 _ = tT9, q86 _ = ln9, q87 _ = lT9, q88 _ = tb9;refine hold8 ?_;refine eps5 eN eN eN eN eLV ?_;generalize q51 _ = u09, q52 _ = u19, q53 _ = nn9, q54 _ = n29, q55 _ = hvs9;refine hold5 ?_;intro T9 B9 F9 X9 P9 D9 oc9 N9)|skip)))
  revert hS hc1 hv1 hk1 hw1 hk2 hw2 hC hH hT hfr ab rs oc B F X N T XB TB Dd T0 hk hd hu hret AP; revert w sx sd fR cS c1 ha h2 tv tr pm ctv oS o1 vs t1 f1 k1 f2 k2 qc qh qs b tkc pm1 ct1 pm2 ct2 ok1 ok2 oC oH oT vs1 vs2 t2 t3 lx ld src srd pb fs s1 s2 s3 kt vt fr n t st sT tok tT ln lT tb u0 u1 nn n2 hvs mean mg mb dp un gd cn cs a ccd cl outer A₀ base g₀ h₀ L m s rest Q E; refine eps8 eW eN eN eN eN eN eN eN ?_; generalize q81 _ = w, q82 _ = sx, q83 _ = sd, q84 _ = fR, q85 _ = cS, q86 _ = c1, q87 _ = ha, q88 _ = h2; refine hold8 ?_; refine eps8 eN eN eV eV eO eO eAV eN ?_; generalize q81 _ = tv, q82 _ = tr, q83 _ = pm, q84 _ = ctv, q85 _ = oS, q86 _ = o1, q87 _ = vs, q88 _ = t1; refine hold8 ?_; refine eps8 eN eN eN eN eN eN eN eB ?_; generalize q81 _ = f1, q82 _ = k1, q83 _ = f2, q84 _ = k2, q85 _ = qc, q86 _ = qh, q87 _ = qs, q88 _ = b; refine hold8 ?_; refine eps8 eN eV eV eV eV eO eO eO ?_; generalize q81 _ = tkc, q82 _ = pm1, q83 _ = ct1, q84 _ = pm2, q85 _ = ct2, q86 _ = ok1, q87 _ = ok2, q88 _ = oC; refine hold8 ?_; refine eps8 eO eO eAV eAV eN eN eN eN ?_; generalize q81 _ = oH, q82 _ = oT, q83 _ = vs1, q84 _ = vs2, q85 _ = t2, q86 _ = t3, q87 _ = lx, q88 _ = ld; refine hold8 ?_; refine eps8 eN eN eN eN eN eN eN eLN ?_; generalize q81 _ = src, q82 _ = srd, q83 _ = pb, q84 _ = fs, q85 _ = s1, q86 _ = s2, q87 _ = s3, q88 _ = kt; refine hold8 ?_; refine eps8 eLN eLFm eNs eN eSt eN eT eN ?_; generalize q81 _ = vt, q82 _ = fr, q83 _ = n, q84 _ = t, q85 _ = st, q86 _ = sT, q87 _ = tok, q88 _ = tT; refine hold8 ?_; refine eps8 eI eN eN eN eN eN eN eLV ?_; generalize q81 _ = ln, q82 _ = lT, q83 _ = tb, q84 _ = u0, q85 _ = u1, q86 _ = nn, q87 _ = n2, q88 _ = hvs; refine hold8 ?_; refine eps8 eEx eM eM eN eN eOC eS eSc ?_; generalize q81 _ = mean, q82 _ = mg, q83 _ = mb, q84 _ = dp, q85 _ = un, q86 _ = gd, q87 _ = cn, q88 _ = cs; refine hold8 ?_; refine eps8 eN eV eSA eEn eAr eH eH eH ?_; generalize q81 _ = a, q82 _ = ccd, q83 _ = cl, q84 _ = outer, q85 _ = A₀, q86 _ = base, q87 _ = g₀, q88 _ = h₀; refine hold8 ?_; refine eps6 eN eM eSh eL eP2 eP2 ?_; generalize q61 _ = L, q62 _ = m, q63 _ = s, q64 _ = rest, q65 _ = Q, q66 _ = E; refine hold6 ?_; intro hS hc1 hv1 hk1 hw1 hk2 hw2 hC hH hT hfr ab rs oc B F X N T XB TB Dd T0 hk hd hu hret AP
  refine wpAny_call ?_
  k_dflt (walk_at "m_enterT")
  (with_reducible rename Fr _ _ _ _ => Fe9)
  replace Fe9 := fr_mp (l' := [("lexer", .ref lx)]) Fe9 rfl
  repeat' (first | (k_unfold; (try dsimp only)) | walk1 | (dsimp only; walk1) | (dsimp only; with_reducible refine lpost_brk ?_; try dsimp only))
  all_goals (try k_data)
  all_goals first
    | ((refine hret _ [] _ _ _ _ ⟨_, _, [], _, _, _, rfl, ?_, Nat.zero_le _, fun _ => rfl, tb9, u09, u19, nn9, n29, hvs9, oc9, rfl⟩ (by first | assumption | exact KtsTurn.refl) (by assumption) (by assumption) (by assumption) (fun _ h => nomatch h) (by assumption) (by assumption) (by assumption); rw [hr]; exact ⟨rfl, _, rfl⟩))
    | ((refine hret _ [] _ _ _ _ ⟨_, _, [], _, _, _, rfl, ?_, Nat.zero_le _, fun _ => rfl, tb9, u09, u19, nn9, n29, hvs9, oc9, rfl⟩ (by first | assumption | exact KtsTurn.refl) (by assumption) (by assumption) (by assumption) (fun _ h => nomatch h) (by assumption) (by assumption) (by assumption); rw [hr]; exact ⟨rfl, rfl⟩))
    | ((refine hret _ [(_, { cls := .type "tuple", data := .seq #[.str "refused" _, .str "No closing quotation" _] _ })] _ _ _ _ ⟨_, _, tok9, _, _, _, rfl, ?_, htl9, ?_, tb9, u09, u19, nn9, n29, hvs9, oc9, rfl⟩ (by first | assumption | exact KtsTurn.refl) (by assumption) (by assumption) (by assumption) (fun q hq p hp => by rcases List.mem_singleton.mp hq with rfl; exact Nat.ne_of_lt (lN p hp)) (by assumption) (by assumption) (by assumption); (rw [hr]; exact ⟨_, _, _, _, rfl, rfl⟩); (rw [hr]; exact fun h => h.elim)))
    | ((refine hret _ [(_, { cls := .type "tuple", data := .seq #[.str "refused" _, .str "No escaped character" _] _ })] _ _ _ _ ⟨_, _, tok9, _, _, _, rfl, ?_, htl9, ?_, tb9, u09, u19, nn9, n29, hvs9, oc9, rfl⟩ (by first | assumption | exact KtsTurn.refl) (by assumption) (by assumption) (by assumption) (fun q hq p hp => by rcases List.mem_singleton.mp hq with rfl; exact Nat.ne_of_lt (lN p hp)) (by assumption) (by assumption) (by assumption); (rw [hr]; exact ⟨_, _, _, _, rfl, rfl⟩); (rw [hr]; exact fun h => h.elim)))
  k_with_none
end Mine
end
section
namespace Mine
theorem lexer1 (w : World) (sx ha : Addr) (b : Bool) (tkc : Tok) :
    CtrN w 806 [.ref sx, .ref ha, .int (kI b) tkc] [(801, tabObj #[])] 12 120 (fun v own2 new => ∃ (lx ld src srd pb fs f1 k1 f2 k2 qc qh qs : Addr) (s1 s2 s3 sT tT lT : Tok) (kt vt : List Tok) (pm1 ct1 pm2 ct2 : Value) (ok1 ok2 oC oH oT : Obj) (vs1 vs2 : Array Value) (t2 t3 : Tok),
      v = .ref lx ∧ own2 = [(801, tabObj (tab2 k1 k2))] ∧ new = [(fs, dqO), (pb, dqO), (lx, instObj 757 ld), (ld, lexO w.params kt vt src pb fs (stV .sp sT) [] tT 1 lT), (f2, lamL qc qh qs pm2 k2 ct2), (k2, ok2), (f1, lamR qc qh qs pm1 k1 ct1), (k1, ok1), (src, instObj 70 srd), (srd, sclO w.params f1 f2 b tkc s1 s2 s3), (qc, oC), (qh, oH), (qs, oT)] ∧ SrcOk sx ha b tkc ok1 ok2 oC oH oT vs1 vs2 t2 t3) := by
  unfold CtrN
  k_fill
  k_with_none
  k_with "om" => (with_reducible first|assumption|exact rm1 (by assumption) rfl|exact rm2 (by assumption) rfl|exact rm3 (by assumption) rfl|exact rm0 (by assumption)|exact Nat.le_of_lt (by assumption)|exact Nat.le_add_right _ _|exact Nat.lt_succ_self _|exact Nat.le_of_not_lt (by assumption)|exact lt_i (by assumption)|exact nlt_i (by assumption)|exact le_big (by assumption) rfl)
  k_with "k_all" => (first|(first|assumption|exact off_lt (by walk_at "and_last")|exact off_le (by walk_at "and_last") (Nat.le_succ _)|exact off_le (by walk_at "and_last") (Nat.le_add_right _ _)|exact off_le' (by assumption) (Nat.le_refl _)|exact off_le' (by assumption) (Nat.le_succ _)|exact off_le' (by assumption) (Nat.le_add_right _ _)|exact off_le' (by assumption) (Nat.le_succ_of_le (Nat.le_succ _))|exact off_le' (by assumption) (Nat.le_succ_of_le (Nat.le_succ_of_le (Nat.le_succ _))))|fail)
  k_with "k_ne" => (first|(first|assumption|exact Ne.symm (by assumption))|fail)
  k_with "k_upd" => (first|((refine' upd_ap ?ap9 ?ae9 ?st9 ?sk9;(case ap9 => assumption);(case ae9 => exact rfl);(case st9 => walk_at "setn");(case sk9 => first|decide|omega)))|fail)
  k_with "k_updF" => (first|((refine' updF_ap ?ap9 ?ae9 ?st9 ?sk9;(case ap9 => assumption);(case ae9 => exact rfl);(case st9 => walk_at "setf");(case sk9 => first|decide|omega)))|fail)
  k_with "m_enter" => (((first|(refine' code_def (by k_asm) (by k_asm) (by k_asm) (by k_asm) (by k_asm) rfl rfl (by first|exact rfl|assumption|fail) (by k_is) (by k_is) (by ktr_room) (by first|exact BindsTo.of_eq rfl|exact binds_K (by k_in) rfl (by k_is) rfl rfl rfl|fail) (by first|(exact locs rfl)|fail) ?_ (by first|exact rfl|fail) (by first|exact rfl|fail) (by first|exact rfl|fail) (by decide);k_whole;intro g' L' h' FG' F' N' B' X' T';(try dsimp only);(try k_lift B');skip)|(refine' code_defC (by k_asm) (by k_asm) (by k_asm) (by k_asm) (by k_asm) rfl rfl (by first|exact rfl|assumption|fail) (by k_is) (by k_is) (by ktr_room) (by first|exact BindsTo.of_eq rfl|exact binds_K (by k_in) rfl (by k_is) rfl rfl rfl|fail) (by first|exact rfl|fail) (by first|(decide +kernel)|fail) ?_ (by first|exact rfl|fail) (by first|exact rfl|fail) (by first|exact rfl|fail);k_whole;intro g' L' h' tk' cells' FG' F' N' Y' B' X' T' l1;(try k_lt l1);k_cells Y';(try simp only [List.cons_append, List.nil_append] at N');(try dsimp only);(try k_lift B');skip)));(all_goals (first|(rename_i u19 u29 u39;revert u29 u39 APy FG' F' N' B' X' T';revert x' d' u19 g' L' h';refine eps6 eN eN eH eH eN eH ?_;generalize q61 _ = x', q62 _ = d', q63 _ = u19, q64 _ = g', q65 _ = L', q66 _ = h';refine hold6 ?_;intro _ _ APy FG' F' N' B' X' T')|skip)))
  k_with "eval Name" => ((k_here;k_dflt (first|(refine' m_local (by first|exact rfl|fail) (by first|exact rfl|fail) (by decide) (by k_asm) (by first|exact rfl|fail) ?_;k_whole)|(refine' m_free (by first|exact rfl|fail) (by first|exact rfl|fail) (by decide) (by decide) (by first|exact rfl|fail) (by k_asm) (by k_mem) (by k_asm) ?_;k_whole)|(refine' m_global (by first|exact rfl|fail) (by first|exact rfl|fail) (by decide) (by first|exact rfl|fail) (by k_asm) (by k_asm) (by k_asm) (by k_is) ?_;k_whole)|(refine' m_builtin (by first|exact rfl|fail) (by first|exact rfl|fail) (by decide) (by first|exact rfl|fail) (by first|exact rfl|fail) (by k_asm) (by k_asm) (by k_asm) (by k_is) (by decide) (by first|(boot_by_name)|fail) ?_;k_whole))))
  k_with "setn" => (first|exact SetN.head|(apply SetN.tail;walk_at "setn"))
  k_with "getAttr ref" => ((k_here;(fail_if_success (with_reducible show wpAny _ _ (getAttr _ (PySem.Str.ofString "punctuation_chars") _) _ _ _));k_dflt (refine' get_own (by k_asm) (by k_asm) (by k_inst) (by k_is) (by k_is) (by k_is) (by k_is) (by k_get) (by k_handed) ?_;k_whole)))
  k_with "exec If" => ((k_here;refine wpAny_If ?_))
  k_with "execs cons" => (((with_reducible refine wpAny_execs_cons ?_);try dsimp only))
  k_with "ite" => ((k_here;k_dflt (first|refine ite_pos (by with_reducible exact rfl) ?_|(with_reducible refine ite_neg Bool.false_ne_true ?_)|(k_closed;first|refine ite_pos (by decide) ?_|refine ite_neg (by decide) ?_)|refine ite_pos (by with_reducible assumption) ?_|refine ite_neg (by with_reducible assumption) ?_|(refine split_dec ?_ ?_ <;> intro hi9))))
  k_with "setAttr ref" => ((((k_here;k_dflt (refine' set_dict (by k_asm) (by k_asm) (by k_asm) (by k_inst) (by first|exact rfl|fail) (by k_is) (by k_is) (by k_is) (by k_is) (by k_get) (by k_put) (by k_upd) (by first|(exact Nat.le_of_ble_eq_true rfl)|fail) ?_;k_whole;intro h' F' N';(try dsimp only at N');(try dsimp only);(try k_sweep)))));(all_goals (first|(rename_i u19 u29 u39 u49;revert F' N';revert u19 u49 h';refine eps3 eN eH eH ?_;generalize q31 _ = u19, q32 _ = u49, q33 _ = h';refine hold3 ?_;intro F' N')|(rename_i u19;revert F' N';revert u19 h';refine eps2 eN eH ?_;generalize q21 _ = u19, q22 _ = h';refine hold2 ?_;intro F' N')|(rename_i u19;revert F' N';revert u19 h';refine eps2 eH eH ?_;generalize q21 _ = u19, q22 _ = h';refine hold2 ?_;intro F' N')|(revert F' N';revert tk h';refine eps2 eN eH ?_;generalize q21 _ = tk, q22 _ = h';refine hold2 ?_;intro F' N')|(revert F' N';revert h';refine eps1 eH ?_;generalize cex _ _ = h';refine hold1 ?_;intro F' N')|skip)))
  k_with "setf" => (first|exact SetF.head|(apply SetF.tail;walk_at "setf"))
  k_with "call ref" => ((k_here;k_dflt (refine' call_cls (by k_asm) (by k_asm) (by k_asm) (by k_is) (by k_is) (by k_is) ?_;k_whole;intro x' d' h' F' N' l1 l2;(with_reducible rename ApN _ _ => APz);(have APy := ap_two l1 l2 APz rfl dqO dqO);(clear APz l1 l2);(try k_sweep);walk_at "m_enter")))
  k_with "eval Lambda" => ((((k_here;kn_here;k_dflt (refine' kla_eval (by first|exact rfl|fail) ?_);(k_dflt (refine' kla_nest (by k_asm) (by k_asm) (by k_asm) (by first|(kn_code)|fail) rfl (by k_updF) (by first|(kn_triples)|fail) (by first|(kn_among)|fail) (by first|exact rfl|fail) ?_;k_whole);intro f' c' oc' vs' t' ct' h' tk' F' N' d1' d2' l1 l2;(try dsimp only at N');(with_reducible rename ApN _ _ => APz);(have APy := ap_two l1 l2 APz rfl dqO dqO);(clear APz l1 l2)))));(all_goals (first|(rename_i u19 u29 u39 u49 u59;revert u49 u59 F' N' d1' d2' APy;revert tk u39 f' c' oc' vs' t' ct' h' tk';refine eps8 eN eH eN eN eO eAV eN eV ?_;generalize q81 _ = tk, q82 _ = u39, q83 _ = f', q84 _ = c', q85 _ = oc', q86 _ = vs', q87 _ = t', q88 _ = ct';refine hold8 ?_;refine eps2 eH eN ?_;generalize q21 _ = h', q22 _ = tk';refine hold2 ?_;intro _ _ F' N' d1' d2' APy)|(revert F' N' d1' d2' APy;revert f' c' oc' vs' t' ct' h' tk';refine eps8 eN eN eO eAV eN eV eH eN ?_;generalize q81 _ = f', q82 _ = c', q83 _ = oc', q84 _ = vs', q85 _ = t', q86 _ = ct', q87 _ = h', q88 _ = tk';refine hold8 ?_;intro F' N' d1' d2' APy)|skip)))
  k_with "call type:collections.deque" => ((((k_here;k_dflt (refine' m_dq (by k_asm) (by k_asm) ?_;k_whole);intro D' h' F' N' l1;(with_reducible rename ApN _ _ => APz);(have APy := ap_one l1 APz rfl dqO);(clear APz l1);(try k_sweep))));(all_goals (first|(revert F' N' APy;revert D' h';refine eps2 eN eH ?_;generalize q21 _ = D', q22 _ = h';refine hold2 ?_;intro F' N' APy)|skip)))
  k_with "m_enterC" => ((((refine' code_defC (by k_asm) (by k_asm) (by k_asm) (by k_asm) (by k_asm) rfl rfl (by first|exact rfl|assumption|fail) (by k_is) (by k_is) (by ktr_room) (by first|exact BindsTo.of_eq rfl|exact binds_K (by k_in) rfl (by k_is) rfl rfl rfl|fail) (by first|exact rfl|fail) (by first|(decide +kernel)|fail) ?_ (by first|exact rfl|fail) (by first|exact rfl|fail) (by first|exact rfl|fail);k_whole;intro g' L' h' tk' cells' FG' F' N' Y' B' X' T' l1;(with_reducible rename ApN _ _ => APz);(have APy := ap_cells3 l1 APz rfl dqO dqO dqO);(clear APz l1);k_cells Y';(try simp only [List.cons_append, List.nil_append] at N');(try dsimp only);(try k_lift B');skip)));(all_goals (first|(rename_i u19 u29 u39 u49 u59 u69;revert FG' F' B' X' T' APy u49 u59 u69 N';revert g' L' h' tk' u19 u29 u39;refine eps7 eH eN eH eN eO eO eO ?_;generalize q71 _ = g', q72 _ = L', q73 _ = h', q74 _ = tk', q75 _ = u19, q76 _ = u29, q77 _ = u39;refine hold7 ?_;intro FG' F' B' X' T' APy _ _ _ N')|skip)))
  k_with "inplaceOp Add str str" => ((((k_here;(with_reducible refine m_wadd ?_);intro _ _)));(all_goals (first|(rename_i u19 u29;revert u19 u29;refine eps2 eN eN ?_;generalize q21 _ = u19, q22 _ = u29;refine hold2 ?_)|skip)))
  intro hrow mean mg mb dp un gd cn cs a ccd cl outer A₀ base h₀ L m s rest na Q E B F X N AP hna T C1 C2 hk hd hu hret
  have hna : 1 ≤ na := hna
  simp only [srcL, strm, chan, heldL, List.cons_append, List.nil_append] at N
  rename_i u19; revert B F X N AP u19 T C1 C2 hk hd hu hret hna; revert w sx ha b tkc mean mg mb dp un gd cn cs a ccd cl outer A₀ base h₀ L m s rest na Q E; refine eps8 eW eN eN eB eN eEx eM eM ?_; generalize q81 _ = w, q82 _ = sx, q83 _ = ha, q84 _ = b, q85 _ = tkc, q86 _ = mean, q87 _ = mg, q88 _ = mb; refine hold8 ?_; refine eps8 eN eN eOC eS eSc eN eV eSA ?_; generalize q81 _ = dp, q82 _ = un, q83 _ = gd, q84 _ = cn, q85 _ = cs, q86 _ = a, q87 _ = ccd, q88 _ = cl; refine hold8 ?_; refine eps8 eEn eAr eH eH eN eM eSh eL ?_; generalize q81 _ = outer, q82 _ = A₀, q83 _ = base, q84 _ = h₀, q85 _ = L, q86 _ = m, q87 _ = s, q88 _ = rest; refine hold8 ?_; refine eps3 eN eP2 eP2 ?_; generalize q31 _ = na, q32 _ = Q, q33 _ = E; refine hold3 ?_; intro B F X N AP _ T C1 C2 hk hd hu hret hna
  refine wpAny_call ?_
  k_dflt (walk_at "m_enterC")
  repeat' (first | (k_unfold; (try dsimp only)) | walk1 | (dsimp only; walk1) | (dsimp only; with_reducible refine lpost_brk ?_; try dsimp only))
  all_goals (try k_data)
  (with_reducible rename ApN _ _ => APz)
  refine hret _ _ _ _ _ ⟨_, _, _, _, _, _, _, _, _, _, _, _, _, _, _, _, _, _, _, [_, _, _, _, _, _, _, _, _, _, _, _, _, _, _, _, _, _, _], [_, _, _, _, _, _, _, _], _, _, _, _, _, _, _, _, _, ?v1, ?v2, ?w1, ?w2, rfl, rfl, rfl, ?facts⟩ (by assumption) (by assumption) (apn_cast APz ?sz rfl)
  case facts => exact ⟨by assumption, by assumption, by assumption, by assumption, by assumption, by assumption, by assumption⟩
  case sz => simp only [List.length_cons, List.length_nil]; omega
theorem lexer2 (w : World) (sx ha : Addr) (b : Bool) (tkc : Tok) (k1 k2 : Addr) (ok1 ok2 : Obj) (vs1 vs2 : Array Value) (t2 t3 : Tok) (hk1 : ok1.data = .fields vs1) (hw1 : vs1[1]? = some (.str "_law_lexer.<locals>.<lambda>" t2)) (hk2 : ok2.data = .fields vs2) (hw2 : vs2[1]? = some (.str "_law_lexer.<locals>.<lambda>" t3)) :
    CtrN w 806 [.ref sx, .ref ha, .int (kI b) tkc] [(801, tabObj (tab2 k1 k2)), (k1, ok1), (k2, ok2)] 12 120 (fun v own2 new => ∃ (lx ld src srd pb fs f1 f2 qc qh qs : Addr) (s1 s2 s3 sT tT lT : Tok) (kt vt : List Tok) (pm1 ct1 pm2 ct2 : Value) (oC oH oT : Obj),
      v = .ref lx ∧ own2 = [(801, tabObj (tab2 k1 k2)), (k1, ok1), (k2, ok2)] ∧ new = [(fs, dqO), (pb, dqO), (lx, instObj 757 ld), (ld, lexO w.params kt vt src pb fs (stV .sp sT) [] tT 1 lT), (f2, lamL qc qh qs pm2 k2 ct2), (f1, lamR qc qh qs pm1 k1 ct1), (src, instObj 70 srd), (srd, sclO w.params f1 f2 b tkc s1 s2 s3), (qc, oC), (qh, oH), (qs, oT)] ∧ SrcOk sx ha b tkc ok1 ok2 oC oH oT vs1 vs2 t2 t3) := by
  unfold CtrN
  k_fill
  k_with_none
  k_with "om" => (with_reducible first|assumption|exact rm1 (by assumption) rfl|exact rm2 (by assumption) rfl|exact rm3 (by assumption) rfl|exact rm0 (by assumption)|exact Nat.le_of_lt (by assumption)|exact Nat.le_add_right _ _|exact Nat.lt_succ_self _|exact Nat.le_of_not_lt (by assumption)|exact lt_i (by assumption)|exact nlt_i (by assumption)|exact le_big (by assumption) rfl)
  k_with "k_all" => (first|(first|assumption|exact off_lt (by walk_at "and_last")|exact off_le (by walk_at "and_last") (Nat.le_succ _)|exact off_le (by walk_at "and_last") (Nat.le_add_right _ _)|exact off_le' (by assumption) (Nat.le_refl _)|exact off_le' (by assumption) (Nat.le_succ _)|exact off_le' (by assumption) (Nat.le_add_right _ _)|exact off_le' (by assumption) (Nat.le_succ_of_le (Nat.le_succ _))|exact off_le' (by assumption) (Nat.le_succ_of_le (Nat.le_succ_of_le (Nat.le_succ _))))|fail)
  k_with "k_ne" => (first|(first|assumption|exact Ne.symm (by assumption))|fail)
  k_with "k_upd" => (first|((refine' upd_ap ?ap9 ?ae9 ?st9 ?sk9;(case ap9 => assumption);(case ae9 => exact rfl);(case st9 => walk_at "setn");(case sk9 => first|decide|omega)))|fail)
  k_with "k_updF" => (first|((refine' updF_ap ?ap9 ?ae9 ?st9 ?sk9;(case ap9 => assumption);(case ae9 => exact rfl);(case st9 => walk_at "setf");(case sk9 => first|decide|omega)))|fail)
  k_with "m_enter" => (((first|(refine' code_def (by k_asm) (by k_asm) (by k_asm) (by k_asm) (by k_asm) rfl rfl (by first|exact rfl|assumption|fail) (by k_is) (by k_is) (by ktr_room) (by first|exact BindsTo.of_eq rfl|exact binds_K (by k_in) rfl (by k_is) rfl rfl rfl|fail) (by first|(exact locs rfl)|fail) ?_ (by first|exact rfl|fail) (by first|exact rfl|fail) (by first|exact rfl|fail) (by decide);k_whole;intro g' L' h' FG' F' N' B' X' T';(try dsimp only);(try k_lift B');skip)|(refine' code_defC (by k_asm) (by k_asm) (by k_asm) (by k_asm) (by k_asm) rfl rfl (by first|exact rfl|assumption|fail) (by k_is) (by k_is) (by ktr_room) (by first|exact BindsTo.of_eq rfl|exact binds_K (by k_in) rfl (by k_is) rfl rfl rfl|fail) (by first|exact rfl|fail) (by first|(decide +kernel)|fail) ?_ (by first|exact rfl|fail) (by first|exact rfl|fail) (by first|exact rfl|fail);k_whole;intro g' L' h' tk' cells' FG' F' N' Y' B' X' T' l1;(try k_lt l1);k_cells Y';(try simp only [List.cons_append, List.nil_append] at N');(try dsimp only);(try k_lift B');skip)));(all_goals (first|(rename_i u19 u29 u39;revert u29 u39 APy FG' F' N' B' X' T';revert x' d' u19 g' L' h';refine eps6 eN eN eH eH eN eH ?_;generalize q61 _ = x', q62 _ = d', q63 _ = u19, q64 _ = g', q65 _ = L', q66 _ = h';refine hold6 ?_;intro _ _ APy FG' F' N' B' X' T')|skip)))
  k_with "eval Name" => ((k_here;k_dflt (first|(refine' m_local (by first|exact rfl|fail) (by first|exact rfl|fail) (by decide) (by k_asm) (by first|exact rfl|fail) ?_;k_whole)|(refine' m_free (by first|exact rfl|fail) (by first|exact rfl|fail) (by decide) (by decide) (by first|exact rfl|fail) (by k_asm) (by k_mem) (by k_asm) ?_;k_whole)|(refine' m_global (by first|exact rfl|fail) (by first|exact rfl|fail) (by decide) (by first|exact rfl|fail) (by k_asm) (by k_asm) (by k_asm) (by k_is) ?_;k_whole)|(refine' m_builtin (by first|exact rfl|fail) (by first|exact rfl|fail) (by decide) (by first|exact rfl|fail) (by first|exact rfl|fail) (by k_asm) (by k_asm) (by k_asm) (by k_is) (by decide) (by first|(boot_by_name)|fail) ?_;k_whole))))
  k_with "setn" => (first|exact SetN.head|(apply SetN.tail;walk_at "setn"))
  k_with "getAttr ref" => ((k_here;(fail_if_success (with_reducible show wpAny _ _ (getAttr _ (PySem.Str.ofString "punctuation_chars") _) _ _ _));k_dflt (refine' get_own (by k_asm) (by k_asm) (by k_inst) (by k_is) (by k_is) (by k_is) (by k_is) (by k_get) (by k_handed) ?_;k_whole)))
  k_with "exec If" => ((k_here;refine wpAny_If ?_))
  k_with "execs cons" => (((with_reducible refine wpAny_execs_cons ?_);try dsimp only))
  k_with "ite" => ((k_here;k_dflt (first|refine ite_pos (by with_reducible exact rfl) ?_|(with_reducible refine ite_neg Bool.false_ne_true ?_)|(k_closed;first|refine ite_pos (by decide) ?_|refine ite_neg (by decide) ?_)|refine ite_pos (by with_reducible assumption) ?_|refine ite_neg (by with_reducible assumption) ?_|(refine split_dec ?_ ?_ <;> intro hi9))))
  k_with "setAttr ref" => ((((k_here;k_dflt (refine' set_dict (by k_asm) (by k_asm) (by k_asm) (by k_inst) (by first|exact rfl|fail) (by k_is) (by k_is) (by k_is) (by k_is) (by k_get) (by k_put) (by k_upd) (by first|(exact Nat.le_of_ble_eq_true rfl)|fail) ?_;k_whole;intro h' F' N';(try dsimp only at N');(try dsimp only);(try k_sweep)))));(all_goals (first|(rename_i u19 u29 u39 u49;revert F' N';revert u19 u49 h';refine eps3 eN eH eH ?_;generalize q31 _ = u19, q32 _ = u49, q33 _ = h';refine hold3 ?_;intro F' N')|(rename_i u19;revert F' N';revert u19 h';refine eps2 eN eH ?_;generalize q21 _ = u19, q22 _ = h';refine hold2 ?_;intro F' N')|(rename_i u19;revert F' N';revert u19 h';refine eps2 eH eH ?_;generalize q21 _ = u19, q22 _ = h';refine hold2 ?_;intro F' N')|(revert F' N';revert tk h';refine eps2 eN eH ?_;generalize q21 _ = tk, q22 _ = h';refine hold2 ?_;intro F' N')|(revert F' N';revert h';refine eps1 eH ?_;generalize cex _ _ = h';refine hold1 ?_;intro F' N')|skip)))
  k_with "call ref" => ((k_here;k_dflt (refine' call_cls (by k_asm) (by k_asm) (by k_asm) (by k_is) (by k_is) (by k_is) ?_;k_whole;intro x' d' h' F' N' l1 l2;(with_reducible rename ApN _ _ => APz);(have APy := ap_two l1 l2 APz rfl dqO dqO);(clear APz l1 l2);(try k_sweep);walk_at "m_enter")))
  k_with "eval Lambda" => ((((k_here;kn_here;k_dflt (refine' kla_eval (by first|exact rfl|fail) ?_);(k_dflt (refine' kla_hit (by k_asm) (by k_asm) (by k_asm) (by first|(kn_code)|fail) rfl (by k_mem) (by first|(kn_triples)|fail) (by first|(kn_hit)|fail) (by first|exact rfl|fail) ?_;k_whole);intro f' ct' h' tk' F' N' l1;(try dsimp only at N');(with_reducible rename ApN _ _ => APz);(have APy := ap_one l1 APz rfl dqO);(clear APz l1)))));(all_goals (first|(rename_i u19 u29 u39 u49 u59;revert u49 u59 F' N' APy;revert tk u39 f' ct' h' tk';refine eps6 eN eH eN eV eH eN ?_;generalize q61 _ = tk, q62 _ = u39, q63 _ = f', q64 _ = ct', q65 _ = h', q66 _ = tk';refine hold6 ?_;intro _ _ F' N' APy)|(revert F' N' APy;revert f' ct' h' tk';refine eps4 eN eV eH eN ?_;generalize q41 _ = f', q42 _ = ct', q43 _ = h', q44 _ = tk';refine hold4 ?_;intro F' N' APy)|skip)))
  k_with "call type:collections.deque" => ((((k_here;k_dflt (refine' m_dq (by k_asm) (by k_asm) ?_;k_whole);intro D' h' F' N' l1;(with_reducible rename ApN _ _ => APz);(have APy := ap_one l1 APz rfl dqO);(clear APz l1);(try k_sweep))));(all_goals (first|(revert F' N' APy;revert D' h';refine eps2 eN eH ?_;generalize q21 _ = D', q22 _ = h';refine hold2 ?_;intro F' N' APy)|skip)))
  k_with "m_enterC" => ((((refine' code_defC (by k_asm) (by k_asm) (by k_asm) (by k_asm) (by k_asm) rfl rfl (by first|exact rfl|assumption|fail) (by k_is) (by k_is) (by ktr_room) (by first|exact BindsTo.of_eq rfl|exact binds_K (by k_in) rfl (by k_is) rfl rfl rfl|fail) (by first|exact rfl|fail) (by first|(decide +kernel)|fail) ?_ (by first|exact rfl|fail) (by first|exact rfl|fail) (by first|exact rfl|fail);k_whole;intro g' L' h' tk' cells' FG' F' N' Y' B' X' T' l1;(with_reducible rename ApN _ _ => APz);(have APy := ap_cells3 l1 APz rfl dqO dqO dqO);(clear APz l1);k_cells Y';(try simp only [List.cons_append, List.nil_append] at N');(try dsimp only);(try k_lift B');skip)));(all_goals (first|(rename_i u19 u29 u39 u49 u59 u69;revert FG' F' B' X' T' APy u49 u59 u69 N';revert g' L' h' tk' u19 u29 u39;refine eps7 eH eN eH eN eO eO eO ?_;generalize q71 _ = g', q72 _ = L', q73 _ = h', q74 _ = tk', q75 _ = u19, q76 _ = u29, q77 _ = u39;refine hold7 ?_;intro FG' F' B' X' T' APy _ _ _ N')|skip)))
  k_with "inplaceOp Add str str" => ((((k_here;(with_reducible refine m_wadd ?_);intro _ _)));(all_goals (first|(rename_i u19 u29;revert u19 u29;refine eps2 eN eN ?_;generalize q21 _ = u19, q22 _ = u29;refine hold2 ?_)|skip)))
  intro hrow mean mg mb dp un gd cn cs a ccd cl outer A₀ base h₀ L m s rest na Q E B F X N AP hna T C1 C2 hk hd hu hret
  have hna : 3 ≤ na := hna
  simp only [srcL, strm, chan, heldL, List.cons_append, List.nil_append] at N
  rename_i u19; revert hk1 hw1 hk2 hw2 B F X N AP u19 T C1 C2 hk hd hu hret hna; revert w sx ha b tkc k1 k2 ok1 ok2 vs1 vs2 t2 t3 mean mg mb dp un gd cn cs a ccd cl outer A₀ base h₀ L m s rest na Q E; refine eps8 eW eN eN eB eN eN eN eO ?_; generalize q81 _ = w, q82 _ = sx, q83 _ = ha, q84 _ = b, q85 _ = tkc, q86 _ = k1, q87 _ = k2, q88 _ = ok1; refine hold8 ?_; refine eps8 eO eAV eAV eN eN eEx eM eM ?_; generalize q81 _ = ok2, q82 _ = vs1, q83 _ = vs2, q84 _ = t2, q85 _ = t3, q86 _ = mean, q87 _ = mg, q88 _ = mb; refine hold8 ?_; refine eps8 eN eN eOC eS eSc eN eV eSA ?_; generalize q81 _ = dp, q82 _ = un, q83 _ = gd, q84 _ = cn, q85 _ = cs, q86 _ = a, q87 _ = ccd, q88 _ = cl; refine hold8 ?_; refine eps8 eEn eAr eH eH eN eM eSh eL ?_; generalize q81 _ = outer, q82 _ = A₀, q83 _ = base, q84 _ = h₀, q85 _ = L, q86 _ = m, q87 _ = s, q88 _ = rest; refine hold8 ?_; refine eps3 eN eP2 eP2 ?_; generalize q31 _ = na, q32 _ = Q, q33 _ = E; refine hold3 ?_; intro hk1 hw1 hk2 hw2 B F X N AP _ T C1 C2 hk hd hu hret hna
  refine wpAny_call ?_
  k_dflt (walk_at "m_enterC")
  repeat' (first | (k_unfold; (try dsimp only)) | walk1 | (dsimp only; walk1) | (dsimp only; with_reducible refine lpost_brk ?_; try dsimp only))
  all_goals (try k_data)
  (with_reducible rename ApN _ _ => APz)
  refine hret _ _ _ _ _ ⟨_, _, _, _, _, _, _, _, _, _, _, _, _, _, _, _, _, [_, _, _, _, _, _, _, _, _, _, _, _, _, _, _, _, _, _, _], [_, _, _, _, _, _, _, _], _, _, _, _, _, _, _, rfl, rfl, rfl, ⟨hk1, hw1, hk2, hw2, ?f1, ?f2, ?f3⟩⟩ (by assumption) (by assumption) (apn_cast APz ?sz rfl)
  case f1 => assumption
  case f2 => assumption
  case f3 => assumption
  case sz => simp only [List.length_cons, List.length_nil]; omega
  k_with_none
end Mine
end
section
namespace Mine
theorem eFt : Nonempty (Ft) := ⟨(⟨(0 : Nat), 0, [], (0 : Nat), (0 : Nat), 0⟩ : Ft)⟩
theorem eSm : Nonempty (Sm) := ⟨(⟨[], 0, none, none⟩ : Sm)⟩
theorem stream (w : World) (fa : Addr) (qs : List Ft) (nf : Nat) (hf : FrOk (qs.map Ft.fm)) :
    CtrM w 778 [.ref fa] [(775, tabObj #[])] ((fa, lst0 (ftV qs) nf) :: ftL qs) 777 775 12 120 (fun v own2 new => ∃ (sx sd fR cS c1 : Addr) (tb tv tr : Tok) (pm ctv : Value) (oS o1 : Obj) (vs : Array Value) (t1 : Tok), v = .ref sx ∧ (∃ o, own2 = [(775, tabObj o)]) ∧
      new = [(fR, lamO (lamE (stN P0.main.body 27) 3) "_law_stream.<locals>.<lambda>" [("stream", cS)] pm c1 ctv), (c1, o1), (sx, instObj 70 sd), (sd, dictOf [en w.params "value" tv (.bytes (encF (qs.map Ft.fm)).toArray tb), en w.params "read" tr (.ref fR)] 2), (cS, oS)] ∧
      oS.data = .cell (some (.ref sx)) ∧ o1.data = .fields vs ∧ vs[1]? = some (.str "_law_stream.<locals>.<lambda>" t1)) := by
  unfold CtrM
  k_fill
  k_with_none
  k_with "om" => (with_reducible first|assumption|exact rm1 (by assumption) rfl|exact rm2 (by assumption) rfl|exact rm3 (by assumption) rfl|exact rm0 (by assumption)|exact Nat.le_of_lt (by assumption)|exact Nat.le_add_right _ _|exact Nat.lt_succ_self _|exact Nat.le_of_not_lt (by assumption)|exact lt_i (by assumption)|exact nlt_i (by assumption)|exact le_big (by assumption) rfl)
  k_with "k_all" => (first|(first|assumption|exact off_lt (by walk_at "and_last")|exact off_le (by walk_at "and_last") (Nat.le_succ _)|exact off_le (by walk_at "and_last") (Nat.le_add_right _ _)|exact off_le' (by assumption) (Nat.le_refl _)|exact off_le' (by assumption) (Nat.le_succ _)|exact off_le' (by assumption) (Nat.le_add_right _ _)|exact off_le' (by assumption) (Nat.le_succ_of_le (Nat.le_succ _))|exact off_le' (by assumption) (Nat.le_succ_of_le (Nat.le_succ_of_le (Nat.le_succ _))))|fail)
  k_with "k_ne" => (first|(first|assumption|exact Ne.symm (by assumption))|fail)
  k_with "k_upd" => (first|((refine' upd_ap ?ap9 ?ae9 ?st9 ?sk9;(case ap9 => assumption);(case ae9 => exact rfl);(case st9 => walk_at "setn");(case sk9 => first|decide|omega)))|fail)
  k_with "k_updF" => (first|((refine' updF_ap ?ap9 ?ae9 ?st9 ?sk9;(case ap9 => assumption);(case ae9 => exact rfl);(case st9 => walk_at "setf");(case sk9 => first|decide|omega)))|fail)
  k_with "m_enter" => (((first|(refine' code_def (by k_asm) (by k_asm) (by k_asm) (by k_asm) (by k_asm) rfl rfl (by first|exact rfl|assumption|fail) (by k_is) (by k_is) (by ktr_room) (by first|exact BindsTo.of_eq rfl|exact binds_K (by k_in) rfl (by k_is) rfl rfl rfl|fail) (by first|(exact locs rfl)|fail) ?_ (by first|exact rfl|fail) (by first|exact rfl|fail) (by first|exact rfl|fail) (by decide);k_whole;intro g' L' h' FG' F' N' B' X' T';(try dsimp only);(try k_lift B');skip)|(refine' code_defC (by k_asm) (by k_asm) (by k_asm) (by k_asm) (by k_asm) rfl rfl (by first|exact rfl|assumption|fail) (by k_is) (by k_is) (by ktr_room) (by first|exact BindsTo.of_eq rfl|exact binds_K (by k_in) rfl (by k_is) rfl rfl rfl|fail) (by first|exact rfl|fail) (by first|(decide +kernel)|fail) ?_ (by first|exact rfl|fail) (by first|exact rfl|fail) (by first|exact rfl|fail);k_whole;intro g' L' h' tk' cells' FG' F' N' Y' B' X' T' l1;(try k_lt l1);k_cells Y';(try simp only [List.cons_append, List.nil_append] at N');(try dsimp only);(try k_lift B');skip)));(all_goals (first|(rename_i u19 u29 u39;revert u29 u39 APy FG' F' N' B' X' T';revert x' d' u19 g' L' h';refine eps6 eN eN eH eH eN eH ?_;generalize q61 _ = x', q62 _ = d', q63 _ = u19, q64 _ = g', q65 _ = L', q66 _ = h';refine hold6 ?_;intro _ _ APy FG' F' N' B' X' T')|skip)))
  k_with "eval Name" => ((k_here;k_dflt (first|(refine' m_local (by first|exact rfl|fail) (by first|exact rfl|fail) (by decide) (by k_asm) (by first|exact rfl|fail) ?_;k_whole)|(refine' m_free (by first|exact rfl|fail) (by first|exact rfl|fail) (by decide) (by decide) (by first|exact rfl|fail) (by k_asm) (by k_mem) (by k_asm) ?_;k_whole)|(refine' m_global (by first|exact rfl|fail) (by first|exact rfl|fail) (by decide) (by first|exact rfl|fail) (by k_asm) (by k_asm) (by k_asm) (by k_is) ?_;k_whole)|(refine' m_builtin (by first|exact rfl|fail) (by first|exact rfl|fail) (by decide) (by first|exact rfl|fail) (by first|exact rfl|fail) (by k_asm) (by k_asm) (by k_asm) (by k_is) (by decide) (by first|(boot_by_name)|fail) ?_;k_whole))))
  k_with "call builtin:len" => ((((k_here;(with_reducible show wpAny _ _ (call (Value.builtin "len") [Value.str (lat _) _]) _ _ _);k_dflt (refine' m_lenS (by omega) ?_;k_whole;intro _ _))));(all_goals (first|(rename_i u19 u29 u39 u49 u59 u69 u79 u89 u99;revert u29 u39 u69 u79;revert u19 u49 u59 u89 u99;refine eps5 eH eH eH eN eN ?_;generalize q51 _ = u19, q52 _ = u49, q53 _ = u59, q54 _ = u89, q55 _ = u99;refine hold5 ?_;intro _ _ _ _)|skip)))
  k_with "setn" => (first|exact SetN.head|(apply SetN.tail;walk_at "setn"))
  k_with "execs cons" => (((with_reducible refine wpAny_execs_cons ?_);try dsimp only))
  k_with "setAttr ref" => ((((k_here;k_dflt (refine' set_dict (by k_asm) (by k_asm) (by k_asm) (by k_inst) (by first|exact rfl|fail) (by k_is) (by k_is) (by k_is) (by k_is) (by k_get) (by k_put) (by k_upd) (by first|(exact Nat.le_of_ble_eq_true rfl)|fail) ?_;k_whole;intro h' F' N';(try dsimp only at N');(try dsimp only);(try k_sweep)))));(all_goals (first|(revert F' N';revert h';refine eps1 eH ?_;generalize cex _ _ = h';refine hold1 ?_;intro F' N')|skip)))
  k_with "setf" => (first|exact SetF.head|(apply SetF.tail;walk_at "setf"))
  k_with "call ref" => ((k_here;k_dflt (refine' call_cls (by k_asm) (by k_asm) (by k_asm) (by k_is) (by k_is) (by k_is) ?_;k_whole;intro x' d' h' F' N' l1 l2;(with_reducible rename ApN _ _ => APz);(have APy := ap_two l1 l2 APz rfl dqO dqO);(clear APz l1 l2);(try k_sweep);walk_at "m_enter")))
  k_with "eval Lambda" => ((((k_here;kn_here;k_dflt (refine' kla_eval (by first|exact rfl|fail) ?_);(k_dflt (refine' kla_nest (by k_asm) (by k_asm) (by k_asm) (by first|(kn_code)|fail) rfl (by k_updF) (by first|(kn_triples)|fail) (by first|(kn_among)|fail) (by first|exact rfl|fail) ?_;k_whole);intro f' c' oc' vs' t' ct' h' tk' F' N' d1' d2' l1 l2;(try dsimp only at N');(with_reducible rename ApN _ _ => APz);(have APy := ap_two l1 l2 APz rfl dqO dqO);(clear APz l1 l2)))));(all_goals (first|(rename_i u19 u29 u39 u49 u59 u69 u79;revert u59 u69 u79 F' N' d1' d2' APy;revert tk u39 u49 f' c' oc' vs' t' ct' h' tk';refine eps8 eN eH eO eN eN eO eAV eN ?_;generalize q81 _ = tk, q82 _ = u39, q83 _ = u49, q84 _ = f', q85 _ = c', q86 _ = oc', q87 _ = vs', q88 _ = t';refine hold8 ?_;refine eps3 eV eH eN ?_;generalize q31 _ = ct', q32 _ = h', q33 _ = tk';refine hold3 ?_;intro _ _ _ F' N' d1' d2' APy)|skip)))
  k_with "m_enterC" => ((((refine' code_defC (by k_asm) (by k_asm) (by k_asm) (by k_asm) (by k_asm) rfl rfl (by first|exact rfl|assumption|fail) (by k_is) (by k_is) (by ktr_room) (by first|exact BindsTo.of_eq rfl|exact binds_K (by k_in) rfl (by k_is) rfl rfl rfl|fail) (by first|exact rfl|fail) (by first|(decide +kernel)|fail) ?_ (by first|exact rfl|fail) (by first|exact rfl|fail) (by first|exact rfl|fail);k_whole;intro g' L' h' tk' cells' FG' F' N' Y' B' X' T' l1;(with_reducible rename ApN _ _ => APz);(have APy := ap_cells1 l1 APz rfl dqO);(clear APz l1);k_cells Y';(try simp only [List.cons_append, List.nil_append] at N');(try dsimp only);(try k_lift B');skip)));(all_goals (first|(rename_i u19 u29;revert FG' F' B' X' T' APy u29 N';revert g' L' h' tk' u19;refine eps5 eH eN eH eN eO ?_;generalize q51 _ = g', q52 _ = L', q53 _ = h', q54 _ = tk', q55 _ = u19;refine hold5 ?_;intro FG' F' B' X' T' APy _ N')|skip)))
  intro hrow mean mg mb dp un gd cn cs a ccd cl outer A₀ base h₀ L m s rest na Q E B F X N AP hna hrd TQ C1 hk hd hu hret
  have hna : 1 ≤ na := hna
  simp only [List.cons_append, List.nil_append] at N
  k_with "exec For Tuple Name cons nil" => (k_here;(with_reducible rename Fr _ _ _ _ => Fw0);k_dflt (refine For_turns Fw0 ?_))
  k_with "newList" => (((k_here;(with_reducible show wpAny _ _ (newList []) _ _ _);k_dflt (refine' m_newList (by k_asm) (by k_asm) (by decide) ?_;k_whole);intro D0 h0 k0 F0 N0 l0));(all_goals (first|(revert F0 N0 l0;revert D0 h0 k0;refine eps3 eN eH eN ?_;generalize q31 _ = D0, q32 _ = h0, q33 _ = k0;refine hold3 ?_;intro F0 N0 l0)|skip)))
  k_with "loadName" => (k_here;k_dflt (refine' m_load (by exact rfl) (by exact rfl) (by k_asm) (by first|exact ho1|fail) ?_;k_whole))
  k_with "eval Name" => (k_here;k_dflt (refine' m_local (by first|exact rfl|fail) (by first|exact rfl|fail) (by decide) (by k_asm) (by first|exact ho1|fail) ?_;k_whole))
  k_with "call builtin:ord" => (((k_here;k_dflt (refine' m_ord ?_;k_whole);intro _ _));(all_goals (first|(rename_i u19 u29;revert qk ek;revert u19 u29;refine eps2 eN eN ?_;generalize q21 _ = u19, q22 _ = u29;refine hold2 ?_;intro qk ek)|skip)))
  k_with "eval ListComp" => (k_here;k_dflt (refine ListComp_S (by k_asm) (by rfl) (by decide) (by rfl) (by decide) (by rfl) ?_))
  k_with "SrcS" => (((k_dflt (refine srcS_lat (by rfl) (by k_asm) (by k_asm) (Nat.le_trans hql2 (by decide)) ?_ ?_);rotate_left;(intro ys9 D3 h9 tk9 hys9 F9 N9 o9);rotate_left;(intro c9 t9 ys8 I9 oI9 C9 oC9 D9 m9 h9 tk9 E9 s9 hC9 hx9 F9 N9 off9)));(all_goals (first|(rename_i u19 u29 u39 u49 u59;revert u39 u49 u59 hC9 hx9 F9 N9 off9;revert u19 u29 c9 t9 ys8 I9 oI9 C9 oC9 D9 m9 h9 tk9 E9 s9;refine eps8 eN eH eU eN eLV eN eO eN ?_;generalize q81 _ = u19, q82 _ = u29, q83 _ = c9, q84 _ = t9, q85 _ = ys8, q86 _ = I9, q87 _ = oI9, q88 _ = C9;refine hold8 ?_;refine eps7 eO eN eM eH eN eP2 eSh ?_;generalize q71 _ = oC9, q72 _ = D9, q73 _ = m9, q74 _ = h9, q75 _ = tk9, q76 _ = E9, q77 _ = s9;refine hold7 ?_;intro _ _ _ hC9 hx9 F9 N9 off9)|(rename_i u19 u29 u39 u49 u59;revert u39 u49 u59 hys9 F9 N9 o9;revert u19 u29 ys9 D3 h9 tk9;refine eps6 eN eH eLV eN eH eN ?_;generalize q61 _ = u19, q62 _ = u29, q63 _ = ys9, q64 _ = D3, q65 _ = h9, q66 _ = tk9;refine hold6 ?_;intro _ _ _ hys9 F9 N9 o9)|skip)))
  k_with "CompEnd" => (k_dflt (exact LCg.CompEnd.intro (by k_asm) (by k_asm) _ (fun _ h => h) off9 True.intro ⟨rfl, _, rfl⟩))
  k_with "binaryOp Add ref ref" => (((k_here;k_dflt (refine' m_addL (by k_asm) (by k_asm) (List.mem_cons_of_mem _ List.mem_cons_self) List.mem_cons_self (sm_two hys9 hql2) ?_;k_whole);intro D4 h4 k4 F4 N4 l4));(all_goals (first|(revert F4 N4 l4;revert D4 h4 k4;refine eps3 eN eH eN ?_;generalize q31 _ = D4, q32 _ = h4, q33 _ = k4;refine hold3 ?_;intro F4 N4 l4)|skip)))
  k_with "inplaceOp Add ref ref" => (((k_here;k_dflt (refine' m_iaddU (by k_asm) N4 (List.mem_cons_of_mem _ (List.mem_cons_of_mem _ (List.mem_cons_of_mem _ (List.mem_cons_of_mem _ List.mem_cons_self)))) List.mem_cons_self (l4 _ (List.mem_cons_of_mem _ (List.mem_cons_of_mem _ (List.mem_cons_of_mem _ List.mem_cons_self)))) (by exact Nat.succ_ne_zero _) (sm_three hvl hys9 hql2) (fun z hz => List.mem_cons_of_mem _ (List.mem_cons_of_mem _ (List.mem_cons_of_mem _ (List.mem_cons_of_mem _ (List.mem_cons_of_mem _ hz))))) hap ?_;k_whole);intro h5 F5 N5));(all_goals (first|(revert F5 N5;revert h5;refine eps1 eH ?_;generalize cex _ _ = h5;refine hold1 ?_;intro F5 N5)|skip)))
  k_with "call type:bytes" => (((k_here;k_dflt (refine' m_bytes (by k_asm) (by k_asm) (by rfl) List.mem_cons_self hoc hel ?_;k_whole);intro h6 t6 k6 F6 N6;replace N6 := news_tail N6));(all_goals (first|(revert F6 N6;revert h6 t6 k6;refine eps3 eH eN eN ?_;generalize q31 _ = h6, q32 _ = t6, q33 _ = k6;refine hold3 ?_;intro F6 N6)|skip)))
  k_with "pyIter ref" => ((((with_reducible show wpAny _ _ (pyIter _) (fun _ _ => TurnsAt _ _ _ _ _ _ _ _ _ _ _) _ _);(with_reducible rename Fr _ _ _ _ => Fw);(with_reducible rename News _ _ _ _ => Nw);(obtain ⟨m1, hm1, Fw1⟩ := fr_all Fw);(have ho1 : m1 "octets" = some (.ref D0) := by rw [hm1];k_dflt (exact rfl));clear hm1;k_dflt (refine iter_one (σ := Sm) (vs := ftV qs) (by rfl) (SmI (qs.map Ft.fm)) (fun c => fun y => if y = "channel" then c.cv else if y = "text" then c.tv else m1 y) (fun c => lst0 c.vs c.n) ⟨[], _, m1 "channel", m1 "text"⟩ (List.mem_cons_of_mem _ (List.mem_cons_of_mem _ (hrd _ List.mem_cons_self))) (fun _ => lst0_cls _ _) (fr_add (fr_add Fw1 rfl) rfl) Nw (fun z hz => Nat.ne_of_lt (l0 z hz)) smI0 ?_ ?_);(intro i v c h9 tk9 own9 Rr hv9 hJ hap F9 N9 hR;(obtain ⟨q, hq, rfl⟩ := ft_v hv9);(have hqm := hrd (q.a, ftO q) (List.mem_cons_of_mem _ (ft_mem hq)));(replace N9 := led_cons N9 (List.mem_cons_of_mem _ (List.mem_append.mpr (Or.inr (List.mem_cons_of_mem _ (List.mem_cons_of_mem _ hqm))))));(have hql2 := nd_len hf hq);(have hvl := smI_len hf hJ));rotate_left;(intro c h9 tk9 hJ F9 N9;(obtain ⟨hoc, hel⟩ := smI_done hf hJ));rotate_left;all_goals skip));(all_goals (first|(rename_i u19;revert Fw Nw Fw1 ho1 hJ hap F9 hR hq hv9 hqm N9 hql2 hvl;revert u19 m1 i c h9 tk9 own9 Rr q;refine eps8 eH eM eN eSm eH eN eL eP1 ?_;generalize q81 _ = u19, q82 _ = m1, q83 _ = i, q84 _ = c, q85 _ = h9, q86 _ = tk9, q87 _ = own9, q88 _ = Rr;refine hold8 ?_;refine eps1 eFt ?_;generalize cex _ _ = q;refine hold1 ?_;intro Fw Nw Fw1 ho1 hJ hap F9 hR hq hv9 hqm N9 hql2 hvl)|(rename_i u19;revert Fw Nw Fw1 ho1 hJ F9 N9 hoc;revert u19 m1 c h9 tk9;refine eps5 eH eM eSm eH eN ?_;generalize q51 _ = u19, q52 _ = m1, q53 _ = c, q54 _ = h9, q55 _ = tk9;refine hold5 ?_;intro Fw Nw Fw1 ho1 hJ F9 N9 hoc)|skip)))
  rename_i u19; revert hf B F X N AP u19 hrd TQ C1 hk hd hu hret hna; revert w fa qs nf mean mg mb dp un gd cn cs a ccd cl outer A₀ base h₀ L m s rest na Q E; refine eps8 eW eN eLF eN eEx eM eM eN ?_; generalize q81 _ = w, q82 _ = fa, q83 _ = qs, q84 _ = nf, q85 _ = mean, q86 _ = mg, q87 _ = mb, q88 _ = dp; refine hold8 ?_; refine eps8 eN eOC eS eSc eN eV eSA eEn ?_; generalize q81 _ = un, q82 _ = gd, q83 _ = cn, q84 _ = cs, q85 _ = a, q86 _ = ccd, q87 _ = cl, q88 _ = outer; refine hold8 ?_; refine eps8 eAr eH eH eN eM eSh eL eN ?_; generalize q81 _ = A₀, q82 _ = base, q83 _ = h₀, q84 _ = L, q85 _ = m, q86 _ = s, q87 _ = rest, q88 _ = na; refine hold8 ?_; refine eps2 eP2 eP2 ?_; generalize q21 _ = Q, q22 _ = E; refine hold2 ?_; intro hf B F X N AP _ hrd TQ C1 hk hd hu hret hna
  refine wpAny_call ?_
  k_dflt (walk_at "m_enterC")
  repeat' (first | (k_unfold; (try dsimp only)) | walk1 | (dsimp only; walk1) | (dsimp only; with_reducible refine lpost_brk ?_; try dsimp only) | (dsimp only; with_reducible refine lpost_ret ?_; try dsimp only))
  all_goals (try k_data)
  all_goals first
    | (exact lpost_next (hR ⟨_, _, _, _⟩ _ _ (smI_next hf hJ hq hys9) (sm_fr (by assumption) rfl rfl ho1 rfl (by intro k h1 h2 h3; simp only [h1, h2, h3, if_false])) (by assumption)))
    | ((with_reducible rename ApN _ _ => APz); (with_reducible rename News h₀ L _ _ => Nf); refine hret _ [(775, tabObj _)] [(f', _), (c', oc'), (x', _), (d', _), (_, _)] _ _ ?post (by assumption) Nf ?ap; (case post => exact ⟨x', d', f', _, c', _, _, _, _, _, _, oc', vs', t', rfl, ⟨_, rfl⟩, rfl, by assumption, d1', d2'⟩); (case ap => refine apn_cast APz ?sz rfl; (simp only [List.length_cons, List.length_nil]; omega)))
  k_with_none
end Mine
end
section
namespace Mine
theorem behind (w : World) (T : List UInt8) (tT : Tok) (p : Nat) (tp : Tok) (hp : p ≤ T.length) (hT : T.length ≤ 1000) :
    CtrP w 820 [.str (lat T) tT, .int p tp] [] 2 16 (fun v new => new = [] ∧ ∃ t', v = .int ((p + bl (T.drop p) : Nat) : Int) t') := by
  obtain ⟨z, hz⟩ : ∃ z, Txt.find3 (lat T) ("\n" : Str) p = z := ⟨_, rfl⟩
  have hz2 := find10 T p hp
  rw [hz] at hz2
  generalize p + bl (T.drop p) = r at *
  have hz3 : (z < 0 ∧ (T.length : Int) + 1 = r) ∨ (¬ z < 0 ∧ z + 1 = r) := by
    rcases hz2 with ⟨h1, h2⟩ | ⟨k, h1, h2⟩
    · exact .inl ⟨by rw [h1]; decide, by rw [h2]; rfl⟩
    · exact .inr ⟨by rw [h1]; exact Int.not_lt.mpr (Int.natCast_nonneg k), by rw [h1, h2]; rfl⟩
  clear hz2
  unfold CtrP
  k_fill
  k_with_none
  k_with "om" => (with_reducible first|assumption|exact rm1 (by assumption) rfl|exact rm2 (by assumption) rfl|exact rm3 (by assumption) rfl|exact rm0 (by assumption)|exact Nat.le_of_lt (by assumption)|exact Nat.le_add_right _ _|exact Nat.lt_succ_self _|exact Nat.le_of_not_lt (by assumption)|exact lt_i (by assumption)|exact nlt_i (by assumption)|exact le_big (by assumption) rfl)
  k_with "k_all" => (first|(first|assumption|exact off_lt (by walk_at "and_last")|exact off_le (by walk_at "and_last") (Nat.le_succ _)|exact off_le (by walk_at "and_last") (Nat.le_add_right _ _)|exact off_le' (by assumption) (Nat.le_refl _)|exact off_le' (by assumption) (Nat.le_succ _)|exact off_le' (by assumption) (Nat.le_add_right _ _)|exact off_le' (by assumption) (Nat.le_succ_of_le (Nat.le_succ _))|exact off_le' (by assumption) (Nat.le_succ_of_le (Nat.le_succ_of_le (Nat.le_succ _))))|fail)
  k_with "k_ne" => (first|(first|assumption|exact Ne.symm (by assumption))|fail)
  intro hrow mean mg mb dp un gd cn cs a ccd cl outer A₀ base h₀ L m s rest Q E B F X N T hk hd hu hret
  simp only [List.cons_append, List.nil_append] at N
  k_with "m_enter" => (first|(refine' code_def ?k1 ?k2 ?k3 ?k4 ?k5 ?kA ?kF ?kK ?k6 ?k7 ?k8 ?k9 ?kB ?_ ?c2 ?c3 ?c4 ?c5;(case kA => exact rfl);(case kF => exact rfl);(case kK => first|exact rfl|assumption);(case k1 => k_asm);(case k2 => k_asm);(case k3 => k_asm);(case k4 => k_asm);(case k5 => k_asm);(case k6 => k_is);(case k7 => k_is);(case k8 => ktr_room);(case k9 => first|exact BindsTo.of_eq rfl|exact binds_K (by k_in) rfl (by k_is) rfl rfl rfl);(case c5 => decide);(case kB => exact locs rfl);(case c2 => exact rfl);(case c3 => exact rfl);(case c4 => exact rfl);k_whole;intro g' L' h' FG' F' N' B' X' T';(try dsimp only);(try k_lift B');(try k_fold))|(refine' code_defC ?k1 ?k2 ?k3 ?k4 ?k5 ?kA ?kF ?kK ?k6 ?k7 ?k8 ?k9 ?kB ?kD ?_ ?c2 ?c3 ?c4;(case kA => exact rfl);(case kF => exact rfl);(case kK => first|exact rfl|assumption);(case k1 => k_asm);(case k2 => k_asm);(case k3 => k_asm);(case k4 => k_asm);(case k5 => k_asm);(case k6 => k_is);(case k7 => k_is);(case k8 => ktr_room);(case k9 => first|exact BindsTo.of_eq rfl|exact binds_K (by k_in) rfl (by k_is) rfl rfl rfl);(case kB => exact rfl);(case kD => decide +kernel);(case c2 => exact rfl);(case c3 => exact rfl);(case c4 => exact rfl);k_whole;intro g' L' h' tk' cells' FG' F' N' Y' B' X' T' l1;(try k_lt l1);k_cells Y';(try simp only [List.cons_append, List.nil_append] at N');(try dsimp only);(try k_lift B');(try k_fold)))
  k_with "call builtin:str.find" => ((k_here;k_dflt (refine' m_find ?e ?_;(case e => assumption);k_whole;intro _ _)))
  k_with "call builtin:len" => ((k_here;(with_reducible show wpAny _ _ (call (Value.builtin "len") [Value.str (lat _) _]) _ _ _);k_dflt (refine' m_lenS ?z ?_;(case z => exact Nat.le_trans hT (by decide));k_whole;intro _ _)))
  refine wpAny_call ?_
  k_dflt (walk_at "m_enter")
  repeat' (first | (k_unfold; (try dsimp only)) | walk1 | (dsimp only; walk1) | (dsimp only; with_reducible refine lpost_brk ?_; try dsimp only))
  all_goals (try k_data)
  all_goals exact hret _ _ _ _ ⟨rfl, _, congrArg (Value.int · _) (by first | exact (hz3.resolve_right fun q => q.1 (by assumption)).2 | exact (hz3.resolve_left fun q => absurd q.1 (by assumption)).2)⟩ (by assumption) (by assumption)
  k_with_none
end Mine
end
section
namespace Mine
theorem bk_le {r b n k : Nat} (hrl : r + b + 1 = n) (h : k ≤ r + 1) : b + k ≤ n := Nat.le_trans (Nat.add_le_add_left h b) (Nat.le_of_eq ((congrArg (· + 1) (Nat.add_comm b r)).trans hrl))
theorem bk_le1 {r b n k : Nat} (hrl : r + b + 1 = n) (h : k ≤ r + 2) : b + k ≤ n + 1 := bk_le (r := r + 1) (congrArg (· + 1) ((Nat.succ_add r b).trans hrl)) h
theorem unesc_len : ∀ (n : Nat) (B : List UInt8), B.length ≤ n → (unesc B).length ≤ B.length := by
  intro n
  induction n with
  | zero => intro B h; have : B = [] := List.eq_nil_of_length_eq_zero (Nat.eq_zero_of_le_zero h); subst this; exact Nat.le_refl _
  | succ n ih =>
    intro B h
    match B with
    | [] => exact Nat.le_refl _
    | [c] => exact Nat.le_refl _
    | c :: d :: r =>
      simp only [List.length_cons] at h
      have h1 := ih r (Nat.le_of_succ_le (Nat.le_of_succ_le_succ h))
      have h2 := ih (d :: r) (Nat.le_of_succ_le_succ h)
      simp only [List.length_cons] at h2
      rw [unesc]
      split
      · split
        all_goals first | exact Nat.succ_le_succ (Nat.succ_le_succ h1) | exact Nat.succ_le_succ (Nat.le_succ_of_le h1)
      · exact Nat.succ_le_succ h2
theorem pt_len {c : UInt8} {r w : List UInt8} {k : Nat} (h : ptOf (c :: r) = .ok w k) : w.length ≤ k := by
  rw [ptOf_cons] at h
  split at h
  · split at h
    · cases h
    · cases h; exact Nat.le_succ _
  · split at h
    · split at h
      · cases h
        split
        · have := unesc_len _ (r.take (qx c r)) (Nat.le_refl _)
          rw [List.length_take] at this
          exact Nat.le_trans this (Nat.le_trans (Nat.min_le_left _ _) (Nat.le_add_right _ _))
        · rw [List.length_take]; exact Nat.le_trans (Nat.min_le_left _ _) (Nat.le_add_right _ _)
      · cases h
    · cases h; exact Nat.le_refl _
theorem fr_re {h₀ h : Heap} {L : Addr} {x : Str} {a a' : Option Value} {m : Str → Option Value} (F : Fr h₀ L h (fun y => if y = x then a' else if y = x then a else m y)) : Fr h₀ L h (fun y => if y = x then a' else m y) := fr_to F fun y => by
  by_cases h : y = x
  · rw [if_pos h, if_pos h]
  · rw [if_neg h, if_neg h, if_neg h]
theorem f_wsh {c : UInt8} : Txt.contains (" \t\r\n#" : Str) (lat [c]) = (isWs c || c == 35) := by
  rw [contains_one, show (" \t\r\n#" : Str).cps.toList = [32, 9, 13, 10, 35] from by decide, Bool.eq_iff_iff, List.contains_iff_mem]
  unfold isWs
  simp only [List.mem_cons, List.not_mem_nil, or_false, Bool.or_eq_true, beq_iff_eq]
  constructor
  · rintro (h | h | h | h | h) <;> simp [← UInt8.toNat_inj, h]
  · rintro ((((rfl | rfl) | rfl) | rfl) | rfl) <;> decide
theorem f_hs {c : UInt8} : (lat [c] == ("#" : Str)) = (c == 35) := by
  rw [show ("#" : Str) = lat [35] from by decide]; exact lat_one _ _
structure WdI (T : List UInt8) (R0 : Res) (P : Nat) (s : Nat × Int × Tok) : Prop where
  b : s.1 ≤ T.length + 1
  z : s.2.1 = s.1
  res : (rt .sp false [] (T.drop s.1)).res = R0
  pl : min (s.1 + (rt .sp false [] (T.drop s.1)).k) (T.length + 1) = P
theorem wdI0 {T : List UInt8} {tp : Tok} (p : Nat) (hp : p ≤ T.length + 1) : WdI T (rt .sp false [] (T.drop p)).res (min (p + (rt .sp false [] (T.drop p)).k) (T.length + 1)) ⟨p, p, tp⟩ := ⟨hp, rfl, rfl, rfl⟩
structure Wd where
  b : Nat
  z : Int
  tb : Tok
  tok : List UInt8
  tt : Tok
  pv : Option Value
  q : Bool
structure WdJ (T : List UInt8) (R0 : Res) (P : Nat) (s : Wd) : Prop where
  b : s.b ≤ T.length + 1
  z : s.z = s.b
  res : (rt .wd s.q s.tok (T.drop s.b)).res = R0
  pl : min (s.b + (rt .wd s.q s.tok (T.drop s.b)).k) (T.length + 1) = P
  g : s.q = true ∨ s.tok ≠ [] ∨ ∃ c r, T.drop s.b = c :: r ∧ isWs c = false ∧ c ≠ 35
  tl : s.tok.length ≤ s.b
theorem rt_sp_wd {c : UInt8} {r : List UInt8} (h : (isWs c || c == 35) = false) : rt .sp false [] (c :: r) = rt .wd false [] (c :: r) := by
  obtain ⟨h1, h2⟩ := Bool.or_eq_false_iff.mp h
  have n1 : ¬ isWs c = true := by rw [h1]; decide
  have n2 : ¬ (c == 35) = true := by rw [h2]; decide
  rw [rt.eq_def .sp, rt.eq_def .wd]
  dsimp only
  rw [if_neg n1, if_neg n2, if_neg n1, if_neg n2]
  by_cases h3 : (c == 92) = true
  · have : c = 92 := by simpa using h3
    subst this
    rfl
  · rw [if_neg h3, if_neg h3]
    rfl
section
variable {T r tok w : List UInt8} {c : UInt8} {b P : Nat} {R0 : Res} {z : Int} {tb : Tok}
theorem wdI_ws (hI : WdI T R0 P ⟨b, z, tb⟩) (hD : T.drop b = c :: r) (h : (isWs c || c == 35) = true) (h35 : ¬ c = 35) {t : Tok} : WdI T R0 P ⟨b + 1, (b : Int) + 1, t⟩ := by
  obtain ⟨_, hbl, hr, _⟩ := drop_cons hD
  have e := hI.res
  have e2 := hI.pl
  dsimp only at e e2
  have hw : isWs c = true := by
    rcases Bool.or_eq_true_iff.mp h with h | h
    · exact h
    · exact absurd (by simpa using h) h35
  rw [hD, rt.eq_def] at e e2
  dsimp only at e e2
  rw [if_pos hw] at e e2
  refine ⟨Nat.succ_le_succ (Nat.le_of_lt hbl), rfl, ?_, ?_⟩
  · show (rt .sp false [] (T.drop (b + 1))).res = R0
    rw [← hr]; exact e
  · show min (b + 1 + (rt .sp false [] (T.drop (b + 1))).k) _ = P
    rw [← hr, ← e2, Nat.add_assoc]; rfl
theorem bl_le' (l : List UInt8) : bl l ≤ l.length + 1 := by
  induction l with
  | nil => exact Nat.le_refl _
  | cons c r ih => rw [bl]; split; exact Nat.succ_le_succ (Nat.zero_le _); rw [Nat.add_comm 1 (bl r)]; exact Nat.succ_le_succ ih
theorem wdI_hs (hI : WdI T R0 P ⟨b, z, tb⟩) (hD : T.drop b = c :: r) (h35 : c = 35) {t : Tok} : WdI T R0 P ⟨b + bl (T.drop b), ((b + bl (T.drop b) : Nat) : Int), t⟩ ∧ T.length + 2 - (b + bl (T.drop b)) < T.length + 2 - b := by
  subst h35
  obtain ⟨_, hbl, hr, hrl⟩ := drop_cons hD
  have e := hI.res
  have e2 := hI.pl
  dsimp only at e e2
  rw [hD, rt.eq_def] at e e2
  dsimp only at e e2
  rw [if_neg (by decide), if_pos (by decide)] at e e2
  have hb : bl (T.drop b) = 1 + bl r := by rw [hD, bl, if_neg (by decide)]
  have hl := bl_le' r
  have hd : T.drop (b + bl (T.drop b)) = r.drop (bl r) := by rw [hb, hr, List.drop_drop, Nat.add_assoc]
  refine ⟨⟨by show b + bl (T.drop b) ≤ _; rw [hb, Nat.add_comm 1 (bl r)]; exact bk_le1 hrl (Nat.succ_le_succ hl), rfl, ?_, ?_⟩, Nat.sub_lt_sub_left (Nat.lt_of_lt_of_le hbl (Nat.le_add_right _ _)) (Nat.lt_add_of_pos_right (by rw [hb, Nat.add_comm]; exact Nat.succ_pos _))⟩
  · show (rt .sp false [] (T.drop (b + bl (T.drop b)))).res = R0
    rw [hd]; exact e
  · show min (b + bl (T.drop b) + (rt .sp false [] (T.drop (b + bl (T.drop b)))).k) _ = P
    rw [hd, hb, ← e2, Nat.add_assoc]; rfl
theorem wd_fall1 (hbl : b < T.length) : T.length + 2 - (b + 1) < T.length + 2 - b := Nat.sub_lt_sub_left (Nat.lt_of_lt_of_le hbl (Nat.le_add_right _ _)) (Nat.lt_succ_self _)
theorem wdI_end (hI : WdI T R0 P ⟨b, z, tb⟩) (hD : T.drop b = []) : R0 = .none ∧ P = T.length + 1 := by
  have hb := drop_nil hD
  have e := hI.res
  have e2 := hI.pl
  dsimp only at e e2
  rw [hD, rt.eq_def] at e e2
  refine ⟨e.symm, ?_⟩
  have e2 : min (b + 1) (T.length + 1) = P := e2
  exact e2.symm.trans (Nat.min_eq_right (Nat.succ_le_succ hb))
theorem wdJ0 (hI : WdI T R0 P ⟨b, z, tb⟩) (hD : T.drop b = c :: r) (h : (isWs c || c == 35) = false) {t1 t2 : Tok} {pv : Option Value} : WdJ T R0 P ⟨b, b, t1, [], t2, pv, false⟩ := by
  have e := hI.res
  have e2 := hI.pl
  dsimp only at e e2
  rw [hD, rt_sp_wd h, ← hD] at e e2
  obtain ⟨h1, h2⟩ := Bool.or_eq_false_iff.mp h
  exact ⟨hI.b, rfl, e, e2, .inr (.inr ⟨c, r, hD, h1, by simpa using h2⟩), Nat.zero_le _⟩
variable {q : Bool} {tt : Tok} {pv : Option Value}
theorem wdJ_fin (hJ : WdJ T R0 P ⟨b, z, tb, tok, tt, pv, q⟩) (hg : T.drop b = [] ∨ ∃ c r, T.drop b = c :: r ∧ (isWs c = true ∨ c = 35)) : fin' q tok = .tok tok := by
  unfold fin'
  rw [if_neg]
  rintro ⟨rfl, rfl⟩
  rcases hJ.g with h | h | ⟨c, r, hD, h1, h2⟩
  · cases h
  · exact h rfl
  · have hD : T.drop b = c :: r := hD
    rcases hg with hg | ⟨c', r', hD', hc⟩
    · rw [hg] at hD; cases hD
    · rw [hD'] at hD
      cases hD
      rcases hc with hc | hc
      · rw [h1] at hc; cases hc
      · exact h2 hc
theorem wdJ_end (hJ : WdJ T R0 P ⟨b, z, tb, tok, tt, pv, q⟩) (hD : T.drop b = []) : R0 = .tok tok ∧ P = T.length + 1 := by
  have hb := drop_nil hD
  have hf := wdJ_fin hJ (.inl hD)
  have e := hJ.res
  have e2 := hJ.pl
  dsimp only at e e2
  rw [hD, rt.eq_def] at e e2
  have e : fin' q tok = R0 := e
  have e2 : min (b + 1) (T.length + 1) = P := e2
  exact ⟨e.symm.trans hf, e2.symm.trans (Nat.min_eq_right (Nat.succ_le_succ hb))⟩
theorem wdJ_ws (hJ : WdJ T R0 P ⟨b, z, tb, tok, tt, pv, q⟩) (hD : T.drop b = c :: r) (h : isWs c = true) : R0 = .tok tok ∧ P = b + 1 := by
  obtain ⟨_, hbl, hr, hrl⟩ := drop_cons hD
  have hf := wdJ_fin hJ (.inr ⟨c, r, hD, .inl h⟩)
  have e := hJ.res
  have e2 := hJ.pl
  dsimp only at e e2
  rw [hD, rt.eq_def] at e e2
  dsimp only at e e2
  rw [if_pos h] at e e2
  have e : fin' q tok = R0 := e
  have e2 : min (b + 1) (T.length + 1) = P := e2
  exact ⟨e.symm.trans hf, e2.symm.trans (Nat.min_eq_left (Nat.succ_le_succ (Nat.le_of_lt hbl)))⟩
theorem wdJ_hs (hJ : WdJ T R0 P ⟨b, z, tb, tok, tt, pv, q⟩) (hD : T.drop b = c :: r) (h : c = 35) : R0 = .tok tok ∧ P = b + bl (T.drop b) := by
  obtain ⟨_, hbl, hr, hrl⟩ := drop_cons hD
  have hf := wdJ_fin hJ (.inr ⟨c, r, hD, .inr h⟩)
  have e := hJ.res
  have e2 := hJ.pl
  dsimp only at e e2
  rw [hD, rt.eq_def] at e e2
  dsimp only at e e2
  subst h
  rw [if_neg (by decide), if_pos (by decide)] at e e2
  have e : fin' q tok = R0 := e
  have e2 : min (b + (1 + bl r)) (T.length + 1) = P := e2
  have hb : bl (T.drop b) = 1 + bl r := by rw [hD, bl, if_neg (by decide)]
  have hl := bl_le' r
  exact ⟨e.symm.trans hf, e2.symm.trans ((Nat.min_eq_left (by rw [Nat.add_comm 1 (bl r)]; exact bk_le1 hrl (Nat.succ_le_succ hl))).trans (congrArg (b + ·) hb.symm))⟩
theorem wdJ_bad {e : Res} {st : St} (hJ : WdJ T R0 P ⟨b, z, tb, tok, tt, pv, q⟩) (hD : T.drop b = c :: r) (h : rt .wd q tok (c :: r) = ⟨e, st, r.length + 2⟩) : R0 = e ∧ P = T.length + 1 := by
  obtain ⟨_, hbl, hr, hrl⟩ := drop_cons hD
  have e1 := hJ.res
  have e2 := hJ.pl
  dsimp only at e1 e2
  rw [hD, h] at e1 e2
  dsimp only at e1 e2
  exact ⟨e1.symm, e2.symm.trans (Nat.min_eq_right (Nat.le_of_eq (congrArg (· + 1) (hrl.symm.trans (congrArg (· + 1) (Nat.add_comm r.length b))))))⟩
theorem wdJ_next {k : Nat} (hJ : WdJ T R0 P ⟨b, z, tb, tok, tt, pv, q⟩) (hD : T.drop b = c :: r)
    (h : rt .wd q tok (c :: r) = (rt .wd (q || isQ c) (tok ++ w) ((c :: r).drop k)).add k ∧ 1 ≤ k ∧ k ≤ r.length + 1 ∧ (isQ c = true ∨ w ≠ [])) (hw : w.length ≤ k) {t1 t2 : Tok} {pv' : Option Value} :
    WdJ T R0 P ⟨b + k, ((b + k : Nat) : Int), t1, tok ++ w, t2, pv', q || isQ c⟩ ∧ T.length + 2 - (b + k) < T.length + 2 - b := by
  obtain ⟨h1, h2, h3, h4⟩ := h
  obtain ⟨_, hbl, hr, hrl⟩ := drop_cons hD
  have e := hJ.res
  have e2 := hJ.pl
  have htl := hJ.tl
  dsimp only at e e2 htl
  have hd : (c :: r).drop k = T.drop (b + k) := by rw [← hD, List.drop_drop]
  rw [hD, h1, hd] at e e2
  refine ⟨⟨Nat.le_succ_of_le (bk_le hrl h3), rfl, e, ?_, ?_, ?_⟩, Nat.sub_lt_sub_left (Nat.lt_of_lt_of_le hbl (Nat.le_add_right _ _)) (Nat.lt_add_of_pos_right h2)⟩
  · show min (b + k + (rt .wd (q || isQ c) (tok ++ w) (T.drop (b + k))).k) _ = P
    rw [← e2, Nat.add_assoc]; rfl
  · rcases h4 with h4 | h4
    · left; show (q || isQ c) = true; rw [h4]; cases q <;> rfl
    · right; left; exact List.append_ne_nil_of_right_ne_nil _ h4
  · show (tok ++ w).length ≤ b + k
    rw [List.length_append]; exact Nat.add_le_add htl hw
end
theorem eRes : Nonempty (Res) := ⟨(.none : Res)⟩
theorem word (w : World) (T : List UInt8) (tT : Tok) (p : Nat) (tp : Tok) (hp : p ≤ T.length + 1) (hT : T.length ≤ 1000) :
    CtrP w 832 [.str (lat T) tT, .int p tp] [] 8 80 (fun v new => ∃ a x xt p' t k, v = .ref a ∧ new = (a, { cls := .type "tuple", data := .seq #[x, .int p' t] k }) :: xt ∧ toldV (rt .sp false [] (T.drop p)).res x xt ∧ p' = ((min (p + (rt .sp false [] (T.drop p)).k) (T.length + 1) : Nat) : Int)) := by
  have hI0 := wdI0 (tp := tp) p hp
  obtain ⟨R0, hR0⟩ : ∃ R0, (rt .sp false [] (T.drop p)).res = R0 := ⟨_, rfl⟩
  obtain ⟨P0', hP0⟩ : ∃ P0', min (p + (rt .sp false [] (T.drop p)).k) (T.length + 1) = P0' := ⟨_, rfl⟩
  rw [hR0, hP0] at hI0 ⊢
  clear hR0 hP0
  unfold CtrP
  k_fill
  k_with_none
  k_with "om" => (with_reducible first|assumption|exact rm1 (by assumption) rfl|exact rm2 (by assumption) rfl|exact rm3 (by assumption) rfl|exact rm0 (by assumption)|exact Nat.le_of_lt (by assumption)|exact Nat.le_add_right _ _|exact Nat.lt_succ_self _|exact Nat.le_of_not_lt (by assumption)|exact lt_i (by assumption)|exact nlt_i (by assumption)|exact le_big (by assumption) rfl)
  k_with "k_all" => (first|(first|assumption|exact off_lt (by walk_at "and_last")|exact off_le (by walk_at "and_last") (Nat.le_succ _)|exact off_le (by walk_at "and_last") (Nat.le_add_right _ _)|exact off_le' (by assumption) (Nat.le_refl _)|exact off_le' (by assumption) (Nat.le_succ _)|exact off_le' (by assumption) (Nat.le_add_right _ _)|exact off_le' (by assumption) (Nat.le_succ_of_le (Nat.le_succ _))|exact off_le' (by assumption) (Nat.le_succ_of_le (Nat.le_succ_of_le (Nat.le_succ _))))|fail)
  k_with "k_ne" => (first|(first|assumption|exact Ne.symm (by assumption))|fail)
  k_with "k_upd" => (first|((refine' upd_ap ?ap9 ?ae9 ?st9 ?sk9;(case ap9 => assumption);(case ae9 => exact rfl);(case st9 => walk_at "setn");(case sk9 => first|decide|omega)))|fail)
  k_with "m_enter" => (((first|(refine' code_def (by k_asm) (by k_asm) (by k_asm) (by k_asm) (by k_asm) rfl rfl (by first|exact rfl|assumption|fail) (by k_is) (by k_is) (by ktr_room) (by first|exact BindsTo.of_eq rfl|exact binds_K (by k_in) rfl (by k_is) rfl rfl rfl|fail) (by first|(exact locs rfl)|fail) ?_ (by first|exact rfl|fail) (by first|exact rfl|fail) (by first|exact rfl|fail) (by decide);k_whole;intro g' L' h' FG' F' N' B' X' T';(try dsimp only);(try k_lift B');skip)|(refine' code_defC (by k_asm) (by k_asm) (by k_asm) (by k_asm) (by k_asm) rfl rfl (by first|exact rfl|assumption|fail) (by k_is) (by k_is) (by ktr_room) (by first|exact BindsTo.of_eq rfl|exact binds_K (by k_in) rfl (by k_is) rfl rfl rfl|fail) (by first|exact rfl|fail) (by first|(decide +kernel)|fail) ?_ (by first|exact rfl|fail) (by first|exact rfl|fail) (by first|exact rfl|fail);k_whole;intro g' L' h' tk' cells' FG' F' N' Y' B' X' T' l1;(try k_lt l1);k_cells Y';(try simp only [List.cons_append, List.nil_append] at N');(try dsimp only);(try k_lift B');skip)));(all_goals (first|(revert FG' F' N' B' X' T';revert g' L' h';refine eps3 eH eN eH ?_;generalize q31 _ = g', q32 _ = L', q33 _ = h';refine hold3 ?_;intro FG' F' N' B' X' T')|skip)))
  k_with "eval Name" => ((k_here;k_dflt (first|(refine' m_local (by first|exact rfl|fail) (by first|exact rfl|fail) (by decide) (by k_asm) (by first|exact rfl|fail) ?_;k_whole)|(refine' m_free (by first|exact rfl|fail) (by first|exact rfl|fail) (by decide) (by decide) (by first|exact rfl|fail) (by k_asm) (by k_mem) (by k_asm) ?_;k_whole)|(refine' m_global (by first|exact rfl|fail) (by first|exact rfl|fail) (by decide) (by first|exact rfl|fail) (by k_asm) (by k_asm) (by k_asm) (by k_is) ?_;k_whole)|(refine' m_builtin (by first|exact rfl|fail) (by first|exact rfl|fail) (by decide) (by first|exact rfl|fail) (by first|exact rfl|fail) (by k_asm) (by k_asm) (by k_asm) (by k_is) (by decide) (by first|(boot_by_name)|fail) ?_;k_whole))))
  k_with "call ref" => ((k_here;k_extra "m call"))
  k_with "exec While" => ((k_here;k_extra "m while"))
  k_with "inplaceOp Add str str" => ((((k_here;(with_reducible show wpAny _ _ (inplaceOp _ (Value.str (lat _) _) (Value.str (lat _) _)) _ _ _);k_dflt (refine' m_sadd (by first|omega|(simp only [List.length_cons, List.length_append, List.length_nil] at *;omega)|fail) ?_;k_whole;intro _ _))));(all_goals (first|(rename_i u19 u29 u39 u49 u59 u69 u79;revert u49 u59;revert u19 u29 u39 tk u69 u79;refine eps6 eH eH eH eN eN eN ?_;generalize q61 _ = u19, q62 _ = u29, q63 _ = u39, q64 _ = tk, q65 _ = u69, q66 _ = u79;refine hold6 ?_;intro _ _)|skip)))
  k_with "call builtin:len" => ((((k_here;(with_reducible show wpAny _ _ (call (Value.builtin "len") [Value.str (lat _) _]) _ _ _);k_dflt (refine' m_lenS (Nat.le_trans hT (by decide)) ?_;k_whole;intro _ _))));(all_goals (first|(rename_i u19 u29 u39 u49 u59 u69 u79 u89;revert u49 u59;revert u19 u29 u39 u69 u79 u89;refine eps6 eH eH eH eN eN eN ?_;generalize q61 _ = u19, q62 _ = u29, q63 _ = u39, q64 _ = u69, q65 _ = u79, q66 _ = u89;refine hold6 ?_;intro _ _)|(rename_i u19 u29;revert tk u19 u29;refine eps3 eN eN eN ?_;generalize q31 _ = tk, q32 _ = u19, q33 _ = u29;refine hold3 ?_)|(rename_i u19 u29;revert u19 u29;refine eps2 eN eN ?_;generalize q21 _ = u19, q22 _ = u29;refine hold2 ?_)|skip)))
  k_with "exec If" => ((k_here;refine wpAny_If ?_))
  k_with "execs cons" => (((with_reducible refine wpAny_execs_cons ?_);try dsimp only))
  k_with "ite" => ((k_here;k_dflt (first|refine ite_pos (by with_reducible exact rfl) ?_|(with_reducible refine ite_neg Bool.false_ne_true ?_)|(k_closed;first|refine ite_pos (by decide) ?_|refine ite_neg (by decide) ?_)|refine ite_pos (by with_reducible assumption) ?_|refine ite_neg (by with_reducible assumption) ?_|(refine split_dec ?_ ?_ <;> intro hi9))))
  k_with "compareOp Eq str str" => ((k_here;k_dflt (refine' m_seq (by first|with_reducible assumption|with_reducible exact f_hs|with_reducible exact lat_one _ _|with_reducible exact rfl|fail) ?_;k_whole)))
  k_with "compareOp In str str" => ((k_here;k_dflt (refine' m_sin (by first|with_reducible assumption|with_reducible exact f_wsh|with_reducible exact f_ws|with_reducible exact rfl|fail) ?_;k_whole)))
  k_with "subscriptTail Name Name str int" => ((((k_here;k_dflt (refine' m_item hTb rfl hT ?_);k_whole;intro _ _)));(all_goals (first|(rename_i u19 u29;revert tk u19 u29;refine eps3 eN eN eN ?_;generalize q31 _ = tk, q32 _ = u19, q33 _ = u29;refine hold3 ?_)|(rename_i u19 u29;revert u19 u29;refine eps2 eN eN ?_;generalize q21 _ = u19, q22 _ = u29;refine hold2 ?_)|skip)))
  intro hrow mean mg mb dp un gd cn cs a ccd cl outer A₀ base h₀ L m s rest Q E B F X N TQ hk hd hu hret
  simp only [List.cons_append, List.nil_append] at N
  k_with "m while" => ((((with_reducible rename Fr _ _ _ _ => Fw);(with_reducible rename News _ _ _ _ => Nw);(have Fw2 := fr_three (m0 := mp [("place", .int p tp), ("text", .str (lat T) tT)]) (a := ("token" : Str)) (b := ("place" : Str)) (c := ("part" : Str)) Fw (by k_dflt (exact rfl)) (by k_dflt (exact rfl)) (by k_dflt (exact rfl)) (by intro k h1 h2 h3;simp only [h1, h2, h3, if_false]));refine whl_start 0 ?_;refine whl_led (σ := Wd) (fun s => T.length + 2 - s.b) (WdJ T R0 P0') (fun s => fun y => if y = "token" then some (.str (lat s.tok) s.tt) else if y = "place" then some (.int s.z s.tb) else if y = "part" then s.pv else mp [("place", .int p tp), ("text", .str (lat T) tT)] y) (fun _ => rest) (by passes_own) ?_ ⟨b, b, _, [], _, none, false⟩ _ _ (wdJ0 hI hDb (by assumption)) Fw2 Nw;clear Fw Fw2 Nw hR hI hDb hTb hbl hr2 hrl2 hzl;rintro ⟨b, z, tb, tok, tt, pv, q⟩ h9 tk9 Rr hJ F9 N9 hR;(have iz := hJ.z);(have ib := hJ.b);(have htl := hJ.tl);(dsimp only at iz ib htl);subst iz;(dsimp only at F9 N9 ⊢);(rcases hDb : T.drop b with _|⟨c, r2⟩);(have hlb : T.length ≤ b := drop_nil hDb);(have hzl : ¬ (b : Int) < (T.length : Int) := Int.not_lt.mpr (Int.ofNat_le.mpr hlb));rotate_left;(obtain ⟨hTb, hbl, hr2, hrl2⟩ := drop_cons hDb);(have hzl : (b : Int) < (T.length : Int) := Int.ofNat_lt.mpr hbl);rotate_left;all_goals skip));(all_goals (first|(rename_i u19;revert N9 ib htl hJ F9 hR hDb hTb hbl hr2 hrl2 hzl;revert u19 b tb tok tt pv q h9 tk9 Rr c r2;refine eps8 eH eN eN eT eN eOv eB eH ?_;generalize q81 _ = u19, q82 _ = b, q83 _ = tb, q84 _ = tok, q85 _ = tt, q86 _ = pv, q87 _ = q, q88 _ = h9;refine hold8 ?_;refine eps4 eN eP1 eU eT ?_;generalize q41 _ = tk9, q42 _ = Rr, q43 _ = c, q44 _ = r2;refine hold4 ?_;intro N9 ib htl hJ F9 hR hDb hTb hbl hr2 hrl2 hzl)|(rename_i u19;revert N9 ib htl hJ F9 hR hDb hlb hzl;revert u19 b tb tok tt pv q h9 tk9 Rr;refine eps8 eH eN eN eT eN eOv eB eH ?_;generalize q81 _ = u19, q82 _ = b, q83 _ = tb, q84 _ = tok, q85 _ = tt, q86 _ = pv, q87 _ = q, q88 _ = h9;refine hold8 ?_;refine eps2 eN eP1 ?_;generalize q21 _ = tk9, q22 _ = Rr;refine hold2 ?_;intro N9 ib htl hJ F9 hR hDb hlb hzl)|skip)))
  k_with "m while" => ((((with_reducible show wpAny _ _ (exec (Stmt.While (Expr.BoolOp _ _ _) _ _ _) _) _ _ _);(with_reducible rename Fr _ _ _ _ => Fw);(with_reducible rename News _ _ _ _ => Nw);refine whl_start 0 ?_;refine whl_led (σ := Nat × Int × Tok) (fun s => T.length + 2 - s.1) (WdI T R0 P0') (fun s => fun y => if y = "place" then some (.int s.2.1 s.2.2) else mp [("place", .int p tp), ("text", .str (lat T) tT)] y) (fun _ => rest) (by passes_own) ?_ ⟨p, p, tp⟩ _ _ hI0 (fr_add Fw (by k_dflt (exact rfl))) Nw;clear Fw Nw hI0;rintro ⟨b, z, tb⟩ h9 tk9 Rr hI F9 N9 hR;(obtain ⟨ib, iz, -, -⟩ := id hI);(dsimp only at ib iz);subst iz;(dsimp only at F9 N9 ⊢);(rcases hDb : T.drop b with _|⟨c, r2⟩);(have hlb : T.length ≤ b := drop_nil hDb);(have hzl : ¬ (b : Int) < (T.length : Int) := Int.not_lt.mpr (Int.ofNat_le.mpr hlb));rotate_left;(obtain ⟨hTb, hbl, hr2, hrl2⟩ := drop_cons hDb);(have hzl : (b : Int) < (T.length : Int) := Int.ofNat_lt.mpr hbl);rotate_left;all_goals skip));(all_goals (first|(revert N9 ib hI F9 hR hDb hTb hbl hr2 hrl2 hzl;revert b tb h9 tk9 Rr c r2;refine eps7 eN eN eH eN eP1 eU eT ?_;generalize q71 _ = b, q72 _ = tb, q73 _ = h9, q74 _ = tk9, q75 _ = Rr, q76 _ = c, q77 _ = r2;refine hold7 ?_;intro N9 ib hI F9 hR hDb hTb hbl hr2 hrl2 hzl)|(revert N9 ib hI F9 hR hDb hlb hzl;revert b tb h9 tk9 Rr;refine eps5 eN eN eH eN eP1 ?_;generalize q51 _ = b, q52 _ = tb, q53 _ = h9, q54 _ = tk9, q55 _ = Rr;refine hold5 ?_;intro N9 ib hI F9 hR hDb hlb hzl)|skip)))
  k_with "compareOp Lt int int" => (k_here;first|(with_reducible refine lt_t hzl ?_)|(with_reducible refine lt_f hzl ?_))
  k_with "compareOp GtE int int" => (k_here;first|(with_reducible refine ge_f hzl ?_)|(with_reducible refine ge_t hzl ?_))
  k_with "m call" => ((((with_reducible show wpAny _ _ (call (Value.ref 820) _) _ _ _);(have ib2 : b ≤ T.length := by omega);k_dflt (refine' ctrP_use (by k_asm) (by k_asm) (by k_asm) (by k_asm) (by k_asm) (by first|exact rfl|assumption) (by ktr_room) (by ktr_units) (behind w T tT b _ ib2 hT) (by intro q hq;cases hq) ?_;k_whole;intro v9 new9 h9 tk9 hp9 F9 N9;obtain ⟨rfl, t9, rfl⟩ := hp9;(try simp only [List.cons_append, List.nil_append] at N9);(try dsimp only);skip)));(all_goals (first|(revert F9 N9;revert h9 tk9 t9;refine eps3 eH eN eN ?_;generalize q31 _ = h9, q32 _ = tk9, q33 _ = t9;refine hold3 ?_;intro F9 N9)|skip)))
  k_with "m call" => ((((with_reducible show wpAny _ _ (call (Value.ref 825) _) _ _ _);k_dflt (refine' ctrP_use (by k_asm) (by k_asm) (by k_asm) (by k_asm) (by k_asm) (by first|exact rfl|assumption) (by ktr_room) (by ktr_units) (part w T tT b _ c r2 hDb hT) (by intro q hq;cases hq) ?_;k_whole;intro v9 new9 h9 tk9 hp9 F9 N9;obtain ⟨a9, x9, xt9, hp9⟩ := hp9;k_dflt (refine ex3 hp9 ?_);clear hp9;intro p9 t9 k9 hp9;obtain ⟨rfl, rfl, hpt9⟩ := hp9;(try simp only [List.cons_append, List.nil_append] at N9);(have hrp := rt_pt (tok := tok) (q := q) (c := c) (r := r2) (by assumption) (by assumption));(rcases hpo : ptOf (c :: r2) with ⟨w9, k8⟩|e9);(rw [hpo] at hpt9 hrp;obtain ⟨rfl, ⟨t8, rfl⟩, rfl⟩ := hpt9;(have hwl := pt_len hpo);(have hk8 := hrp.2.2.1));rotate_left;focus (rw [hpo] at hpt9 hrp;(have e8 := hrp);(obtain ⟨st8, hrt8, rfl|rfl⟩ := e8);all_goals (k_dflt (refine ex4 hpt9 ?_);clear hpt9;intro a7 t7 t6 k7 hpt9;obtain ⟨rfl, rfl⟩ := hpt9));rotate_left;rotate_left;all_goals ((try simp only [List.cons_append, List.nil_append] at N9);(try dsimp only);skip))));(all_goals (first|(revert F9 hrt8 N9;revert tk h9 tk9 a9 p9 t9 k9 st8 a7 t7 t6 k7;refine eps8 eN eH eN eN eI eN eN eSt ?_;generalize q81 _ = tk, q82 _ = h9, q83 _ = tk9, q84 _ = a9, q85 _ = p9, q86 _ = t9, q87 _ = k9, q88 _ = st8;refine hold8 ?_;refine eps4 eN eN eN eN ?_;generalize q41 _ = a7, q42 _ = t7, q43 _ = t6, q44 _ = k7;refine hold4 ?_;intro F9 hrt8 N9)|(revert F9 hrp hpo N9 hwl hk8;revert tk h9 tk9 a9 t9 k9 w9 k8 t8;refine eps8 eN eH eN eN eN eN eT eN ?_;generalize q81 _ = tk, q82 _ = h9, q83 _ = tk9, q84 _ = a9, q85 _ = t9, q86 _ = k9, q87 _ = w9, q88 _ = k8;refine hold8 ?_;refine eps1 eN ?_;generalize cex _ _ = t8;refine hold1 ?_;intro F9 hrp hpo N9 hwl hk8)|skip)))
  revert hp hT hI0 B F X N TQ hk hd hu hret; revert w T tT p tp R0 P0' mean mg mb dp un gd cn cs a ccd cl outer A₀ base h₀ L m s rest Q E; refine eps8 eW eT eN eN eN eRes eN eEx ?_; generalize q81 _ = w, q82 _ = T, q83 _ = tT, q84 _ = p, q85 _ = tp, q86 _ = R0, q87 _ = P0', q88 _ = mean; refine hold8 ?_; refine eps8 eM eM eN eN eOC eS eSc eN ?_; generalize q81 _ = mg, q82 _ = mb, q83 _ = dp, q84 _ = un, q85 _ = gd, q86 _ = cn, q87 _ = cs, q88 _ = a; refine hold8 ?_; refine eps8 eV eSA eEn eAr eH eH eN eM ?_; generalize q81 _ = ccd, q82 _ = cl, q83 _ = outer, q84 _ = A₀, q85 _ = base, q86 _ = h₀, q87 _ = L, q88 _ = m; refine hold8 ?_; refine eps4 eSh eL eP2 eP2 ?_; generalize q41 _ = s, q42 _ = rest, q43 _ = Q, q44 _ = E; refine hold4 ?_; intro hp hT hI0 B F X N TQ hk hd hu hret
  refine wpAny_call ?_
  k_dflt (walk_at "m_enter")
  (with_reducible rename Fr _ _ _ _ => Fe9)
  replace Fe9 := fr_mp (l' := [("place", .int p tp), ("text", .str (lat T) tT)]) Fe9 rfl
  repeat' (first | (k_unfold; (try dsimp only)) | walk1 | (dsimp only; walk1) | (dsimp only; with_reducible refine lpost_brk ?_; try dsimp only) | (dsimp only; with_reducible refine lpost_ret ?_; try dsimp only))
  all_goals (try k_data)
  all_goals first
    | ((obtain ⟨e1, e2⟩ := wdI_end hI hDb); (rw [e1] at hret); exact hret _ _ _ _ ⟨_, _, [], _, _, _, rfl, rfl, ⟨rfl, rfl⟩, by rw [e2]; try rfl⟩ (by assumption) ((by assumption)))
    | ((obtain ⟨e1, e2⟩ := wdJ_end hJ hDb); (rw [e1] at hret); exact hret _ _ _ _ ⟨_, _, [], _, _, _, rfl, rfl, ⟨rfl, _, rfl⟩, by rw [e2]; try rfl⟩ (by assumption) ((by assumption)))
    | ((obtain ⟨e1, e2⟩ := wdJ_ws hJ hDb (by assumption)); (rw [e1] at hret); exact hret _ _ _ _ ⟨_, _, [], _, _, _, rfl, rfl, ⟨rfl, _, rfl⟩, by rw [e2]; try rfl⟩ (by assumption) ((by assumption)))
    | ((obtain ⟨e1, e2⟩ := wdJ_hs hJ hDb (by assumption)); (rw [e1] at hret); exact hret _ _ _ _ ⟨_, _, [], _, _, _, rfl, rfl, ⟨rfl, _, rfl⟩, by rw [e2]; try rfl⟩ (by assumption) ((by assumption)))
    | ((obtain ⟨e1, e2⟩ := wdJ_bad hJ hDb hrt8); (rw [e1] at hret); exact hret _ _ _ _ ⟨_, _, [_], _, _, _, rfl, rfl, ⟨_, _, _, _, rfl, rfl⟩, by rw [e2]; try rfl⟩ (by assumption) (nw2 (by assumption)))
    | (exact lpost_next (hR ⟨_, _, _⟩ _ _ (wdI_hs hI hDb (by assumption) (t := tb)).2 (wdI_hs hI hDb (by assumption)).1 (fr_re (by assumption)) (by assumption)))
    | (exact lpost_next (hR ⟨b + 1, _, _⟩ _ _ (wd_fall1 hbl) (wdI_ws hI hDb (by assumption) (by assumption)) (fr_re (by assumption)) (by assumption)))
    | (exact lpost_next (hR ⟨b + k8, ((b + k8 : Nat) : Int), _, tok ++ w9, _, some (.str (lat w9) t8), q || isQ c⟩ _ _ (wdJ_next hJ hDb hrp hwl (t1 := tb) (t2 := tt) (pv' := none)).2 (wdJ_next hJ hDb hrp hwl).1 (fr_three (m0 := mp [("place", .int p tp), ("text", .str (lat T) tT)]) (by assumption) rfl rfl rfl (by intro k h1 h2 h3; simp only [h1, h2, h3, if_false])) (news_tail (by assumption))))
  k_with_none
end Mine
end
section
namespace Mine
theorem eJn : Nonempty (Jn) := ⟨(⟨.none, (0 : Nat), (0 : Nat), 0, .none, .none, 0, [], (0 : Nat)⟩ : Jn)⟩
theorem eWc : Nonempty (Wc) := ⟨(⟨ws0, [], [], 0, (0 : Nat), (0 : Nat), 0, .none, .none, 0, [], (0 : Nat), none, none⟩ : Wc)⟩
theorem walk (w : World) (fa da : Addr) (qs : List Ft) (nf nd : Nat) (dv : List Value) (bs : List Bool) (hf : FrOk (qs.map Ft.fm)) (hdv : BoolsAre dv bs) (hbl : bs.length ≤ 100) :
    CtrP w 844 [.ref fa, .ref da] ((fa, lst0 (ftV qs) nf) :: (da, lst0 dv nd) :: ftL qs) 14 140 (fun v new => DatIn new v (walkD (qs.map Ft.fm) bs)) := by
  have hql : qs.length ≤ 32 := by simpa using hf.sz
  unfold CtrP
  k_fill
  k_with_none
  k_with "om" => (with_reducible first|assumption|exact rm1 (by assumption) rfl|exact rm2 (by assumption) rfl|exact rm3 (by assumption) rfl|exact rm0 (by assumption)|exact Nat.le_of_lt (by assumption)|exact Nat.le_add_right _ _|exact Nat.lt_succ_self _|exact Nat.le_of_not_lt (by assumption)|exact lt_i (by assumption)|exact nlt_i (by assumption)|exact le_big (by assumption) rfl)
  k_with "k_all" => (first|(first|assumption|exact off_lt (by walk_at "and_last")|exact off_le (by walk_at "and_last") (Nat.le_succ _)|exact off_le (by walk_at "and_last") (Nat.le_add_right _ _)|exact off_le' (by assumption) (Nat.le_refl _)|exact off_le' (by assumption) (Nat.le_succ _)|exact off_le' (by assumption) (Nat.le_add_right _ _)|exact off_le' (by assumption) (Nat.le_succ_of_le (Nat.le_succ _))|exact off_le' (by assumption) (Nat.le_succ_of_le (Nat.le_succ_of_le (Nat.le_succ _))))|fail)
  k_with "k_ne" => (first|(first|assumption|exact Ne.symm (by assumption))|fail)
  k_with "k_upd" => (first|((refine' upd_ap ?ap9 ?ae9 ?st9 ?sk9;(case ap9 => assumption);(case ae9 => exact rfl);(case st9 => walk_at "setn");(case sk9 => first|decide|omega)))|fail)
  k_with "mm" => (first|((repeat (first|assumption|exact List.mem_cons_self|exact List.mem_append.mpr (Or.inl (by first|assumption|fail))|apply List.mem_cons_of_mem|refine List.mem_append.mpr (Or.inr ?_)));done)|fail)
  k_with "m_enter" => (((first|(refine' code_def (by k_asm) (by k_asm) (by k_asm) (by k_asm) (by k_asm) rfl rfl (by first|exact rfl|assumption|fail) (by k_is) (by k_is) (by ktr_room) (by first|exact BindsTo.of_eq rfl|exact binds_K (by k_in) rfl (by k_is) rfl rfl rfl|fail) (by first|(exact locs rfl)|fail) ?_ (by first|exact rfl|fail) (by first|exact rfl|fail) (by first|exact rfl|fail) (by decide);k_whole;intro g' L' h' FG' F' N' B' X' T';(try dsimp only);(try k_lift B');skip)|(refine' code_defC (by k_asm) (by k_asm) (by k_asm) (by k_asm) (by k_asm) rfl rfl (by first|exact rfl|assumption|fail) (by k_is) (by k_is) (by ktr_room) (by first|exact BindsTo.of_eq rfl|exact binds_K (by k_in) rfl (by k_is) rfl rfl rfl|fail) (by first|exact rfl|fail) (by first|(decide +kernel)|fail) ?_ (by first|exact rfl|fail) (by first|exact rfl|fail) (by first|exact rfl|fail);k_whole;intro g' L' h' tk' cells' FG' F' N' Y' B' X' T' l1;(try k_lt l1);k_cells Y';(try simp only [List.cons_append, List.nil_append] at N');(try dsimp only);(try k_lift B');skip)));(all_goals (first|(rename_i u19 u29;revert FG' F' B' X' T' l1 u29 N';revert g' L' h' tk' u19;refine eps5 eH eN eH eN eO ?_;generalize q51 _ = g', q52 _ = L', q53 _ = h', q54 _ = tk', q55 _ = u19;refine hold5 ?_;intro FG' F' B' X' T' l1 _ N')|skip)))
  k_with "eval Name" => ((k_here;k_dflt (first|(refine' m_local (by first|exact rfl|fail) (by first|exact rfl|fail) (by decide) (by k_asm) (by first|exact rfl|fail) ?_;k_whole)|(refine' m_free (by first|exact rfl|fail) (by first|exact rfl|fail) (by decide) (by decide) (by first|exact rfl|fail) (by k_asm) (by k_mem) (by k_asm) ?_;k_whole)|(refine' m_global (by first|exact rfl|fail) (by first|exact rfl|fail) (by decide) (by first|exact rfl|fail) (by k_asm) (by k_asm) (by k_asm) (by k_is) ?_;k_whole)|(refine' m_builtin (by first|exact rfl|fail) (by first|exact rfl|fail) (by decide) (by first|exact rfl|fail) (by first|exact rfl|fail) (by k_asm) (by k_asm) (by k_asm) (by k_is) (by decide) (by first|(boot_by_name)|fail) ?_;k_whole))))
  k_with "call ref" => ((k_here;k_extra "m call"))
  k_with "call builtin:len" => ((((k_here;(with_reducible show wpAny _ _ (call (Value.builtin "len") [Value.str (lat _) _]) _ _ _);k_dflt (refine' m_lenS (by omega) ?_;k_whole;intro _ _))));(all_goals (first|(rename_i u19 u29;revert u19 u29;refine eps2 eN eN ?_;generalize q21 _ = u19, q22 _ = u29;refine hold2 ?_)|skip)))
  k_with "setn" => (first|exact SetN.head|(apply SetN.tail;walk_at "setn"))
  k_with "exec If" => ((k_here;refine wpAny_If ?_))
  k_with "execs cons" => (((with_reducible refine wpAny_execs_cons ?_);try dsimp only))
  k_with "ite" => ((k_here;k_dflt (first|refine ite_pos (by with_reducible exact rfl) ?_|(with_reducible refine ite_neg Bool.false_ne_true ?_)|(k_closed;first|refine ite_pos (by decide) ?_|refine ite_neg (by decide) ?_)|refine ite_pos (by with_reducible assumption) ?_|refine ite_neg (by with_reducible assumption) ?_|(refine split_dec ?_ ?_ <;> intro hi9))))
  intro hrow mean mg mb dp un gd cn cs a ccd cl outer A₀ base h₀ L m s rest Q E B F X N TQ hk hd hu hret
  simp only [List.cons_append, List.nil_append] at N
  k_with "eval ListComp" => (k_here;(with_reducible show wpAny _ _ (eval (Expr.ListComp _ [⟨Expr.Tuple _ _ _, _, [], _⟩] _ _) _) _ _ _);k_dflt (refine LCp.ListComp_P (F₀ := by k_asm) (by first|rfl|fail) (by decide) (by first|rfl|fail) (by decide) (by first|rfl|fail) (by first|rfl|fail) (by decide) ?_))
  k_with "eval ListComp" => (k_here;(with_reducible show wpAny _ _ (eval (Expr.ListComp _ [⟨Expr.Tuple _ _ _, _, [_], _⟩] _ _) _) _ _ _);(with_reducible rename Fr _ _ _ _ => F');k_dflt (refine ListComp_PT F' (by first|rfl|fail) (by decide) (by first|rfl|fail) (by decide) (by first|rfl|fail) (by first|rfl|fail) (by decide) ?_))
  k_with "exec Assign cons ListComp" => (k_here;k_dflt (refine Assign_ListComp_C (by k_asm) (by rfl) (by with_unfolding_all rfl) (by first|rfl|fail) (by first|rfl|fail) (by first|rfl|fail) (by intro _ _;rfl) (by decide) (by rfl) (by rfl) ?_))
  k_with "SrcCA" => (((k_dflt (refine srcCA_txt (fun b => txt b (qs.map Ft.fm)) (by first|rfl|fail) (by k_asm) (by k_asm) (by k_mem) ?_ ?_);rotate_left;(intro tx0 tx1 X0 h9 tk9 kx F9 N9);rotate_left;(intro b9 t9 ys8 I8 oI8 C8 oC8 Ca8 oCa8 D8 h8 tk8 E8 hCa8 F8 N8)));(all_goals (first|(rename_i u19 u29 u39 u49 u59;revert u39 u49 u59 hCa8 F8 N8;revert u19 u29 b9 t9 ys8 I8 oI8 C8 oC8 Ca8 oCa8 D8 h8 tk8 E8;refine eps8 eN eH eB eN eLV eN eO eN ?_;generalize q81 _ = u19, q82 _ = u29, q83 _ = b9, q84 _ = t9, q85 _ = ys8, q86 _ = I8, q87 _ = oI8, q88 _ = C8;refine hold8 ?_;refine eps7 eO eN eO eN eH eN eP2 ?_;generalize q71 _ = oC8, q72 _ = Ca8, q73 _ = oCa8, q74 _ = D8, q75 _ = h8, q76 _ = tk8, q77 _ = E8;refine hold7 ?_;intro _ _ _ hCa8 F8 N8)|(rename_i u19 u29 u39 u49 u59;revert u39 u49 u59 F9 N9;revert u19 u29 tx0 tx1 X0 h9 tk9 kx;refine eps8 eN eH eN eN eN eH eN eN ?_;generalize q81 _ = u19, q82 _ = u29, q83 _ = tx0, q84 _ = tx1, q85 _ = X0, q86 _ = h9, q87 _ = tk9, q88 _ = kx;refine hold8 ?_;intro _ _ _ F9 N9)|skip)))
  k_with "SrcPT" => (((k_dflt (refine srcPT_txt b9 (by first|rfl|fail) (by k_asm) (by k_asm) (by k_mem) (by intro z hz;repeat (first|exact List.mem_append.mpr (Or.inl hz)|apply List.mem_cons_of_mem)) hql ?_ ?_);rotate_left;(intro ys7 D7 h7 tk7 hys7 F7 N7);rotate_left;(intro q7 ys7 I7 oI7 C7 oC7 D7 m7 h7 tk7 E7 ok7 hok7 hC7 hx7 hy7 F7 N7;cases ok7);(have hoe := (kI_eq (odd8 q7.c) b9).trans hok7);rotate_left;(have hoe := (kI_eq (odd8 q7.c) b9).trans hok7);rotate_left));(all_goals (first|(revert qk ek hC7 hx7 hy7 F7 N7 hok7 hoe;revert q7 ys7 I7 oI7 C7 oC7 D7 m7 h7 tk7 E7;refine eps8 eFt eLV eN eO eN eO eN eM ?_;generalize q81 _ = q7, q82 _ = ys7, q83 _ = I7, q84 _ = oI7, q85 _ = C7, q86 _ = oC7, q87 _ = D7, q88 _ = m7;refine hold8 ?_;refine eps3 eH eN eP2 ?_;generalize q31 _ = h7, q32 _ = tk7, q33 _ = E7;refine hold3 ?_;intro qk ek hC7 hx7 hy7 F7 N7 hok7 hoe)|(revert qk ek hys7 F7 N7;revert ys7 D7 h7 tk7;refine eps4 eLV eN eH eN ?_;generalize q41 _ = ys7, q42 _ = D7, q43 _ = h7, q44 _ = tk7;refine hold4 ?_;intro qk ek hys7 F7 N7)|skip)))
  k_with "binaryOp Mod int int" => (k_here;refine m_mod (odd8_fmod _) (by decide) ?_)
  k_with "compareOp Eq int int" => (k_here;(with_reducible refine m_eqk hoe ?_))
  k_with "And" => (refine ⟨rfl, ?_⟩;(first|rw [if_pos rfl]|rw [if_neg Bool.false_ne_true]))
  k_with "Exists" => (first|exact ⟨_, _, rfl, by k_asm, by k_asm, _, rfl⟩|exact ⟨_, _, rfl, by k_asm, by k_asm⟩|exact ⟨_, _, rfl, by k_asm, news_tail (by k_asm), _, rfl⟩)
  k_with "call builtin:str.join" => (((k_here;k_dflt (refine' m_join0 (by k_asm) (by k_mem) hys7 (txL_sum b9 qs hf) ?_;k_whole;intro _ _);rw [txL_txt]));(all_goals (first|(rename_i u19 u29;revert u19 u29;refine eps2 eN eN ?_;generalize q21 _ = u19, q22 _ = u29;refine hold2 ?_)|skip)))
  k_with "newList" => (((k_here;(with_reducible show wpAny _ _ (newList []) _ _ _);k_dflt (refine' m_newList (by k_asm) (by k_asm) (by first|exact Nat.le_of_ble_eq_true rfl|fail) ?_;k_whole);intro Rw h2 kR F2 N2 lR));(all_goals (first|(revert F2 N2 lR;revert Rw h2 kR;refine eps3 eN eH eN ?_;generalize q31 _ = Rw, q32 _ = h2, q33 _ = kR;refine hold3 ?_;intro F2 N2 lR)|skip)))
  k_with "newList" => (((k_here;(with_reducible show wpAny _ _ (newList (Value.int _ _ :: _)) _ _ _);k_dflt (refine' m_newList (by k_asm) (by k_asm) (by first|exact Nat.le_of_ble_eq_true rfl|fail) ?_;k_whole);intro Pw h2 kP F2 N2 lP));(all_goals (first|(revert F2 N2 lP;revert Pw h2 kP;refine eps3 eN eH eN ?_;generalize q31 _ = Pw, q32 _ = h2, q33 _ = kP;refine hold3 ?_;intro F2 N2 lP)|skip)))
  k_with "newList" => (((k_here;(with_reducible show wpAny _ _ (newList (Value.none :: _)) _ _ _);k_dflt (refine' m_newList (by k_asm) (by k_asm) (by first|exact Nat.le_of_ble_eq_true rfl|fail) ?_;k_whole);intro Sw h2 kS F2 N2 lS));(all_goals (first|(revert F2 N2 lS;revert Sw h2 kS;refine eps3 eN eH eN ?_;generalize q31 _ = Sw, q32 _ = h2, q33 _ = kS;refine hold3 ?_;intro F2 N2 lS)|skip)))
  k_with "exec For Name Name cons nil" => (k_here;(with_reducible rename Fr _ _ _ _ => Fw0);k_dflt (refine For_turns Fw0 ?_))
  k_with "pyIter ref" => ((((with_reducible show wpAny _ _ (pyIter _) (fun _ _ => TurnsAt _ _ _ _ _ _ _ _ _ _ _) _ _);(with_reducible rename Fr _ _ _ _ => Fw);(with_reducible rename News _ _ _ _ => Nw);(obtain ⟨m1, hm1, Fw1⟩ := fr_all Fw);(have o1 : m1 "texts" = some (.ref X0) := by rw [hm1];k_dflt (exact rfl));(have o2 : m1 "rows" = some (.ref Rw) := by rw [hm1];k_dflt (exact rfl));(have o3 : m1 "places" = some (.ref Pw) := by rw [hm1];k_dflt (exact rfl));(have o4 : m1 "stuck" = some (.ref Sw) := by rw [hm1];k_dflt (exact rfl));(with_reducible rename Obj.data _ = _ => hcl0);(have hcl := cell_of (v := Value.ref fa) hcl0 (by k_dflt (exact rfl)));(have o5 : ∃ t, m1 "taken" = some (.int 0 t) := ⟨_, by rw [hm1];k_dflt (exact rfl)⟩);(obtain ⟨tt0, o5⟩ := o5);clear hm1;(have Nw2 := led_rot (news_tail Nw));k_dflt (refine iter_led (σ := Wc) (vs := dv) (by rfl) (WcI (qs.map Ft.fm) bs) (fun c => fun y => if y = "which" then c.wv else if y = "told" then c.tv else if y = "taken" then some (.int (c.S.t : Int) c.tt) else m1 y) (fun c => (Rw, lst0 c.rv c.rn) :: (Pw, lst0 [.int (c.S.p false) c.pt0, .int (c.S.p true) c.pt1] c.pn) :: (Sw, lst0 [c.s0, c.s1] c.sn) :: c.ext) _ ⟨ws0, [], [], kR, _, _, kP, .none, .none, kS, [], tt0, m1 "which", m1 "told"⟩ (List.mem_cons_of_mem _ (List.mem_cons_of_mem _ (List.mem_cons_of_mem _ (List.mem_cons_of_mem _ List.mem_cons_self)))) (fun _ c hJ => wc_cls hJ.ext) (fr_add (fr_add (fr_add Fw1 o5) rfl) rfl) Nw2 wcI0 ?_ ?_);(intro i v c h9 tk9 own9 Rr I9 hI9 ho9 hv9 hJ F9 N9 hR;(obtain ⟨b, tb, hb, hve⟩ := bools_get hdv hv9);(subst hve);(obtain ⟨T9, hT9, N8, aR, aP, aS, lRP, lRS, lPS, hX9, hY9, hZ9, hq9⟩ := wk_pre N9 hI9 ho9 lR lP lS (List.mem_cons_of_mem _ (List.mem_cons_of_mem _ (List.mem_cons_of_mem _ (List.mem_cons_of_mem _ List.mem_cons_self)))) List.mem_cons_self (List.mem_cons_of_mem _ (List.mem_cons_of_mem _ List.mem_cons_self)) (List.mem_cons_of_mem _ (List.mem_cons_of_mem _ (List.mem_cons_of_mem _ List.mem_cons_self))) (qs := qs) (fun z hz => List.mem_cons_of_mem _ (List.mem_cons_of_mem _ (List.mem_cons_of_mem _ (List.mem_cons_of_mem _ (List.mem_cons_of_mem _ (List.mem_append.mpr (Or.inl hz))))))));(rw [hT9] at hR);(have hO9 := wk_own hZ9 hq9);clear N9 hI9 ho9 hT9;(have hrl := wk_rl hJ hbl);(obtain ⟨v0, hsel, hd0⟩ := sel2d hJ.sv));rotate_left;(intro c h9 tk9 hJ F9 N9);rotate_left;all_goals skip));(all_goals (first|(rename_i u19 u29 u39 u49 u59 u69 u79 u89;revert u39 Fw Nw Fw1 o1 o2 o3 o4 o5 Nw2 hJ F9 hb hv9 hR N8 aR aP aS hX9 hY9 hZ9 hq9 hO9 hrl hsel hd0;revert u19 u29 u49 u59 u69 u79 u89 m1 tt0 i c h9 tk9 own9 Rr I9 b tb T9 v0;refine eps8 eN eH eH eH eH eH eH eM ?_;generalize q81 _ = u19, q82 _ = u29, q83 _ = u49, q84 _ = u59, q85 _ = u69, q86 _ = u79, q87 _ = u89, q88 _ = m1;refine hold8 ?_;refine eps8 eN eN eWc eH eN eL eP1 eN ?_;generalize q81 _ = tt0, q82 _ = i, q83 _ = c, q84 _ = h9, q85 _ = tk9, q86 _ = own9, q87 _ = Rr, q88 _ = I9;refine hold8 ?_;refine eps4 eB eN eL eV ?_;generalize q41 _ = b, q42 _ = tb, q43 _ = T9, q44 _ = v0;refine hold4 ?_;intro _ Fw Nw Fw1 o1 o2 o3 o4 o5 Nw2 hJ F9 hb hv9 hR N8 aR aP aS hX9 hY9 hZ9 hq9 hO9 hrl hsel hd0)|(rename_i u19 u29 u39 u49 u59 u69 u79 u89;revert u39 Fw Nw Fw1 o1 o2 o3 o4 o5 Nw2 hJ F9 N9;revert u19 u29 u49 u59 u69 u79 u89 m1 tt0 c h9 tk9;refine eps8 eN eH eH eH eH eH eH eM ?_;generalize q81 _ = u19, q82 _ = u29, q83 _ = u49, q84 _ = u59, q85 _ = u69, q86 _ = u79, q87 _ = u89, q88 _ = m1;refine hold8 ?_;refine eps4 eN eWc eH eN ?_;generalize q41 _ = tt0, q42 _ = c, q43 _ = h9, q44 _ = tk9;refine hold4 ?_;intro _ Fw Nw Fw1 o1 o2 o3 o4 o5 Nw2 hJ F9 N9)|skip)))
  k_with "subscriptTail Name Name ref int" => (k_here;k_dflt (first|refine' m_subL (by k_asm) (by walk_at "mm") hsel ?_|refine' m_subL (by k_asm) (by walk_at "mm") (sel2t b (fun b => txt b (qs.map Ft.fm)) tx0 tx1) ?_|refine' m_subL (by k_asm) (by walk_at "mm") (sel2i b c.S.p c.pt0 c.pt1) ?_|refine' m_subL (by k_asm) (by walk_at "mm") (sel2p b c.S.p P9 c.pt0 c.pt1 _) ?_);k_whole)
  k_with "eval Name" => (k_here;k_dflt (first|refine' m_local (by first|exact rfl|fail) (by first|exact rfl|fail) (by decide) (by k_asm) (by first|exact o1|exact o2|exact o3|exact o4|fail) ?_|refine' m_cell (by first|exact rfl|fail) (by first|exact rfl|fail) (by decide) (by first|exact rfl|fail) (by k_asm) (by walk_at "mm") hcl ?_);k_whole)
  k_with "exec If" => (((k_here;(fail_if_success (with_reducible show wpAny _ _ _ (JoinQ _) _ _));refine wpAny_mono (?_ : wpAny _ _ _ (JoinQ (fun s2 => ∃ (j : Jn) (h2 : Heap) (tk2 : Nat), s2 = { s with heap := h2, toks := tk2 } ∧ JnI (qs.map Ft.fm) b c j ∧ Fr g' L' h2 (fun y => if y = "told" then some j.x else if y = "taken" then some (.int ((wsStep (qs.map Ft.fm) c.S b).2.t : Int) j.tt) else if y = "which" then some (.int (kI b) tb) else m1 y) ∧ News g' L' h2 ((Rw, lst0 c.rv c.rn) :: (Pw, lst0 [.int ((wsStep (qs.map Ft.fm) c.S b).2.p false) j.pt0, .int ((wsStep (qs.map Ft.fm) c.S b).2.p true) j.pt1] j.pn) :: (Sw, lst0 [j.s0, j.s1] j.sn) :: (j.xt ++ T9)))) _ _) ?_ (fun _ _ e => e);rotate_left;(intro fl s2 hj0;(obtain ⟨rfl, j, h2, tk2, rfl, hj, F2, N2⟩ := joinQ_elim hj0);clear hj0;(dsimp only));rotate_left;(rcases hst9 : c.S.st b with _|r9);(rw [hst9] at hd0;(have hd1 := dat_none hd0);subst hd1);rotate_left;((have hd2 := hd0);rw [hst9] at hd2;(obtain ⟨a0, vs0, n0, hd1, hm0⟩ := bad_dat hd2 (hJ.stb b r9 hst9));subst hd1);rotate_left;all_goals skip));(all_goals (first|(rename_i u19 u29 u39 u49;revert u39 hst9 hm0 hsel hd0 u49 hd2;revert u19 u29 r9 a0 vs0 n0;refine eps6 eH eH eRes eN eAV eN ?_;generalize q61 _ = u19, q62 _ = u29, q63 _ = r9, q64 _ = a0, q65 _ = vs0, q66 _ = n0;refine hold6 ?_;intro _ hst9 hm0 hsel hd0 _ hd2)|(rename_i u19 u29 u39 u49;revert u39 u49 hj F2 N2;revert u19 u29 j h2 tk2;refine eps5 eH eH eJn eH eN ?_;generalize q51 _ = u19, q52 _ = u29, q53 _ = j, q54 _ = h2, q55 _ = tk2;refine hold5 ?_;intro _ _ hj F2 N2)|(rename_i u19 u29 u39 u49;revert u39 u49;revert u19 u29;refine eps2 eH eH ?_;generalize q21 _ = u19, q22 _ = u29;refine hold2 ?_;intro _ _)|skip)))
  k_with "setItem" => (((k_here;k_dflt (first|refine' m_setL (by k_asm) (by k_asm) (by walk_at "mm") (at2p b c.S.p P9 c.pt0 c.pt1 _) (kI_lo b) (kI_hi b) mem_P (ap_two' (Nat.ne_of_lt lRP) (Nat.ne_of_gt lPS) (told_tup hto9) hJ.ext aP) ?_|refine' m_setL (by k_asm) (by k_asm) (by walk_at "mm") (at2v b c.s0 c.s1 _) (kI_lo b) (kI_hi b) mem_S (ap_two' (Nat.ne_of_lt lRS) (Nat.ne_of_lt lPS) (told_tup hto9) hJ.ext aS) ?_);k_whole;intro _ _ _));(all_goals (first|(rename_i u19 u29 u39 u49 u59 u69 u79;revert u39 u49 u69 u79;revert u19 u29 u59;refine eps3 eH eH eH ?_;generalize q31 _ = u19, q32 _ = u29, q33 _ = u59;refine hold3 ?_;intro _ _ _ _)|(rename_i u19 u29 u39;revert u29 u39;revert u19;refine eps1 eH ?_;generalize cex _ _ = u19;refine hold1 ?_;intro _ _)|skip)))
  k_with "call builtin:max" => (((k_here;k_dflt (refine' m_max (by rfl) (by k_asm) (by k_asm) ?_;k_whole;intro _ _ _ _ _)));(all_goals (first|(rename_i u19 u29 u39 u49 u59;revert u49 u59;revert u19 u29 u39;refine eps3 eH eN eN ?_;generalize q31 _ = u19, q32 _ = u29, q33 _ = u39;refine hold3 ?_;intro _ _)|skip)))
  k_with "call builtin:isinstance" => (((k_here;k_dflt (refine' m_isi (by k_asm) ((told_dat hto9).mono (by intro q hq;repeat (first|exact List.mem_append.mpr (Or.inl hq)|apply List.mem_cons_of_mem))) ?_;k_whole);intro _;(rcases hbd : bad (rt .sp false [] ((txt b (qs.map Ft.fm)).drop (c.S.p b))).res with _|_)));(all_goals (first|(rename_i u19 u29 u39 u49;revert u29 u39;revert u19 u49;refine eps2 eH eN ?_;generalize q21 _ = u19, q22 _ = u49;refine hold2 ?_;intro _ _)|skip)))
  k_with "subscriptTail Name Slice ref ref" => (((k_here;k_dflt (first|refine' m_sliceLF (by k_asm) (by k_asm) (by walk_at "mm") rfl hql ?_|refine' m_sliceUF (by k_asm) (by k_asm) (by walk_at "mm") rfl hql ?_);k_whole;intro _ _ _ _ _));(all_goals (first|(rename_i u19 u29 u39 u49 u59;revert u49 u59;revert u19 u29 u39;refine eps3 eN eH eN ?_;generalize q31 _ = u19, q32 _ = u29, q33 _ = u39;refine hold3 ?_;intro _ _)|skip)))
  k_with "SrcLP" => (((k_dflt (first|refine srcLP_ints (fun q => 2 + (q.f.length : Int)) (by rfl) (by k_asm) (by k_asm) (by walk_at "mm") (by intro z hz;have hz := hq9 z (ft_dropL hz);walk_at "mm") (by rw [List.length_drop];omega) ?_ ?_|refine srcLP_ints (fun q => (q.c.toNat : Int)) (by rfl) (by k_asm) (by k_asm) (by walk_at "mm") (by intro z hz;have hz := ft_takeL hz;walk_at "mm") (by rw [List.length_take];omega) ?_ ?_);rotate_left;(intro ys6 D6 h6 tk6 hys6 F6 N6);rotate_left;(intro q6 ys5 I6 oI6 C6 oC6 D6 m6 h6 tk6 E6 hq6 hC6 hx6 hy6 F6 N6;first|(have hz6 := ft_len8 hf (List.mem_of_mem_drop hq6))|(have hz6 := True.intro))));(all_goals (first|(revert hq6 hC6 hx6 hy6 F6 N6 hz6;revert q6 ys5 I6 oI6 C6 oC6 D6 m6 h6 tk6 E6;refine eps8 eFt eLV eN eO eN eO eN eM ?_;generalize q81 _ = q6, q82 _ = ys5, q83 _ = I6, q84 _ = oI6, q85 _ = C6, q86 _ = oC6, q87 _ = D6, q88 _ = m6;refine hold8 ?_;refine eps3 eH eN eP2 ?_;generalize q31 _ = h6, q32 _ = tk6, q33 _ = E6;refine hold3 ?_;intro hq6 hC6 hx6 hy6 F6 N6 hz6)|(revert hq6 hC6 hx6 hy6 F6 N6;revert q6 ys5 I6 oI6 C6 oC6 D6 m6 h6 tk6 E6;refine eps8 eFt eLV eN eO eN eO eN eM ?_;generalize q81 _ = q6, q82 _ = ys5, q83 _ = I6, q84 _ = oI6, q85 _ = C6, q86 _ = oC6, q87 _ = D6, q88 _ = m6;refine hold8 ?_;refine eps3 eH eN eP2 ?_;generalize q31 _ = h6, q32 _ = tk6, q33 _ = E6;refine hold3 ?_;intro hq6 hC6 hx6 hy6 F6 N6)|(revert hys6 F6 N6;revert ys6 D6 h6 tk6;refine eps4 eLV eN eH eN ?_;generalize q41 _ = ys6, q42 _ = D6, q43 _ = h6, q44 _ = tk6;refine hold4 ?_;intro hys6 F6 N6)|skip)))
  k_with "call builtin:sum" => (((k_here;k_dflt (refine' m_sumL (by rfl) (by k_asm) (by k_asm) (by walk_at "mm") hys6 (octs_sum _) ?_;k_whole;intro _ _ _ _ _)));(all_goals (first|(rename_i u19 u29 u39 u49 u59;revert u49 u59;revert u19 u29 u39;refine eps3 eH eN eN ?_;generalize q31 _ = u19, q32 _ = u29, q33 _ = u39;refine hold3 ?_;intro _ _)|skip)))
  k_with "call builtin:list.append" => (((k_here;k_dflt (refine' m_app (by k_asm) (by k_asm) (by walk_at "mm") hrl mem_A (ap_three (Nat.ne_of_gt lRP) (Nat.ne_of_gt lRS) rfl hj.ext aR) ?_;k_whole;intro _ _ _)));(all_goals (first|(rename_i u19 u29 u39 u49 u59 u69 u79 u89;revert u39 u49 u59 u79 u89;revert u19 u29 u69;refine eps3 eN eH eH ?_;generalize q31 _ = u19, q32 _ = u29, q33 _ = u69;refine hold3 ?_;intro _ _ _ _ _)|skip)))
  k_with "m call" => ((((with_reducible show wpAny _ _ (call (Value.ref 832) _) _ _ _);k_dflt (refine' ctrP_use (by k_asm) (by k_asm) (by k_asm) (by k_asm) (by k_asm) (by first|exact rfl|assumption) (by ktr_room) (by ktr_units) (word w (txt b (qs.map Ft.fm)) _ (c.S.p b) _ (hJ.pl b) (setN_txt b hf)) (by intro q hq;cases hq) ?_;k_whole;intro v9 new9 h9 tk9 hp9 F9 N9;k_dflt (refine ex3 hp9 ?_);clear hp9;intro a9 x9 xt9 hp9;obtain ⟨p9, t9, k9, rfl, rfl, hto9, hpe9⟩ := hp9;(try simp only [List.cons_append, List.nil_append] at N9);(obtain ⟨P9, hP9⟩ : ∃ P9, min (c.S.p b + (rt .sp false [] ((txt b (qs.map Ft.fm)).drop (c.S.p b))).k) ((txt b (qs.map Ft.fm)).length + 1) = P9 := ⟨_, rfl⟩);(rw [hP9] at hpe9);subst hpe9;(have hP1 : 1 ≤ P9 := hP9 ▸ one_min (rt_k_pos _));(try dsimp only);skip)));(all_goals (first|(revert F9 hto9 hP9 N9 hP1;revert h9 tk9 a9 x9 xt9 t9 k9 P9;refine eps8 eH eN eN eV eL eN eN eN ?_;generalize q81 _ = h9, q82 _ = tk9, q83 _ = a9, q84 _ = x9, q85 _ = xt9, q86 _ = t9, q87 _ = k9, q88 _ = P9;refine hold8 ?_;intro F9 hto9 hP9 N9 hP1)|skip)))
  k_with "m call" => ((((with_reducible show wpAny _ _ (call (Value.ref 839) _) _ _ _);k_dflt (refine' ctrP_use (by k_asm) (by k_asm) (by k_asm) (by k_asm) (by k_asm) (by first|exact rfl|assumption) (by ktr_room) (by ktr_units) (needed w fa qs nf b _ P9 _ hP1 hf) (by intro z9 hz9;have hz9 := hO9 z9 hz9;walk_at "mm") ?_;k_whole;intro v9 new9 h9 tk9 hp9 F9 N9;obtain ⟨rfl, t8, rfl⟩ := hp9;(try simp only [List.cons_append, List.nil_append] at N9);(try dsimp only);skip)));(all_goals (first|(revert F9 N9;revert h9 tk9 t8;refine eps3 eH eN eN ?_;generalize q31 _ = h9, q32 _ = tk9, q33 _ = t8;refine hold3 ?_;intro F9 N9)|skip)))
  revert hf hdv hbl hql B F X N TQ hk hd hu hret; revert w fa da qs nf nd dv bs mean mg mb dp un gd cn cs a ccd cl outer A₀ base h₀ L m s rest Q E; refine eps8 eW eN eN eLF eN eN eLV eLB ?_; generalize q81 _ = w, q82 _ = fa, q83 _ = da, q84 _ = qs, q85 _ = nf, q86 _ = nd, q87 _ = dv, q88 _ = bs; refine hold8 ?_; refine eps8 eEx eM eM eN eN eOC eS eSc ?_; generalize q81 _ = mean, q82 _ = mg, q83 _ = mb, q84 _ = dp, q85 _ = un, q86 _ = gd, q87 _ = cn, q88 _ = cs; refine hold8 ?_; refine eps8 eN eV eSA eEn eAr eH eH eN ?_; generalize q81 _ = a, q82 _ = ccd, q83 _ = cl, q84 _ = outer, q85 _ = A₀, q86 _ = base, q87 _ = h₀, q88 _ = L; refine hold8 ?_; refine eps5 eM eSh eL eP2 eP2 ?_; generalize q51 _ = m, q52 _ = s, q53 _ = rest, q54 _ = Q, q55 _ = E; refine hold5 ?_; intro hf hdv hbl hql B F X N TQ hk hd hu hret
  refine wpAny_call ?_
  k_dflt (walk_at "m_enter")
  repeat' (first | (k_unfold; (try dsimp only)) | walk1 | (dsimp only; walk1) | (dsimp only; with_reducible refine lpost_brk ?_; try dsimp only) | (dsimp only; with_reducible refine lpost_ret ?_; try dsimp only))
  all_goals (try k_data)
  all_goals first
    | (exact ⟨rfl, ⟨.ref a0, c.pt0, c.pt1, c.pn, c.s0, c.s1, c.sn, c.ext, c.tt⟩, _, _, rfl, jn_stuck hJ hst9 hd2, by rw [wsStep_stuck hst9]; exact (fr_three (m0 := m1) (a := ("told" : Str)) (b := ("taken" : Str)) (c := ("which" : Str)) (by assumption) rfl rfl rfl (by intro k h1 h2 h3; simp only [h1, h2, h3, if_false])), by rw [wsStep_stuck hst9]; exact (by assumption)⟩)
    | (exact ⟨rfl, ⟨x9, _, _, _, if b then c.s0 else x9, if b then x9 else c.s1, _, xt9 ++ c.ext, _⟩, _, _, rfl, jn_new hJ hst9 hP9 hto9 (.inl ⟨hbd, rfl⟩), by rw [(ws_new hst9 hP9).2]; exact (fr_three (m0 := m1) (a := ("told" : Str)) (b := ("taken" : Str)) (c := ("which" : Str)) (by assumption) rfl rfl rfl (by intro k h1 h2 h3; simp only [h1, h2, h3, if_false])), by rw [(ws_new hst9 hP9).2]; exact nw_app (by assumption)⟩)
    | (exact ⟨rfl, ⟨x9, _, _, _, if b then c.s0 else Value.none, if b then Value.none else c.s1, _, xt9 ++ c.ext, _⟩, _, _, rfl, jn_new hJ hst9 hP9 hto9 (.inr ⟨hbd, rfl⟩), by rw [(ws_new hst9 hP9).2]; exact (fr_three (m0 := m1) (a := ("told" : Str)) (b := ("taken" : Str)) (c := ("which" : Str)) (by assumption) rfl rfl rfl (by intro k h1 h2 h3; simp only [h1, h2, h3, if_false])), by rw [(ws_new hst9 hP9).2]; exact nw_app (by assumption)⟩)
    | (exact lpost_next (hR _ _ _ (wk_next' (rn := c.rn + 1) (wv := some (.int (kI b) tb)) (tv := some j.x) hJ hb hj) (fr_three (m0 := m1) (a := ("which" : Str)) (b := ("told" : Str)) (c := ("taken" : Str)) (by assumption) rfl rfl rfl (by intro k h1 h2 h3; simp only [h1, h2, h3, if_false])) (nw_T (by assumption))))
    | (exact hret _ _ _ _ (wk_fin hJ (bools_len hdv) hys6) (by assumption) (nw_F (by assumption)))
  k_with_none
  k_with "om" => (with_reducible first|assumption|exact rm1 (by assumption) rfl|exact rm0 (by assumption)|exact Nat.le_of_lt (by assumption)|exact Nat.le_add_right _ _|exact Nat.le_add_left _ _|exact Nat.lt_succ_self _|exact Nat.succ_pos _|exact Nat.lt_of_not_le (by assumption)|exact Nat.le_of_not_lt (by assumption)|exact Nat.le_of_not_le (by assumption)|exact Nat.le_of_lt (Nat.lt_of_not_le (by assumption))|exact lt_i (by assumption)|exact nlt_i (by assumption)|exact nneg_i|exact le_big (by assumption) rfl|exact Nat.le_of_succ_le_succ (by assumption)|exact Nat.eq_zero_of_le_zero (by assumption)|exact Nat.add_comm _ _)
end Mine
end
section
namespace Mine
structure EndEr (o : Out) : Prop where
  qu : ∀ d, o.st = .qu d → o.res = .noq
  ea : o.st = .ea → o.res = .noe
  eq : o.st = .eq → o.res = .noe
  ok : o.st = .sp ∨ o.st = .nn → bad o.res = false
theorem er_fin (q : Bool) (tok : List UInt8) (k : Nat) {st : St} (h : st = .sp ∨ st = .nn) : EndEr ⟨fin' q tok, st, k⟩ := by
  have hb : bad (fin' q tok) = false := by
    rcases fin_ok q tok with ⟨w, e⟩ | e <;> rw [e] <;> rfl
  rcases h with rfl | rfl
  · exact ⟨(fun _ h => nomatch h), (fun h => nomatch h), (fun h => nomatch h), fun _ => hb⟩
  · exact ⟨(fun _ h => nomatch h), (fun h => nomatch h), (fun h => nomatch h), fun _ => hb⟩
theorem er_add {o : Out} (k : Nat) (h : EndEr o) : EndEr (o.add k) := ⟨h.qu, h.ea, h.eq, h.ok⟩
theorem er_nil (st : St) (q : Bool) (tok : List UInt8) : EndEr (rt st q tok []) := by
  rw [rt.eq_def]
  cases st <;> dsimp only
  · exact er_fin _ _ _ (.inr rfl)
  · exact er_fin _ _ _ (.inr rfl)
  · exact er_fin _ _ _ (.inr rfl)
  · exact ⟨fun _ _ => rfl, (fun h => nomatch h), (fun h => nomatch h), fun h => h.elim (fun h => nomatch h) (fun h => nomatch h)⟩
  · exact ⟨(fun _ h => nomatch h), fun _ => rfl, (fun h => nomatch h), fun h => h.elim (fun h => nomatch h) (fun h => nomatch h)⟩
  · exact ⟨(fun _ h => nomatch h), (fun h => nomatch h), fun _ => rfl, fun h => h.elim (fun h => nomatch h) (fun h => nomatch h)⟩
theorem rt_er : ∀ (n : Nat) (D : List UInt8) (st : St) (q : Bool) (tok : List UInt8), D.length ≤ n → EndEr (rt st q tok D) := by
  intro n
  induction n with
  | zero =>
    intro D st q tok hn
    obtain rfl : D = [] := List.eq_nil_of_length_eq_zero (by omega)
    exact er_nil st q tok
  | succ n ih =>
    intro D st q tok hn
    match D, hn with
    | [], _ => exact er_nil st q tok
    | c :: r, hn =>
      simp only [List.length_cons] at hn
      have one : ∀ st' q' tok' k, EndEr ((rt st' q' tok' r).add k) := fun st' q' tok' k => er_add k (ih r st' q' tok' (by omega))
      have line : ∀ q' tok' k, EndEr ((rt .sp q' tok' (r.drop (bl r))).add k) := fun q' tok' k => er_add k (ih _ .sp q' tok' (by rw [List.length_drop]; omega))
      rw [rt.eq_def]
      cases st <;> dsimp only <;> (repeat' split) <;> first | exact one _ _ _ _ | exact line _ _ _ | exact er_fin _ _ _ (.inl rfl) | exact er_fin _ _ _ (.inr rfl)
structure Ms where
  n : Ns2
  t : Nat
  st : Bool → St
  tok : Bool → List UInt8
noncomputable abbrev mOut (fr : List Fm) (m : Ms) (b : Bool) : Out := rt (m.st b) false (m.tok b) ((txt b fr).drop (m.n b))
noncomputable abbrev mStep (fr : List Fm) (m : Ms) (b : Bool) (tok' : List UInt8) : Ms :=
  ⟨goN fr m.n b (mOut fr m b).k, goT fr m.n m.t b (mOut fr m b).k, fun c => if c = b then (mOut fr m b).st else m.st c, fun c => if c = b then tok' else m.tok c⟩
structure Mi (fr : List Fm) (s : Ws) (m : Ms) : Prop where
  t : m.t = s.t
  n : ∀ b, m.n b = min (s.p b) (txt b fr).length
  p : ∀ b, s.p b ≤ (txt b fr).length + 1
  ab : Abs fr m.n m.t
  rs : ∀ b, Rest fr b m.n (m.st b) (m.tok b)
  c : ∀ b, (s.st b = none ∧ (m.st b = .sp ∨ (m.st b = .nn ∧ s.p b = (txt b fr).length + 1 ∧ s.t = fr.length))) ∨
    (∃ r, s.st b = some r ∧ s.p b = (txt b fr).length + 1 ∧ s.t = fr.length ∧ ((∃ d, m.st b = .qu d ∧ r = .noq) ∨ ((m.st b = .ea ∨ m.st b = .eq) ∧ r = .noe)))
theorem mi0 (fr : List Fm) : Mi fr ws0 ⟨fun _ => 0, 0, fun _ => .sp, fun _ => []⟩ where
  t := rfl
  n b := (Nat.zero_min _).symm
  p b := Nat.zero_le _
  ab := ⟨Nat.zero_le _, fun b => Nat.zero_le _⟩
  rs b := ⟨fun _ => rfl, fun h => absurd rfl h, (fun h => nomatch h), (fun d h => nomatch h), Nat.zero_le _⟩
  c b := .inl ⟨rfl, .inl rfl⟩
theorem min_drop (T : List UInt8) (p : Nat) : T.drop (min p T.length) = T.drop p := by
  by_cases h : p ≤ T.length
  · rw [Nat.min_eq_left h]
  · rw [Nat.min_eq_right (Nat.le_of_lt (Nat.lt_of_not_le h)), List.drop_length, List.drop_eq_nil_of_le (Nat.le_of_lt (Nat.lt_of_not_le h))]
theorem mi_step {fr : List Fm} {s : Ws} {m : Ms} {b : Bool} {tok' : List UInt8} (h : Mi fr s m) (hl : tok'.length ≤ 2 * goN fr m.n b (mOut fr m b).k b) (hk : isOk (mOut fr m b).res → tok' = []) :
    (wsStep fr s b).1 = ((mOut fr m b).res, octs (fr.drop (goT fr m.n m.t b (mOut fr m b).k))) ∧ Mi fr (wsStep fr s b).2 (mStep fr m b tok') := by
  have hp := h.p b
  have hn := h.n b
  have hdr : (txt b fr).drop (m.n b) = (txt b fr).drop (s.p b) := by rw [hn]; exact min_drop _ _
  have hen := rt_end _ ((txt b fr).drop (m.n b)) (m.st b) false (m.tok b) (Nat.le_refl _) (fun e => (h.rs b).en (by rw [e]; exact fun q => nomatch q)) (h.rs b).gq
  have her := rt_er _ ((txt b fr).drop (m.n b)) (m.st b) false (m.tok b) (Nat.le_refl _)
  have hrn := rest_next (O := mOut fr m b) (tok' := tok') (h.rs b) h.ab rfl (fun q => hk (by rcases q with ⟨w, e⟩ | e <;> rw [e] <;> exact True.intro)) hl
  have rs' : ∀ c, Rest fr c (mStep fr m b tok').n ((mStep fr m b tok').st c) ((mStep fr m b tok').tok c) := fun c => by
    by_cases e : c = b
    · subst e
      show Rest fr c (goN fr m.n c (mOut fr m c).k) (if c = c then _ else _) (if c = c then _ else _)
      rw [if_pos rfl, if_pos rfl]
      exact hrn
    · show Rest fr c (goN fr m.n b (mOut fr m b).k) (if c = b then _ else _) (if c = b then _ else _)
      rw [if_neg e, if_neg e]
      exact rest_other (h.rs c) e _
  rcases h.c b with ⟨hs, hm⟩ | ⟨r, hs, hp1, ht1, hm⟩
  · -- not refused before
    have hO : mOut fr m b = rt .sp false [] ((txt b fr).drop (s.p b)) := by
      rcases hm with hm | ⟨hm, hp1, _⟩
      · have e := (h.rs b).sp (.inl hm)
        show rt (m.st b) false (m.tok b) _ = _
        rw [hm, e, hdr]
      · have e := (h.rs b).sp (.inr hm)
        have e2 : (txt b fr).drop (s.p b) = [] := List.drop_eq_nil_of_le (by rw [hp1]; exact Nat.le_succ _)
        show rt (m.st b) false (m.tok b) _ = _
        rw [hm, e, hdr, e2, rt.eq_def, rt.eq_def]
    have hk1 : 1 ≤ (mOut fr m b).k := by rw [hO]; exact rt_k_pos _
    have hg : goT fr m.n m.t b (mOut fr m b).k = max s.t (need b fr (min (s.p b + (mOut fr m b).k) ((txt b fr).length + 1))) := by
      show max m.t (need b fr (m.n b + _)) = _
      rw [h.t, hn, need_place hp hk1]
    rw [← hdr] at hO
    obtain ⟨e1, e2⟩ : (wsStep fr s b).1 = ((mOut fr m b).res, octs (fr.drop (goT fr m.n m.t b (mOut fr m b).k))) ∧ (wsStep fr s b).2 = ⟨setN s.p b (min (s.p b + (mOut fr m b).k) ((txt b fr).length + 1)), fun c => if c = b then (if bad (mOut fr m b).res then some (mOut fr m b).res else none) else s.st c, max s.t (need b fr (min (s.p b + (mOut fr m b).k) ((txt b fr).length + 1)))⟩ := by
      rw [wsStep_new hs, hg, hO, hdr]
      exact ⟨rfl, rfl⟩
    refine ⟨e1, ?_⟩
    rw [e2]
    have hfull : min (s.p b + (mOut fr m b).k) ((txt b fr).length + 1) = (txt b fr).length + 1 → max s.t (need b fr (min (s.p b + (mOut fr m b).k) ((txt b fr).length + 1))) = fr.length := fun e => by
      rw [e, need_all b fr _ (Nat.lt_succ_self _)]
      have := h.ab.le
      rw [h.t] at this
      exact Nat.max_eq_right this
    have hend : (mOut fr m b).st ≠ .sp → min (s.p b + (mOut fr m b).k) ((txt b fr).length + 1) = (txt b fr).length + 1 := fun q => by
      have z : ((txt b fr).drop (m.n b)).length + 1 ≤ (mOut fr m b).k := hen.en q
      rw [List.length_drop, hn] at z
      refine Nat.min_eq_right ?_
      rcases Nat.le_total (s.p b) (txt b fr).length with q | q
      · rw [Nat.min_eq_left q] at z
        have z2 := Nat.add_le_add_left z (s.p b)
        rw [← Nat.add_assoc, Nat.add_sub_cancel' q] at z2
        exact z2
      · rw [Nat.min_eq_right q, Nat.sub_self] at z
        exact Nat.add_le_add q z
    refine ⟨hg, fun c => ?_, fun c => ?_, abs_go h.ab b hk1, rs', fun c => ?_⟩
    · show setN m.n b _ c = min (setN s.p b _ c) _
      unfold setN
      by_cases e : c = b
      · subst e
        rw [if_pos rfl, if_pos rfl, hn]
        exact clamp_place
      · rw [if_neg e, if_neg e]; exact h.n c
    · show setN s.p b _ c ≤ _
      unfold setN
      by_cases e : c = b
      · subst e; rw [if_pos rfl]; exact Nat.min_le_right _ _
      · rw [if_neg e]; exact h.p c
    · by_cases e : c = b
      · subst e
        dsimp only [setN, mStep]
        rw [if_pos rfl, if_pos rfl, if_pos rfl]
        rcases hst : (mOut fr m c).st with _ | _ | _ | d | _ | _
        · have hb := her.ok (.inr hst)
          have hq := hend (by rw [hst]; exact fun h => nomatch h)
          exact .inl ⟨if_neg (by rw [hb]; exact Bool.false_ne_true), .inr ⟨rfl, hq, hfull hq⟩⟩
        · have hb := her.ok (.inl hst)
          exact .inl ⟨if_neg (by rw [hb]; exact Bool.false_ne_true), .inl rfl⟩
        · exact absurd hst hen.wd
        · have hb := her.qu d hst
          have hq := hend (by rw [hst]; exact fun h => nomatch h)
          exact .inr ⟨_, if_pos (by rw [hb]; rfl), hq, hfull hq, .inl ⟨d, rfl, hb⟩⟩
        · have hb := her.ea hst
          have hq := hend (by rw [hst]; exact fun h => nomatch h)
          exact .inr ⟨_, if_pos (by rw [hb]; rfl), hq, hfull hq, .inr ⟨.inl rfl, hb⟩⟩
        · have hb := her.eq hst
          have hq := hend (by rw [hst]; exact fun h => nomatch h)
          exact .inr ⟨_, if_pos (by rw [hb]; rfl), hq, hfull hq, .inr ⟨.inr rfl, hb⟩⟩
      · dsimp only [setN, mStep]
        rw [if_neg e, if_neg e, if_neg e]
        have hup : s.t = fr.length → max s.t (need b fr (min (s.p b + (mOut fr m b).k) ((txt b fr).length + 1))) = fr.length := fun q => by
          rw [q]; exact Nat.max_eq_left (need_le ..)
        rcases h.c c with ⟨a1, a2 | ⟨a2, a3, a4⟩⟩ | ⟨r, a1, a2, a3, a4⟩
        · exact .inl ⟨a1, .inl a2⟩
        · exact .inl ⟨a1, .inr ⟨a2, a3, hup a4⟩⟩
        · exact .inr ⟨r, a1, a2, hup a3, a4⟩
  · -- refused before
    have hd : (txt b fr).drop (m.n b) = [] := by rw [hdr]; exact List.drop_eq_nil_of_le (by rw [hp1]; exact Nat.le_succ _)
    have hO : mOut fr m b = ⟨r, m.st b, 1⟩ := by
      show rt (m.st b) false (m.tok b) _ = _
      rw [hd, rt.eq_def]
      rcases hm with ⟨d, hm, rfl⟩ | ⟨hm | hm, rfl⟩ <;> rw [hm]
    have hg : goT fr m.n m.t b (mOut fr m b).k = s.t := by
      show max m.t (need b fr _) = _
      rw [h.t, ht1]; exact Nat.max_eq_left (need_le ..)
    have hgn : goN fr m.n b (mOut fr m b).k = m.n := by
      funext c
      show setN m.n b _ c = _
      unfold setN
      by_cases e : c = b
      · subst e; rw [if_pos rfl, hn, hp1, Nat.min_eq_right (Nat.le_succ _), Nat.min_eq_right (Nat.le_add_right _ _)]
      · rw [if_neg e]
    rw [wsStep_stuck hs]
    refine ⟨by rw [hg, hO], hg, fun c => ?_, h.p, ?_, rs', fun c => ?_⟩
    · show goN fr m.n b (mOut fr m b).k c = _
      rw [hgn]; exact h.n c
    · show Abs fr (goN fr m.n b (mOut fr m b).k) (goT fr m.n m.t b (mOut fr m b).k)
      rw [hgn, hg, ← h.t]; exact h.ab
    · have hst : (mStep fr m b tok').st c = m.st c := by
        show (if c = b then _ else _) = _
        by_cases e : c = b
        · subst e; rw [if_pos rfl, hO]
        · rw [if_neg e]
      rw [hst]
      exact h.c c
end Mine
end
section
namespace Mine
open LCg
noncomputable def defB : Stmt → List Stmt
  | .FunctionDef _ _ body _ _ _ _ _ _ _ => body
  | _ => []
noncomputable def defS : Stmt → Scope
  | .FunctionDef _ _ _ _ _ _ scope _ _ _ => scope
  | _ => default
noncomputable abbrev lawS : Stmt := stN P0.main.body 38
noncomputable def LawTail (w : World) (k : Nat) (J : Addr → (Str → Option Value) → Led → Prop) : Prop :=
  PySem.Challenge.rw_in0150_01 = PySem.Challenge.rw_in0150_01 → ∀ (mean : ExcName → Option Value) (mg mb : Str → Option Value) (dp un : Nat) (gd : Option (List Code)) (fu : Addr) (cu : Value) (A₀ : Around)
    (h₀ : Heap) (L : Addr) (m : Str → Option Value) (s : Shared) (news : Led) (Q : Flow → Shared → Prop) (E : Value → Shared → Prop),
    Below A₀ h₀ [] h₀ → Fr h₀ L s.heap m → (K w.params).In h₀ → News h₀ L s.heap news → TopQ mean mg mb h₀ → CodeHd h₀ 805 801 → CodeHd h₀ 777 775 → dp + 60 < recursionLimit → un + 700 < cLine → J L m news →
    (∀ h' tk' m' news', Fr h₀ L h' m' → News h₀ L h' news' → GrownAll [(805, 801), (777, 775)] h' → Q (.ret (.bool true)) { s with heap := h', toks := tk' }) → PassesOwn (model P0 w) (ktrTop dp un gd "law" (defS lawS) L fu cu (cellsFrom (L + 1) (defS lawS).names []) []) (envOfC "law" (defS lawS) L fu cu) E →
    wpAny (model P0 w) (ktrTop dp un gd "law" (defS lawS) L fu cu (cellsFrom (L + 1) (defS lawS).names []) []) (execs (List.drop k (defB lawS)) (envOfC "law" (defS lawS) L fu cu)) Q E s
end Mine
namespace Mine
noncomputable def J1 (xs : List Nat) (L : Addr) (m : Str → Option Value) (news : Led) : Prop := ∃ (na : Addr) (nv : List Value) (nn : Nat) (o1 o2 o3 : Obj), m "numbers" = some (.ref na) ∧ IntsAre nv (xs.map Int.ofNat) ∧ xs.length ≤ 10 ∧
  o1.data = .cell none ∧ o2.data = .cell none ∧ o3.data = .cell none ∧ news = [(na, lst0 nv nn), (L + 1 + 1 + 1, o3), (L + 1 + 1, o2), (L + 1, o1), (801, tabObj #[]), (775, tabObj #[])]
noncomputable def nine : List Fm := [(0, [97, 32]), (3, [39, 98]), (2, []), (4, [99, 35, 120]), (255, [39, 32, 100, 39]), (0, [10, 101]), (1, [10, 39]), (6, [102, 34, 32, 34]), (8, [32, 92])]
noncomputable abbrev SeqO (o : Obj) : Prop := ∃ vs n, o.data = .seq vs n
noncomputable def J2 (xs : List Nat) (L : Addr) (m : Str → Option Value) (news : Led) : Prop := ∃ (na : Addr) (nv : List Value) (nn : Nat) (fa : Addr) (qs : List Ft) (nf : Nat) (o1 o2 o3 : Obj) (rest : Led), m "numbers" = some (.ref na) ∧ m "frames" = some (.ref fa) ∧ IntsAre nv (xs.map Int.ofNat) ∧ xs.length ≤ 10 ∧
  o1.data = .cell none ∧ o2.data = .cell none ∧ o3.data = .cell none ∧ qs.map Ft.fm = nine ++ xs.map frameOf ∧ (∀ p ∈ rest, SeqO p.2) ∧ news = (na, lst0 nv nn) :: (fa, lst0 (ftV qs) nf) :: (L + 1 + 1 + 1, o3) :: (L + 1 + 1, o2) :: (L + 1, o1) :: (801, tabObj #[]) :: (775, tabObj #[]) :: (ftL qs ++ rest)
end Mine
end
section
namespace Mine
open LCg
theorem ctrQ_use {w : World} {f : Addr} {vs : List Value} {D U : Nat} {post : Value → Led → Prop} {mean : ExcName → Option Value} {mg mb : Str → Option Value} {dp un : Nat} {gd : Option (List Code)} {cn : Str} {cs : Scope} {a : Addr} {ccd : Value} {cl : List (Str × Addr)} {outer : List Env} {A₀ : Around}
    {base h₀ : Heap} {L : Addr} {m : Str → Option Value} {s : Shared} {news : Led} {Q E : Value → Shared → Prop}
    (B : Below A₀ base outer h₀) (F : Fr h₀ L s.heap m) (X : (K w.params).In h₀) (N : News h₀ L s.heap news) (T : TopQ mean mg mb h₀) (hk : cs.kind = .function) (hd : dp + D < recursionLimit) (hu : un + U < cLine)
    (C : CtrQ w f vs D U post)
    (h : ∀ v new h' tk', post v new → Fr h₀ L h' m → News h₀ L h' (new ++ news) → (∀ q ∈ new, ∀ p ∈ news, p.1 ≠ q.1) → Q v { s with heap := h', toks := tk' }) :
    wpAny (model P0 w) (ktrTop dp un gd cn cs L a ccd cl outer) (call (.ref f) vs) Q E s :=
  C rfl mean mg mb dp un gd cn cs a ccd cl outer A₀ base h₀ L m s news Q E B F X N T hk hd hu h
section
variable {h₀ h : Heap} {L : Addr} {m : Str → Option Value}
noncomputable abbrev tp2 (c : Int) (t : Tok) (x : Str) (u : Tok) : Obj := { cls := .type "tuple", data := .seq #[.int c t, .str x u] }
theorem lat_nine : (lat [97, 32] = ("a " : Str) ∧ lat [39, 98] = ("'b" : Str) ∧ lat [] = ("" : Str) ∧ lat [99, 35, 120] = ("c#x" : Str) ∧ lat [39, 32, 100, 39] = ("' d'" : Str)) ∧ lat [10, 101] = ("\ne" : Str) ∧ lat [10, 39] = ("\n'" : Str) ∧ lat [102, 34, 32, 34] = ("f\" \"" : Str) ∧ lat [32, 92] = (" \\" : Str) := by decide
theorem nine_sub {x : Addr × Obj} {l base : Led} : ∀ p ∈ x :: (base ++ l), p ∈ x :: (l.reverse ++ base) := fun p hp => by
  rcases List.mem_cons.mp hp with rfl | hp
  · exact List.mem_cons_self
  rcases List.mem_append.mp hp with hp | hp
  · exact List.mem_cons_of_mem _ (List.mem_append_right _ hp)
  · exact List.mem_cons_of_mem _ (List.mem_append_left _ (List.mem_reverse.mpr hp))
theorem nine_led {base : Led} {l D0 D1 D2 D3 D4 D5 D6 D7 D8 : Addr} {k : Nat} {t0 t1 t2 t3 t4 t5 t6 t7 t8 u0 u1 u2 u3 u4 u5 u6 u7 u8 : Tok}
    (N : News h₀ L h ((l, lst0 [.ref D0, .ref D1, .ref D2, .ref D3, .ref D4, .ref D5, .ref D6, .ref D7, .ref D8] k) :: (D8, tp2 8 t8 " \\" u8) :: (D7, tp2 6 t7 "f\" \"" u7) :: (D6, tp2 1 t6 "\n'" u6) :: (D5, tp2 0 t5 "\ne" u5) :: (D4, tp2 255 t4 "' d'" u4) :: (D3, tp2 4 t3 "c#x" u3) :: (D2, tp2 2 t2 "" u2) :: (D1, tp2 3 t1 "'b" u1) :: (D0, tp2 0 t0 "a " u0) :: base)) :
    ∃ qs : List Ft, qs.map Ft.fm = nine ∧ News h₀ L h ((l, lst0 (ftV qs) k) :: (base ++ ftL qs)) := by
  obtain ⟨⟨e0, e1, e2, e3, e4⟩, e5, e6, e7, e8⟩ := lat_nine
  rw [← e0, ← e1, ← e2, ← e3, ← e4, ← e5, ← e6, ← e7, ← e8] at N
  refine ⟨[⟨D0, 0, _, t0, u0, 0⟩, ⟨D1, 3, _, t1, u1, 0⟩, ⟨D2, 2, _, t2, u2, 0⟩, ⟨D3, 4, _, t3, u3, 0⟩, ⟨D4, 255, _, t4, u4, 0⟩, ⟨D5, 0, _, t5, u5, 0⟩, ⟨D6, 1, _, t6, u6, 0⟩, ⟨D7, 6, _, t7, u7, 0⟩, ⟨D8, 8, _, t8, u8, 0⟩], rfl, ?_⟩
  exact led_to N (nine_sub (l := ftL [⟨D0, 0, _, t0, u0, 0⟩, ⟨D1, 3, _, t1, u1, 0⟩, ⟨D2, 2, _, t2, u2, 0⟩, ⟨D3, 4, _, t3, u3, 0⟩, ⟨D4, 255, _, t4, u4, 0⟩, ⟨D5, 0, _, t5, u5, 0⟩, ⟨D6, 1, _, t6, u6, 0⟩, ⟨D7, 6, _, t7, u7, 0⟩, ⟨D8, 8, _, t8, u8, 0⟩]))
theorem fts_off {I C D : Addr} {oI oC oD : Obj} {l : Led} {q : Ft} (off : Off3 I C D l) (h : ∀ p ∈ (I, oI) :: (C, oC) :: (D, oD) :: l, p.1 ≠ q.a) : Off3 I C D ((q.a, ftO q) :: l) :=
  ⟨⟨fun e => h _ List.mem_cons_self e.symm, fun e => h _ (List.mem_cons_of_mem _ List.mem_cons_self) e.symm, fun e => h _ (List.mem_cons_of_mem _ (List.mem_cons_of_mem _ List.mem_cons_self)) e.symm⟩, off⟩
theorem fts_led {p I C D : Addr × Obj} {l : Led} (N : News h₀ L h (p :: I :: C :: D :: l)) : News h₀ L h (I :: C :: D :: p :: l) := led_to N fun z hz => by
  simp only [List.mem_cons] at hz ⊢
  rcases hz with h | h | h | h | h
  · exact .inr (.inl h)
  · exact .inr (.inr (.inl h))
  · exact .inr (.inr (.inr (.inl h)))
  · exact .inl h
  · exact .inr (.inr (.inr (.inr h)))
end
end Mine
namespace Mine
theorem ftL_app (a b : List Ft) : ftL (a ++ b) = ftL a ++ ftL b := List.map_append
theorem ftV_app (a b : List Ft) : ftV (a ++ b) = ftV a ++ ftV b := List.map_append
theorem nine_len {qs qs' : List Ft} {xs : List Nat} (h : qs.map Ft.fm = nine) (h' : qs'.map Ft.fm = xs.map frameOf) (hx : xs.length ≤ 10) : (ftV qs).length + (ftV qs').length ≤ 10000 := by
  have e := congrArg List.length h
  have e' := congrArg List.length h'
  simp only [List.length_map] at e e'
  have : nine.length = 9 := rfl
  simp only [ftV, List.length_map]
  omega
theorem st1_led {h₀ h : Heap} {L : Addr} {D Ra : Addr × Obj} {qs9 qs8 : List Ft} {x c3 c2 c1 p q : Addr × Obj} {kf : Nat} {f : Addr}
    (N : News h₀ L h ((f, lst0 (ftV qs9 ++ ftV qs8) kf) :: D :: (ftL qs8 ++ Ra :: x :: c3 :: c2 :: c1 :: p :: q :: ftL qs9))) :
    News h₀ L h (x :: (f, lst0 (ftV (qs9 ++ qs8)) kf) :: c3 :: c2 :: c1 :: p :: q :: (ftL (qs9 ++ qs8) ++ [])) := led_to N fun z hz => by
  rw [ftV_app, ftL_app, List.append_nil] at hz
  simp only [List.mem_cons, List.mem_append] at hz ⊢
  rcases hz with h | h | h | h | h | h | h | h | h <;> simp [h]
end Mine
namespace Mine
theorem LawTail.use {w : World} {k : Nat} {J : Addr → (Str → Option Value) → Led → Prop} {mean : ExcName → Option Value} {mg mb : Str → Option Value} {dp un : Nat} {gd : Option (List Code)} {fu : Addr} {cu : Value} {A₀ : Around}
    {h₀ : Heap} {L : Addr} {m : Str → Option Value} {s : Shared} {news : Led} {Q : Flow → Shared → Prop} {E : Value → Shared → Prop} (H : LawTail w k J)
    (B : Below A₀ h₀ [] h₀) (F : Fr h₀ L s.heap m) (X : (K w.params).In h₀) (N : News h₀ L s.heap news) (T : TopQ mean mg mb h₀) (C1 : CodeHd h₀ 805 801) (C2 : CodeHd h₀ 777 775) (hd : dp + 60 < recursionLimit) (hu : un + 700 < cLine) (hJ : J L m news)
    (hret : ∀ h' tk' m' news', Fr h₀ L h' m' → News h₀ L h' news' → GrownAll [(805, 801), (777, 775)] h' → Q (.ret (.bool true)) { s with heap := h', toks := tk' }) (hE : PassesOwn (model P0 w) (ktrTop dp un gd "law" (defS lawS) L fu cu (cellsFrom (L + 1) (defS lawS).names []) []) (envOfC "law" (defS lawS) L fu cu) E) :
    wpAny (model P0 w) (ktrTop dp un gd "law" (defS lawS) L fu cu (cellsFrom (L + 1) (defS lawS).names []) []) (execs (List.drop k (defB lawS)) (envOfC "law" (defS lawS) L fu cu)) Q E s :=
  H rfl mean mg mb dp un gd fu cu A₀ h₀ L m s news Q E B F X N T C1 C2 hd hu hJ hret hE
end Mine
namespace Mine
theorem law_len : (defB lawS).length = 8 := rfl
theorem stN_get : ∀ (l : List Stmt) (k : Nat) (h : k < l.length), List.drop k l = stN l k :: List.drop (k + 1) l
  | a :: r, 0, _ => rfl
  | a :: r, k + 1, h => stN_get r k (Nat.lt_of_succ_lt_succ h)
theorem law_cut {w : World} {A : Around} {env : Env} {Q : Flow → Shared → Prop} {E : Value → Shared → Prop} {s : Shared} (k : Nat) (hk : k < 8)
    (h : wpAny (model P0 w) A (execs (stN (defB lawS) k :: List.drop (k + 1) (defB lawS)) env) Q E s) : wpAny (model P0 w) A (execs (List.drop k (defB lawS)) env) Q E s := by
  rw [stN_get _ k (law_len ▸ hk)]
  exact h
end Mine
namespace Mine
theorem led_d2 {h₀ h : Heap} {L : Addr} {a b : Addr × Obj} {l : Led} (N : News h₀ L h (a :: b :: l)) : News h₀ L h (a :: l) := led_to N fun p hp => by
  rcases List.mem_cons.mp hp with rfl | hp
  · exact List.mem_cons_self
  · exact List.mem_cons_of_mem _ (List.mem_cons_of_mem _ hp)
end Mine
end
section
namespace Mine
theorem eLI : Nonempty (List Int) := ⟨([] : List Int)⟩
theorem eLSt : Nonempty (List Stmt) := ⟨([] : List Stmt)⟩
theorem st0 (w : World) (H : ∀ xs, LawTail w 1 (J1 xs)) : PySem.Challenge.rw_in0150_01 = PySem.Challenge.rw_in0150_01 → ∀ (mean : ExcName → Option Value) (mg mb : Str → Option Value) (dp un : Nat) (gd : Option (List Code)) (fu : Addr) (cu : Value) (A₀ : Around)
    (h₀ : Heap) (L : Addr) (m : Str → Option Value) (s : Shared) (sc : Addr) (sv : List Value) (ns : List Int) (o1 o2 o3 : Obj) (Q : Flow → Shared → Prop) (E : Value → Shared → Prop),
    Below A₀ h₀ [] h₀ → Fr h₀ L s.heap m → (K w.params).In h₀ → News h₀ L s.heap [(L + 1 + 1 + 1, o3), (L + 1 + 1, o2), (L + 1, o1), (801, tabObj #[]), (775, tabObj #[])] → TopQ mean mg mb h₀ → CodeHd h₀ 805 801 → CodeHd h₀ 777 775 → dp + 60 < recursionLimit → un + 700 < cLine →
    h₀.IsList sc sv.toArray → IntsAre sv ns → sv.length ≤ 63 → m "script" = some (.ref sc) → o1.data = .cell none → o2.data = .cell none → o3.data = .cell none →
    (∀ h' tk' m' news', Fr h₀ L h' m' → News h₀ L h' news' → GrownAll [(805, 801), (777, 775)] h' → Q (.ret (.bool true)) { s with heap := h', toks := tk' }) → PassesOwn (model P0 w) (ktrTop dp un gd "law" (defS lawS) L fu cu (cellsFrom (L + 1) (defS lawS).names []) []) (envOfC "law" (defS lawS) L fu cu) E →
    wpAny (model P0 w) (ktrTop dp un gd "law" (defS lawS) L fu cu (cellsFrom (L + 1) (defS lawS).names []) []) (execs (List.drop 0 (defB lawS)) (envOfC "law" (defS lawS) L fu cu)) Q E s := by
  k_fill
  k_with_none
  k_with "om" => (with_reducible first|assumption|exact rm1 (by assumption) rfl|exact rm2 (by assumption) rfl|exact rm3 (by assumption) rfl|exact rm0 (by assumption)|exact Nat.le_of_lt (by assumption)|exact Nat.le_add_right _ _|exact Nat.lt_succ_self _|exact Nat.le_of_not_lt (by assumption)|exact lt_i (by assumption)|exact nlt_i (by assumption)|exact le_big (by assumption) rfl)
  k_with "k_all" => (first|(first|assumption|exact off_lt (by walk_at "and_last")|exact off_le (by walk_at "and_last") (Nat.le_succ _)|exact off_le (by walk_at "and_last") (Nat.le_add_right _ _)|exact off_le' (by assumption) (Nat.le_refl _)|exact off_le' (by assumption) (Nat.le_succ _)|exact off_le' (by assumption) (Nat.le_add_right _ _)|exact off_le' (by assumption) (Nat.le_succ_of_le (Nat.le_succ _))|exact off_le' (by assumption) (Nat.le_succ_of_le (Nat.le_succ_of_le (Nat.le_succ _))))|fail)
  k_with "k_ne" => (first|(first|assumption|exact Ne.symm (by assumption))|fail)
  k_with "k_upd" => (first|((refine' upd_ap ?ap9 ?ae9 ?st9 ?sk9;(case ap9 => assumption);(case ae9 => exact rfl);(case st9 => walk_at "setn");(case sk9 => first|decide|omega)))|fail)
  k_with "mm" => (first|((repeat (first|assumption|exact List.mem_cons_self|exact List.mem_append.mpr (Or.inl (by first|assumption|fail))|apply List.mem_cons_of_mem|refine List.mem_append.mpr (Or.inr ?_)));done)|fail)
  k_with "eval Name" => ((k_here;k_dflt (first|(refine' m_local (by first|exact rfl|fail) (by first|exact rfl|fail) (by decide) (by k_asm) (by first|exact rfl|fail) ?_;k_whole)|(refine' m_free (by first|exact rfl|fail) (by first|exact rfl|fail) (by decide) (by decide) (by first|exact rfl|fail) (by k_asm) (by k_mem) (by k_asm) ?_;k_whole)|(refine' m_global (by first|exact rfl|fail) (by first|exact rfl|fail) (by decide) (by first|exact rfl|fail) (by k_asm) (by k_asm) (by k_asm) (by k_is) ?_;k_whole)|(refine' m_builtin (by first|exact rfl|fail) (by first|exact rfl|fail) (by decide) (by first|exact rfl|fail) (by first|exact rfl|fail) (by k_asm) (by k_asm) (by k_asm) (by k_is) (by decide) (by first|(boot_by_name)|fail) ?_;k_whole))))
  k_with "execs cons" => (((with_reducible refine wpAny_execs_cons ?_);try dsimp only))
  intro hrow mean mg mb dp un gd fu cu A₀ h₀ L m s sc sv ns o1 o2 o3 Q E B F X N T C1 C2 hd hu hsl hI hsz hsc ho1 ho2 ho3 hret hE
  k_with "eval Name" => (k_here;k_dflt (refine' m_local (by first|exact rfl|fail) (by first|exact rfl|fail) (by decide) (by k_asm) (by first|exact hsc|fail) ?_);k_whole)
  k_with "exec Assign cons ListComp" => (k_here;k_dflt (refine LCg.Assign_ListComp_U (F₀ := by k_asm) (by rfl) (by with_unfolding_all rfl) (by rfl) (by decide) (by rfl) (by decide) (by rfl) (by rfl) (by rfl) ?_))
  k_with "CompSrc" => ((((with_reducible rename IntsAre _ (List.take 10 _) => hI9);(have hz9 := num_len hI9);k_dflt (refine compSrc_ints numF (by rfl) (by k_asm) (by k_asm) (by k_mem) hI9 hz9 ?_ ?_);rotate_left;(intro ys9 D9 h9 tk9 hys9 F9 N9;clear hz9);rotate_left;(intro z9 t9 ys8 I8 oI8 C8 oC8 D8 m8 h8 tk8 E8 hC8 hx8 F8 N8)));(all_goals (first|(rename_i u19 u29 u39 u49 u59 u69 u79 u89;revert u49 u59 hI9 u89 hz9 hC8 hx8 F8 N8;revert u19 u29 u39 z9 t9 ys8 I8 oI8 C8 oC8 D8 m8 h8 tk8 E8;refine eps8 eN eLV eH eI eN eLV eN eO ?_;generalize q81 _ = u19, q82 _ = u29, q83 _ = u39, q84 _ = z9, q85 _ = t9, q86 _ = ys8, q87 _ = I8, q88 _ = oI8;refine hold8 ?_;refine eps7 eN eO eN eM eH eN eP2 ?_;generalize q71 _ = C8, q72 _ = oC8, q73 _ = D8, q74 _ = m8, q75 _ = h8, q76 _ = tk8, q77 _ = E8;refine hold7 ?_;intro _ _ hI9 _ hz9 hC8 hx8 F8 N8)|(rename_i u19 u29 u39 u49 u59 u69 u79 u89;revert u49 u59 hI9 u89 hys9 F9 N9;revert u19 u29 u39 ys9 D9 h9 tk9;refine eps7 eN eLV eH eLV eN eH eN ?_;generalize q71 _ = u19, q72 _ = u29, q73 _ = u39, q74 _ = ys9, q75 _ = D9, q76 _ = h9, q77 _ = tk9;refine hold7 ?_;intro _ _ hI9 _ hys9 F9 N9)|skip)))
  k_with "binaryOp Mod int int" => (k_here;refine m_mod rfl (by decide) ?_)
  k_with "binaryOp Pow int int" => (k_here;(with_reducible refine pow_int_small (by first|decide|fail) (by first|decide|fail) (by first|decide|fail) ?_))
  k_with "Exists" => (exact ⟨_, _, rfl, by k_asm, by k_asm, _, rfl⟩)
  with_reducible refine law_cut _ (by decide) ?_
  conv in (stN (defB _) _) => whnf
  generalize hT9 : List.drop _ (defB lawS) = tl9
  skip
  revert H B F X N T C1 C2 hd hu hsl hI hsz hsc ho1 ho2 ho3 hret hE hT9; revert w mean mg mb dp un gd fu cu A₀ h₀ L m s sc sv ns o1 o2 o3 Q E tl9; refine eps8 eW eEx eM eM eN eN eOC eN ?_; generalize q81 _ = w, q82 _ = mean, q83 _ = mg, q84 _ = mb, q85 _ = dp, q86 _ = un, q87 _ = gd, q88 _ = fu; refine hold8 ?_; refine eps8 eV eAr eH eN eM eSh eN eLV ?_; generalize q81 _ = cu, q82 _ = A₀, q83 _ = h₀, q84 _ = L, q85 _ = m, q86 _ = s, q87 _ = sc, q88 _ = sv; refine hold8 ?_; refine eps7 eLI eO eO eO eP4 eP2 eLSt ?_; generalize q71 _ = ns, q72 _ = o1, q73 _ = o2, q74 _ = o3, q75 _ = Q, q76 _ = E, q77 _ = tl9; refine hold7 ?_; intro H B F X N T C1 C2 hd hu hsl hI hsz hsc ho1 ho2 ho3 hret hE hT9
  repeat' (first | (k_unfold; (try dsimp only)) | walk1 | (dsimp only; walk1) | (dsimp only; with_reducible refine lpost_brk ?_; try dsimp only) | (dsimp only; with_reducible refine lpost_ret ?_; try dsimp only))
  all_goals (try k_data)
  all_goals first
    | (dsimp only; subst hT9; (with_reducible rename News _ _ _ _ => N9); (with_reducible rename Fr _ _ _ _ => F9); (have H1 := @H ((ns.take 10).map fun z => (numF z).toNat)); refine @LawTail.use _ _ _ _ _ _ _ _ _ _ _ _ _ _ _ _ _ _ _ (@H1) B F9 X (led_d2 N9) T C1 C2 hd hu ?_ (by exact @hret) @hE; exact ⟨D9, ys9, ys9.length, o1, o2, o3, rfl, num_nats hys9, (by rw [List.length_map, List.length_take]; exact Nat.min_le_left _ _), ho1, ho2, ho3, rfl⟩)
  k_with_none
end Mine
end
section
namespace Mine
theorem st1 (w : World) (xs : List Nat) (H : LawTail w 2 (J2 xs)) : LawTail w 1 (J1 xs) := by
  unfold LawTail
  k_fill
  k_with_none
  k_with "om" => (with_reducible first|assumption|exact rm1 (by assumption) rfl|exact rm2 (by assumption) rfl|exact rm3 (by assumption) rfl|exact rm0 (by assumption)|exact Nat.le_of_lt (by assumption)|exact Nat.le_add_right _ _|exact Nat.lt_succ_self _|exact Nat.le_of_not_lt (by assumption)|exact lt_i (by assumption)|exact nlt_i (by assumption)|exact le_big (by assumption) rfl)
  k_with "k_all" => (first|(first|assumption|exact off_lt (by walk_at "and_last")|exact off_le (by walk_at "and_last") (Nat.le_succ _)|exact off_le (by walk_at "and_last") (Nat.le_add_right _ _)|exact off_le' (by assumption) (Nat.le_refl _)|exact off_le' (by assumption) (Nat.le_succ _)|exact off_le' (by assumption) (Nat.le_add_right _ _)|exact off_le' (by assumption) (Nat.le_succ_of_le (Nat.le_succ _))|exact off_le' (by assumption) (Nat.le_succ_of_le (Nat.le_succ_of_le (Nat.le_succ _))))|fail)
  k_with "k_ne" => (first|(first|assumption|exact Ne.symm (by assumption))|fail)
  k_with "k_upd" => (first|((refine' upd_ap ?ap9 ?ae9 ?st9 ?sk9;(case ap9 => assumption);(case ae9 => exact rfl);(case st9 => walk_at "setn");(case sk9 => first|decide|omega)))|fail)
  k_with "mm" => (first|((repeat (first|assumption|exact List.mem_cons_self|exact List.mem_append.mpr (Or.inl (by first|assumption|fail))|apply List.mem_cons_of_mem|refine List.mem_append.mpr (Or.inr ?_)));done)|fail)
  k_with "eval Name" => ((k_here;k_dflt (first|(refine' m_local (by first|exact rfl|fail) (by first|exact rfl|fail) (by decide) (by k_asm) (by first|exact rfl|fail) ?_;k_whole)|(refine' m_free (by first|exact rfl|fail) (by first|exact rfl|fail) (by decide) (by decide) (by first|exact rfl|fail) (by k_asm) (by k_mem) (by k_asm) ?_;k_whole)|(refine' m_global (by first|exact rfl|fail) (by first|exact rfl|fail) (by decide) (by first|exact rfl|fail) (by k_asm) (by k_asm) (by k_asm) (by k_is) ?_;k_whole)|(refine' m_builtin (by first|exact rfl|fail) (by first|exact rfl|fail) (by decide) (by first|exact rfl|fail) (by first|exact rfl|fail) (by k_asm) (by k_asm) (by k_asm) (by k_is) (by decide) (by first|(boot_by_name)|fail) ?_;k_whole))))
  k_with "call ref" => ((k_here;k_extra "m call"))
  k_with "execs cons" => (((with_reducible refine wpAny_execs_cons ?_);try dsimp only))
  intro hrow mean mg mb dp un gd fu cu A₀ h₀ L m s news Q E B F X N T C1 C2 hd hu hJ hret hE
  obtain ⟨na, nv, nn, o1, o2, o3, hn, hI, hx, ho1, ho2, ho3, rfl⟩ := hJ
  k_with "eval ListComp" => (k_here;k_dflt (refine LCg.ListComp_U (F₀ := by k_asm) (by rfl) (by decide) (by rfl) (by decide) (by rfl) ?_))
  k_with "eval Name" => (k_here;k_dflt (refine' m_local (by first|exact rfl|fail) (by first|exact rfl|fail) (by decide) (by k_asm) (by first|exact hn|fail) ?_);k_whole)
  k_with "newList" => (k_here;(with_reducible show wpAny _ _ (newList (Value.ref _ :: _)) _ _ _);k_dflt (refine' m_newList (by k_asm) (by k_asm) (by first|exact Nat.le_of_ble_eq_true rfl|fail) ?_;k_whole);intro Ra h2 kR F2 N2 lR;(obtain ⟨qs9, hq9, N3⟩ := nine_led N2);clear N2 lR;(try simp only [List.cons_append, List.nil_append] at N3))
  k_with "CompSrc" => (k_dflt (refine compSrc_fts frameOf (by rfl) (by k_asm) (by k_asm) (by walk_at "mm") hI (by have := ints_len hI;rw [List.length_map] at this;omega) ?_ ?_);rotate_left;(intro qs8 D9 h9 tk9 hq8 F9 N9);rotate_left;(intro z9 t9 ys8 qs7 I8 oI8 C8 oC8 D8 m8 h8 tk8 E8 hC8 hx8 F8 N8 off8))
  k_with "Exists" => (exact ⟨_, _, _, rfl, by k_asm, fts_led (by k_asm), fts_off off8 (O9 _ List.mem_cons_self), hq9, rfl⟩)
  k_with "binaryOp Add ref ref" => (k_here;k_dflt (refine' m_addL (by k_asm) (by k_asm) (by walk_at "mm") (by walk_at "mm") (by first|exact nine_len hq9 hq8 hx|fail) ?_;k_whole);intro fa h2 kf F2 N2 lF)
  k_with "m call" => ((with_reducible show wpAny _ _ (call (Value.ref 766) _) _ _ _);k_dflt (refine' ctrQ_use (by k_asm) (by k_asm) (by k_asm) (by k_asm) (by k_asm) (by first|exact rfl|assumption) (by ktr_room) (by ktr_units) (frame w z9 _) ?_;k_whole;intro v9 new9 h9 tk9 hp9 F9 N9 O9;obtain ⟨q9, hq9, rfl, rfl⟩ := hp9;(try simp only [List.cons_append, List.nil_append] at N9);(try dsimp only);(try k_fold)))
  with_reducible refine law_cut _ (by decide) ?_
  conv in (stN (defB _) _) => whnf
  generalize hT9 : List.drop _ (defB lawS) = tl9
  (try k_fold)
  k_with "ir" => ((repeat (with_reducible (set_option tactic.hygienic false in intro))))
  revert H hrow B F X T C1 C2 hd hu hret hE hn hI hx ho1 ho2 ho3 N hT9; revert w xs mean mg mb dp un gd fu cu A₀ h₀ L m s Q E na nv nn o1 o2 o3 tl9; refine eps8 eW eLN eEx eM eM eN eN eOC ?_; generalize q81 _ = w, q82 _ = xs, q83 _ = mean, q84 _ = mg, q85 _ = mb, q86 _ = dp, q87 _ = un, q88 _ = gd; refine hold8 ?_; refine eps8 eN eV eAr eH eN eM eSh eP4 ?_; generalize q81 _ = fu, q82 _ = cu, q83 _ = A₀, q84 _ = h₀, q85 _ = L, q86 _ = m, q87 _ = s, q88 _ = Q; refine hold8 ?_; refine eps8 eP2 eN eLV eN eO eO eO eLSt ?_; generalize q81 _ = E, q82 _ = na, q83 _ = nv, q84 _ = nn, q85 _ = o1, q86 _ = o2, q87 _ = o3, q88 _ = tl9; refine hold8 ?_; k_extra "ir"
  repeat' (first | (k_unfold; (try dsimp only)) | walk1 | (dsimp only; walk1) | (dsimp only; with_reducible refine lpost_brk ?_; try dsimp only) | (dsimp only; with_reducible refine lpost_ret ?_; try dsimp only))
  all_goals (try k_data)
  all_goals first
    | (subst hT9; (with_reducible rename News _ _ _ _ => N9); (with_reducible rename Fr _ _ _ _ => F9); refine LawTail.use H B F9 X (st1_led N9) T C1 C2 hd hu ?_ (by exact hret) hE; exact ⟨na, nv, nn, fa, qs9 ++ qs8, kf, o1, o2, o3, [], hn, rfl, hI, hx, ho1, ho2, ho3, by rw [List.map_append, hq9, hq8], (fun _ h => nomatch h), rfl⟩)
  k_with_none
  k_with "om" => (with_reducible first|assumption|exact rm1 (by assumption) rfl|exact rm0 (by assumption)|exact Nat.le_of_lt (by assumption)|exact Nat.le_add_right _ _|exact Nat.le_add_left _ _|exact Nat.lt_succ_self _|exact Nat.succ_pos _|exact Nat.lt_of_not_le (by assumption)|exact Nat.le_of_not_lt (by assumption)|exact Nat.le_of_not_le (by assumption)|exact Nat.le_of_lt (Nat.lt_of_not_le (by assumption))|exact lt_i (by assumption)|exact nlt_i (by assumption)|exact nneg_i|exact le_big (by assumption) rfl|exact Nat.le_of_succ_le_succ (by assumption)|exact Nat.eq_zero_of_le_zero (by assumption)|exact Nat.add_comm _ _)
end Mine
end
section
namespace Mine
open LCg
noncomputable def J3 (xs : List Nat) (L : Addr) (m : Str → Option Value) (news : Led) : Prop := ∃ (na : Addr) (nv : List Value) (nn : Nat) (fa : Addr) (qs : List Ft) (nf : Nat) (da : Addr) (dv : List Value) (nd : Nat) (bs : List Bool) (o1 o2 o3 : Obj) (rest : Led), m "numbers" = some (.ref na) ∧ m "frames" = some (.ref fa) ∧ m "deeds" = some (.ref da) ∧ IntsAre nv (xs.map Int.ofNat) ∧ xs.length ≤ 10 ∧
  BoolsAre dv bs ∧ bs.length = 5 ∧ o1.data = .cell none ∧ o2.data = .cell none ∧ o3.data = .cell none ∧ qs.map Ft.fm = nine ++ xs.map frameOf ∧ (∀ p ∈ rest, SeqO p.2) ∧
  news = (da, lst0 dv nd) :: (na, lst0 nv nn) :: (fa, lst0 (ftV qs) nf) :: (L + 1 + 1 + 1, o3) :: (L + 1 + 1, o2) :: (L + 1, o1) :: (801, tabObj #[]) :: (775, tabObj #[]) :: (ftL qs ++ rest)
noncomputable def J4 (xs : List Nat) (L : Addr) (m : Str → Option Value) (news : Led) : Prop := ∃ (fa : Addr) (qs : List Ft) (nf : Nat) (da : Addr) (dv : List Value) (nd : Nat) (bs : List Bool) (o1 o2 o3 : Obj) (rest : Led), m "frames" = some (.ref fa) ∧ m "deeds" = some (.ref da) ∧ xs.length ≤ 10 ∧
  BoolsAre dv bs ∧ bs.length ≤ 25 ∧ o1.data = .cell none ∧ o2.data = .cell none ∧ o3.data = .cell none ∧ qs.map Ft.fm = nine ++ xs.map frameOf ∧ (∀ p ∈ rest, SeqO p.2) ∧
  news = (775, tabObj #[]) :: (801, tabObj #[]) :: (L + 1 + 1 + 1, o3) :: (L + 1 + 1, o2) :: (L + 1, o1) :: (da, lst0 dv nd) :: (fa, lst0 (ftV qs) nf) :: (ftL qs ++ rest)
structure Dc where
  da : Addr
  dv : List Value
  nd : Nat
  bs : List Bool
  ext : Led
  wv : Option Value
structure DcI (i : Nat) (c : Dc) : Prop where
  bs : BoolsAre c.dv c.bs
  len : c.bs.length = 5 + 2 * i
  ext : ∀ p ∈ c.ext, p.2.cls = .type "list" ∧ SeqO p.2
theorem bools_snoc : ∀ {vs : List Value} {bs : List Bool} (b : Bool) (t : Tok), BoolsAre vs bs → BoolsAre (vs ++ [.int (kI b) t]) (bs ++ [b])
  | _, _, b, t, .nil => .cons b t .nil
  | _, _, b, t, .cons c u r => .cons c u (bools_snoc b t r)
theorem bools_app : ∀ {vs ws : List Value} {bs cs : List Bool}, BoolsAre vs bs → BoolsAre ws cs → BoolsAre (vs ++ ws) (bs ++ cs)
  | _, _, _, _, .nil, h => h
  | _, _, _, _, .cons c u r, h => .cons c u (bools_app r h)
theorem mod2_kI (z : Nat) : ((z % 2 : Nat) : Int) = kI (z % 2 == 1) := by
  rcases Nat.mod_two_eq_zero_or_one z with h | h <;> rw [h] <;> rfl
theorem dc_next {i : Nat} {c : Dc} {z : Nat} {t u : Tok} {D T : Addr} {n k : Nat} {w : Option Value} (h : DcI i c) : DcI (i + 1) ⟨D, c.dv ++ [.int ((z % 2 : Nat) : Int) t, .int ((z / 2 % 2 : Nat) : Int) u], n, c.bs ++ [z % 2 == 1, z / 2 % 2 == 1], (T, lst0 [.int ((z % 2 : Nat) : Int) t, .int ((z / 2 % 2 : Nat) : Int) u] k) :: (c.da, lst0 c.dv c.nd) :: c.ext, w⟩ where
  bs := by
    rw [mod2_kI, mod2_kI]
    exact bools_app h.bs (.cons _ _ (.cons _ _ .nil))
  len := by
    show (c.bs ++ _).length = _
    rw [List.length_append, h.len]
    show 5 + 2 * i + 2 = _
    omega
  ext := fun p hp => by
    rcases List.mem_cons.mp hp with rfl | hp
    · exact ⟨rfl, _, _, rfl⟩
    rcases List.mem_cons.mp hp with rfl | hp
    · exact ⟨rfl, _, _, rfl⟩
    exact h.ext p hp
theorem dc_cls {i : Nat} {c : Dc} (h : DcI i c) : ∀ p ∈ (c.da, lst0 c.dv c.nd) :: c.ext, p.2.cls ≠ .type "list_iterator" := fun p hp => by
  rcases List.mem_cons.mp hp with rfl | hp
  · exact lst0_cls _ _
  · rw [(h.ext p hp).1]; exact lst0_cls [] 0
theorem dc_led {h₀ h : Heap} {L : Addr} {c : Dc} {n f c3 c2 c1 p q : Addr × Obj} {l rest : Led} (N : News h₀ L h (((c.da, lst0 c.dv c.nd) :: c.ext) ++ (n :: f :: c3 :: c2 :: c1 :: p :: q :: (l ++ rest)))) :
    News h₀ L h (q :: p :: c3 :: c2 :: c1 :: (c.da, lst0 c.dv c.nd) :: f :: (l ++ (n :: (c.ext ++ rest)))) := led_to N fun z hz => by
  simp only [List.mem_cons, List.mem_append, List.cons_append] at hz ⊢
  rcases hz with h | h | h | h | h | h | h | h | h | h | h <;> simp [h]
theorem dc_rest {i : Nat} {c : Dc} {n : Addr} {vs : List Value} {k : Nat} {rest : Led} (h : DcI i c) (hr : ∀ p ∈ rest, SeqO p.2) : ∀ p ∈ (n, lst0 vs k) :: (c.ext ++ rest), SeqO p.2 := fun p hp => by
  rcases List.mem_cons.mp hp with rfl | hp
  · exact ⟨_, _, rfl⟩
  rcases List.mem_append.mp hp with hp | hp
  · exact (h.ext p hp).2
  · exact hr p hp
theorem dc_turn {h₀ h : Heap} {L : Addr} {c : Dc} {D T : Addr × Obj} {rest : Led} (N : News h₀ L h (D :: T :: (((c.da, lst0 c.dv c.nd) :: c.ext) ++ rest))) : News h₀ L h ((D :: T :: (c.da, lst0 c.dv c.nd) :: c.ext) ++ rest) := N
theorem nats_get {vs : List Value} {xs : List Nat} {i : Nat} {v : Value} (h : IntsAre vs (xs.map Int.ofNat)) (hv : vs[i]? = some v) : ∃ (z : Nat) (t : Tok), xs[i]? = some z ∧ v = .int (z : Int) t := by
  obtain ⟨z, t, hz, rfl⟩ := ints_get h hv
  rw [List.getElem?_map] at hz
  obtain ⟨z', hz', rfl⟩ := Option.map_eq_some_iff.mp hz
  exact ⟨z', t, hz', rfl⟩
theorem dc_z {i : Nat} {c : Dc} {vs : List Value} {xs : List Nat} {v a b : Value} (h : DcI i c) (hI : IntsAre vs (xs.map Int.ofNat)) (hx : xs.length ≤ 10) (hv : vs[i]? = some v) : c.dv.length + [a, b].length ≤ 10000 := by
  have e := ints_len hI
  rw [List.length_map] at e
  have := (List.getElem?_eq_some_iff.mp hv).1
  rw [bools_len h.bs, h.len]
  show 5 + 2 * i + 2 ≤ 10000
  omega
theorem dc_25 {c : Dc} {vs : List Value} {xs : List Nat} (h : DcI vs.length c) (hI : IntsAre vs (xs.map Int.ofNat)) (hx : xs.length ≤ 10) : c.bs.length ≤ 25 := by
  have e := ints_len hI
  rw [List.length_map] at e
  rw [h.len]
  omega
theorem fr_prr {h₀ h : Heap} {L : Addr} {m m0 : Str → Option Value} {a b : Str} {x y : Option Value} (F : Fr h₀ L h m) (e1 : m a = x) (e2 : m b = y) (r : ∀ k, k ≠ a → k ≠ b → m k = m0 k) :
    Fr h₀ L h (fun k => if k = a then x else if k = b then y else m0 k) := fr_to F fun k => by
  by_cases h1 : k = a
  · rw [if_pos h1, h1, e1]
  · rw [if_neg h1]
    by_cases h2 : k = b
    · rw [if_pos h2, h2, e2]
    · rw [if_neg h2]; exact r k h1 h2
end Mine
end
section
namespace Mine
theorem st2 (w : World) (xs : List Nat) (H : LawTail w 3 (J3 xs)) : LawTail w 2 (J2 xs) := by
  unfold LawTail
  k_fill
  k_with_none
  k_with "om" => (with_reducible first|assumption|exact rm1 (by assumption) rfl|exact rm2 (by assumption) rfl|exact rm3 (by assumption) rfl|exact rm0 (by assumption)|exact Nat.le_of_lt (by assumption)|exact Nat.le_add_right _ _|exact Nat.lt_succ_self _|exact Nat.le_of_not_lt (by assumption)|exact lt_i (by assumption)|exact nlt_i (by assumption)|exact le_big (by assumption) rfl)
  k_with "k_all" => (first|(first|assumption|exact off_lt (by walk_at "and_last")|exact off_le (by walk_at "and_last") (Nat.le_succ _)|exact off_le (by walk_at "and_last") (Nat.le_add_right _ _)|exact off_le' (by assumption) (Nat.le_refl _)|exact off_le' (by assumption) (Nat.le_succ _)|exact off_le' (by assumption) (Nat.le_add_right _ _)|exact off_le' (by assumption) (Nat.le_succ_of_le (Nat.le_succ _))|exact off_le' (by assumption) (Nat.le_succ_of_le (Nat.le_succ_of_le (Nat.le_succ _))))|fail)
  k_with "k_ne" => (first|(first|assumption|exact Ne.symm (by assumption))|fail)
  k_with "k_upd" => (first|((refine' upd_ap ?ap9 ?ae9 ?st9 ?sk9;(case ap9 => assumption);(case ae9 => exact rfl);(case st9 => walk_at "setn");(case sk9 => first|decide|omega)))|fail)
  k_with "mm" => (first|((repeat (first|assumption|exact List.mem_cons_self|exact List.mem_append.mpr (Or.inl (by first|assumption|fail))|apply List.mem_cons_of_mem|refine List.mem_append.mpr (Or.inr ?_)));done)|fail)
  k_with "execs cons" => (((with_reducible refine wpAny_execs_cons ?_);try dsimp only))
  intro hrow mean mg mb dp un gd fu cu A₀ h₀ L m s news Q E B F X N T C1 C2 hd hu hJ hret hE
  obtain ⟨na, nv, nn, fa, qs, nf, o1, o2, o3, rest, hn, hf, hI, hx, ho1, ho2, ho3, hq, hr, rfl⟩ := hJ
  k_with "newList" => (k_here;k_dflt (refine' m_newList (by k_asm) (by k_asm) (by first|exact Nat.le_of_ble_eq_true rfl|fail) ?_;k_whole);intro da h2 kR F2 N2 lR)
  with_reducible refine law_cut _ (by decide) ?_
  conv in (stN (defB _) _) => whnf
  generalize hT9 : List.drop _ (defB lawS) = tl9
  (try k_fold)
  repeat' (first | (k_unfold; (try dsimp only)) | walk1 | (dsimp only; walk1) | (dsimp only; with_reducible refine lpost_brk ?_; try dsimp only) | (dsimp only; with_reducible refine lpost_ret ?_; try dsimp only))
  all_goals (try k_data)
  all_goals first
    | (subst hT9; (with_reducible rename News _ _ _ _ => N9); (with_reducible rename Fr _ _ _ _ => F9); refine LawTail.use H B F9 X N9 T C1 C2 hd hu ?_ (by exact hret) hE; exact ⟨na, nv, nn, fa, qs, nf, da, _, kR, [false, true, false, false, true], o1, o2, o3, rest, hn, hf, rfl, hI, hx, .cons false _ (.cons true _ (.cons false _ (.cons false _ (.cons true _ .nil)))), rfl, ho1, ho2, ho3, hq, hr, rfl⟩)
  k_with_none
end Mine
end
section
namespace Mine
theorem eDc : Nonempty (Dc) := ⟨(⟨(0 : Nat), [], 0, [], [], none⟩ : Dc)⟩
theorem st3 (w : World) (xs : List Nat) (H : LawTail w 4 (J4 xs)) : LawTail w 3 (J3 xs) := by
  unfold LawTail
  k_fill
  k_with_none
  k_with "om" => (with_reducible first|assumption|exact rm1 (by assumption) rfl|exact rm2 (by assumption) rfl|exact rm3 (by assumption) rfl|exact rm0 (by assumption)|exact Nat.le_of_lt (by assumption)|exact Nat.le_add_right _ _|exact Nat.lt_succ_self _|exact Nat.le_of_not_lt (by assumption)|exact lt_i (by assumption)|exact nlt_i (by assumption)|exact le_big (by assumption) rfl)
  k_with "k_all" => (first|(first|assumption|exact off_lt (by walk_at "and_last")|exact off_le (by walk_at "and_last") (Nat.le_succ _)|exact off_le (by walk_at "and_last") (Nat.le_add_right _ _)|exact off_le' (by assumption) (Nat.le_refl _)|exact off_le' (by assumption) (Nat.le_succ _)|exact off_le' (by assumption) (Nat.le_add_right _ _)|exact off_le' (by assumption) (Nat.le_succ_of_le (Nat.le_succ _))|exact off_le' (by assumption) (Nat.le_succ_of_le (Nat.le_succ_of_le (Nat.le_succ _))))|fail)
  k_with "k_ne" => (first|(first|assumption|exact Ne.symm (by assumption))|fail)
  k_with "k_upd" => (first|((refine' upd_ap ?ap9 ?ae9 ?st9 ?sk9;(case ap9 => assumption);(case ae9 => exact rfl);(case st9 => walk_at "setn");(case sk9 => first|decide|omega)))|fail)
  k_with "mm" => (first|((repeat (first|assumption|exact List.mem_cons_self|exact List.mem_append.mpr (Or.inl (by first|assumption|fail))|apply List.mem_cons_of_mem|refine List.mem_append.mpr (Or.inr ?_)));done)|fail)
  k_with "eval Name" => ((k_here;k_dflt (first|(refine' m_local (by first|exact rfl|fail) (by first|exact rfl|fail) (by decide) (by k_asm) (by first|exact rfl|fail) ?_;k_whole)|(refine' m_free (by first|exact rfl|fail) (by first|exact rfl|fail) (by decide) (by decide) (by first|exact rfl|fail) (by k_asm) (by k_mem) (by k_asm) ?_;k_whole)|(refine' m_global (by first|exact rfl|fail) (by first|exact rfl|fail) (by decide) (by first|exact rfl|fail) (by k_asm) (by k_asm) (by k_asm) (by k_is) ?_;k_whole)|(refine' m_builtin (by first|exact rfl|fail) (by first|exact rfl|fail) (by decide) (by first|exact rfl|fail) (by first|exact rfl|fail) (by k_asm) (by k_asm) (by k_asm) (by k_is) (by decide) (by first|(boot_by_name)|fail) ?_;k_whole))))
  k_with "execs cons" => (((with_reducible refine wpAny_execs_cons ?_);try dsimp only))
  intro hrow mean mg mb dp un gd fu cu A₀ h₀ L m s news Q E B F X N T C1 C2 hd hu hJ hret hE
  revert H B F X N T C1 C2 hd hu hJ hret hE; revert w xs mean mg mb dp un gd fu cu A₀ h₀ L m s news Q E; refine eps8 eW eLN eEx eM eM eN eN eOC ?_; generalize q81 _ = w, q82 _ = xs, q83 _ = mean, q84 _ = mg, q85 _ = mb, q86 _ = dp, q87 _ = un, q88 _ = gd; refine hold8 ?_; refine eps8 eN eV eAr eH eN eM eSh eL ?_; generalize q81 _ = fu, q82 _ = cu, q83 _ = A₀, q84 _ = h₀, q85 _ = L, q86 _ = m, q87 _ = s, q88 _ = news; refine hold8 ?_; refine eps2 eP4 eP2 ?_; generalize q21 _ = Q, q22 _ = E; refine hold2 ?_; intro H B F X N T C1 C2 hd hu hJ hret hE
  refine ex8 hJ ?_; clear hJ; refine eps8 eN eLV eN eN eLF eN eN eLV ?_; generalize q81 _ = na, q82 _ = nv, q83 _ = nn, q84 _ = fa, q85 _ = qs, q86 _ = nf, q87 _ = da, q88 _ = dv; refine hold8 ?_; intro hJ; refine ex6 hJ ?_; clear hJ; refine eps6 eN eLB eO eO eO eL ?_; generalize q61 _ = nd, q62 _ = bs, q63 _ = o1, q64 _ = o2, q65 _ = o3, q66 _ = rest; refine hold6 ?_; intro hJ
  obtain ⟨hn, hf, hdd, hI, hx, hb, hbl, ho1, ho2, ho3, hq, hr, rfl⟩ := hJ
  k_with "eval Name" => (k_here;k_dflt (refine' m_local (by first|exact rfl|fail) (by first|exact rfl|fail) (by decide) (by k_asm) (by first|exact hn|exact hd1|fail) ?_);k_whole)
  k_with "exec For Name Name cons nil" => (k_here;(with_reducible rename Fr _ _ _ _ => Fw0);k_dflt (refine For_turns (hE := hE) Fw0 ?_))
  k_with "pyIter ref" => ((((with_reducible show wpAny _ _ (pyIter _) (fun _ _ => TurnsAt _ _ _ _ _ _ _ _ _ _ _) _ _);(with_reducible rename Fr _ _ _ _ => Fw);(with_reducible rename News _ _ _ _ => Nw);k_dflt (refine iter_led (σ := Dc) (vs := nv) (by rfl) DcI (fun c => fun y => if y = "number" then c.wv else if y = "deeds" then some (.ref c.da) else m y) (fun c => (c.da, lst0 c.dv c.nd) :: c.ext) _ ⟨da, dv, nd, bs, [], m "number"⟩ List.mem_cons_self (fun _ c hJ => dc_cls hJ) (fr_add (fr_add Fw hdd) rfl) Nw ⟨hb, hbl, (fun _ h => nomatch h)⟩ ?_ ?_);(intro i v c h9 tk9 own9 Rr I9 hI9 ho9 hv9 hJ F9 N9 hR;(obtain ⟨z, t9, hz, hve⟩ := nats_get hI hv9);(subst hve);(have hd1 : (fun y => if y = ("number" : Str) then some (Value.int (z : Int) t9) else if y = "deeds" then some (.ref c.da) else m y) "deeds" = some (.ref c.da) := rfl));rotate_left;(intro c h9 tk9 hJ F9 N9);rotate_left;all_goals skip));(all_goals (first|(revert hI9 ho9 hJ F9 N9 hR hz hv9 hd1;revert i c h9 tk9 own9 Rr I9 z t9;refine eps8 eN eDc eH eN eL eP1 eN eN ?_;generalize q81 _ = i, q82 _ = c, q83 _ = h9, q84 _ = tk9, q85 _ = own9, q86 _ = Rr, q87 _ = I9, q88 _ = z;refine hold8 ?_;refine eps1 eN ?_;generalize cex _ _ = t9;refine hold1 ?_;intro hI9 ho9 hJ F9 N9 hR hz hv9 hd1)|(revert hJ F9 N9;revert c h9 tk9;refine eps3 eDc eH eN ?_;generalize q31 _ = c, q32 _ = h9, q33 _ = tk9;refine hold3 ?_;intro hJ F9 N9)|skip)))
  k_with "binaryOp FloorDiv int int" => (((k_here;k_dflt (refine' m_fdiv (D := 2) rfl (by decide) (by decide) ?_;k_whole;intro _ _)));(all_goals (first|(rename_i u19 u29;revert u19 u29;refine eps2 eN eN ?_;generalize q21 _ = u19, q22 _ = u29;refine hold2 ?_)|skip)))
  k_with "binaryOp Mod int int" => (((k_here;k_dflt (refine' m_modN (D := 2) rfl (by decide) ?_;k_whole;intro _ _)));(all_goals (first|(rename_i u19 u29 u39 u49 u59;revert u29 u39;revert u19 u49 u59;refine eps3 eH eN eN ?_;generalize q31 _ = u19, q32 _ = u49, q33 _ = u59;refine hold3 ?_;intro _ _)|(rename_i u19 u29;revert u19 u29;refine eps2 eN eN ?_;generalize q21 _ = u19, q22 _ = u29;refine hold2 ?_)|skip)))
  k_with "newList" => (((k_here;k_dflt (refine' m_newList (by k_asm) (by k_asm) (by first|exact Nat.le_of_ble_eq_true rfl|fail) ?_;k_whole);intro T2 h2 kT F2 N2 lR));(all_goals (first|(revert F2 N2 lR;revert T2 h2 kT;refine eps3 eN eH eN ?_;generalize q31 _ = T2, q32 _ = h2, q33 _ = kT;refine hold3 ?_;intro F2 N2 lR)|skip)))
  k_with "binaryOp Add ref ref" => (((k_here;k_dflt (refine' m_addL (by k_asm) (by k_asm) (by walk_at "mm") (by walk_at "mm") (by first|exact dc_z hJ hI hx hv9|fail) ?_;k_whole);intro D2 h2 kD F2 N2 lF));(all_goals (first|(revert F2 N2 lF;revert D2 h2 kD;refine eps3 eN eH eN ?_;generalize q31 _ = D2, q32 _ = h2, q33 _ = kD;refine hold3 ?_;intro F2 N2 lF)|skip)))
  with_reducible refine law_cut _ (by decide) ?_
  conv in (stN (defB _) _) => whnf
  generalize hT9 : List.drop _ (defB lawS) = tl9
  skip
  revert hT9; revert tl9; refine eps1 eLSt ?_; generalize cex _ _ = tl9; refine hold1 ?_; intro hT9
  repeat' (first | (k_unfold; (try dsimp only)) | walk1 | (dsimp only; walk1) | (dsimp only; with_reducible refine lpost_brk ?_; try dsimp only) | (dsimp only; with_reducible refine lpost_ret ?_; try dsimp only))
  all_goals (try k_data)
  all_goals first
    | (exact lpost_next (hR ⟨_, _, _, _, _, _⟩ _ _ (dc_next (w := some (.int (z : Int) t9)) hJ) (fr_prr (m0 := m) (a := ("number" : Str)) (b := ("deeds" : Str)) (by assumption) rfl rfl (by intro k h1 h2; simp only [h1, h2, if_false])) (by assumption)))
    | (subst hT9; (with_reducible rename News _ _ _ _ => N9); (with_reducible rename Fr _ _ _ _ => F9); refine LawTail.use H B F9 X (dc_led N9) T C1 C2 hd hu ?_ (by exact hret) hE; exact ⟨fa, qs, nf, c.da, c.dv, c.nd, c.bs, o1, o2, o3, _, hf, rfl, hx, hJ.bs, dc_25 hJ hI hx, ho1, ho2, ho3, hq, dc_rest hJ hr, rfl⟩)
  k_with_none
  k_with "om" => (with_reducible first|assumption|exact rm1 (by assumption) rfl|exact rm0 (by assumption)|exact Nat.le_of_lt (by assumption)|exact Nat.le_add_right _ _|exact Nat.le_add_left _ _|exact Nat.lt_succ_self _|exact Nat.succ_pos _|exact Nat.lt_of_not_le (by assumption)|exact Nat.le_of_not_lt (by assumption)|exact Nat.le_of_not_le (by assumption)|exact Nat.le_of_lt (Nat.lt_of_not_le (by assumption))|exact lt_i (by assumption)|exact nlt_i (by assumption)|exact nneg_i|exact le_big (by assumption) rfl|exact Nat.le_of_succ_le_succ (by assumption)|exact Nat.eq_zero_of_le_zero (by assumption)|exact Nat.add_comm _ _)
end Mine
end
section
namespace Mine
open LCg
theorem news_dne {h₀ h : Heap} {L : Addr} {l : Led} {p q : Addr × Obj} (N : News h₀ L h l) (hp : p ∈ l) (hq : q ∈ l) (hd : p.2 ≠ q.2) : q.1 ≠ p.1 := fun e => by
  have h1 := (N p hp).1
  have h2 := (N q hq).1
  rw [e, h1] at h2
  exact hd (Option.some.inj h2)
theorem seq_ne {a b : Obj} (h : SeqO b) (ha : ∀ vs n, a.data ≠ .seq vs n) : a ≠ b := fun e => by
  obtain ⟨vs, n, hd⟩ := h
  exact ha vs n (e ▸ hd)
theorem tab_cell {ps : Array Value} {o : Obj} {v : Option Value} (h : o.data = .cell v) : tabObj ps ≠ o := fun e => by
  rw [← e] at h; cases h
theorem ap_base {h₀ h : Heap} {L : Addr} {o1 o2 o3 : Obj} {l : Led} (N : News h₀ L h ((775, tabObj #[]) :: (801, tabObj #[]) :: (L + 1 + 1 + 1, o3) :: (L + 1 + 1, o2) :: (L + 1, o1) :: l))
    (h1 : o1.data = .cell none) (h2 : o2.data = .cell none) (h3 : o3.data = .cell none) (hl : ∀ p ∈ l, SeqO p.2) : ApN 5 ((775, tabObj #[]) :: (801, tabObj #[]) :: (L + 1 + 1 + 1, o3) :: (L + 1 + 1, o2) :: (L + 1, o1) :: l) := by
  have ct : ∀ {o : Obj}, o.data = .cell none → ∀ vs n, o.data ≠ .seq vs n := fun h vs n e => by rw [h] at e; cases e
  have tt : ∀ (vs : Array Value) n, (tabObj #[]).data ≠ .seq vs n := fun vs n e => by cases e
  refine ⟨fun q hq => ?_, fun q hq => ?_, fun q hq => ?_, fun q hq => ?_, fun q hq => ?_, trivial⟩
  · rcases List.mem_cons.mp hq with rfl | hq'
    · decide
    refine news_dne N (p := (775, tabObj #[])) List.mem_cons_self (List.mem_cons_of_mem _ hq) ?_
    rcases List.mem_cons.mp hq' with rfl | hq'
    · exact tab_cell h3
    rcases List.mem_cons.mp hq' with rfl | hq'
    · exact tab_cell h2
    rcases List.mem_cons.mp hq' with rfl | hq'
    · exact tab_cell h1
    · exact seq_ne (hl q hq') tt
  · refine news_dne N (p := (801, tabObj #[])) (List.mem_cons_of_mem _ List.mem_cons_self) (List.mem_cons_of_mem _ (List.mem_cons_of_mem _ hq)) ?_
    rcases List.mem_cons.mp hq with rfl | hq'
    · exact tab_cell h3
    rcases List.mem_cons.mp hq' with rfl | hq'
    · exact tab_cell h2
    rcases List.mem_cons.mp hq' with rfl | hq'
    · exact tab_cell h1
    · exact seq_ne (hl q hq') tt
  · have hm := List.mem_cons_of_mem (775, tabObj #[]) (List.mem_cons_of_mem (801, tabObj #[]) (List.mem_cons_of_mem (L + 1 + 1 + 1, o3) hq))
    rcases List.mem_cons.mp hq with rfl | hq'
    · exact Nat.ne_of_lt (Nat.lt_succ_self _)
    rcases List.mem_cons.mp hq' with rfl | hq'
    · exact Nat.ne_of_lt (Nat.lt_succ_of_lt (Nat.lt_succ_self _))
    · exact news_dne N (p := (L + 1 + 1 + 1, o3)) (List.mem_cons_of_mem _ (List.mem_cons_of_mem _ List.mem_cons_self)) hm (seq_ne (hl q hq') (ct h3))
  · have hm := List.mem_cons_of_mem (775, tabObj #[]) (List.mem_cons_of_mem (801, tabObj #[]) (List.mem_cons_of_mem (L + 1 + 1 + 1, o3) (List.mem_cons_of_mem (L + 1 + 1, o2) hq)))
    rcases List.mem_cons.mp hq with rfl | hq'
    · exact Nat.ne_of_lt (Nat.lt_succ_self _)
    · exact news_dne N (p := (L + 1 + 1, o2)) (List.mem_cons_of_mem _ (List.mem_cons_of_mem _ (List.mem_cons_of_mem _ List.mem_cons_self))) hm (seq_ne (hl q hq') (ct h2))
  · have hm := List.mem_cons_of_mem (775, tabObj #[]) (List.mem_cons_of_mem (801, tabObj #[]) (List.mem_cons_of_mem (L + 1 + 1 + 1, o3) (List.mem_cons_of_mem (L + 1 + 1, o2) (List.mem_cons_of_mem (L + 1, o1) hq))))
    exact news_dne N (p := (L + 1, o1)) (List.mem_cons_of_mem _ (List.mem_cons_of_mem _ (List.mem_cons_of_mem _ (List.mem_cons_of_mem _ List.mem_cons_self)))) hm (seq_ne (hl q hq) (ct h1))
theorem ap_at : ∀ {n : Nat} {own rest : Led} {q : Addr × Obj}, ApN n (own ++ q :: rest) → own.length < n → (∀ p ∈ own, p.1 ≠ q.1) ∧ ∀ p ∈ rest, p.1 ≠ q.1
  | 0, _, _, _, _, hk => absurd hk (Nat.not_lt_zero _)
  | _ + 1, [], _, _, h, _ => ⟨(fun _ h => nomatch h), h.1⟩
  | _ + 1, p :: own, rest, q, h, hk => by
    obtain ⟨a, b⟩ := ap_at (own := own) h.2 (Nat.lt_of_succ_lt_succ hk)
    refine ⟨fun z hz => ?_, b⟩
    rcases List.mem_cons.mp hz with rfl | hz
    · exact Ne.symm (h.1 q (List.mem_append_right _ List.mem_cons_self))
    · exact a z hz
theorem ctrM_use {w : World} {f : Addr} {vs : List Value} {own rd : Led} {c1 c2 : Addr} {D U : Nat} {post : Value → Led → Led → Prop} {mean : ExcName → Option Value} {mg mb : Str → Option Value} {dp un : Nat} {gd : Option (List Code)} {cn : Str} {cs : Scope} {a : Addr} {ccd : Value} {cl : List (Str × Addr)} {outer : List Env} {A₀ : Around}
    {base h₀ : Heap} {L : Addr} {m : Str → Option Value} {s : Shared} {rest : Led} {na : Nat} {Q E : Value → Shared → Prop}
    (AP : ApN na (own ++ rest)) (B : Below A₀ base outer h₀) (F : Fr h₀ L s.heap m) (X : (K w.params).In h₀) (N : News h₀ L s.heap (own ++ rest)) (T : TopQ mean mg mb h₀) (hC : CodeHd base c1 c2) (hn : own.length ≤ na) (hk : cs.kind = .function) (hd : dp + D < recursionLimit) (hu : un + U < cLine)
    (C : CtrM w f vs own rd c1 c2 D U post) (hr : ∀ q ∈ rd, q ∈ rest)
    (h : ∀ v own' new h' tk', post v own' new → Fr h₀ L h' m → News h₀ L h' (new ++ own' ++ rest) → ApN (new.length + na) (new ++ own' ++ rest) → Q v { s with heap := h', toks := tk' }) :
    wpAny (model P0 w) (ktrTop dp un gd cn cs L a ccd cl outer) (call (.ref f) vs) Q E s :=
  C rfl mean mg mb dp un gd cn cs a ccd cl outer A₀ base h₀ L m s rest na Q E B F X N AP hn hr T hC hk hd hu h
theorem m_stcell {M : Model} {A : Around} {E : Value → Shared → Prop} {s : Shared} {name : Str} {scope : Scope} {L a : Addr} {cd : Value} {h₀ : Heap} {m : Str → Option Value} {n : Nat} {x : Str} {c : Addr} {o : Obj} {v₀ : Option Value} {v : Value} {news0 rest : Led} {Q : Unit → Shared → Prop}
    (own : Led) (AP : ApN n news0) (F : Fr h₀ L s.heap m) (N : News h₀ L s.heap (own ++ (c, o) :: rest)) (e : news0.map (·.1) = (own ++ (c, o) :: rest).map (·.1)) (hk : own.length < n)
    (hc : (cellsFrom (L + 1) scope.names []).lookup x = some c) (hd : o.data = .cell v₀)
    (h : ∀ h' o', Fr h₀ L h' m → News h₀ L h' (own ++ (c, o') :: rest) → o'.data = .cell (some v) → Q () { s with heap := h' })
    (hk2 : scope.kind = .function) (hl : (envOfC name scope L a cd).kindOf x = some .cell) :
    wpAny M A (storeName (envOfC name scope L a cd) x v) Q E s :=
  let z := ap_at (AP.to e) hk
  stCN F N hc hd z.1 z.2 h hk2 hl
noncomputable def J5 (P : Params) (xs : List Nat) (L : Addr) (m : Str → Option Value) (news : Led) : Prop := ∃ (fa : Addr) (qs : List Ft) (nf : Nat) (da : Addr) (dv : List Value) (nd : Nat) (bs : List Bool) (o1 o2 o3 : Obj) (o7 : Array Value) (rest : Led) (sx sd fR cS c1 ha h2 : Addr) (tb tv tr u0 u1 : Tok) (pm ctv : Value) (oS oc1 : Obj) (vs : Array Value) (t1 : Tok) (nn n2 : Nat),
  m "frames" = some (.ref fa) ∧ m "deeds" = some (.ref da) ∧ xs.length ≤ 10 ∧ BoolsAre dv bs ∧ bs.length ≤ 25 ∧ o1.data = .cell (some (.ref sx)) ∧ o2.data = .cell (some (.ref ha)) ∧ o3.data = .cell none ∧ qs.map Ft.fm = nine ++ xs.map frameOf ∧ (∀ p ∈ rest, SeqO p.2) ∧
  oS.data = .cell (some (.ref sx)) ∧ oc1.data = .fields vs ∧ vs[1]? = some (.str "_law_stream.<locals>.<lambda>" t1) ∧
  ∃ l, l = chan P sx sd fR cS c1 ha h2 (encF (qs.map Ft.fm)) tb tv tr pm ctv oS oc1 (lat []) (lat []) u0 u1 nn [] n2 ++ ((L + 1 + 1 + 1, o3) :: (L + 1 + 1, o2) :: (L + 1, o1) :: (775, tabObj o7) :: (da, lst0 dv nd) :: (fa, lst0 (ftV qs) nf) :: (ftL qs ++ rest)) ∧ news = (801, tabObj #[]) :: l ∧ ApN 12 news
theorem nine_ok {qs : List Ft} {xs : List Nat} (h : qs.map Ft.fm = nine ++ xs.map frameOf) (hx : xs.length ≤ 10) : FrOk (qs.map Ft.fm) where
  len f hf := by
    rw [h] at hf
    rcases List.mem_append.mp hf with hf | hf
    · exact (by decide : ∀ f ∈ nine, f.2.length ≤ 8) f hf
    · obtain ⟨x, _, rfl⟩ := List.mem_map.mp hf
      exact frT_len x
  sz := by
    rw [h, List.length_append, List.length_map]
    have : nine.length = 9 := rfl
    omega
theorem j4_seq {da fa : Addr} {dv : List Value} {nd nf : Nat} {qs : List Ft} {rest : Led} (h : ∀ p ∈ rest, SeqO p.2) : ∀ p ∈ (da, lst0 dv nd) :: (fa, lst0 (ftV qs) nf) :: (ftL qs ++ rest), SeqO p.2 := fun p hp => by
  rcases List.mem_cons.mp hp with rfl | hp
  · exact ⟨_, _, rfl⟩
  rcases List.mem_cons.mp hp with rfl | hp
  · exact ⟨_, _, rfl⟩
  rcases List.mem_append.mp hp with hp | hp
  · obtain ⟨q, _, rfl⟩ := List.mem_map.mp hp
    exact ⟨_, _, rfl⟩
  · exact h p hp
theorem j4_rd {a b c d e f : Addr × Obj} {l rest : Led} : ∀ q ∈ f :: l, q ∈ a :: b :: c :: d :: e :: f :: (l ++ rest) := fun q hq => by
  simp only [List.mem_cons, List.mem_append] at hq ⊢
  rcases hq with h | h <;> simp [h]
section
variable {T ha h2 fR c1 sx sd cS p7 p8 d3 d2 d1 : Addr × Obj} {l : Led}
theorem st4_ap {n : Nat} {l0 : Led} (AP0 : ApN n l0) (hn : n = 13) (e : l0.map (·.1) = (T :: ha :: h2 :: fR :: c1 :: sx :: sd :: cS :: p7 :: p8 :: d3 :: d2 :: d1 :: l).map (·.1)) : ApN 12 ([p8, sx, sd, fR, cS, c1, ha, h2, d3, d2, d1, p7] ++ l) := by
  have AP : ApN 13 (T :: ha :: h2 :: fR :: c1 :: sx :: sd :: cS :: p7 :: p8 :: d3 :: d2 :: d1 :: l) := apn_cast AP0 hn e
  have P : PickN 12 [p8, sx, sd, fR, cS, c1, ha, h2, d3, d2, d1, p7] (ha :: h2 :: fR :: c1 :: sx :: sd :: cS :: p7 :: p8 :: d3 :: d2 :: d1 :: l) l := by
    refine .cons (k := 8) (.tail (.tail (.tail (.tail (.tail (.tail (.tail (.tail .head)))))))) (by decide) ?_
    refine .cons (k := 4) (.tail (.tail (.tail (.tail .head)))) (by decide) ?_
    refine .cons (k := 4) (.tail (.tail (.tail (.tail .head)))) (by decide) ?_
    refine .cons (k := 2) (.tail (.tail .head)) (by decide) ?_
    refine .cons (k := 3) (.tail (.tail (.tail .head))) (by decide) ?_
    refine .cons (k := 2) (.tail (.tail .head)) (by decide) ?_
    refine .cons (k := 0) .head (by decide) ?_
    refine .cons (k := 0) .head (by decide) ?_
    refine .cons (k := 1) (.tail .head) (by decide) ?_
    refine .cons (k := 1) (.tail .head) (by decide) ?_
    refine .cons (k := 1) (.tail .head) (by decide) ?_
    exact .cons (k := 0) .head (by decide) .nil
  exact (P.ap AP.2).2.2
theorem st4_led {h₀ h : Heap} {L : Addr} (N : News h₀ L h (T :: ha :: h2 :: fR :: c1 :: sx :: sd :: cS :: p7 :: p8 :: d3 :: d2 :: d1 :: l)) : News h₀ L h ([p8, sx, sd, fR, cS, c1, ha, h2, d3, d2, d1, p7] ++ l) := by
  have P : PickN 12 [p8, sx, sd, fR, cS, c1, ha, h2, d3, d2, d1, p7] (ha :: h2 :: fR :: c1 :: sx :: sd :: cS :: p7 :: p8 :: d3 :: d2 :: d1 :: l) l := by
    refine .cons (k := 8) (.tail (.tail (.tail (.tail (.tail (.tail (.tail (.tail .head)))))))) (by decide) ?_
    refine .cons (k := 4) (.tail (.tail (.tail (.tail .head)))) (by decide) ?_
    refine .cons (k := 4) (.tail (.tail (.tail (.tail .head)))) (by decide) ?_
    refine .cons (k := 2) (.tail (.tail .head)) (by decide) ?_
    refine .cons (k := 3) (.tail (.tail (.tail .head))) (by decide) ?_
    refine .cons (k := 2) (.tail (.tail .head)) (by decide) ?_
    refine .cons (k := 0) .head (by decide) ?_
    refine .cons (k := 0) .head (by decide) ?_
    refine .cons (k := 1) (.tail .head) (by decide) ?_
    refine .cons (k := 1) (.tail .head) (by decide) ?_
    refine .cons (k := 1) (.tail .head) (by decide) ?_
    exact .cons (k := 0) .head (by decide) .nil
  exact led_to N fun z hz => List.mem_cons_of_mem _ (P.pick.mem z hz)
end
end Mine
end
section
namespace Mine
theorem st4 (w : World) (xs : List Nat) (H : LawTail w 5 (J5 w.params xs)) : LawTail w 4 (J4 xs) := by
  unfold LawTail
  k_fill
  k_with_none
  k_with "om" => (with_reducible first|assumption|exact rm1 (by assumption) rfl|exact rm2 (by assumption) rfl|exact rm3 (by assumption) rfl|exact rm0 (by assumption)|exact Nat.le_of_lt (by assumption)|exact Nat.le_add_right _ _|exact Nat.lt_succ_self _|exact Nat.le_of_not_lt (by assumption)|exact lt_i (by assumption)|exact nlt_i (by assumption)|exact le_big (by assumption) rfl)
  k_with "k_all" => (first|(first|assumption|exact off_lt (by walk_at "and_last")|exact off_le (by walk_at "and_last") (Nat.le_succ _)|exact off_le (by walk_at "and_last") (Nat.le_add_right _ _)|exact off_le' (by assumption) (Nat.le_refl _)|exact off_le' (by assumption) (Nat.le_succ _)|exact off_le' (by assumption) (Nat.le_add_right _ _)|exact off_le' (by assumption) (Nat.le_succ_of_le (Nat.le_succ _))|exact off_le' (by assumption) (Nat.le_succ_of_le (Nat.le_succ_of_le (Nat.le_succ _))))|fail)
  k_with "k_ne" => (first|(first|assumption|exact Ne.symm (by assumption))|fail)
  k_with "k_upd" => (first|((refine' upd_ap ?ap9 ?ae9 ?st9 ?sk9;(case ap9 => assumption);(case ae9 => exact rfl);(case st9 => walk_at "setn");(case sk9 => first|decide|omega)))|fail)
  k_with "mm" => (first|((repeat (first|assumption|exact List.mem_cons_self|exact List.mem_append.mpr (Or.inl (by first|assumption|fail))|apply List.mem_cons_of_mem|refine List.mem_append.mpr (Or.inr ?_)));done)|fail)
  k_with "eval Name" => ((k_here;k_dflt (first|(refine' m_local (by first|exact rfl|fail) (by first|exact rfl|fail) (by decide) (by k_asm) (by first|exact rfl|fail) ?_;k_whole)|(refine' m_free (by first|exact rfl|fail) (by first|exact rfl|fail) (by decide) (by decide) (by first|exact rfl|fail) (by k_asm) (by k_mem) (by k_asm) ?_;k_whole)|(refine' m_global (by first|exact rfl|fail) (by first|exact rfl|fail) (by decide) (by first|exact rfl|fail) (by k_asm) (by k_asm) (by k_asm) (by k_is) ?_;k_whole)|(refine' m_builtin (by first|exact rfl|fail) (by first|exact rfl|fail) (by decide) (by first|exact rfl|fail) (by first|exact rfl|fail) (by k_asm) (by k_asm) (by k_asm) (by k_is) (by decide) (by first|(boot_by_name)|fail) ?_;k_whole))))
  k_with "call ref" => ((k_here;k_extra "m call"))
  k_with "execs cons" => (((with_reducible refine wpAny_execs_cons ?_);try dsimp only))
  intro hrow mean mg mb dp un gd fu cu A₀ h₀ L m s news Q E B F X N T C1 C2 hd hu hJ hret hE
  revert H B F X N T C1 C2 hd hu hJ hret hE; revert w xs mean mg mb dp un gd fu cu A₀ h₀ L m s news Q E; refine eps8 eW eLN eEx eM eM eN eN eOC ?_; generalize q81 _ = w, q82 _ = xs, q83 _ = mean, q84 _ = mg, q85 _ = mb, q86 _ = dp, q87 _ = un, q88 _ = gd; refine hold8 ?_; refine eps8 eN eV eAr eH eN eM eSh eL ?_; generalize q81 _ = fu, q82 _ = cu, q83 _ = A₀, q84 _ = h₀, q85 _ = L, q86 _ = m, q87 _ = s, q88 _ = news; refine hold8 ?_; refine eps2 eP4 eP2 ?_; generalize q21 _ = Q, q22 _ = E; refine hold2 ?_; intro H B F X N T C1 C2 hd hu hJ hret hE
  refine ex8 hJ ?_; clear hJ; refine eps8 eN eLF eN eN eLV eN eLB eO ?_; generalize q81 _ = fa, q82 _ = qs, q83 _ = nf, q84 _ = da, q85 _ = dv, q86 _ = nd, q87 _ = bs, q88 _ = o1; refine hold8 ?_; intro hJ; refine ex3 hJ ?_; clear hJ; refine eps3 eO eO eL ?_; generalize q31 _ = o2, q32 _ = o3, q33 _ = rest; refine hold3 ?_; intro hJ
  obtain ⟨hf, hn, hx, hb, hbl, ho1, ho2, ho3, hq, hr, rfl⟩ := hJ
  have AP0 := ap_base N ho1 ho2 ho3 (j4_seq hr)
  k_with "eval Name" => (k_here;k_dflt (refine' m_local (by first|exact rfl|fail) (by first|exact rfl|fail) (by decide) (by k_asm) (by first|exact hn|exact hf|fail) ?_);k_whole)
  k_with "newList" => (((k_here;(with_reducible show wpAny _ _ (newList []) _ _ _);k_dflt (refine' m_newList (by k_asm) (by k_asm) (by first|exact Nat.le_of_ble_eq_true rfl|fail) ?_;k_whole);intro h2a h2 n2a F2 N2 lR;(with_reducible rename ApN _ _ => APz);(have APy := ap_one lR APz rfl dqO);(clear APz);clear lR));(all_goals (first|(revert F2 N2 APy;revert h2a h2 n2a;refine eps3 eN eH eN ?_;generalize q31 _ = h2a, q32 _ = h2, q33 _ = n2a;refine hold3 ?_;intro F2 N2 APy)|skip)))
  k_with "newList" => (((k_here;(with_reducible show wpAny _ _ (newList (_ :: _)) _ _ _);k_dflt (refine' m_newList (by k_asm) (by k_asm) (by first|exact Nat.le_of_ble_eq_true rfl|fail) ?_;k_whole);intro haa h3 nna F2 N2 lR;(with_reducible rename ApN _ _ => APz);(have APy := ap_one lR APz rfl dqO);(clear APz);clear lR));(all_goals (first|(revert F2 N2 APy;revert haa h3 nna;refine eps3 eN eH eN ?_;generalize q31 _ = haa, q32 _ = h3, q33 _ = nna;refine hold3 ?_;intro F2 N2 APy)|skip)))
  k_with "newTuple" => (((k_here;k_dflt (refine' kup_newTuple (by k_asm) (by k_asm) ?_ (by first|decide|exact Nat.le_of_ble_eq_true rfl);k_whole);intro Tx h4 F2 N2 lR;(with_reducible rename ApN _ _ => APz);(have APy := ap_one lR APz rfl dqO);(clear APz);clear lR));(all_goals (first|(revert F2 N2 APy;revert Tx h4;refine eps2 eN eH ?_;generalize q21 _ = Tx, q22 _ = h4;refine hold2 ?_;intro F2 N2 APy)|skip)))
  k_with "storeName" => (((k_here;(with_reducible rename ApN _ _ => APz);(with_reducible rename Fr _ _ _ _ => F8);(with_reducible rename News _ _ _ _ => N8);k_dflt (first|refine m_stcell [_, _, _, _, _, _, _, _, _, _, _, _] APz F8 N8 (by exact rfl) (by first|decide|exact Nat.le_of_ble_eq_true rfl|fail) (by first|exact rfl|fail) (by first|exact ho1|exact ho2|exact ho3|fail) ?_ rfl rfl|refine m_stcell [_, _, _, _, _, _, _, _, _, _, _] APz F8 N8 (by exact rfl) (by first|decide|exact Nat.le_of_ble_eq_true rfl|fail) (by first|exact rfl|fail) (by first|exact ho1|exact ho2|exact ho3|fail) ?_ rfl rfl);intro h9 o9 F9 N9 hc9;(simp only [List.cons_append, List.nil_append] at N9)));(all_goals (first|(rename_i u19;revert F8 N8 F9 N9 hc9;revert u19 h9 o9;refine eps3 eH eH eO ?_;generalize q31 _ = u19, q32 _ = h9, q33 _ = o9;refine hold3 ?_;intro F8 N8 F9 N9 hc9)|(revert F9 N9 hc9;revert h9 o9;refine eps2 eH eO ?_;generalize q21 _ = h9, q22 _ = o9;refine hold2 ?_;intro F9 N9 hc9)|skip)))
  k_with "m call" => ((((with_reducible show wpAny _ _ (call (Value.ref 778) _) _ _ _);k_dflt (refine' ctrM_use AP0 (by k_asm) (by k_asm) (by k_asm) (by k_asm) (by k_asm) C2 (by first|decide|exact Nat.le_of_ble_eq_true rfl) (by first|exact rfl|assumption) (by ktr_room) (by ktr_units) (stream w fa qs nf (nine_ok hq hx)) (by exact j4_rd) ?_;k_whole;intro v9 own9 new9 h9 tk9 hp9 F9 N9 AP9;obtain ⟨sx, sd, fR, cS, c1, tb, tv, tr, pm, ctv, oS, oc1, vs1, t1, rfl, ⟨o7, rfl⟩, rfl, hoS, hoc, hvs⟩ := hp9;(try simp only [List.cons_append, List.nil_append] at N9);(try simp only [List.cons_append, List.nil_append, List.length_cons, List.length_nil] at AP9);clear AP0;(try dsimp only);skip)));(all_goals (first|(revert F9 N9 AP9 hoS hoc hvs;revert h9 tk9 sx sd fR cS c1 tb tv tr pm ctv oS oc1 vs1 t1 o7;refine eps8 eH eN eN eN eN eN eN eN ?_;generalize q81 _ = h9, q82 _ = tk9, q83 _ = sx, q84 _ = sd, q85 _ = fR, q86 _ = cS, q87 _ = c1, q88 _ = tb;refine hold8 ?_;refine eps8 eN eN eV eV eO eO eAV eN ?_;generalize q81 _ = tv, q82 _ = tr, q83 _ = pm, q84 _ = ctv, q85 _ = oS, q86 _ = oc1, q87 _ = vs1, q88 _ = t1;refine hold8 ?_;refine eps1 eAV ?_;generalize cex _ _ = o7;refine hold1 ?_;intro F9 N9 AP9 hoS hoc hvs)|skip)))
  with_reducible refine law_cut _ (by decide) ?_
  conv in (stN (defB _) _) => whnf
  generalize hT9 : List.drop _ (defB lawS) = tl9
  skip
  revert hT9; revert tl9; refine eps1 eLSt ?_; generalize cex _ _ = tl9; refine hold1 ?_; intro hT9
  repeat' (first | (k_unfold; (try dsimp only)) | walk1 | (dsimp only; walk1) | (dsimp only; with_reducible refine lpost_brk ?_; try dsimp only) | (dsimp only; with_reducible refine lpost_ret ?_; try dsimp only))
  all_goals (try k_data)
  all_goals first
    | (subst hT9; (with_reducible rename News _ _ _ _ => N9); (with_reducible rename Fr _ _ _ _ => F9); (with_reducible rename ApN _ _ => APz); (with_reducible rename Obj.data _ = Data.cell (some (Value.ref haa)) => hc2); (with_reducible rename Obj.data _ = Data.cell (some (Value.ref sx)) => hc1); refine LawTail.use H B F9 X (st4_led N9) T C1 C2 hd hu ?_ (by exact hret) hE; exact ⟨fa, qs, nf, da, dv, nd, bs, _, _, o3, o7, rest, sx, sd, fR, cS, c1, haa, h2a, tb, tv, tr, _, _, pm, ctv, oS, oc1, vs1, t1, nna, n2a, hf, hn, hx, hb, hbl, hc1, hc2, ho3, hq, hr, hoS, hoc, hvs, _, rfl, rfl, st4_ap APz rfl rfl⟩)
  k_with_none
  k_with "om" => (with_reducible first|assumption|exact rm1 (by assumption) rfl|exact rm0 (by assumption)|exact Nat.le_of_lt (by assumption)|exact Nat.le_add_right _ _|exact Nat.le_add_left _ _|exact Nat.lt_succ_self _|exact Nat.succ_pos _|exact Nat.lt_of_not_le (by assumption)|exact Nat.le_of_not_lt (by assumption)|exact Nat.le_of_not_le (by assumption)|exact Nat.le_of_lt (Nat.lt_of_not_le (by assumption))|exact lt_i (by assumption)|exact nlt_i (by assumption)|exact nneg_i|exact le_big (by assumption) rfl|exact Nat.le_of_succ_le_succ (by assumption)|exact Nat.eq_zero_of_le_zero (by assumption)|exact Nat.add_comm _ _)
end Mine
end
section
namespace Mine
open LCg
section
variable {prog : Program} {w : World} {A : Around} {E : Value → Shared → Prop} {s : Shared} {h₀ : Heap} {L : Addr} {m : Str → Option Value} {env : Env}
noncomputable def SrcTu (prog : Program) (w : World) (A : Around) (h₀ : Heap) (L : Addr) (m : Str → Option Value) (env : Env) (elt : Expr) (x : Str) (scope : Scope) (cl : List (Str × Addr)) (Fin : Shared → List Value → Led → Prop) (xv : Value) (s₁ : Shared) : Prop :=
  ∃ ax vs n news, xv = .ref ax ∧ A.handled = none ∧ Fr h₀ L s₁.heap m ∧ News h₀ L s₁.heap news ∧ (ax, tupO vs n) ∈ news ∧ vs.length ≤ sizeLine ∧
    ∀ s₂ : Shared, (∃ h, s₂ = { s₁ with heap := h }) → CompRest prog w A h₀ L m env elt x scope cl s₂ (fun nw => (ax, tupO vs n) ∈ nw) (fun i v => vs[i]? = some v) (Fin s₂) vs.length 0 [] news
theorem ListComp_Tu {elt iter : Expr} {x : Str} {px : Pos} {scope : Scope} {cl : List (Str × Addr)} {pos : Pos} {Q : Value → Shared → Prop} (_F₀ : Fr h₀ L s.heap m)
    (hclos : closureFor scope env = pure cl) (hcell : ∀ y ∈ scope.names, y.2 ≠ .cell) (hkind : scope.kind = .function)
    (hnames : ∀ y ∈ scope.names, y.2 = .local → scope.names.lookup y.1 = some .local) (hx : scope.names.lookup x = some .local)
    (h : wpAny (model prog w) A (eval iter env) (SrcTu prog w A h₀ L m env elt x scope cl (fun s₂ => FinE h₀ L m s₂ Q)) E s)
    (hs : ∀ x, foldedSetIterable iter env x = pure x := by intro _; rfl) :
    wpAny (model prog w) A (eval (.ListComp elt [⟨.Name x px, iter, [], 0⟩] scope pos) env) Q E s := by
  rw [eval_ListComp]
  refine wpAny_comprehension_free (use := none) rfl hs hclos hkind hnames (wpAny_mono h (fun xv s₁ h₁ => ?_) fun _ _ e => e)
  obtain ⟨ax, vs, na, news, rfl, hh, F, N, hm, hsz, R⟩ := h₁
  have hl : s₁.heap.IsTuple ax vs.toArray := ⟨_, (N _ hm).1, rfl, _, rfl⟩
  have hlt : ax < s₁.heap.objs.size := Heap.lt_size (N _ hm).1
  refine wpAny_pyIter_tuple hl ?_
  have up : ∀ b o, s₁.heap.get? b = some o → (s₁.heap.push { cls := .type "tuple_iterator", data := .fields #[.ref ax, .int 0 0] }).get? b = some o := fun b o e => Heap.get?_push_of_some _ e
  have W := Walks.tuple (prog := prog) (w := w) hh s₁.heap.objs.size ax (Nat.ne_of_lt hlt) vs.toArray
  have e2 : (fun (i : Nat) (v : Value) => vs.toArray[i]? = some v) = (fun i v => vs[i]? = some v) := by funext i v; simp
  rw [e2, show vs.toArray.size = vs.length by simp] at W
  refine block_U W hsz (fun i h st => by obtain ⟨o, e, _⟩ := st.1; exact ⟨o, e⟩)
    (fun i h h' o nw st e e' _ N' hS => ⟨by obtain ⟨o', q, r⟩ := st.1; rw [e] at q; cases q; exact ⟨o, e', r⟩, ⟨_, (N' _ hS).1, rfl, _, rfl⟩⟩) hcell hkind hx ⟨⟨_, Heap.get?_push_size _ rfl, rfl, rfl⟩, hl.push _⟩ (fun b hb => ?_)
    (F.keeps up) (N.grown up) (Nat.ne_of_lt F.ns.lt) (next_is_new F) (fun p hp => Nat.ne_of_lt (Heap.lt_size (N p hp).1)) hm (R _ ⟨_, rfl⟩) ?_
  · show b < (s₁.heap.push _).objs.size
    rw [Heap.size_push]
    rcases List.mem_cons.mp hb with rfl | hb
    · exact Nat.lt_succ_self _
    · rw [List.mem_singleton.mp hb]; exact Nat.lt_succ_of_lt hlt
  · intro D C h tk m' ys news' F' N' o1 hn hC₀ hD₀ hCL hDL hCD offC fin
    refine ⟨m', hn, fun h'' hs'' => fin D h'' tk (F'.change hs'' hCL hC₀) (fun p hp => ?_) o1⟩
    refine ⟨hs''.extBut _ _ ?_ (N' p hp).1, (N' p hp).2⟩
    rcases List.mem_cons.mp hp with rfl | hp
    · exact Ne.symm hCD
    · exact offC p hp
theorem srcTu_two {elt : Expr} {x : Str} {scope : Scope} {cl : List (Str × Addr)} {Q : Value → Shared → Prop} {ax : Addr} {n : Nat} {t0 t1 : Tok} {s₁ : Shared} {news : Led} (R0 : Value → Led → Prop) (R1 : Value → Value → Led → Prop)
    (hh : A.handled = none) (F : Fr h₀ L s₁.heap m) (N : News h₀ L s₁.heap news) (hm : (ax, tupO [.int 0 t0, .int 1 t1] n) ∈ news)
    (turn0 : ∀ I oI C oC D m₂ h tk (E' : Value → Shared → Prop), NsObj oC m₂ → m₂ x = some (.int (kI false) t0) → Fr h₀ L h m → News h₀ L h ((I, oI) :: (C, oC) :: (D, lst []) :: news) → Off3 I C D news →
      wpAny (model prog w) A (eval elt (compEnvC scope cl C env)) (fun y s₂ => ∃ h' tk' nw, s₂ = { s₁ with heap := h', toks := tk' } ∧ Fr h₀ L h' m ∧ News h₀ L h' ((I, oI) :: (C, oC) :: (D, lst []) :: nw) ∧ Off3 I C D nw ∧ (ax, tupO [.int 0 t0, .int 1 t1] n) ∈ nw ∧ R0 y nw) E' { s₁ with heap := h, toks := tk })
    (turn1 : ∀ y nw I oI C oC D m₂ h tk (E' : Value → Shared → Prop), R0 y nw → (ax, tupO [.int 0 t0, .int 1 t1] n) ∈ nw → NsObj oC m₂ → m₂ x = some (.int (kI true) t1) → Fr h₀ L h m → News h₀ L h ((I, oI) :: (C, oC) :: (D, lst [y]) :: nw) → Off3 I C D nw →
      wpAny (model prog w) A (eval elt (compEnvC scope cl C env)) (fun y' s₂ => ∃ h' tk' nw', s₂ = { s₁ with heap := h', toks := tk' } ∧ Fr h₀ L h' m ∧ News h₀ L h' ((I, oI) :: (C, oC) :: (D, lst [y]) :: nw') ∧ Off3 I C D nw' ∧ (ax, tupO [.int 0 t0, .int 1 t1] n) ∈ nw' ∧ R1 y y' nw') E' { s₁ with heap := h, toks := tk })
    (fin : ∀ y y' nw D h tk, R1 y y' nw → Fr h₀ L h m → News h₀ L h ((D, lst [y, y']) :: nw) → Off1 D nw → Q (.ref D) { s₁ with heap := h, toks := tk }) :
    SrcTu prog w A h₀ L m env elt x scope cl (fun s₂ => FinE h₀ L m s₂ Q) (.ref ax) s₁ := by
  refine ⟨ax, [.int 0 t0, .int 1 t1], n, news, rfl, hh, F, N, hm, by rw [sizeLine_eq]; show 2 ≤ _; omega, fun s₂ ⟨g, e⟩ => ?_⟩
  subst e
  refine CompRest.succ fun v I oI C oC D m₂ h tk E' hv hC hx F₁ N₁ off _ => ?_
  cases hv
  refine wpAny_mono (turn0 I oI C oC D m₂ h tk E' hC hx F₁ N₁ off) (fun y s₂ hk => ?_) fun _ _ e => e
  obtain ⟨h', tk', nw, rfl, F₂, N₂, off₂, hm₂, r0⟩ := hk
  refine ⟨h', tk', nw, rfl, F₂, N₂, off₂, hm₂, CompRest.succ fun v I oI C oC D m₂ h tk E' hv hC hx F₁ N₁ off _ => ?_⟩
  cases hv
  refine wpAny_mono (turn1 y nw I oI C oC D m₂ h tk E' r0 hm₂ hC hx F₁ N₁ off) (fun y' s₂ hk => ?_) fun _ _ e => e
  obtain ⟨h'', tk'', nw', rfl, F₃, N₃, off₃, hm₃, r1⟩ := hk
  exact ⟨h'', tk'', nw', rfl, F₃, N₃, off₃, hm₃, CompRest.zero fun D h tk F N o1 => fin y y' nw' D h tk r1 F N o1⟩
end
theorem off3_app {I C D : Addr} : ∀ {a b : Led}, Off3 I C D a → Off3 I C D b → Off3 I C D (a ++ b)
  | [], _, _, h => h
  | _ :: _, _, h, k => ⟨h.1, off3_app h.2 k⟩
theorem off3_to {I C D : Addr} : ∀ {l : Led}, (∀ p ∈ l, p.1 ≠ I ∧ p.1 ≠ C ∧ p.1 ≠ D) → Off3 I C D l
  | [], _ => trivial
  | p :: l, h => ⟨h p List.mem_cons_self, off3_to fun q hq => h q (List.mem_cons_of_mem _ hq)⟩
theorem ap_off : ∀ {n : Nat} {a b : Led}, ApN n (a ++ b) → a.length ≤ n → ∀ p ∈ a, ∀ q ∈ b, q.1 ≠ p.1
  | _, [], _, _, _, _, hp, _, _ => nomatch hp
  | 0, _ :: _, _, _, hl, _, _, _, _ => absurd hl (Nat.not_succ_le_zero _)
  | n + 1, p :: a, b, h, hl, z, hz, q, hq => by
    rcases List.mem_cons.mp hz with rfl | hz
    · exact h.1 q (List.mem_append_right _ hq)
    · exact ap_off h.2 (Nat.le_of_succ_le_succ hl) z hz q hq
theorem ap_pre : ∀ {n : Nat} {a b : Led}, ApN n (a ++ b) → n ≤ a.length → ApN n a
  | 0, _, _, _, _ => trivial
  | _ + 1, [], _, _, hl => absurd hl (Nat.not_succ_le_zero _)
  | _ + 1, _ :: _, _, h, hl => ⟨fun q hq => h.1 q (List.mem_append_left _ hq), ap_pre h.2 (Nat.le_of_succ_le_succ hl)⟩
theorem ap_tail : ∀ {n : Nat} {a b : Led}, ApN n a → (∀ p ∈ a, ∀ q ∈ b, q.1 ≠ p.1) → ApN n (a ++ b)
  | 0, _, _, _, _ => trivial
  | _ + 1, [], _, h, _ => absurd h id
  | _ + 1, p :: a, b, h, k => ⟨fun q hq => by
    rcases List.mem_append.mp hq with hq | hq
    · exact h.1 q hq
    · exact k p List.mem_cons_self q hq, ap_tail h.2 fun z hz => k z (List.mem_cons_of_mem _ hz)⟩
theorem ap_tail3 {n : Nat} {I C D : Addr} {oI oC oD : Obj} {l : Led} (h : ApN n l) (off : Off3 I C D l) : ApN n (l ++ [(I, oI), (C, oC), (D, oD)]) := ap_tail h fun p hp q hq => by
  have z := Off3.mem off p hp
  simp only [List.mem_cons, List.not_mem_nil, or_false] at hq
  rcases hq with rfl | rfl | rfl
  · exact Ne.symm z.1
  · exact Ne.symm z.2.1
  · exact Ne.symm z.2.2
structure Lx where
  lx : Addr
  ld : Addr
  src : Addr
  srd : Addr
  pb : Addr
  fs : Addr
  f1 : Addr
  f2 : Addr
  qc : Addr
  qh : Addr
  qs : Addr
  tkc : Tok
  s1 : Tok
  s2 : Tok
  s3 : Tok
  kt : List Tok
  vt : List Tok
  pm1 : Value
  ct1 : Value
  pm2 : Value
  ct2 : Value
  oC : Obj
  oH : Obj
  oT : Obj
structure Lv where
  sT : Tok
  tT : Tok
  ln : Int
  lT : Tok
noncomputable abbrev lxL (P : Params) (k1 k2 : Addr) (X : Lx) (b : Bool) (st : St) (tok : List UInt8) (v : Lv) : Led :=
  [(X.fs, dqO), (X.pb, dqO), (X.lx, instObj 757 X.ld), (X.ld, lexO P X.kt X.vt X.src X.pb X.fs (stV st v.sT) tok v.tT v.ln v.lT), (X.f2, lamL X.qc X.qh X.qs X.pm2 k2 X.ct2), (X.f1, lamR X.qc X.qh X.qs X.pm1 k1 X.ct1), (X.src, instObj 70 X.srd), (X.srd, sclO P X.f1 X.f2 b X.tkc X.s1 X.s2 X.s3), (X.qc, X.oC), (X.qh, X.oH), (X.qs, X.oT)]
end Mine
end
section
namespace Mine
open LCg
theorem ctrN_use {w : World} {f : Addr} {vs : List Value} {own : Led} {D U : Nat} {post : Value → Led → Led → Prop} {mean : ExcName → Option Value} {mg mb : Str → Option Value} {dp un : Nat} {gd : Option (List Code)} {cn : Str} {cs : Scope} {a : Addr} {ccd : Value} {cl : List (Str × Addr)} {outer : List Env} {A₀ : Around}
    {base h₀ : Heap} {L : Addr} {m : Str → Option Value} {s : Shared} {rest : Led} {na : Nat} {Q E : Value → Shared → Prop}
    (AP : ApN na (own ++ rest)) (B : Below A₀ base outer h₀) (F : Fr h₀ L s.heap m) (X : (K w.params).In h₀) (N : News h₀ L s.heap (own ++ rest)) (T : TopQ mean mg mb h₀) (hC1 : CodeHd base 805 801) (hC2 : CodeHd base 777 775) (hn : own.length ≤ na) (hk : cs.kind = .function) (hd : dp + D < recursionLimit) (hu : un + U < cLine)
    (C : CtrN w f vs own D U post)
    (h : ∀ v own' new h' tk', post v own' new → Fr h₀ L h' m → News h₀ L h' (new ++ own' ++ rest) → ApN (new.length + na) (new ++ own' ++ rest) → Q v { s with heap := h', toks := tk' }) :
    wpAny (model P0 w) (ktrTop dp un gd cn cs L a ccd cl outer) (call (.ref f) vs) Q E s :=
  C rfl mean mg mb dp un gd cn cs a ccd cl outer A₀ base h₀ L m s rest na Q E B F X N AP hn T hC1 hC2 hk hd hu h
theorem off1_mem {D : Addr} : ∀ {l : Led}, Off1 D l → ∀ p ∈ l, p.1 ≠ D
  | [], _, _, hp => nomatch hp
  | _ :: _, h, p, hp => by
    rcases List.mem_cons.mp hp with rfl | hp
    · exact h.1
    · exact off1_mem h.2 p hp
theorem led_rot3 {h₀ h : Heap} {L : Addr} {I C D : Addr × Obj} {l : Led} (N : News h₀ L h (I :: C :: D :: l)) : News h₀ L h (l ++ [I, C, D]) := led_to N fun z hz => by
  simp only [List.mem_cons, List.mem_append, List.not_mem_nil, or_false] at hz ⊢
  rcases hz with h | h | h | h <;> simp [h]
theorem ap_rot3 {h₀ h : Heap} {L : Addr} {n : Nat} {I C D : Addr} {oI oC oD : Obj} {l : Led} (AP : ApN n l) (off : Off3 I C D l) (N : News h₀ L h ((I, oI) :: (C, oC) :: (D, oD) :: l)) : ApN n (l ++ [(I, oI), (C, oC), (D, oD)]) ∧ News h₀ L h (l ++ [(I, oI), (C, oC), (D, oD)]) :=
  ⟨ap_tail3 AP off, led_rot3 N⟩
section
variable {h₀ h : Heap} {L : Addr} {I C D : Addr} {oI oC oD : Obj} {fs pb lx ld f2 k2 f1 k1 src srd qc qh qs p8 p8' : Addr × Obj} {l : Led} {n : Nat}
theorem lex_mem {a d : Led} (h : ∀ z ∈ d, z ∈ a ++ l) : ∀ z ∈ (I, oI) :: (C, oC) :: (D, oD) :: d, z ∈ a ++ (l ++ [(I, oI), (C, oC), (D, oD)]) := fun z hz => by
  rw [← List.append_assoc]
  rcases List.mem_cons.mp hz with rfl | hz
  · exact List.mem_append_right _ List.mem_cons_self
  rcases List.mem_cons.mp hz with rfl | hz
  · exact List.mem_append_right _ (List.mem_cons_of_mem _ List.mem_cons_self)
  rcases List.mem_cons.mp hz with rfl | hz
  · exact List.mem_append_right _ (List.mem_cons_of_mem _ (List.mem_cons_of_mem _ List.mem_cons_self))
  · exact List.mem_append_left _ (h z hz)
theorem lex_t0 (N : News h₀ L h ([fs, pb, lx, ld, f2, k2, f1, k1, src, srd, qc, qh, qs] ++ [p8] ++ (l ++ [(I, oI), (C, oC), (D, oD)]))) (AP : ApN n ([fs, pb, lx, ld, f2, k2, f1, k1, src, srd, qc, qh, qs] ++ [p8] ++ (l ++ [(I, oI), (C, oC), (D, oD)]))) (hn : n = 25) (hl : 11 ≤ l.length) (off : Off3 I C D (p8' :: l)) :
    News h₀ L h ((I, oI) :: (C, oC) :: (D, oD) :: (p8 :: k1 :: k2 :: ([fs, pb, lx, ld, f2, f1, src, srd, qc, qh, qs] ++ l))) ∧ Off3 I C D (p8 :: k1 :: k2 :: ([fs, pb, lx, ld, f2, f1, src, srd, qc, qh, qs] ++ l)) ∧ ApN 25 (p8 :: k1 :: k2 :: ([fs, pb, lx, ld, f2, f1, src, srd, qc, qh, qs] ++ l)) := by
  subst hn
  have z := ap_off AP (Nat.le_of_ble_eq_true rfl)
  have P0 : PickN 25 [p8, k1, k2] [fs, pb, lx, ld, f2, k2, f1, k1, src, srd, qc, qh, qs, p8] [fs, pb, lx, ld, f2, f1, src, srd, qc, qh, qs] := by
    refine .cons (k := 13) (.tail (.tail (.tail (.tail (.tail (.tail (.tail (.tail (.tail (.tail (.tail (.tail (.tail .head))))))))))))) (by decide) ?_
    refine .cons (k := 7) (.tail (.tail (.tail (.tail (.tail (.tail (.tail .head))))))) (by decide) ?_
    exact .cons (k := 5) (.tail (.tail (.tail (.tail (.tail .head))))) (by decide) .nil
  have o14 : ∀ p ∈ [fs, pb, lx, ld, f2, k2, f1, k1, src, srd, qc, qh, qs] ++ [p8], p.1 ≠ I ∧ p.1 ≠ C ∧ p.1 ≠ D := fun p hp =>
    ⟨Ne.symm (z p hp (I, oI) (List.mem_append_right _ List.mem_cons_self)), Ne.symm (z p hp (C, oC) (List.mem_append_right _ (List.mem_cons_of_mem _ List.mem_cons_self))), Ne.symm (z p hp (D, oD) (List.mem_append_right _ (List.mem_cons_of_mem _ (List.mem_cons_of_mem _ List.mem_cons_self))))⟩
  have P : PickN 25 [p8, k1, k2] ([fs, pb, lx, ld, f2, k2, f1, k1, src, srd, qc, qh, qs, p8] ++ l) ([fs, pb, lx, ld, f2, f1, src, srd, qc, qh, qs] ++ l) := by
    refine .cons (k := 13) (.tail (.tail (.tail (.tail (.tail (.tail (.tail (.tail (.tail (.tail (.tail (.tail (.tail .head))))))))))))) (by decide) ?_
    refine .cons (k := 7) (.tail (.tail (.tail (.tail (.tail (.tail (.tail .head))))))) (by decide) ?_
    exact .cons (k := 5) (.tail (.tail (.tail (.tail (.tail .head))))) (by decide) .nil
  refine ⟨led_to N fun z hz => ?_, ?_, ?_⟩
  · exact lex_mem (a := [fs, pb, lx, ld, f2, k2, f1, k1, src, srd, qc, qh, qs, p8]) (fun z hz => P.pick.mem z hz) z hz
  · refine off3_app (a := [p8, k1, k2, fs, pb, lx, ld, f2, f1, src, srd, qc, qh, qs]) (off3_to fun p hp => o14 p (P0.pick.mem p hp)) off.2
  · have AP2 : ApN 25 (([fs, pb, lx, ld, f2, k2, f1, k1, src, srd, qc, qh, qs, p8] ++ l) ++ [(I, oI), (C, oC), (D, oD)]) := by
      rw [List.append_assoc]; exact AP
    have AP3 := ap_pre AP2 (by simp only [List.length_append, List.length_cons, List.length_nil]; omega)
    exact (P.ap AP3).2.2
theorem lex_t1 {k1 k2 q1 q2 : Addr × Obj} (N : News h₀ L h ([fs, pb, lx, ld, f2, f1, src, srd, qc, qh, qs] ++ [p8, k1, k2] ++ (l ++ [(I, oI), (C, oC), (D, oD)]))) (AP : ApN n ([fs, pb, lx, ld, f2, f1, src, srd, qc, qh, qs] ++ [p8, k1, k2] ++ (l ++ [(I, oI), (C, oC), (D, oD)]))) (hn : n = 36) (hl : 22 ≤ l.length) (off : Off3 I C D (p8' :: q1 :: q2 :: l)) :
    News h₀ L h ((I, oI) :: (C, oC) :: (D, oD) :: ([fs, pb, lx, ld, f2, f1, src, srd, qc, qh, qs] ++ (p8 :: k1 :: k2 :: l))) ∧ Off3 I C D ([fs, pb, lx, ld, f2, f1, src, srd, qc, qh, qs] ++ (p8 :: k1 :: k2 :: l)) ∧ ApN 36 ([fs, pb, lx, ld, f2, f1, src, srd, qc, qh, qs] ++ (p8 :: k1 :: k2 :: l)) := by
  subst hn
  have z := ap_off AP (Nat.le_of_ble_eq_true rfl)
  have o14 : ∀ p ∈ [fs, pb, lx, ld, f2, f1, src, srd, qc, qh, qs] ++ [p8, k1, k2], p.1 ≠ I ∧ p.1 ≠ C ∧ p.1 ≠ D := fun p hp =>
    ⟨Ne.symm (z p hp (I, oI) (List.mem_append_right _ List.mem_cons_self)), Ne.symm (z p hp (C, oC) (List.mem_append_right _ (List.mem_cons_of_mem _ List.mem_cons_self))), Ne.symm (z p hp (D, oD) (List.mem_append_right _ (List.mem_cons_of_mem _ (List.mem_cons_of_mem _ List.mem_cons_self))))⟩
  refine ⟨led_to N fun z hz => ?_, ?_, ?_⟩
  · exact lex_mem (a := [fs, pb, lx, ld, f2, f1, src, srd, qc, qh, qs] ++ [p8, k1, k2]) (fun z hz => hz) z hz
  · exact off3_app (a := [fs, pb, lx, ld, f2, f1, src, srd, qc, qh, qs, p8, k1, k2]) (off3_to o14) off.2.2.2
  · have AP2 : ApN 36 (([fs, pb, lx, ld, f2, f1, src, srd, qc, qh, qs, p8, k1, k2] ++ l) ++ [(I, oI), (C, oC), (D, oD)]) := by
      rw [List.append_assoc]; exact AP
    exact ap_pre AP2 (by simp only [List.length_append, List.length_cons, List.length_nil]; omega)
end
noncomputable def LR0 (P : Params) (sx ha : Addr) (l : Led) (y : Value) (nw : Led) : Prop := ∃ (X : Lx) (v : Lv) (k1 k2 : Addr) (ok1 ok2 : Obj) (vs1 vs2 : Array Value) (t2 t3 : Tok), y = .ref X.lx ∧ SrcOk sx ha false X.tkc ok1 ok2 X.oC X.oH X.oT vs1 vs2 t2 t3 ∧
  nw = (801, tabObj (tab2 k1 k2)) :: (k1, ok1) :: (k2, ok2) :: (lxL P k1 k2 X false .sp [] v ++ l) ∧ ApN 25 nw
noncomputable def LR1 (P : Params) (sx ha : Addr) (l : Led) (y y' : Value) (nw : Led) : Prop := ∃ (X Y : Lx) (v u : Lv) (k1 k2 : Addr) (ok1 ok2 : Obj) (vs1 vs2 : Array Value) (t2 t3 : Tok), y = .ref X.lx ∧ y' = .ref Y.lx ∧ SrcOk sx ha false X.tkc ok1 ok2 X.oC X.oH X.oT vs1 vs2 t2 t3 ∧ SrcOk sx ha true Y.tkc ok1 ok2 Y.oC Y.oH Y.oT vs1 vs2 t2 t3 ∧
  nw = lxL P k1 k2 Y true .sp [] u ++ ((801, tabObj (tab2 k1 k2)) :: (k1, ok1) :: (k2, ok2) :: (lxL P k1 k2 X false .sp [] v ++ l)) ∧ ApN 36 nw
noncomputable def J6 (P : Params) (xs : List Nat) (L : Addr) (m : Str → Option Value) (news : Led) : Prop := ∃ (fa : Addr) (qs : List Ft) (nf : Nat) (da : Addr) (dv : List Value) (nd : Nat) (bs : List Bool) (o1 o2 o3 : Obj) (o7 o8 : Array Value) (rest : Led) (sx sd fR cS c1 ha h2 : Addr) (tb tv tr u0 u1 : Tok) (pm ctv : Value) (oS oc1 : Obj) (vs : Array Value) (t1 : Tok) (nn n2 : Nat)
    (X Y : Lx) (v u : Lv) (k1 k2 : Addr) (ok1 ok2 : Obj) (vs1 vs2 : Array Value) (t2 t3 : Tok) (la : Addr) (nl : Nat),
  m "frames" = some (.ref fa) ∧ m "deeds" = some (.ref da) ∧ xs.length ≤ 10 ∧ BoolsAre dv bs ∧ bs.length ≤ 25 ∧ o1.data = .cell (some (.ref sx)) ∧ o2.data = .cell (some (.ref ha)) ∧ o3.data = .cell (some (.ref la)) ∧ qs.map Ft.fm = nine ++ xs.map frameOf ∧ (la, lst0 [.ref X.lx, .ref Y.lx] nl) ∈ rest ∧
  oS.data = .cell (some (.ref sx)) ∧ oc1.data = .fields vs ∧ vs[1]? = some (.str "_law_stream.<locals>.<lambda>" t1) ∧ SrcOk sx ha false X.tkc ok1 ok2 X.oC X.oH X.oT vs1 vs2 t2 t3 ∧ SrcOk sx ha true Y.tkc ok1 ok2 Y.oC Y.oH Y.oT vs1 vs2 t2 t3 ∧
  news = chan P sx sd fR cS c1 ha h2 (encF (qs.map Ft.fm)) tb tv tr pm ctv oS oc1 (lat []) (lat []) u0 u1 nn [] n2 ++ ((k1, ok1) :: (k2, ok2) :: (lxL P k1 k2 X false .sp [] v ++ (lxL P k1 k2 Y true .sp [] u ++ ((L + 1 + 1 + 1, o3) :: (L + 1 + 1, o2) :: (L + 1, o1) :: (801, tabObj o8) :: (775, tabObj o7) :: (da, lst0 dv nd) :: (fa, lst0 (ftV qs) nf) :: (ftL qs ++ rest))))) ∧ ApN 36 news
theorem st5_open {h₀ h : Heap} {L T : Addr} {oT : Obj} {p8 : Addr × Obj} {l : Led} (AP : ApN 12 (p8 :: l)) (N : News h₀ L h ((T, oT) :: p8 :: l)) (lR : ∀ p ∈ p8 :: l, p.1 < T) : ∃ l', l' = l ++ [(T, oT)] ∧ ApN 12 (p8 :: l') ∧ News h₀ L h (p8 :: l') ∧ (T, oT) ∈ l' ∧ (∀ p ∈ l, p ∈ l') ∧ l.length ≤ l'.length :=
  ⟨_, rfl, ap_tail (a := p8 :: l) AP fun p hp q hq => by
    rcases List.mem_singleton.mp hq with rfl
    exact Ne.symm (Nat.ne_of_lt (lR p hp)), led_to N fun z hz => by
    simp only [List.mem_cons, List.mem_append, List.not_mem_nil, or_false] at hz ⊢
    rcases hz with h | h | h <;> simp [h], List.mem_append_right _ List.mem_cons_self, fun p hp => List.mem_append_left _ hp, by rw [List.length_append]; exact Nat.le_add_right _ _⟩
section
variable {M : Model} {A : Around} {E : Value → Shared → Prop} {s : Shared} {env : Env} {x : Str} {pos : Pos} {v : Value} {Q : Value → Shared → Prop} {h₀ : Heap} {L c : Addr} {o : Obj} {news : Led} {m₂ : Str → Option Value}
theorem m_cloc (hl : env.kindOf x = some .local) (hk : env.scope.kind = .function) (hd : (x == ("__debug__" : Str)) = false) (hC : NsObj o m₂) (N : News h₀ L s.heap news) (hm : (env.locals, o) ∈ news) (hx : m₂ x = some v) (h : Q v s) :
    wpAny M A (eval (.Name x pos) env) Q E s := wpAny_Name (wpAny_loadName_local hk hl (hC.ns (N.get hm)) hx h) hd
end
theorem lxl_len {P : Params} {k1 k2 : Addr} {b : Bool} {st : St} (X : Lx) (v : Lv) {l : Led} (h : 11 ≤ l.length) : 22 ≤ (lxL P k1 k2 X b st [] v ++ l).length := by
  rw [List.length_append]
  show 22 ≤ 11 + l.length
  omega
section
variable {s1 s2 s3 s4 s5 s6 s7 x1 x2 x3 x4 x5 x6 x7 x8 x9 x10 x11 y1 y2 y3 y4 y5 y6 y7 y8 y9 y10 y11 k1 k2 c3 c2 c1 p7 p8 d f T D : Addr × Obj} {ft rest : Led}
theorem st5_pick {l : Led} : PickN 36 [s1, s2, s3, s4, s5, s6, s7, k1, k2, x1, x2, x3, x4, x5, x6, x7, x8, x9, x10, x11, y1, y2, y3, y4, y5, y6, y7, y8, y9, y10, y11, c3, c2, c1, p8, p7] ([y1, y2, y3, y4, y5, y6, y7, y8, y9, y10, y11] ++ (p8 :: k1 :: k2 :: ([x1, x2, x3, x4, x5, x6, x7, x8, x9, x10, x11] ++ ([s1, s2, s3, s4, s5, s6, s7] ++ (c3 :: c2 :: c1 :: p7 :: l))))) l := by
  repeat (first | exact PickN.nil | (refine PickN.cons (by repeat (first | exact SelN.head | apply SelN.tail)) (by decide) ?_))
theorem st5_ap (AP : ApN 36 ([y1, y2, y3, y4, y5, y6, y7, y8, y9, y10, y11] ++ (p8 :: k1 :: k2 :: ([x1, x2, x3, x4, x5, x6, x7, x8, x9, x10, x11] ++ (([s1, s2, s3, s4, s5, s6, s7] ++ (c3 :: c2 :: c1 :: p7 :: d :: f :: (ft ++ rest))) ++ [T]))))) (off : Off1 D.1 ([y1, y2, y3, y4, y5, y6, y7, y8, y9, y10, y11] ++ (p8 :: k1 :: k2 :: ([x1, x2, x3, x4, x5, x6, x7, x8, x9, x10, x11] ++ (([s1, s2, s3, s4, s5, s6, s7] ++ (c3 :: c2 :: c1 :: p7 :: d :: f :: (ft ++ rest))) ++ [T]))))) : ApN 36 ([s1, s2, s3, s4, s5, s6, s7] ++ (k1 :: k2 :: ([x1, x2, x3, x4, x5, x6, x7, x8, x9, x10, x11] ++ ([y1, y2, y3, y4, y5, y6, y7, y8, y9, y10, y11] ++ (c3 :: c2 :: c1 :: p8 :: p7 :: d :: f :: (ft ++ (rest ++ [T, D]))))))) := by
  have e : ([y1, y2, y3, y4, y5, y6, y7, y8, y9, y10, y11] ++ (p8 :: k1 :: k2 :: ([x1, x2, x3, x4, x5, x6, x7, x8, x9, x10, x11] ++ (([s1, s2, s3, s4, s5, s6, s7] ++ (c3 :: c2 :: c1 :: p7 :: d :: f :: (ft ++ rest))) ++ [T])))) = [y1, y2, y3, y4, y5, y6, y7, y8, y9, y10, y11] ++ (p8 :: k1 :: k2 :: ([x1, x2, x3, x4, x5, x6, x7, x8, x9, x10, x11] ++ ([s1, s2, s3, s4, s5, s6, s7] ++ (c3 :: c2 :: c1 :: p7 :: (d :: f :: (ft ++ (rest ++ [T]))))))) := by simp
  have AP2 : ApN 36 (([y1, y2, y3, y4, y5, y6, y7, y8, y9, y10, y11] ++ (p8 :: k1 :: k2 :: ([x1, x2, x3, x4, x5, x6, x7, x8, x9, x10, x11] ++ (([s1, s2, s3, s4, s5, s6, s7] ++ (c3 :: c2 :: c1 :: p7 :: d :: f :: (ft ++ rest))) ++ [T])))) ++ [D]) := ap_tail AP fun p hp q hq => by
    rcases List.mem_singleton.mp hq with rfl
    exact Ne.symm (off1_mem off p hp)
  have e2 : ([y1, y2, y3, y4, y5, y6, y7, y8, y9, y10, y11] ++ (p8 :: k1 :: k2 :: ([x1, x2, x3, x4, x5, x6, x7, x8, x9, x10, x11] ++ (([s1, s2, s3, s4, s5, s6, s7] ++ (c3 :: c2 :: c1 :: p7 :: d :: f :: (ft ++ rest))) ++ [T])))) ++ [D] = [y1, y2, y3, y4, y5, y6, y7, y8, y9, y10, y11] ++ (p8 :: k1 :: k2 :: ([x1, x2, x3, x4, x5, x6, x7, x8, x9, x10, x11] ++ ([s1, s2, s3, s4, s5, s6, s7] ++ (c3 :: c2 :: c1 :: p7 :: (d :: f :: (ft ++ (rest ++ [T, D]))))))) := by simp
  rw [e2] at AP2
  exact (st5_pick.ap AP2).2.2
theorem st5_led {h₀ h : Heap} {L : Addr} (N : News h₀ L h (D :: ([y1, y2, y3, y4, y5, y6, y7, y8, y9, y10, y11] ++ (p8 :: k1 :: k2 :: ([x1, x2, x3, x4, x5, x6, x7, x8, x9, x10, x11] ++ (([s1, s2, s3, s4, s5, s6, s7] ++ (c3 :: c2 :: c1 :: p7 :: d :: f :: (ft ++ rest))) ++ [T])))))) : News h₀ L h ([s1, s2, s3, s4, s5, s6, s7] ++ (k1 :: k2 :: ([x1, x2, x3, x4, x5, x6, x7, x8, x9, x10, x11] ++ ([y1, y2, y3, y4, y5, y6, y7, y8, y9, y10, y11] ++ (c3 :: c2 :: c1 :: p8 :: p7 :: d :: f :: (ft ++ (rest ++ [T, D]))))))) := led_to N fun z hz => by
  have e2 : ([y1, y2, y3, y4, y5, y6, y7, y8, y9, y10, y11] ++ (p8 :: k1 :: k2 :: ([x1, x2, x3, x4, x5, x6, x7, x8, x9, x10, x11] ++ (([s1, s2, s3, s4, s5, s6, s7] ++ (c3 :: c2 :: c1 :: p7 :: d :: f :: (ft ++ rest))) ++ [T])))) ++ [D] = [y1, y2, y3, y4, y5, y6, y7, y8, y9, y10, y11] ++ (p8 :: k1 :: k2 :: ([x1, x2, x3, x4, x5, x6, x7, x8, x9, x10, x11] ++ ([s1, s2, s3, s4, s5, s6, s7] ++ (c3 :: c2 :: c1 :: p7 :: (d :: f :: (ft ++ (rest ++ [T, D]))))))) := by simp
  have h := st5_pick.pick.mem z hz
  rw [← e2] at h
  rcases List.mem_append.mp h with h | h
  · exact List.mem_cons_of_mem _ h
  · rw [List.mem_singleton.mp h]; exact List.mem_cons_self
theorem st5_fin {h₀ h : Heap} {L Da : Addr} {oD : Obj} (AP : ApN 36 ([y1, y2, y3, y4, y5, y6, y7, y8, y9, y10, y11] ++ (p8 :: k1 :: k2 :: ([x1, x2, x3, x4, x5, x6, x7, x8, x9, x10, x11] ++ (([s1, s2, s3, s4, s5, s6, s7] ++ (c3 :: c2 :: c1 :: p7 :: d :: f :: (ft ++ rest))) ++ [T]))))) (off : Off1 Da ([y1, y2, y3, y4, y5, y6, y7, y8, y9, y10, y11] ++ (p8 :: k1 :: k2 :: ([x1, x2, x3, x4, x5, x6, x7, x8, x9, x10, x11] ++ (([s1, s2, s3, s4, s5, s6, s7] ++ (c3 :: c2 :: c1 :: p7 :: d :: f :: (ft ++ rest))) ++ [T]))))) (N : News h₀ L h ((Da, oD) :: ([y1, y2, y3, y4, y5, y6, y7, y8, y9, y10, y11] ++ (p8 :: k1 :: k2 :: ([x1, x2, x3, x4, x5, x6, x7, x8, x9, x10, x11] ++ (([s1, s2, s3, s4, s5, s6, s7] ++ (c3 :: c2 :: c1 :: p7 :: d :: f :: (ft ++ rest))) ++ [T])))))) : ApN 36 ([s1, s2, s3, s4, s5, s6, s7] ++ (k1 :: k2 :: ([x1, x2, x3, x4, x5, x6, x7, x8, x9, x10, x11] ++ ([y1, y2, y3, y4, y5, y6, y7, y8, y9, y10, y11] ++ (c3 :: c2 :: c1 :: p8 :: p7 :: d :: f :: (ft ++ (rest ++ [T, (Da, oD)]))))))) ∧ News h₀ L h ([s1, s2, s3, s4, s5, s6, s7] ++ (k1 :: k2 :: ([x1, x2, x3, x4, x5, x6, x7, x8, x9, x10, x11] ++ ([y1, y2, y3, y4, y5, y6, y7, y8, y9, y10, y11] ++ (c3 :: c2 :: c1 :: p8 :: p7 :: d :: f :: (ft ++ (rest ++ [T, (Da, oD)]))))))) :=
  ⟨st5_ap AP off, st5_led N⟩
end
end Mine
end
section
namespace Mine
theorem eLv : Nonempty (Lv) := ⟨(⟨(0 : Nat), (0 : Nat), 0, (0 : Nat)⟩ : Lv)⟩
theorem eLx : Nonempty (Lx) := ⟨(⟨(0 : Nat), (0 : Nat), (0 : Nat), (0 : Nat), (0 : Nat), (0 : Nat), (0 : Nat), (0 : Nat), (0 : Nat), (0 : Nat), (0 : Nat), (0 : Nat), (0 : Nat), (0 : Nat), (0 : Nat), [], [], .none, .none, .none, .none, default, default, default⟩ : Lx)⟩
theorem st5 (w : World) (xs : List Nat) (H : LawTail w 6 (J6 w.params xs)) : LawTail w 5 (J5 w.params xs) := by
  unfold LawTail
  k_fill
  k_with_none
  k_with "om" => (with_reducible first|assumption|exact rm1 (by assumption) rfl|exact rm2 (by assumption) rfl|exact rm3 (by assumption) rfl|exact rm0 (by assumption)|exact Nat.le_of_lt (by assumption)|exact Nat.le_add_right _ _|exact Nat.lt_succ_self _|exact Nat.le_of_not_lt (by assumption)|exact lt_i (by assumption)|exact nlt_i (by assumption)|exact le_big (by assumption) rfl)
  k_with "k_all" => (first|(first|assumption|exact off_lt (by walk_at "and_last")|exact off_le (by walk_at "and_last") (Nat.le_succ _)|exact off_le (by walk_at "and_last") (Nat.le_add_right _ _)|exact off_le' (by assumption) (Nat.le_refl _)|exact off_le' (by assumption) (Nat.le_succ _)|exact off_le' (by assumption) (Nat.le_add_right _ _)|exact off_le' (by assumption) (Nat.le_succ_of_le (Nat.le_succ _))|exact off_le' (by assumption) (Nat.le_succ_of_le (Nat.le_succ_of_le (Nat.le_succ _))))|fail)
  k_with "k_ne" => (first|(first|assumption|exact Ne.symm (by assumption))|fail)
  k_with "k_upd" => (first|((refine' upd_ap ?ap9 ?ae9 ?st9 ?sk9;(case ap9 => assumption);(case ae9 => exact rfl);(case st9 => walk_at "setn");(case sk9 => first|decide|omega)))|fail)
  k_with "mm" => (first|((repeat (first|assumption|exact List.mem_cons_self|exact List.mem_append.mpr (Or.inl (by first|assumption|fail))|apply List.mem_cons_of_mem|refine List.mem_append.mpr (Or.inr ?_)));done)|fail)
  k_with "eval Name" => ((k_here;k_dflt (first|(refine' m_local (by first|exact rfl|fail) (by first|exact rfl|fail) (by decide) (by k_asm) (by first|exact rfl|fail) ?_;k_whole)|(refine' m_free (by first|exact rfl|fail) (by first|exact rfl|fail) (by decide) (by decide) (by first|exact rfl|fail) (by k_asm) (by k_mem) (by k_asm) ?_;k_whole)|(refine' m_global (by first|exact rfl|fail) (by first|exact rfl|fail) (by decide) (by first|exact rfl|fail) (by k_asm) (by k_asm) (by k_asm) (by k_is) ?_;k_whole)|(refine' m_builtin (by first|exact rfl|fail) (by first|exact rfl|fail) (by decide) (by first|exact rfl|fail) (by first|exact rfl|fail) (by k_asm) (by k_asm) (by k_asm) (by k_is) (by decide) (by first|(boot_by_name)|fail) ?_;k_whole))))
  k_with "call ref" => ((k_here;k_extra "m call"))
  k_with "execs cons" => (((with_reducible refine wpAny_execs_cons ?_);try dsimp only))
  intro hrow mean mg mb dp un gd fu cu A₀ h₀ L m s news Q E B F X N T C1 C2 hd hu hJ hret hE
  revert H B F X N T C1 C2 hd hu hJ hret hE; revert w xs mean mg mb dp un gd fu cu A₀ h₀ L m s news Q E; refine eps8 eW eLN eEx eM eM eN eN eOC ?_; generalize q81 _ = w, q82 _ = xs, q83 _ = mean, q84 _ = mg, q85 _ = mb, q86 _ = dp, q87 _ = un, q88 _ = gd; refine hold8 ?_; refine eps8 eN eV eAr eH eN eM eSh eL ?_; generalize q81 _ = fu, q82 _ = cu, q83 _ = A₀, q84 _ = h₀, q85 _ = L, q86 _ = m, q87 _ = s, q88 _ = news; refine hold8 ?_; refine eps2 eP4 eP2 ?_; generalize q21 _ = Q, q22 _ = E; refine hold2 ?_; intro H B F X N T C1 C2 hd hu hJ hret hE
  refine ex8 hJ ?_; clear hJ; refine eps8 eN eLF eN eN eLV eN eLB eO ?_; generalize q81 _ = fa, q82 _ = qs, q83 _ = nf, q84 _ = da, q85 _ = dv, q86 _ = nd, q87 _ = bs, q88 _ = o1; refine hold8 ?_; intro hJ; refine ex8 hJ ?_; clear hJ; refine eps8 eO eO eAV eL eN eN eN eN ?_; generalize q81 _ = o2, q82 _ = o3, q83 _ = o7, q84 _ = rest, q85 _ = sx, q86 _ = sd, q87 _ = fR, q88 _ = cS; refine hold8 ?_; intro hJ; refine ex8 hJ ?_; clear hJ; refine eps8 eN eN eN eN eN eN eN eN ?_; generalize q81 _ = c1, q82 _ = ha, q83 _ = h2, q84 _ = tb, q85 _ = tv, q86 _ = tr, q87 _ = u0, q88 _ = u1; refine hold8 ?_; intro hJ; refine ex8 hJ ?_; clear hJ; refine eps8 eV eV eO eO eAV eN eN eN ?_; generalize q81 _ = pm, q82 _ = ctv, q83 _ = oS, q84 _ = oc1, q85 _ = vs, q86 _ = t1, q87 _ = nn, q88 _ = n2; refine hold8 ?_; intro hJ
  obtain ⟨hf, hn, hx, hb, hbl, ho1, ho2, ho3, hq, hr, hoS, hoc, hvs, hJ⟩ := hJ
  refine ex1 hJ ?_; clear hJ; refine eps1 eL ?_; generalize cex _ _ = l; refine hold1 ?_
  rintro ⟨hl, rfl, AP⟩
  have hm1 : (L + 1, o1) ∈ l := by rw [hl]; exact List.mem_append_right _ (List.mem_cons_of_mem _ (List.mem_cons_of_mem _ List.mem_cons_self))
  have hm2 : (L + 1 + 1, o2) ∈ l := by rw [hl]; exact List.mem_append_right _ (List.mem_cons_of_mem _ List.mem_cons_self)
  have hlen : 11 ≤ l.length := by rw [hl]; simp only [chan, strm, heldL, List.length_append, List.length_cons, List.length_nil]; omega
  k_with "eval Name" => (k_here;k_dflt (first|refine' m_cell (by first|exact rfl|fail) (by first|exact rfl|fail) (by decide) (by first|exact rfl|fail) (by k_asm) (by walk_at "mm") (by first|exact ho1|fail) ?_|refine' m_cell (by first|exact rfl|fail) (by first|exact rfl|fail) (by decide) (by first|exact rfl|fail) (by k_asm) (by walk_at "mm") (by first|exact ho2|fail) ?_|refine' m_cloc (by first|exact rfl|fail) (by first|exact rfl|fail) (by decide) (by first|exact hC9|fail) (by k_asm) (by walk_at "mm") (by first|exact hx9|fail) ?_);k_whole)
  k_with "eval ListComp" => (k_here;k_dflt (refine ListComp_Tu (by k_asm) (by rfl) (by decide) (by rfl) (by decide) (by rfl) ?_))
  k_with "newTuple" => (((k_here;k_dflt (refine' kup_newTuple (by k_asm) (by k_asm) ?_ (by first|decide|exact Nat.le_of_ble_eq_true rfl);k_whole);intro Tx h4 F2 N2 lR));(all_goals (first|(revert F2 N2 lR;revert Tx h4;refine eps2 eN eH ?_;generalize q21 _ = Tx, q22 _ = h4;refine hold2 ?_;intro F2 N2 lR)|skip)))
  k_with "SrcTu" => ((((obtain ⟨l2, hl2, APt, Nt, hmT0, hsub, hlen0⟩ := st5_open AP N2 lR);clear N2 lR AP;(have hm3 := hsub _ hm1);(have hm4 := hsub _ hm2);(have hlen2 := Nat.le_trans hlen hlen0);(with_reducible rename Fr _ _ _ _ => Fa);k_dflt (refine srcTu_two (LR0 w.params sx ha l2) (LR1 w.params sx ha l2) rfl Fa Nt (List.mem_cons_of_mem _ hmT0) ?_ ?_ ?_);(intro I9 oI9 C9 oC9 D9 m9 h9 tk9 E9 hC9 hx9 F9 N9 off9;(obtain ⟨AP9, N10⟩ := ap_rot3 APt off9 N9);clear N9);rotate_left;(intro y8 nw8 I9 oI9 C9 oC9 D9 m9 h9 tk9 E9 r0 hmT hC9 hx9 F9 N9 off9;(unfold LR0 at r0);(k_dflt (refine ex8 r0 ?_);clear r0;intro XA v k1 k2 ok1 ok2 vs1 vs2 r0;k_dflt (refine ex2 r0 ?_);clear r0;intro t2 t3 r0;obtain ⟨rfl, hsA, rfl, APr⟩ := r0);(have hlen3 := lxl_len (k1 := k1) (k2 := k2) (b := false) (st := .sp) (P := w.params) XA v hlen2);(obtain ⟨AP9, N10⟩ := ap_rot3 APr off9 N9);clear N9);rotate_left;(intro y8 y9 nw8 D9 h9 tk9 r1 F9 N9 o9;(unfold LR1 at r1);(k_dflt (refine ex8 r1 ?_);clear r1;intro XA YB v u k1 k2 ok1 ok2 r1;k_dflt (refine ex4 r1 ?_);clear r1;intro vs1 vs2 t2 t3 r1;obtain ⟨rfl, rfl, hsA, hsB, rfl, APr⟩ := r1);(subst hl2);(subst hl);(obtain ⟨AP6, N6⟩ := st5_fin APr o9 N9);clear APr o9 N9);rotate_left;all_goals skip));(all_goals (first|(revert hl2 APt Nt hmT0 hsub hlen0 hm3 hm4 hlen2 hC9 hx9 F9 hsA hmT off9 APr hlen3 AP9 N10;revert l2 I9 oI9 C9 oC9 D9 m9 h9 tk9 E9 XA v k1 k2 ok1 ok2 vs1 vs2 t2 t3;refine eps8 eL eN eO eN eO eN eM eH ?_;generalize q81 _ = l2, q82 _ = I9, q83 _ = oI9, q84 _ = C9, q85 _ = oC9, q86 _ = D9, q87 _ = m9, q88 _ = h9;refine hold8 ?_;refine eps8 eN eP2 eLx eLv eN eN eO eO ?_;generalize q81 _ = tk9, q82 _ = E9, q83 _ = XA, q84 _ = v, q85 _ = k1, q86 _ = k2, q87 _ = ok1, q88 _ = ok2;refine hold8 ?_;refine eps4 eAV eAV eN eN ?_;generalize q41 _ = vs1, q42 _ = vs2, q43 _ = t2, q44 _ = t3;refine hold4 ?_;intro hl2 APt Nt hmT0 hsub hlen0 hm3 hm4 hlen2 hC9 hx9 F9 hsA hmT off9 APr hlen3 AP9 N10)|(revert F9 hsA hsB AP6 N6;revert D9 h9 tk9 XA YB v u k1 k2 ok1 ok2 vs1 vs2 t2 t3;refine eps8 eN eH eN eLx eLx eLv eLv eN ?_;generalize q81 _ = D9, q82 _ = h9, q83 _ = tk9, q84 _ = XA, q85 _ = YB, q86 _ = v, q87 _ = u, q88 _ = k1;refine hold8 ?_;refine eps7 eN eO eO eAV eAV eN eN ?_;generalize q71 _ = k2, q72 _ = ok1, q73 _ = ok2, q74 _ = vs1, q75 _ = vs2, q76 _ = t2, q77 _ = t3;refine hold7 ?_;intro F9 hsA hsB AP6 N6)|(revert hl2 APt Nt hmT0 hsub hlen0 hm3 hm4 hlen2 hC9 hx9 F9 off9 AP9 N10;revert l2 I9 oI9 C9 oC9 D9 m9 h9 tk9 E9;refine eps8 eL eN eO eN eO eN eM eH ?_;generalize q81 _ = l2, q82 _ = I9, q83 _ = oI9, q84 _ = C9, q85 _ = oC9, q86 _ = D9, q87 _ = m9, q88 _ = h9;refine hold8 ?_;refine eps2 eN eP2 ?_;generalize q21 _ = tk9, q22 _ = E9;refine hold2 ?_;intro hl2 APt Nt hmT0 hsub hlen0 hm3 hm4 hlen2 hC9 hx9 F9 off9 AP9 N10)|skip)))
  k_with "m call" => ((((with_reducible show wpAny _ _ (call (Value.ref 806) _) _ _ _);(with_reducible rename ApN _ _ => AP8);k_dflt (refine' ctrN_use (own := [(801, tabObj #[])]) AP8 (by k_asm) (by k_asm) (by k_asm) (by k_asm) (by k_asm) C1 C2 (by first|exact Nat.le_of_ble_eq_true rfl|fail) (by first|exact rfl|assumption) (by ktr_room) (by ktr_units) (lexer1 w sx ha false _) ?_;k_whole;intro v9 own9 new9 h9 tk9 hp9 F9 N9 AP9;k_dflt (refine ex8 hp9 ?_);clear hp9;intro lx ld src srd pb fs f1 k1 hp9;k_dflt (refine ex8 hp9 ?_);clear hp9;intro f2 k2 qc qh qs9 s1 s2 s3 hp9;k_dflt (refine ex8 hp9 ?_);clear hp9;intro sT tT lT kt vt pm1 ct1 pm2 hp9;k_dflt (refine ex8 hp9 ?_);clear hp9;intro ct2 ok1 ok2 oC oH oT vs1 vs2 hp9;k_dflt (refine ex2 hp9 ?_);clear hp9;intro t2 t3 hp9;obtain ⟨rfl, rfl, rfl, hso⟩ := hp9;(try dsimp only);skip)));(all_goals (first|(revert qk ek F9 hso N9 AP9;revert h9 tk9 lx ld src srd pb fs f1 k1 f2 k2 qc qh qs9 s1 s2 s3 sT tT lT kt vt pm1 ct1 pm2 ct2 ok1 ok2 oC oH oT vs1 vs2 t2 t3;refine eps8 eH eN eN eN eN eN eN eN ?_;generalize q81 _ = h9, q82 _ = tk9, q83 _ = lx, q84 _ = ld, q85 _ = src, q86 _ = srd, q87 _ = pb, q88 _ = fs;refine hold8 ?_;refine eps8 eN eN eN eN eN eN eN eN ?_;generalize q81 _ = f1, q82 _ = k1, q83 _ = f2, q84 _ = k2, q85 _ = qc, q86 _ = qh, q87 _ = qs9, q88 _ = s1;refine hold8 ?_;refine eps8 eN eN eN eN eN eLN eLN eV ?_;generalize q81 _ = s2, q82 _ = s3, q83 _ = sT, q84 _ = tT, q85 _ = lT, q86 _ = kt, q87 _ = vt, q88 _ = pm1;refine hold8 ?_;refine eps8 eV eV eV eO eO eO eO eO ?_;generalize q81 _ = ct1, q82 _ = pm2, q83 _ = ct2, q84 _ = ok1, q85 _ = ok2, q86 _ = oC, q87 _ = oH, q88 _ = oT;refine hold8 ?_;refine eps4 eAV eAV eN eN ?_;generalize q41 _ = vs1, q42 _ = vs2, q43 _ = t2, q44 _ = t3;refine hold4 ?_;intro qk ek F9 hso N9 AP9)|skip)))
  k_with "m call" => ((((with_reducible show wpAny _ _ (call (Value.ref 806) _) _ _ _);(with_reducible rename ApN _ _ => AP8);k_dflt (refine' ctrN_use (own := [(801, tabObj (tab2 k1 k2)), (k1, ok1), (k2, ok2)]) AP8 (by k_asm) (by k_asm) (by k_asm) (by k_asm) (by k_asm) C1 C2 (by first|exact Nat.le_of_ble_eq_true rfl|fail) (by first|exact rfl|assumption) (by ktr_room) (by ktr_units) (lexer2 w sx ha true _ k1 k2 ok1 ok2 vs1 vs2 t2 t3 hsA.k1 hsA.w1 hsA.k2 hsA.w2) ?_;k_whole;intro v9 own9 new9 h9 tk9 hp9 F9 N9 AP9;k_dflt (refine ex8 hp9 ?_);clear hp9;intro lx ld src srd pb fs f1 f2 hp9;k_dflt (refine ex8 hp9 ?_);clear hp9;intro qc qh qs9 s1 s2 s3 sT tT hp9;k_dflt (refine ex8 hp9 ?_);clear hp9;intro lT kt vt pm1 ct1 pm2 ct2 oC hp9;k_dflt (refine ex2 hp9 ?_);clear hp9;intro oH oT hp9;obtain ⟨rfl, rfl, rfl, hso⟩ := hp9;(try dsimp only);skip)));(all_goals (first|(revert qk ek F9 hso N9 AP9;revert h9 tk9 lx ld src srd pb fs f1 f2 qc qh qs9 s1 s2 s3 sT tT lT kt vt pm1 ct1 pm2 ct2 oC oH oT;refine eps8 eH eN eN eN eN eN eN eN ?_;generalize q81 _ = h9, q82 _ = tk9, q83 _ = lx, q84 _ = ld, q85 _ = src, q86 _ = srd, q87 _ = pb, q88 _ = fs;refine hold8 ?_;refine eps8 eN eN eN eN eN eN eN eN ?_;generalize q81 _ = f1, q82 _ = f2, q83 _ = qc, q84 _ = qh, q85 _ = qs9, q86 _ = s1, q87 _ = s2, q88 _ = s3;refine hold8 ?_;refine eps8 eN eN eN eLN eLN eV eV eV ?_;generalize q81 _ = sT, q82 _ = tT, q83 _ = lT, q84 _ = kt, q85 _ = vt, q86 _ = pm1, q87 _ = ct1, q88 _ = pm2;refine hold8 ?_;refine eps4 eV eO eO eO ?_;generalize q41 _ = ct2, q42 _ = oC, q43 _ = oH, q44 _ = oT;refine hold4 ?_;intro qk ek F9 hso N9 AP9)|skip)))
  k_with "Exists" => (first|(obtain ⟨e1, e2, e3⟩ := lex_t0 N9 AP9 rfl hlen2 off9;exact ⟨_, _, _, rfl, F9, e1, e2, List.mem_cons_of_mem _ (List.mem_cons_of_mem _ (List.mem_cons_of_mem _ (List.mem_append_right _ hmT0))), ⟨⟨lx, ld, src, srd, pb, fs, f1, f2, qc, qh, qs9, _, s1, s2, s3, kt, vt, pm1, ct1, pm2, ct2, oC, oH, oT⟩, ⟨sT, tT, 1, lT⟩, k1, k2, ok1, ok2, vs1, vs2, t2, t3, rfl, hso, rfl, e3⟩⟩)|(obtain ⟨e1, e2, e3⟩ := lex_t1 N9 AP9 rfl hlen3 off9;exact ⟨_, _, _, rfl, F9, e1, e2, List.mem_append_right _ hmT, ⟨XA, ⟨lx, ld, src, srd, pb, fs, f1, f2, qc, qh, qs9, _, s1, s2, s3, kt, vt, pm1, ct1, pm2, ct2, oC, oH, oT⟩, v, ⟨sT, tT, 1, lT⟩, k1, k2, ok1, ok2, vs1, vs2, t2, t3, rfl, rfl, hsA, hso, rfl, e3⟩⟩))
  k_with "storeName" => (((k_here;(with_reducible rename ApN _ _ => APz);(with_reducible rename Fr _ _ _ _ => F8);(with_reducible rename News _ _ _ _ => N8);k_dflt (refine m_stcell [_, _, _, _, _, _, _, _, _, _, _, _, _, _, _, _, _, _, _, _, _, _, _, _, _, _, _, _, _, _, _] APz F8 N8 (by exact rfl) (by first|decide|exact Nat.le_of_ble_eq_true rfl|fail) (by first|exact rfl|fail) (by first|exact ho3|fail) ?_ rfl rfl);intro h9 o9 F9 N9 hc9;(simp only [List.cons_append, List.nil_append] at N9)));(all_goals (first|(revert F9 N9 hc9;revert h9 o9;refine eps2 eH eO ?_;generalize q21 _ = h9, q22 _ = o9;refine hold2 ?_;intro F9 N9 hc9)|skip)))
  with_reducible refine law_cut _ (by decide) ?_
  conv in (stN (defB _) _) => whnf
  generalize hT9 : List.drop _ (defB lawS) = tl9
  skip
  revert hT9; revert tl9; refine eps1 eLSt ?_; generalize cex _ _ = tl9; refine hold1 ?_; intro hT9
  repeat' (first | (k_unfold; (try dsimp only)) | walk1 | (dsimp only; walk1) | (dsimp only; with_reducible refine lpost_brk ?_; try dsimp only) | (dsimp only; with_reducible refine lpost_ret ?_; try dsimp only))
  all_goals (try k_data)
  all_goals first
    | (subst hT9; (with_reducible rename News _ _ _ _ => N9); (with_reducible rename Fr _ _ _ _ => F9); refine LawTail.use H B F9 X N9 T C1 C2 hd hu ?_ (by exact hret) hE; exact ⟨fa, qs, nf, da, dv, nd, bs, o1, o2, _, o7, _, _, sx, sd, fR, cS, c1, ha, h2, tb, tv, tr, u0, u1, pm, ctv, oS, oc1, vs, t1, nn, n2, XA, YB, v, u, k1, k2, ok1, ok2, vs1, vs2, t2, t3, D9, 2, hf, hn, hx, hb, hbl, ho1, ho2, hc9, hq, List.mem_append_right _ (List.mem_cons_of_mem _ List.mem_cons_self), hoS, hoc, hvs, hsA, hsB, rfl, APz.to rfl⟩)
  k_with_none
  k_with "om" => (with_reducible first|assumption|exact rm1 (by assumption) rfl|exact rm0 (by assumption)|exact Nat.le_of_lt (by assumption)|exact Nat.le_add_right _ _|exact Nat.le_add_left _ _|exact Nat.lt_succ_self _|exact Nat.succ_pos _|exact Nat.lt_of_not_le (by assumption)|exact Nat.le_of_not_lt (by assumption)|exact Nat.le_of_not_le (by assumption)|exact Nat.le_of_lt (Nat.lt_of_not_le (by assumption))|exact lt_i (by assumption)|exact nlt_i (by assumption)|exact nneg_i|exact le_big (by assumption) rfl|exact Nat.le_of_succ_le_succ (by assumption)|exact Nat.eq_zero_of_le_zero (by assumption)|exact Nat.add_comm _ _)
end Mine
end
section
namespace Mine
open LCg
section
variable {prog : Program} {w : World} {A : Around} {E : Value → Shared → Prop} {s : Shared} {h₀ : Heap} {L : Addr} {m : Str → Option Value} {news : Led}
theorem m_mul4 {Q : Value → Shared → Prop} {l : Addr} {a b : Value} {n : Nat} {u : Tok} (F : Fr h₀ L s.heap m) (N : News h₀ L s.heap news) (hm : (l, lst0 [a, b] n) ∈ news)
    (h : ∀ D h', Fr h₀ L h' m → News h₀ L h' ((D, lst0 [a, b, a, b, a, b, a, b] 0) :: news) → (∀ p ∈ news, p.1 < D) → Q (.ref D) { s with heap := h' }) : wpAny (model prog w) A (binaryOp .Mult (.ref l) (.int 4 u)) Q E s :=
  KMa.mul F N (vs := [a, b]) ⟨_, (N _ hm).1, rfl, _, rfl⟩ (by decide) (by decide) (by show 2 * 4 ≤ 256; decide) rfl h
end
theorem bools8 {dv : List Value} {bs : List Bool} (t u : Tok) (h : BoolsAre dv bs) : BoolsAre (dv ++ [.int 0 t, .int 1 u, .int 0 t, .int 1 u, .int 0 t, .int 1 u, .int 0 t, .int 1 u]) (bs ++ [false, true, false, true, false, true, false, true]) :=
  bools_app h (.cons false t (.cons true u (.cons false t (.cons true u (.cons false t (.cons true u (.cons false t (.cons true u .nil))))))))
theorem ap_shift {n : Nat} {x : Addr × Obj} {l : Led} (h : ApN (n + 1) (x :: l)) : ApN n (l ++ [x]) := ap_tail h.2 fun p hp q hq => by
  rcases List.mem_singleton.mp hq with rfl
  exact Ne.symm (h.1 p hp)
theorem ctrU_use {w : World} {f : Addr} {vs : List Value} {own : Led} {D U : Nat} {post : Value → Led → Led → Prop} {mean : ExcName → Option Value} {mg mb : Str → Option Value} {dp un : Nat} {gd : Option (List Code)} {cn : Str} {cs : Scope} {a : Addr} {ccd : Value} {cl : List (Str × Addr)} {A₀ : Around}
    {h₀ : Heap} {L : Addr} {m : Str → Option Value} {s : Shared} {news rest : Led} {n : Nat} {Q E : Value → Shared → Prop}
    (AP : ApN n news) (B : Below A₀ h₀ [] h₀) (F : Fr h₀ L s.heap m) (X : (K w.params).In h₀) (N : News h₀ L s.heap news) (pk : PickN n own news rest) (T : TopQ mean mg mb h₀) (hk : cs.kind = .function) (hd : dp + D < recursionLimit) (hu : un + U < cLine)
    (C : CtrU w f vs own D U post)
    (h : ApN n (own ++ rest) → ∀ v xt own' h' tk', post v xt own' → Fr h₀ L h' m → News h₀ L h' (xt ++ (own' ++ rest)) → (∀ q ∈ xt, ∀ p ∈ own' ++ rest, p.1 ≠ q.1) → Q v { s with heap := h', toks := tk' }) :
    wpAny (model P0 w) (ktrTop dp un gd cn cs L a ccd cl []) (call (.ref f) vs) Q E s :=
  let z := pk.ap AP
  C rfl mean mg mb dp un gd cn cs a ccd cl [] A₀ h₀ h₀ h₀ L m s rest Q E B F X (led_to N pk.pick.mem) z.1 z.2.1 T X T (fun _ hb => nomatch hb) KtsTurn.refl hk hd hu
    fun v xt own' h' tk' g hp Tn _ F' N' fr _ _ _ => h z.2.2 v xt own' h' tk' hp (turn_nil_fr Tn F') (turn_nil_news Tn N') fr
section
variable {s1 s2 s3 s4 s5 s6 s7 k1 k2 x1 x2 x3 x4 x5 x6 x7 x8 x9 x10 x11 y1 y2 y3 y4 y5 y6 y7 y8 y9 y10 y11 : Addr × Obj} {tl xt : Led} {h₀ h : Heap} {L : Addr}
theorem pickX : PickN 36 [s1, s2, s3, s4, s5, s6, s7, x6, k1, x5, k2, x9, x10, x11, x3, x4, x7, x8, x2, x1] (s1 :: s2 :: s3 :: s4 :: s5 :: s6 :: s7 :: k1 :: k2 :: x1 :: x2 :: x3 :: x4 :: x5 :: x6 :: x7 :: x8 :: x9 :: x10 :: x11 :: y1 :: y2 :: y3 :: y4 :: y5 :: y6 :: y7 :: y8 :: y9 :: y10 :: y11 :: tl) (y1 :: y2 :: y3 :: y4 :: y5 :: y6 :: y7 :: y8 :: y9 :: y10 :: y11 :: tl) := by
  repeat (first | exact PickN.nil | (refine PickN.cons (by repeat (first | exact SelN.head | apply SelN.tail)) (by decide) ?_))
theorem pickY : PickN 36 [s1, s2, s3, s4, s5, s6, s7, y6, k1, y5, k2, y9, y10, y11, y3, y4, y7, y8, y2, y1] (s1 :: s2 :: s3 :: s4 :: s5 :: s6 :: s7 :: k1 :: k2 :: x1 :: x2 :: x3 :: x4 :: x5 :: x6 :: x7 :: x8 :: x9 :: x10 :: x11 :: y1 :: y2 :: y3 :: y4 :: y5 :: y6 :: y7 :: y8 :: y9 :: y10 :: y11 :: tl) (x1 :: x2 :: x3 :: x4 :: x5 :: x6 :: x7 :: x8 :: x9 :: x10 :: x11 :: tl) := by
  repeat (first | exact PickN.nil | (refine PickN.cons (by repeat (first | exact SelN.head | apply SelN.tail)) (by decide) ?_))
theorem unpX : PickN 36 [s1, s2, s3, s4, s5, s6, s7, k1, k2, x1, x2, x3, x4, x5, x6, x7, x8, x9, x10, x11, y1, y2, y3, y4, y5, y6, y7, y8, y9, y10, y11] ([s1, s2, s3, s4, s5, s6, s7, x6, k1, x5, k2, x9, x10, x11, x3, x4, x7, x8, x2, x1] ++ (y1 :: y2 :: y3 :: y4 :: y5 :: y6 :: y7 :: y8 :: y9 :: y10 :: y11 :: tl)) tl := by
  repeat (first | exact PickN.nil | (refine PickN.cons (by repeat (first | exact SelN.head | apply SelN.tail)) (by decide) ?_))
theorem unpY : PickN 36 [s1, s2, s3, s4, s5, s6, s7, k1, k2, x1, x2, x3, x4, x5, x6, x7, x8, x9, x10, x11, y1, y2, y3, y4, y5, y6, y7, y8, y9, y10, y11] ([s1, s2, s3, s4, s5, s6, s7, y6, k1, y5, k2, y9, y10, y11, y3, y4, y7, y8, y2, y1] ++ (x1 :: x2 :: x3 :: x4 :: x5 :: x6 :: x7 :: x8 :: x9 :: x10 :: x11 :: tl)) tl := by
  repeat (first | exact PickN.nil | (refine PickN.cons (by repeat (first | exact SelN.head | apply SelN.tail)) (by decide) ?_))
theorem back_any {l : Led} (N : News h₀ L h (xt ++ l)) (fr : ∀ q ∈ xt, ∀ p ∈ l, p.1 ≠ q.1) (AP : ApN 36 l) (P : PickN 36 [s1, s2, s3, s4, s5, s6, s7, k1, k2, x1, x2, x3, x4, x5, x6, x7, x8, x9, x10, x11, y1, y2, y3, y4, y5, y6, y7, y8, y9, y10, y11] l tl) :
    ApN 36 (s1 :: s2 :: s3 :: s4 :: s5 :: s6 :: s7 :: k1 :: k2 :: x1 :: x2 :: x3 :: x4 :: x5 :: x6 :: x7 :: x8 :: x9 :: x10 :: x11 :: y1 :: y2 :: y3 :: y4 :: y5 :: y6 :: y7 :: y8 :: y9 :: y10 :: y11 :: (tl ++ xt)) ∧ News h₀ L h (s1 :: s2 :: s3 :: s4 :: s5 :: s6 :: s7 :: k1 :: k2 :: x1 :: x2 :: x3 :: x4 :: x5 :: x6 :: x7 :: x8 :: x9 :: x10 :: x11 :: y1 :: y2 :: y3 :: y4 :: y5 :: y6 :: y7 :: y8 :: y9 :: y10 :: y11 :: (tl ++ xt)) ∧ (∀ q ∈ xt, ∀ p ∈ s1 :: s2 :: s3 :: s4 :: s5 :: s6 :: s7 :: k1 :: k2 :: x1 :: x2 :: x3 :: x4 :: x5 :: x6 :: x7 :: x8 :: x9 :: x10 :: x11 :: y1 :: y2 :: y3 :: y4 :: y5 :: y6 :: y7 :: y8 :: y9 :: y10 :: y11 :: tl, p.1 ≠ q.1) := by
  have sub : ∀ p ∈ [s1, s2, s3, s4, s5, s6, s7, k1, k2, x1, x2, x3, x4, x5, x6, x7, x8, x9, x10, x11, y1, y2, y3, y4, y5, y6, y7, y8, y9, y10, y11] ++ tl, p ∈ l := P.pick.mem
  refine ⟨?_, led_to N fun z hz => ?_, fun q hq p hp => fr q hq p (sub p hp)⟩
  · have a := ap_tail (b := xt) (P.ap AP).2.2 fun p hp q hq => Ne.symm (fr q hq p (sub p hp))
    rw [List.append_assoc] at a
    exact a
  · have hz : z ∈ ([s1, s2, s3, s4, s5, s6, s7, k1, k2, x1, x2, x3, x4, x5, x6, x7, x8, x9, x10, x11, y1, y2, y3, y4, y5, y6, y7, y8, y9, y10, y11] ++ tl) ++ xt := by rw [List.append_assoc]; exact hz
    rcases List.mem_append.mp hz with hz | hz
    · exact List.mem_append_right _ (sub z hz)
    · exact List.mem_append_left _ hz
theorem rs_fin {I C D T : Addr} {oI oC oD oT : Obj} (N : News h₀ L h ((T, oT) :: s1 :: s2 :: s3 :: s4 :: s5 :: s6 :: s7 :: k1 :: k2 :: x1 :: x2 :: x3 :: x4 :: x5 :: x6 :: x7 :: x8 :: x9 :: x10 :: x11 :: y1 :: y2 :: y3 :: y4 :: y5 :: y6 :: y7 :: y8 :: y9 :: y10 :: y11 :: ((tl ++ [(I, oI), (C, oC), (D, oD)]) ++ xt))) (AP : ApN 36 (s1 :: s2 :: s3 :: s4 :: s5 :: s6 :: s7 :: k1 :: k2 :: x1 :: x2 :: x3 :: x4 :: x5 :: x6 :: x7 :: x8 :: x9 :: x10 :: x11 :: y1 :: y2 :: y3 :: y4 :: y5 :: y6 :: y7 :: y8 :: y9 :: y10 :: y11 :: ((tl ++ [(I, oI), (C, oC), (D, oD)]) ++ xt))) (off : Off3 I C D tl) (hl : 5 ≤ tl.length)
    (fx0 : ∀ q ∈ xt, ∀ p ∈ s1 :: s2 :: s3 :: s4 :: s5 :: s6 :: s7 :: k1 :: k2 :: x1 :: x2 :: x3 :: x4 :: x5 :: x6 :: x7 :: x8 :: x9 :: x10 :: x11 :: y1 :: y2 :: y3 :: y4 :: y5 :: y6 :: y7 :: y8 :: y9 :: y10 :: y11 :: (tl ++ [(I, oI), (C, oC), (D, oD)]), p.1 ≠ q.1) (lT : ∀ p ∈ s1 :: s2 :: s3 :: s4 :: s5 :: s6 :: s7 :: k1 :: k2 :: x1 :: x2 :: x3 :: x4 :: x5 :: x6 :: x7 :: x8 :: x9 :: x10 :: x11 :: y1 :: y2 :: y3 :: y4 :: y5 :: y6 :: y7 :: y8 :: y9 :: y10 :: y11 :: ((tl ++ [(I, oI), (C, oC), (D, oD)]) ++ xt), p.1 < T) :
    News h₀ L h ((I, oI) :: (C, oC) :: (D, oD) :: s1 :: s2 :: s3 :: s4 :: s5 :: s6 :: s7 :: k1 :: k2 :: x1 :: x2 :: x3 :: x4 :: x5 :: x6 :: x7 :: x8 :: x9 :: x10 :: x11 :: y1 :: y2 :: y3 :: y4 :: y5 :: y6 :: y7 :: y8 :: y9 :: y10 :: y11 :: (tl ++ (xt ++ [(T, oT)]))) ∧ Off3 I C D (s1 :: s2 :: s3 :: s4 :: s5 :: s6 :: s7 :: k1 :: k2 :: x1 :: x2 :: x3 :: x4 :: x5 :: x6 :: x7 :: x8 :: x9 :: x10 :: x11 :: y1 :: y2 :: y3 :: y4 :: y5 :: y6 :: y7 :: y8 :: y9 :: y10 :: y11 :: (tl ++ (xt ++ [(T, oT)]))) ∧ ApN 36 (s1 :: s2 :: s3 :: s4 :: s5 :: s6 :: s7 :: k1 :: k2 :: x1 :: x2 :: x3 :: x4 :: x5 :: x6 :: x7 :: x8 :: x9 :: x10 :: x11 :: y1 :: y2 :: y3 :: y4 :: y5 :: y6 :: y7 :: y8 :: y9 :: y10 :: y11 :: (tl ++ (xt ++ [(T, oT)]))) := by
  have hI : ∀ p ∈ [(I, oI), (C, oC), (D, oD)], p ∈ s1 :: s2 :: s3 :: s4 :: s5 :: s6 :: s7 :: k1 :: k2 :: x1 :: x2 :: x3 :: x4 :: x5 :: x6 :: x7 :: x8 :: x9 :: x10 :: x11 :: y1 :: y2 :: y3 :: y4 :: y5 :: y6 :: y7 :: y8 :: y9 :: y10 :: y11 :: ((tl ++ [(I, oI), (C, oC), (D, oD)]) ++ xt) := fun p hp => List.mem_append_right [s1, s2, s3, s4, s5, s6, s7, k1, k2, x1, x2, x3, x4, x5, x6, x7, x8, x9, x10, x11, y1, y2, y3, y4, y5, y6, y7, y8, y9, y10, y11] (List.mem_append_left _ (List.mem_append_right _ hp))
  have fx : ∀ q ∈ xt, ∀ p ∈ [(I, oI), (C, oC), (D, oD)], p.1 ≠ q.1 := fun q hq p hp => fx0 q hq p (List.mem_append_right [s1, s2, s3, s4, s5, s6, s7, k1, k2, x1, x2, x3, x4, x5, x6, x7, x8, x9, x10, x11, y1, y2, y3, y4, y5, y6, y7, y8, y9, y10, y11] (List.mem_append_right _ hp))
  have AP2 : ApN 36 ([s1, s2, s3, s4, s5, s6, s7, k1, k2, x1, x2, x3, x4, x5, x6, x7, x8, x9, x10, x11, y1, y2, y3, y4, y5, y6, y7, y8, y9, y10, y11] ++ ((tl ++ [(I, oI), (C, oC), (D, oD)]) ++ xt)) := AP
  have oA : ∀ p ∈ [s1, s2, s3, s4, s5, s6, s7, k1, k2, x1, x2, x3, x4, x5, x6, x7, x8, x9, x10, x11, y1, y2, y3, y4, y5, y6, y7, y8, y9, y10, y11], p.1 ≠ I ∧ p.1 ≠ C ∧ p.1 ≠ D := fun p hp => by
    have z := ap_off AP2 (Nat.le_of_ble_eq_true rfl) p hp
    exact ⟨Ne.symm (z (I, oI) (List.mem_append_left _ (List.mem_append_right _ List.mem_cons_self))), Ne.symm (z (C, oC) (List.mem_append_left _ (List.mem_append_right _ (List.mem_cons_of_mem _ List.mem_cons_self)))), Ne.symm (z (D, oD) (List.mem_append_left _ (List.mem_append_right _ (List.mem_cons_of_mem _ (List.mem_cons_of_mem _ List.mem_cons_self)))))⟩
  have oX : ∀ p ∈ xt, p.1 ≠ I ∧ p.1 ≠ C ∧ p.1 ≠ D := fun p hp => ⟨Ne.symm (fx p hp _ List.mem_cons_self), Ne.symm (fx p hp _ (List.mem_cons_of_mem _ List.mem_cons_self)), Ne.symm (fx p hp _ (List.mem_cons_of_mem _ (List.mem_cons_of_mem _ List.mem_cons_self)))⟩
  have oTT : T ≠ I ∧ T ≠ C ∧ T ≠ D := ⟨Ne.symm (Nat.ne_of_lt (lT _ (hI _ List.mem_cons_self))), Ne.symm (Nat.ne_of_lt (lT _ (hI _ (List.mem_cons_of_mem _ List.mem_cons_self)))), Ne.symm (Nat.ne_of_lt (lT _ (hI _ (List.mem_cons_of_mem _ (List.mem_cons_of_mem _ List.mem_cons_self)))))⟩
  refine ⟨led_to N fun z hz => ?_, ?_, ?_⟩
  · rcases List.mem_cons.mp hz with rfl | hz
    · exact List.mem_cons_of_mem _ (hI _ List.mem_cons_self)
    rcases List.mem_cons.mp hz with rfl | hz
    · exact List.mem_cons_of_mem _ (hI _ (List.mem_cons_of_mem _ List.mem_cons_self))
    rcases List.mem_cons.mp hz with rfl | hz
    · exact List.mem_cons_of_mem _ (hI _ (List.mem_cons_of_mem _ (List.mem_cons_of_mem _ List.mem_cons_self)))
    have hz : z ∈ [s1, s2, s3, s4, s5, s6, s7, k1, k2, x1, x2, x3, x4, x5, x6, x7, x8, x9, x10, x11, y1, y2, y3, y4, y5, y6, y7, y8, y9, y10, y11] ++ (tl ++ (xt ++ [(T, _)])) := hz
    rcases List.mem_append.mp hz with hz | hz
    · exact List.mem_cons_of_mem _ (List.mem_append_left ((tl ++ [(I, oI), (C, oC), (D, oD)]) ++ xt) hz)
    rcases List.mem_append.mp hz with hz | hz
    · exact List.mem_cons_of_mem _ (List.mem_append_right [s1, s2, s3, s4, s5, s6, s7, k1, k2, x1, x2, x3, x4, x5, x6, x7, x8, x9, x10, x11, y1, y2, y3, y4, y5, y6, y7, y8, y9, y10, y11] (List.mem_append_left _ (List.mem_append_left _ hz)))
    rcases List.mem_append.mp hz with hz | hz
    · exact List.mem_cons_of_mem _ (List.mem_append_right [s1, s2, s3, s4, s5, s6, s7, k1, k2, x1, x2, x3, x4, x5, x6, x7, x8, x9, x10, x11, y1, y2, y3, y4, y5, y6, y7, y8, y9, y10, y11] (List.mem_append_right _ hz))
    · rcases List.mem_singleton.mp hz with rfl
      exact List.mem_cons_self
  · refine off3_app (a := [s1, s2, s3, s4, s5, s6, s7, k1, k2, x1, x2, x3, x4, x5, x6, x7, x8, x9, x10, x11, y1, y2, y3, y4, y5, y6, y7, y8, y9, y10, y11]) (off3_to oA) (off3_app off (off3_app (off3_to oX) ⟨oTT, trivial⟩))
  · have e : [s1, s2, s3, s4, s5, s6, s7, k1, k2, x1, x2, x3, x4, x5, x6, x7, x8, x9, x10, x11, y1, y2, y3, y4, y5, y6, y7, y8, y9, y10, y11] ++ ((tl ++ [(I, oI), (C, oC), (D, oD)]) ++ xt) = ([s1, s2, s3, s4, s5, s6, s7, k1, k2, x1, x2, x3, x4, x5, x6, x7, x8, x9, x10, x11, y1, y2, y3, y4, y5, y6, y7, y8, y9, y10, y11] ++ tl) ++ ([(I, oI), (C, oC), (D, oD)] ++ xt) := by simp only [List.append_assoc]
    rw [e] at AP2
    have AP3 := ap_pre AP2 (by rw [List.length_append]; show 36 ≤ 31 + tl.length; omega)
    have a := ap_tail (b := xt ++ [(T, oT)]) AP3 fun p hp q hq => by
      rcases List.mem_append.mp hq with hq | hq
      · refine Ne.symm (fx0 q hq p ?_)
        rcases List.mem_append.mp hp with hp | hp
        · exact List.mem_append_left (tl ++ [(I, oI), (C, oC), (D, oD)]) hp
        · exact List.mem_append_right [s1, s2, s3, s4, s5, s6, s7, k1, k2, x1, x2, x3, x4, x5, x6, x7, x8, x9, x10, x11, y1, y2, y3, y4, y5, y6, y7, y8, y9, y10, y11] (List.mem_append_left _ hp)
      · rcases List.mem_singleton.mp hq with rfl
        refine Ne.symm (Nat.ne_of_lt (lT p ?_))
        rcases List.mem_append.mp hp with hp | hp
        · exact List.mem_append_left ((tl ++ [(I, oI), (C, oC), (D, oD)]) ++ xt) hp
        · exact List.mem_append_right [s1, s2, s3, s4, s5, s6, s7, k1, k2, x1, x2, x3, x4, x5, x6, x7, x8, x9, x10, x11, y1, y2, y3, y4, y5, y6, y7, y8, y9, y10, y11] (List.mem_append_left _ (List.mem_append_left _ hp))
    rw [List.append_assoc] at a
    exact a
end
end Mine
end
section
namespace Mine
open LCg
structure Rs where
  S : Ws
  M : Ms
  R : List (Res × Nat)
  v : Lv
  u : Lv
  tb : Tok
  u0 : Tok
  u1 : Tok
  nn : Nat
  n2 : Nat
  hvs : List Value
  tl : Led
noncomputable abbrev rsL (P : Params) (sx sd fR cS c1 ha h2 : Addr) (tv tr : Tok) (pm ctv : Value) (oS o1 : Obj) (k1 k2 : Addr) (ok1 ok2 : Obj) (X Y : Lx) (fr : List Fm) (c : Rs) (tl : Led) : Led :=
  (sx, instObj 70 sd) :: (sd, dictOf [en P "value" tv (.bytes (encF (mkA fr c.M.n c.M.t).fs).toArray c.tb), en P "read" tr (.ref fR)] 2) ::
  (fR, lamO (lamE (stN P0.main.body 27) 3) "_law_stream.<locals>.<lambda>" [("stream", cS)] pm c1 ctv) :: (cS, oS) :: (c1, o1) ::
  (ha, listOf #[.str (lat (mkA fr c.M.n c.M.t).y0) c.u0, .str (lat (mkA fr c.M.n c.M.t).y1) c.u1, .ref h2] c.nn) :: (h2, listOf c.hvs.toArray c.n2) :: (k1, ok1) :: (k2, ok2) ::
  (X.fs, dqO) :: (X.pb, dqO) :: (X.lx, instObj 757 X.ld) :: (X.ld, lexO P X.kt X.vt X.src X.pb X.fs (stV (c.M.st false) c.v.sT) (c.M.tok false) c.v.tT c.v.ln c.v.lT) :: (X.f2, lamL X.qc X.qh X.qs X.pm2 k2 X.ct2) :: (X.f1, lamR X.qc X.qh X.qs X.pm1 k1 X.ct1) :: (X.src, instObj 70 X.srd) :: (X.srd, sclO P X.f1 X.f2 false X.tkc X.s1 X.s2 X.s3) :: (X.qc, X.oC) :: (X.qh, X.oH) :: (X.qs, X.oT) ::
  (Y.fs, dqO) :: (Y.pb, dqO) :: (Y.lx, instObj 757 Y.ld) :: (Y.ld, lexO P Y.kt Y.vt Y.src Y.pb Y.fs (stV (c.M.st true) c.u.sT) (c.M.tok true) c.u.tT c.u.ln c.u.lT) :: (Y.f2, lamL Y.qc Y.qh Y.qs Y.pm2 k2 Y.ct2) :: (Y.f1, lamR Y.qc Y.qh Y.qs Y.pm1 k1 Y.ct1) :: (Y.src, instObj 70 Y.srd) :: (Y.srd, sclO P Y.f1 Y.f2 true Y.tkc Y.s1 Y.s2 Y.s3) :: (Y.qc, Y.oC) :: (Y.qh, Y.oH) :: (Y.qs, Y.oT) :: tl
structure RsI (fr : List Fm) (bs : List Bool) (i : Nat) (c : Rs) (ys : List Value) (T0 : Led) : Prop where
  run : wsRun fr ws0 (bs.take i) = (c.R, c.S)
  mi : Mi fr c.S c.M
  rows : DatAll c.tl ys (c.R.map rowD)
  oc : Octs c.hvs (mkA fr c.M.n c.M.t).oc
  sub : ∀ q ∈ T0, q ∈ c.tl
  len : 5 ≤ c.tl.length
noncomputable abbrev tupT (a b : Value) : Obj := { cls := .type "tuple", data := .seq #[a, b] }
theorem rs_next {fr : List Fm} {bs : List Bool} {i : Nat} {b : Bool} {c : Rs} {ys : List Value} {T0 xt : Led} {tok' : List UInt8} {x : Value} {T : Addr} {t : Tok} {v u : Lv} {tb u0 u1 : Tok} {nn n2 : Nat} {hvs : List Value}
    (h : RsI fr bs i c ys T0) (hb : bs[i]? = some b) (hl : tok'.length ≤ 2 * goN fr c.M.n b (mOut fr c.M b).k b) (hk : isOk (mOut fr c.M b).res → tok' = []) (hto : toldV (mOut fr c.M b).res x xt)
    (hoc : Octs hvs (mkA fr (goN fr c.M.n b (mOut fr c.M b).k) (goT fr c.M.n c.M.t b (mOut fr c.M b).k)).oc) :
    RsI fr bs (i + 1) ⟨(wsStep fr c.S b).2, mStep fr c.M b tok', c.R ++ [(wsStep fr c.S b).1], v, u, tb, u0, u1, nn, n2, hvs, c.tl ++ (xt ++ [(T, tupT x (.int ((encF (mkA fr (goN fr c.M.n b (mOut fr c.M b).k) (goT fr c.M.n c.M.t b (mOut fr c.M b).k)).fs).length : Int) t))])⟩ (ys ++ [.ref T]) T0 := by
  obtain ⟨hle, he⟩ := List.getElem?_eq_some_iff.mp hb
  obtain ⟨e1, hm⟩ := mi_step h.mi hl hk
  refine ⟨?_, hm, ?_, hoc, fun q hq => List.mem_append_left _ (h.sub q hq), ?_⟩
  · rw [List.take_succ_eq_append_getElem hle, he, wsRun_snoc, h.run]
  · rw [List.map_append]
    refine (h.rows.mono fun q hq => List.mem_append_left _ hq).append (.one ?_)
    rw [e1]
    have e3 : (encF (mkA fr (goN fr c.M.n b (mOut fr c.M b).k) (goT fr c.M.n c.M.t b (mOut fr c.M b).k)).fs).length = octs (fr.drop (goT fr c.M.n c.M.t b (mOut fr c.M b).k)) := encF_len _
    refine .tuple (vs := [x, _]) (List.mem_append_right _ (List.mem_append_right _ List.mem_cons_self)) (.cons ((told_dat hto).mono fun q hq => List.mem_append_right _ (List.mem_append_left _ hq)) (.cons ?_ .nil))
    rw [e3]
    exact .int _ _
  · show 5 ≤ (c.tl ++ _).length
    rw [List.length_append]
    exact Nat.le_trans h.len (Nat.le_add_right _ _)
theorem rs0 {fr : List Fm} {bs : List Bool} {v u : Lv} {tb u0 u1 : Tok} {nn n2 : Nat} {T0 : Led} (h : 5 ≤ T0.length) : RsI fr bs 0 ⟨ws0, ⟨fun _ => 0, 0, fun _ => .sp, fun _ => []⟩, [], v, u, tb, u0, u1, nn, n2, [], T0⟩ [] T0 where
  run := rfl
  mi := mi0 fr
  rows := .nil
  oc := ⟨[], rfl, rfl⟩
  sub _ hq := hq
  len := h
noncomputable def J7 (P : Params) (xs : List Nat) (L : Addr) (m : Str → Option Value) (news : Led) : Prop := ∃ (fa : Addr) (qs : List Ft) (nf : Nat) (da : Addr) (dv : List Value) (nd : Nat) (bs : List Bool) (o2 : Obj) (sx sd fR cS c1 ha h2 : Addr) (tv tr : Tok) (pm ctv : Value) (oS oc1 : Obj)
    (X Y : Lx) (k1 k2 : Addr) (ok1 ok2 : Obj) (ra : Addr) (ys : List Value) (T0 : Led) (c : Rs),
  m "frames" = some (.ref fa) ∧ m "deeds" = some (.ref da) ∧ m "rows" = some (.ref ra) ∧ xs.length ≤ 10 ∧ BoolsAre dv bs ∧ bs.length ≤ 25 ∧ o2.data = .cell (some (.ref ha)) ∧ qs.map Ft.fm = nine ++ xs.map frameOf ∧
  (∃ o8, (801, tabObj o8) ∈ T0) ∧ (∃ o7, (775, tabObj o7) ∈ T0) ∧ (L + 1 + 1, o2) ∈ T0 ∧ (da, lst0 dv nd) ∈ T0 ∧ (fa, lst0 (ftV qs) nf) ∈ T0 ∧ (∀ q ∈ ftL qs, q ∈ T0) ∧ RsI (qs.map Ft.fm) (bs ++ [false, true, false, true, false, true, false, true]) (bs.length + 8) c ys T0 ∧
  news = (ra, lst ys) :: rsL P sx sd fR cS c1 ha h2 tv tr pm ctv oS oc1 k1 k2 ok1 ok2 X Y (qs.map Ft.fm) c c.tl
theorem st6_z {dv : List Value} {bs : List Bool} {a b c d e f g h : Value} (hb : BoolsAre dv bs) (hl : bs.length ≤ 25) : dv.length + [a, b, c, d, e, f, g, h].length ≤ 10000 := by
  rw [bools_len hb]
  show bs.length + 8 ≤ 10000
  omega
theorem rs_len8 {fr : List Fm} {bs : List Bool} {a b c d e f g h : Bool} {r : Rs} {ys : List Value} {T0 : Led} (hR : RsI fr (bs ++ [a, b, c, d, e, f, g, h]) (bs ++ [a, b, c, d, e, f, g, h]).length r ys T0) : RsI fr (bs ++ [a, b, c, d, e, f, g, h]) (bs.length + 8) r ys T0 := by
  rw [List.length_append] at hR; exact hR
end Mine
end
section
namespace Mine
open LCg
section
variable {s1 s2 s3 s4 s5 s6 s7 k1 k2 x1 x2 x3 x4 x5 x6 x7 x8 x9 x10 x11 y1 y2 y3 y4 y5 y6 y7 y8 y9 y10 y11 : Addr × Obj} {tl : Led} {h₀ h : Heap} {L : Addr}
theorem st6_open {d Ma La : Addr × Obj} {n : Nat} {l0 : Led} (N : News h₀ L h (d :: Ma :: La :: s1 :: s2 :: s3 :: s4 :: s5 :: s6 :: s7 :: k1 :: k2 :: x1 :: x2 :: x3 :: x4 :: x5 :: x6 :: x7 :: x8 :: x9 :: x10 :: x11 :: y1 :: y2 :: y3 :: y4 :: y5 :: y6 :: y7 :: y8 :: y9 :: y10 :: y11 :: tl)) (AP0 : ApN n l0) (hn : n = 39) (e : l0.map (·.1) = (d :: Ma :: La :: s1 :: s2 :: s3 :: s4 :: s5 :: s6 :: s7 :: k1 :: k2 :: x1 :: x2 :: x3 :: x4 :: x5 :: x6 :: x7 :: x8 :: x9 :: x10 :: x11 :: y1 :: y2 :: y3 :: y4 :: y5 :: y6 :: y7 :: y8 :: y9 :: y10 :: y11 :: tl).map (·.1)) (hl : 5 ≤ tl.length) :
    ∃ t1 : Led, (∀ q ∈ tl, q ∈ t1) ∧ d ∈ t1 ∧ 5 ≤ t1.length ∧ News h₀ L h (s1 :: s2 :: s3 :: s4 :: s5 :: s6 :: s7 :: k1 :: k2 :: x1 :: x2 :: x3 :: x4 :: x5 :: x6 :: x7 :: x8 :: x9 :: x10 :: x11 :: y1 :: y2 :: y3 :: y4 :: y5 :: y6 :: y7 :: y8 :: y9 :: y10 :: y11 :: t1) ∧ ApN 36 (s1 :: s2 :: s3 :: s4 :: s5 :: s6 :: s7 :: k1 :: k2 :: x1 :: x2 :: x3 :: x4 :: x5 :: x6 :: x7 :: x8 :: x9 :: x10 :: x11 :: y1 :: y2 :: y3 :: y4 :: y5 :: y6 :: y7 :: y8 :: y9 :: y10 :: y11 :: t1) := by
  have AP : ApN 39 (d :: Ma :: La :: s1 :: s2 :: s3 :: s4 :: s5 :: s6 :: s7 :: k1 :: k2 :: x1 :: x2 :: x3 :: x4 :: x5 :: x6 :: x7 :: x8 :: x9 :: x10 :: x11 :: y1 :: y2 :: y3 :: y4 :: y5 :: y6 :: y7 :: y8 :: y9 :: y10 :: y11 :: tl) := apn_cast AP0 hn e
  refine ⟨tl ++ [d], fun q hq => List.mem_append_left _ hq, List.mem_append_right _ List.mem_cons_self, by rw [List.length_append]; omega, led_to N fun z hz => ?_, ?_⟩
  · have hz : z ∈ ([s1, s2, s3, s4, s5, s6, s7, k1, k2, x1, x2, x3, x4, x5, x6, x7, x8, x9, x10, x11, y1, y2, y3, y4, y5, y6, y7, y8, y9, y10, y11] ++ tl) ++ [d] := by rw [List.append_assoc]; exact hz
    rcases List.mem_append.mp hz with hz | hz
    · exact List.mem_cons_of_mem _ (List.mem_cons_of_mem _ (List.mem_cons_of_mem _ hz))
    · rcases List.mem_singleton.mp hz with rfl
      exact List.mem_cons_self
  · have a : ApN 36 (([s1, s2, s3, s4, s5, s6, s7, k1, k2, x1, x2, x3, x4, x5, x6, x7, x8, x9, x10, x11, y1, y2, y3, y4, y5, y6, y7, y8, y9, y10, y11] ++ tl) ++ [d]) := ap_tail AP.2.2.2 fun p hp q hq => by
      rcases List.mem_singleton.mp hq with rfl
      exact Ne.symm (AP.1 p (List.mem_cons_of_mem _ (List.mem_cons_of_mem _ hp)))
    rw [List.append_assoc] at a
    exact a
theorem cons31 {q : Addr × Obj} (hq : q ∈ tl) : q ∈ s1 :: s2 :: s3 :: s4 :: s5 :: s6 :: s7 :: k1 :: k2 :: x1 :: x2 :: x3 :: x4 :: x5 :: x6 :: x7 :: x8 :: x9 :: x10 :: x11 :: y1 :: y2 :: y3 :: y4 :: y5 :: y6 :: y7 :: y8 :: y9 :: y10 :: y11 :: tl := List.mem_append_right [s1, s2, s3, s4, s5, s6, s7, k1, k2, x1, x2, x3, x4, x5, x6, x7, x8, x9, x10, x11, y1, y2, y3, y4, y5, y6, y7, y8, y9, y10, y11] hq
theorem st6_rot {I C D : Addr} {oI oC oD : Obj} (AP : ApN 36 (s1 :: s2 :: s3 :: s4 :: s5 :: s6 :: s7 :: k1 :: k2 :: x1 :: x2 :: x3 :: x4 :: x5 :: x6 :: x7 :: x8 :: x9 :: x10 :: x11 :: y1 :: y2 :: y3 :: y4 :: y5 :: y6 :: y7 :: y8 :: y9 :: y10 :: y11 :: tl)) (off : Off3 I C D (s1 :: s2 :: s3 :: s4 :: s5 :: s6 :: s7 :: k1 :: k2 :: x1 :: x2 :: x3 :: x4 :: x5 :: x6 :: x7 :: x8 :: x9 :: x10 :: x11 :: y1 :: y2 :: y3 :: y4 :: y5 :: y6 :: y7 :: y8 :: y9 :: y10 :: y11 :: tl)) (N : News h₀ L h ((I, oI) :: (C, oC) :: (D, oD) :: s1 :: s2 :: s3 :: s4 :: s5 :: s6 :: s7 :: k1 :: k2 :: x1 :: x2 :: x3 :: x4 :: x5 :: x6 :: x7 :: x8 :: x9 :: x10 :: x11 :: y1 :: y2 :: y3 :: y4 :: y5 :: y6 :: y7 :: y8 :: y9 :: y10 :: y11 :: tl)) :
    ApN 36 (s1 :: s2 :: s3 :: s4 :: s5 :: s6 :: s7 :: k1 :: k2 :: x1 :: x2 :: x3 :: x4 :: x5 :: x6 :: x7 :: x8 :: x9 :: x10 :: x11 :: y1 :: y2 :: y3 :: y4 :: y5 :: y6 :: y7 :: y8 :: y9 :: y10 :: y11 :: (tl ++ [(I, oI), (C, oC), (D, oD)])) ∧ News h₀ L h (s1 :: s2 :: s3 :: s4 :: s5 :: s6 :: s7 :: k1 :: k2 :: x1 :: x2 :: x3 :: x4 :: x5 :: x6 :: x7 :: x8 :: x9 :: x10 :: x11 :: y1 :: y2 :: y3 :: y4 :: y5 :: y6 :: y7 :: y8 :: y9 :: y10 :: y11 :: (tl ++ [(I, oI), (C, oC), (D, oD)])) ∧ Off3 I C D tl := by
  obtain ⟨a, b⟩ := ap_rot3 AP off N
  refine ⟨a, b, ?_⟩
  iterate 31 (replace off := off.2)
  exact off
end
section
variable {prog : Program} {w : World} {A : Around} {E : Value → Shared → Prop} {s : Shared} {h₀ : Heap} {L : Addr} {m : Str → Option Value} {env : Env}
theorem st6_zz {dv : List Value} {bs : List Bool} {a b c d e f g h : Value} (hb : BoolsAre dv bs) (hl : bs.length ≤ 25) : (dv ++ [a, b, c, d, e, f, g, h]).length ≤ 10000 := by
  rw [List.length_append]; exact st6_z hb hl
theorem enc_fit {fr : List Fm} (hf : FrOk fr) (n : Ns2) (t : Nat) : (encF (mkA fr n t).fs).length ≤ 1099511627776 := by
  have h1 := encF_length (fs := fr.drop t) fun f hm => hf.len f (List.mem_of_mem_drop hm)
  have h2 := hf.sz
  have h3 : (fr.drop t).length ≤ fr.length := by rw [List.length_drop]; omega
  show (encF (fr.drop t)).length ≤ _
  omega
theorem compSrc_rows {elt : Expr} {x y : Str} {scope : Scope} {cl : List (Str × Addr)} {Q : Flow → Shared → Prop} {ax : Addr} {vs : List Value} {bs : List Bool} {n : Nat} {s₁ : Shared} (G : Rs → Led) (fr : List Fm) (T1 : Led) (c0 : Rs)
    (hh : A.handled = none) (F : Fr h₀ L s₁.heap m) (N : News h₀ L s₁.heap (G c0)) (hmem : ∀ c, (∀ q ∈ T1, q ∈ c.tl) → (ax, lst0 vs n) ∈ G c) (hb : BoolsAre vs bs) (hsz : vs.length ≤ 10000) (h0 : RsI fr bs 0 c0 [] T1) (AP : ApN 36 (G c0))
    (turn : ∀ i b t c ys I oI C oC D m₂ h tk (E' : Value → Shared → Prop), bs[i]? = some b → RsI fr bs i c ys T1 → ApN 36 (G c) → NsObj oC m₂ → m₂ x = some (.int (kI b) t) → Fr h₀ L h m → News h₀ L h ((I, oI) :: (C, oC) :: (D, lst ys) :: G c) → Off3 I C D (G c) →
      wpAny (model prog w) A (eval elt (compEnvC scope cl C env)) (fun y s₂ => ∃ h' tk' c', s₂ = { s₁ with heap := h', toks := tk' } ∧ Fr h₀ L h' m ∧ News h₀ L h' ((I, oI) :: (C, oC) :: (D, lst ys) :: G c') ∧ Off3 I C D (G c') ∧ RsI fr bs (i + 1) c' (ys ++ [y]) T1 ∧ ApN 36 (G c')) E' { s₁ with heap := h, toks := tk })
    (fin : ∀ c ys D h tk, RsI fr bs bs.length c ys T1 → Fr h₀ L h (fun z => if z = y then some (.ref D) else m z) → News h₀ L h ((D, lst ys) :: G c) → Q .next { s₁ with heap := h, toks := tk }) :
    CompSrc prog w A h₀ L m env elt x scope cl (fun s₂ => FinA h₀ L m s₂ y Q) (.ref ax) s₁ := by
  refine CompSrc.ledger hh F N (hmem c0 h0.sub) (by rw [List.size_toArray, sizeLine_eq]; omega) fun g' => ?_
  have hn : vs.toArray.size = bs.length := by rw [List.size_toArray]; exact bools_len hb
  rw [hn]
  refine comp_inv (fun i ys nw => ∃ c, RsI fr bs i c ys T1 ∧ nw = G c ∧ ApN 36 nw) ⟨c0, h0, rfl, AP⟩ ?_ fun ys nw hI D h tk F' N' _ => ?_
  · rintro i v ys nw I oI C oC D m₂ h tk E' hlt hv ⟨c, hc, rfl, ap⟩ hC hx F' N' off hne
    obtain ⟨b, t, hbi, rfl⟩ := bools_get hb (v := v) (by simpa using hv)
    refine wpAny_mono (turn i b t c ys I oI C oC D m₂ h tk E' hbi hc ap hC hx F' N' off) (fun y s₂ hk => ?_) fun _ _ e => e
    obtain ⟨h', tk', c', e2, F₂, N₂, off₂, hc', ap'⟩ := hk
    exact ⟨h', tk', G c', e2, F₂, N₂, off₂, .inr ⟨_, hmem c' hc'.sub, rfl, _, rfl⟩, c', hc', rfl, ap'⟩
  · obtain ⟨c, hc, rfl, _⟩ := hI
    exact fin c ys D h tk hc F' N'
end
end Mine
end
section
namespace Mine
theorem eRs : Nonempty (Rs) := ⟨(⟨ws0, ⟨fun _ => 0, 0, fun _ => .sp, fun _ => []⟩, [], ⟨(0 : Nat), (0 : Nat), 0, (0 : Nat)⟩, ⟨(0 : Nat), (0 : Nat), 0, (0 : Nat)⟩, (0 : Nat), (0 : Nat), (0 : Nat), 0, 0, [], []⟩ : Rs)⟩
theorem st6 (w : World) (xs : List Nat) (H : LawTail w 7 (J7 w.params xs)) : LawTail w 6 (J6 w.params xs) := by
  unfold LawTail
  k_fill
  k_with_none
  k_with "om" => (with_reducible first|assumption|exact rm1 (by assumption) rfl|exact rm2 (by assumption) rfl|exact rm3 (by assumption) rfl|exact rm0 (by assumption)|exact Nat.le_of_lt (by assumption)|exact Nat.le_add_right _ _|exact Nat.lt_succ_self _|exact Nat.le_of_not_lt (by assumption)|exact lt_i (by assumption)|exact nlt_i (by assumption)|exact le_big (by assumption) rfl)
  k_with "k_all" => (first|(first|assumption|exact off_lt (by walk_at "and_last")|exact off_le (by walk_at "and_last") (Nat.le_succ _)|exact off_le (by walk_at "and_last") (Nat.le_add_right _ _)|exact off_le' (by assumption) (Nat.le_refl _)|exact off_le' (by assumption) (Nat.le_succ _)|exact off_le' (by assumption) (Nat.le_add_right _ _)|exact off_le' (by assumption) (Nat.le_succ_of_le (Nat.le_succ _))|exact off_le' (by assumption) (Nat.le_succ_of_le (Nat.le_succ_of_le (Nat.le_succ _))))|fail)
  k_with "k_ne" => (first|(first|assumption|exact Ne.symm (by assumption))|fail)
  k_with "k_upd" => (first|((refine' upd_ap ?ap9 ?ae9 ?st9 ?sk9;(case ap9 => assumption);(case ae9 => exact rfl);(case st9 => walk_at "setn");(case sk9 => first|decide|omega)))|fail)
  k_with "mm" => (first|((repeat (first|assumption|exact List.mem_cons_self|exact List.mem_append.mpr (Or.inl (by first|assumption|fail))|apply List.mem_cons_of_mem|refine List.mem_append.mpr (Or.inr ?_)));done)|fail)
  k_with "eval Name" => ((k_here;k_dflt (first|(refine' m_local (by first|exact rfl|fail) (by first|exact rfl|fail) (by decide) (by k_asm) (by first|exact rfl|fail) ?_;k_whole)|(refine' m_free (by first|exact rfl|fail) (by first|exact rfl|fail) (by decide) (by decide) (by first|exact rfl|fail) (by k_asm) (by k_mem) (by k_asm) ?_;k_whole)|(refine' m_global (by first|exact rfl|fail) (by first|exact rfl|fail) (by decide) (by first|exact rfl|fail) (by k_asm) (by k_asm) (by k_asm) (by k_is) ?_;k_whole)|(refine' m_builtin (by first|exact rfl|fail) (by first|exact rfl|fail) (by decide) (by first|exact rfl|fail) (by first|exact rfl|fail) (by k_asm) (by k_asm) (by k_asm) (by k_is) (by decide) (by first|(boot_by_name)|fail) ?_;k_whole))))
  k_with "call ref" => ((k_here;k_extra "m call"))
  k_with "getAttr ref" => ((k_here;(fail_if_success (with_reducible show wpAny _ _ (getAttr _ (PySem.Str.ofString "punctuation_chars") _) _ _ _));k_dflt (refine' get_own (by k_asm) (by k_asm) (by k_inst) (by k_is) (by k_is) (by k_is) (by k_is) (by k_get) (by k_handed) ?_;k_whole)))
  k_with "execs cons" => (((with_reducible refine wpAny_execs_cons ?_);try dsimp only))
  intro hrow mean mg mb dp un gd fu cu A₀ h₀ L m s news Q E B F X N T C1 C2 hd hu hJ hret hE
  revert H B F X N T C1 C2 hd hu hJ hret hE; revert w xs mean mg mb dp un gd fu cu A₀ h₀ L m s news Q E; refine eps8 eW eLN eEx eM eM eN eN eOC ?_; generalize q81 _ = w, q82 _ = xs, q83 _ = mean, q84 _ = mg, q85 _ = mb, q86 _ = dp, q87 _ = un, q88 _ = gd; refine hold8 ?_; refine eps8 eN eV eAr eH eN eM eSh eL ?_; generalize q81 _ = fu, q82 _ = cu, q83 _ = A₀, q84 _ = h₀, q85 _ = L, q86 _ = m, q87 _ = s, q88 _ = news; refine hold8 ?_; refine eps2 eP4 eP2 ?_; generalize q21 _ = Q, q22 _ = E; refine hold2 ?_; intro H B F X N T C1 C2 hd hu hJ hret hE
  refine ex8 hJ ?_; clear hJ; refine eps8 eN eLF eN eN eLV eN eLB eO ?_; generalize q81 _ = fa, q82 _ = qs, q83 _ = nf, q84 _ = da, q85 _ = dv, q86 _ = nd, q87 _ = bs, q88 _ = o1; refine hold8 ?_; intro hJ; refine ex8 hJ ?_; clear hJ; refine eps8 eO eO eAV eAV eL eN eN eN ?_; generalize q81 _ = o2, q82 _ = o3, q83 _ = o7, q84 _ = o8, q85 _ = rest, q86 _ = sx, q87 _ = sd, q88 _ = fR; refine hold8 ?_; intro hJ; refine ex8 hJ ?_; clear hJ; refine eps8 eN eN eN eN eN eN eN eN ?_; generalize q81 _ = cS, q82 _ = c1, q83 _ = ha, q84 _ = h2, q85 _ = tb, q86 _ = tv, q87 _ = tr, q88 _ = u0; refine hold8 ?_; intro hJ; refine ex8 hJ ?_; clear hJ; refine eps8 eN eV eV eO eO eAV eN eN ?_; generalize q81 _ = u1, q82 _ = pm, q83 _ = ctv, q84 _ = oS, q85 _ = oc1, q86 _ = vs, q87 _ = t1, q88 _ = nn; refine hold8 ?_; intro hJ; refine ex8 hJ ?_; clear hJ; refine eps8 eN eLx eLx eLv eLv eN eN eO ?_; generalize q81 _ = n2, q82 _ = XA, q83 _ = YB, q84 _ = v, q85 _ = u, q86 _ = k1, q87 _ = k2, q88 _ = ok1; refine hold8 ?_; intro hJ; refine ex7 hJ ?_; clear hJ; refine eps7 eO eAV eAV eN eN eN eN ?_; generalize q71 _ = ok2, q72 _ = vs1, q73 _ = vs2, q74 _ = t2, q75 _ = t3, q76 _ = la, q77 _ = nl; refine hold7 ?_; intro hJ
  obtain ⟨hf, hn, hx, hb, hbl, ho1, ho2, ho3, hq, hla, hoS, hoc, hvs, hsA, hsB, rfl, AP⟩ := hJ
  have hfr := nine_ok hq hx
  obtain ⟨T0, hT0⟩ : ∃ T0 : Led, T0 = (L + 1 + 1 + 1, o3) :: (L + 1 + 1, o2) :: (L + 1, o1) :: (801, tabObj o8) :: (775, tabObj o7) :: (da, lst0 dv nd) :: (fa, lst0 (ftV qs) nf) :: (ftL qs ++ rest) := ⟨_, rfl⟩
  revert hT0; revert T0; refine eps1 eL ?_; generalize cex _ _ = T0; refine hold1 ?_; intro hT0
  have N0 : News h₀ L s.heap (rsL w.params sx sd fR cS c1 ha h2 tv tr pm ctv oS oc1 k1 k2 ok1 ok2 XA YB (qs.map Ft.fm) ⟨ws0, ⟨fun _ => 0, 0, fun _ => .sp, fun _ => []⟩, [], v, u, tb, u0, u1, nn, n2, [], T0⟩ T0) := hT0 ▸ N
  have AP0 : ApN 36 (rsL w.params sx sd fR cS c1 ha h2 tv tr pm ctv oS oc1 k1 k2 ok1 ok2 XA YB (qs.map Ft.fm) ⟨ws0, ⟨fun _ => 0, 0, fun _ => .sp, fun _ => []⟩, [], v, u, tb, u0, u1, nn, n2, [], T0⟩ T0) := hT0 ▸ AP
  clear N AP
  have m1 : (L + 1, o1) ∈ T0 := by rw [hT0]; simp
  have m2 : (L + 1 + 1, o2) ∈ T0 := by rw [hT0]; simp
  have m3 : (L + 1 + 1 + 1, o3) ∈ T0 := by rw [hT0]; simp
  have m4 : (da, lst0 dv nd) ∈ T0 := by rw [hT0]; simp
  have m5 : (fa, lst0 (ftV qs) nf) ∈ T0 := by rw [hT0]; simp
  have m6 : (la, lst0 [.ref XA.lx, .ref YB.lx] nl) ∈ T0 := by rw [hT0]; simp [hla]
  have m7 : ∀ q ∈ ftL qs, q ∈ T0 := fun q hq => by rw [hT0]; simp [hq]
  have m8 : (801, tabObj o8) ∈ T0 := by rw [hT0]; simp
  have m9 : (775, tabObj o7) ∈ T0 := by rw [hT0]; simp
  have hlen : 5 ≤ T0.length := by rw [hT0]; simp only [List.length_cons]; omega
  clear hT0 hla
  k_with "eval Name" => (k_here;k_dflt (first|refine' m_local (by first|exact rfl|fail) (by first|exact rfl|fail) (by decide) (by k_asm) (by first|exact hn|fail) ?_|refine' m_cloc (by first|exact rfl|fail) (by first|exact rfl|fail) (by decide) (by first|exact hC9|fail) (by k_asm) (by walk_at "mm") (by first|exact hx9|fail) ?_|refine' m_cell (by first|exact rfl|fail) (by first|exact rfl|fail) (by decide) (by first|exact rfl|fail) (by k_asm) (by first|exact cons31 (List.mem_append_left _ (List.mem_append_left _ hq1))|walk_at "mm") (by first|exact ho1|fail) ?_|refine' m_cell (by first|exact rfl|fail) (by first|exact rfl|fail) (by decide) (by first|exact rfl|fail) (by k_asm) (by first|exact cons31 (List.mem_append_left _ (List.mem_append_left _ hq1))|walk_at "mm") (by first|exact ho3|fail) ?_);k_whole)
  k_with "exec Assign cons ListComp" => (k_here;k_dflt (refine LCg.Assign_ListComp_U (F₀ := by k_asm) (by rfl) (by with_unfolding_all rfl) (by rfl) (by decide) (by rfl) (by decide) (by rfl) (by rfl) (by rfl) ?_))
  k_with "newList" => (((k_here;k_dflt (refine' m_newList (by k_asm) (by k_asm) (by first|exact Nat.le_of_ble_eq_true rfl|fail) ?_;k_whole);intro La hL kL F2 N2 lR;(with_reducible rename ApN _ _ => APz);(have APy := ap_one lR APz rfl dqO);(clear APz lR)));(all_goals (first|(revert F2 N2 APy;revert La hL kL;refine eps3 eN eH eN ?_;generalize q31 _ = La, q32 _ = hL, q33 _ = kL;refine hold3 ?_;intro F2 N2 APy)|skip)))
  k_with "binaryOp Mult ref int" => (((k_here;k_dflt (refine' m_mul4 (by k_asm) (by k_asm) (by k_mem) ?_;k_whole);intro Ma hM F2 N2 lR;(with_reducible rename ApN _ _ => APz);(have APy := ap_one lR APz rfl dqO);(clear APz lR)));(all_goals (first|(revert F2 N2 APy;revert Ma hM;refine eps2 eN eH ?_;generalize q21 _ = Ma, q22 _ = hM;refine hold2 ?_;intro F2 N2 APy)|skip)))
  k_with "binaryOp Add ref ref" => (((k_here;k_dflt (refine' m_addL (by k_asm) (by k_asm) (by walk_at "mm") (by k_mem) (by first|exact st6_z hb hbl|fail) ?_;k_whole);intro dx hA kx F2 N2 lR;(with_reducible rename ApN _ _ => APz);(have APy := ap_one lR APz rfl dqO);(clear APz lR)));(all_goals (first|(revert F2 N2 APy;revert dx hA kx;refine eps3 eN eH eN ?_;generalize q31 _ = dx, q32 _ = hA, q33 _ = kx;refine hold3 ?_;intro F2 N2 APy)|skip)))
  k_with "CompSrc" => ((((with_reducible rename ApN _ _ => APz);(with_reducible rename News _ _ _ _ => Nz);(with_reducible rename Fr _ _ _ _ => Fz);(obtain ⟨tq, hs1, hdx, hl1, N3, AP3⟩ := st6_open Nz APz rfl rfl hlen);clear APz Nz;k_dflt (refine compSrc_rows (fun c => rsL w.params sx sd fR cS c1 ha h2 tv tr pm ctv oS oc1 k1 k2 ok1 ok2 XA YB (qs.map Ft.fm) c c.tl) (qs.map Ft.fm) tq ⟨ws0, ⟨fun _ => 0, 0, fun _ => .sp, fun _ => []⟩, [], v, u, tb, u0, u1, nn, n2, [], tq⟩ (by first|exact rfl|fail) Fz N3 (fun c hc => cons31 (hc _ hdx)) (bools8 _ _ hb) (st6_zz hb hbl) (rs0 hl1) AP3 ?_ ?_);rotate_left;(intro c9 ys9 D9 h9 tk9 hR9 F9 N9);rotate_left;(intro i9 b9 t9 c9 ys9 I9 oI9 C9 oC9 D9 m9 h9 tk9 E9 hbi hR9 AP9 hC9 hx9 F9 N9 off9;(obtain ⟨AP10, N10, off10⟩ := st6_rot AP9 off9 N9);clear AP9 N9 off9;(have hq1 := hR9.sub _ (hs1 _ m1));(have hq3 := hR9.sub _ (hs1 _ m3));(have hq6 := hR9.sub _ (hs1 _ m6));cases b9);all_goals skip));(all_goals (first|(revert hs1 hdx hl1 N3 AP3 hR9 hC9 F9 AP10 N10 off10 hq1 hq3 hq6 hbi hx9;revert tq i9 t9 c9 ys9 I9 oI9 C9 oC9 D9 m9 h9 tk9 E9;refine eps8 eL eN eN eRs eLV eN eO eN ?_;generalize q81 _ = tq, q82 _ = i9, q83 _ = t9, q84 _ = c9, q85 _ = ys9, q86 _ = I9, q87 _ = oI9, q88 _ = C9;refine hold8 ?_;refine eps6 eO eN eM eH eN eP2 ?_;generalize q61 _ = oC9, q62 _ = D9, q63 _ = m9, q64 _ = h9, q65 _ = tk9, q66 _ = E9;refine hold6 ?_;intro hs1 hdx hl1 N3 AP3 hR9 hC9 F9 AP10 N10 off10 hq1 hq3 hq6 hbi hx9)|(revert hs1 hdx hl1 N3 AP3 hR9 F9 N9;revert tq c9 ys9 D9 h9 tk9;refine eps6 eL eRs eLV eN eH eN ?_;generalize q61 _ = tq, q62 _ = c9, q63 _ = ys9, q64 _ = D9, q65 _ = h9, q66 _ = tk9;refine hold6 ?_;intro hs1 hdx hl1 N3 AP3 hR9 F9 N9)|skip)))
  k_with "subscriptTail Name Name ref int" => (k_here;k_dflt (refine' m_subL (by k_asm) (by walk_at "mm") (by first|exact rfl|fail) ?_);k_whole)
  k_with "m call" => ((((with_reducible show wpAny _ _ (call (Value.ref 813) [Value.ref (Lx.lx XA)]) _ _ _);(with_reducible rename ApN _ _ => AP8);(with_reducible rename News _ _ _ _ => N8);k_dflt (refine' ctrU_use AP8 (by k_asm) (by k_asm) (by k_asm) N8 pickX (by k_asm) (by first|exact rfl|assumption) (by ktr_room) (by ktr_units) (told w sx sd fR cS c1 ha h2 tv tr pm ctv oS oc1 vs t1 hoS hoc hvs XA.f1 k1 XA.f2 k2 XA.qc XA.qh XA.qs false XA.tkc XA.pm1 XA.ct1 XA.pm2 XA.ct2 ok1 ok2 XA.oC XA.oH XA.oT vs1 vs2 t2 t3 hsA.k1 hsA.w1 hsA.k2 hsA.w2 hsA.c hsA.h hsA.t XA.lx XA.ld XA.src XA.srd XA.pb XA.fs XA.s1 XA.s2 XA.s3 XA.kt XA.vt (qs.map Ft.fm) hfr c9.M.n c9.M.t hR9.mi.ab (c9.M.st false) c9.v.sT (c9.M.tok false) c9.v.tT c9.v.ln c9.v.lT (hR9.mi.rs false) c9.tb c9.u0 c9.u1 c9.nn c9.n2 c9.hvs hR9.oc) ?_;k_whole;intro AP9 v9 xt9 own9 h9 tk9 hp9 F9 N9 O9;(k_dflt (refine ex6 hp9 ?_);clear hp9;intro o9 sT9 tok9 tT9 ln9 lT9 hp9;obtain ⟨rfl, hto9, htl9, hok9, hp9⟩ := hp9;k_dflt (refine ex6 hp9 ?_);clear hp9;intro tb9 u09 u19 nn9 n29 hvs9 hp9;obtain ⟨hoc9, rfl⟩ := hp9);(obtain ⟨AP11, N11, fx11⟩ := back_any N9 O9 (AP9.to rfl) unpX);clear AP9 N9 O9 AP8 N8;(try dsimp only);skip)));(all_goals (first|(revert qk ek F9 hto9 htl9 hok9 hoc9 AP11 N11 fx11;revert v9 xt9 h9 tk9 sT9 tok9 tT9 ln9 lT9 tb9 u09 u19 nn9 n29 hvs9;refine eps8 eV eL eH eN eN eT eN eI ?_;generalize q81 _ = v9, q82 _ = xt9, q83 _ = h9, q84 _ = tk9, q85 _ = sT9, q86 _ = tok9, q87 _ = tT9, q88 _ = ln9;refine hold8 ?_;refine eps7 eN eN eN eN eN eN eLV ?_;generalize q71 _ = lT9, q72 _ = tb9, q73 _ = u09, q74 _ = u19, q75 _ = nn9, q76 _ = n29, q77 _ = hvs9;refine hold7 ?_;intro qk ek F9 hto9 htl9 hok9 hoc9 AP11 N11 fx11)|skip)))
  k_with "m call" => ((((with_reducible show wpAny _ _ (call (Value.ref 813) [Value.ref (Lx.lx YB)]) _ _ _);(with_reducible rename ApN _ _ => AP8);(with_reducible rename News _ _ _ _ => N8);k_dflt (refine' ctrU_use AP8 (by k_asm) (by k_asm) (by k_asm) N8 pickY (by k_asm) (by first|exact rfl|assumption) (by ktr_room) (by ktr_units) (told w sx sd fR cS c1 ha h2 tv tr pm ctv oS oc1 vs t1 hoS hoc hvs YB.f1 k1 YB.f2 k2 YB.qc YB.qh YB.qs true YB.tkc YB.pm1 YB.ct1 YB.pm2 YB.ct2 ok1 ok2 YB.oC YB.oH YB.oT vs1 vs2 t2 t3 hsB.k1 hsB.w1 hsB.k2 hsB.w2 hsB.c hsB.h hsB.t YB.lx YB.ld YB.src YB.srd YB.pb YB.fs YB.s1 YB.s2 YB.s3 YB.kt YB.vt (qs.map Ft.fm) hfr c9.M.n c9.M.t hR9.mi.ab (c9.M.st true) c9.u.sT (c9.M.tok true) c9.u.tT c9.u.ln c9.u.lT (hR9.mi.rs true) c9.tb c9.u0 c9.u1 c9.nn c9.n2 c9.hvs hR9.oc) ?_;k_whole;intro AP9 v9 xt9 own9 h9 tk9 hp9 F9 N9 O9;(k_dflt (refine ex6 hp9 ?_);clear hp9;intro o9 sT9 tok9 tT9 ln9 lT9 hp9;obtain ⟨rfl, hto9, htl9, hok9, hp9⟩ := hp9;k_dflt (refine ex6 hp9 ?_);clear hp9;intro tb9 u09 u19 nn9 n29 hvs9 hp9;obtain ⟨hoc9, rfl⟩ := hp9);(obtain ⟨AP11, N11, fx11⟩ := back_any N9 O9 (AP9.to rfl) unpY);clear AP9 N9 O9 AP8 N8;(try dsimp only);skip)));(all_goals (first|(revert qk ek F9 hto9 htl9 hok9 hoc9 AP11 N11 fx11;revert v9 xt9 h9 tk9 sT9 tok9 tT9 ln9 lT9 tb9 u09 u19 nn9 n29 hvs9;refine eps8 eV eL eH eN eN eT eN eI ?_;generalize q81 _ = v9, q82 _ = xt9, q83 _ = h9, q84 _ = tk9, q85 _ = sT9, q86 _ = tok9, q87 _ = tT9, q88 _ = ln9;refine hold8 ?_;refine eps7 eN eN eN eN eN eN eLV ?_;generalize q71 _ = lT9, q72 _ = tb9, q73 _ = u09, q74 _ = u19, q75 _ = nn9, q76 _ = n29, q77 _ = hvs9;refine hold7 ?_;intro qk ek F9 hto9 htl9 hok9 hoc9 AP11 N11 fx11)|skip)))
  k_with "call builtin:len" => (k_here;k_dflt (refine' m_len rfl (enc_fit hfr _ _) ?_);k_whole)
  k_with "newTuple" => (((k_here;(with_reducible rename News _ _ _ _ => N8);k_dflt (refine' kup_newTuple (by k_asm) N8 ?_ (by first|decide|exact Nat.le_of_ble_eq_true rfl);k_whole);intro Tx h4 F12 N12 lR));(all_goals (first|(revert F12 N12 lR;revert Tx h4;refine eps2 eN eH ?_;generalize q21 _ = Tx, q22 _ = h4;refine hold2 ?_;intro F12 N12 lR)|skip)))
  k_with "Exists" => ((obtain ⟨e1, e2, e3⟩ := rs_fin N12 AP11 off10 hR9.len fx11 lR);k_dflt (first|((have hRn := rs_next (v := ⟨sT9, tT9, ln9, lT9⟩) (u := c9.u) (tb := tb9) (u0 := u09) (u1 := u19) (nn := nn9) (n2 := n29) (T := Tx) (t := tk9 + 1 + 1) hR9 hbi htl9 hok9 hto9 hoc9);(refine ⟨_, _, _, rfl, F12, ?_, ?_, hRn, ?_⟩);(exact e1);(exact e2);(exact e3))|((have hRn := rs_next (v := c9.v) (u := ⟨sT9, tT9, ln9, lT9⟩) (tb := tb9) (u0 := u09) (u1 := u19) (nn := nn9) (n2 := n29) (T := Tx) (t := tk9 + 1 + 1) hR9 hbi htl9 hok9 hto9 hoc9);(refine ⟨_, _, _, rfl, F12, ?_, ?_, hRn, ?_⟩);(exact e1);(exact e2);(exact e3))))
  with_reducible refine law_cut _ (by decide) ?_
  conv in (stN (defB _) _) => whnf
  generalize hT9 : List.drop _ (defB lawS) = tl9
  skip
  revert hT9; revert tl9; refine eps1 eLSt ?_; generalize cex _ _ = tl9; refine hold1 ?_; intro hT9
  repeat' (first | (k_unfold; (try dsimp only)) | walk1 | (dsimp only; walk1) | (dsimp only; with_reducible refine lpost_brk ?_; try dsimp only) | (dsimp only; with_reducible refine lpost_ret ?_; try dsimp only))
  all_goals (try k_data)
  all_goals first
    | (subst hT9; (with_reducible rename News _ _ _ _ => N9); (with_reducible rename Fr _ _ _ _ => F9); refine LawTail.use H B F9 X N9 T C1 C2 hd hu ?_ (by exact hret) hE; exact ⟨fa, qs, nf, da, dv, nd, bs, o2, sx, sd, fR, cS, c1, ha, h2, tv, tr, pm, ctv, oS, oc1, XA, YB, k1, k2, ok1, ok2, D9, ys9, tq, c9, hf, hn, rfl, hx, hb, hbl, ho2, hq, ⟨o8, hs1 _ m8⟩, ⟨o7, hs1 _ m9⟩, hs1 _ m2, hs1 _ m4, hs1 _ m5, fun q hq => hs1 _ (m7 q hq), rs_len8 hR9, rfl⟩)
  k_with_none
  k_with "om" => (with_reducible first|assumption|exact rm1 (by assumption) rfl|exact rm0 (by assumption)|exact Nat.le_of_lt (by assumption)|exact Nat.le_add_right _ _|exact Nat.le_add_left _ _|exact Nat.lt_succ_self _|exact Nat.succ_pos _|exact Nat.lt_of_not_le (by assumption)|exact Nat.le_of_not_lt (by assumption)|exact Nat.le_of_not_le (by assumption)|exact Nat.le_of_lt (Nat.lt_of_not_le (by assumption))|exact lt_i (by assumption)|exact nlt_i (by assumption)|exact nneg_i|exact le_big (by assumption) rfl|exact Nat.le_of_succ_le_succ (by assumption)|exact Nat.eq_zero_of_le_zero (by assumption)|exact Nat.add_comm _ _)
end Mine
end
section
namespace Mine
open LCg
theorem lat_ok (T : List UInt8) : PyData.strOk (lat T) = true := by
  unfold PyData.strOk lat
  rw [Array.all_eq_true]
  intro i hi
  simp only [List.size_toArray, List.length_map] at hi
  simp only [List.getElem_toArray, List.getElem_map, decide_eq_true_eq]
  exact Nat.lt_trans (UInt8.toNat_lt _) (by decide)
theorem resD_ok (r : Res) : kqdOk 5 (resD r) = true := by
  cases r with
  | tok w => exact lat_ok w
  | none => rfl
  | noq => decide +kernel
  | noe => decide +kernel
theorem walkD_ok (fr : List Fm) (bs : List Bool) : kqdOk 8 (walkD fr bs) = true := by
  have e1 : ∀ x : Res × Nat, kqdOk 6 (rowD x) = true := fun x => by
    show ([resD x.1, Dat.int (x.2 : Int)]).all (kqdOk 5) = true
    rw [List.all_cons, resD_ok]
    rfl
  show ([Dat.list _, Dat.list _]).all (kqdOk 7) = true
  rw [List.all_cons, List.all_cons, List.all_nil, Bool.and_true, Bool.and_eq_true]
  constructor
  · show (List.map rowD _).all (kqdOk 6) = true
    rw [List.all_eq_true]
    intro d hd
    obtain ⟨x, _, rfl⟩ := List.mem_map.mp hd
    exact e1 x
  · show (List.map _ _).all (kqdOk 6) = true
    rw [List.all_eq_true]
    intro d hd
    obtain ⟨x, _, rfl⟩ := List.mem_map.mp hd
    rfl
theorem octs_dat {news : Led} : ∀ {vs : List Value} {cs : List UInt8}, Octs vs cs → DatAll news vs (cs.map fun c => Dat.int (c.toNat : Int)) := by
  rintro vs cs ⟨ts, hl, rfl⟩
  induction cs generalizing ts with
  | nil => exact .nil
  | cons c r ih =>
    cases ts with
    | nil => cases hl
    | cons t ts => exact .cons (.int _ _) (ih ts (Nat.succ.inj hl))
theorem st7_dat {fr : List Fm} {bs : List Bool} {c : Rs} {ys : List Value} {T0 : Led} {T ra h2 : Addr} {n2 : Nat} (h : RsI fr (bs ++ [false, true, false, true, false, true, false, true]) (bs.length + 8) c ys T0) :
    DatIn ((T, tupT (.ref ra) (.ref h2)) :: (ra, lst ys) :: (h2, listOf c.hvs.toArray n2) :: c.tl) (.ref T) (walkD fr (bs ++ [false, true, false, true, false, true, false, true])) := by
  have hr := h.run
  have e0 : (bs ++ [false, true, false, true, false, true, false, true]).take (bs.length + 8) = bs ++ [false, true, false, true, false, true, false, true] := List.take_of_length_le (by rw [List.length_append]; exact Nat.le_refl _)
  rw [e0] at hr
  unfold walkD
  rw [hr]
  refine .tuple (vs := [.ref ra, .ref h2]) List.mem_cons_self (.cons (.list (List.mem_cons_of_mem _ List.mem_cons_self) (h.rows.mono fun q hq => List.mem_cons_of_mem _ (List.mem_cons_of_mem _ (List.mem_cons_of_mem _ hq)))) (.cons (.list (List.mem_cons_of_mem _ (List.mem_cons_of_mem _ List.mem_cons_self)) ?_) .nil))
  have z := octs_dat (news := (T, tupT (.ref ra) (.ref h2)) :: (ra, lst ys) :: (h2, listOf c.hvs.toArray n2) :: c.tl) h.oc
  have e : (mkA fr c.M.n c.M.t).oc.map (fun c => Dat.int (c.toNat : Int)) = (fr.take c.S.t).map fun f => Dat.int (f.1.toNat : Int) := by
    rw [← h.mi.t]
    show ((fr.take c.M.t).map Prod.fst).map _ = _
    rw [List.map_map]
    rfl
  rw [e] at z
  exact z
theorem walk_ref {news : Led} {v : Value} {fr : List Fm} {bs : List Bool} (h : DatIn news v (walkD fr bs)) : ∃ a, v = .ref a := by
  unfold walkD at h
  cases h
  exact ⟨_, rfl⟩
theorem len33 {bs : List Bool} (h : bs.length ≤ 25) : (bs ++ [false, true, false, true, false, true, false, true]).length ≤ 100 := by
  rw [List.length_append]
  show bs.length + 8 ≤ 100
  omega
section
variable {s1 s2 s3 s4 s5 s6 s7 k1 k2 x1 x2 x3 x4 x5 x6 x7 x8 x9 x10 x11 y1 y2 y3 y4 y5 y6 y7 y8 y9 y10 y11 : Addr × Obj} {tl : Led}
theorem st7_own {d Ma La T r : Addr × Obj} {f : Addr × Obj} {l : Led} (hf : f ∈ tl) (hl : ∀ q ∈ l, q ∈ tl) : ∀ q ∈ f :: d :: l, q ∈ d :: Ma :: La :: T :: r :: s1 :: s2 :: s3 :: s4 :: s5 :: s6 :: s7 :: k1 :: k2 :: x1 :: x2 :: x3 :: x4 :: x5 :: x6 :: x7 :: x8 :: x9 :: x10 :: x11 :: y1 :: y2 :: y3 :: y4 :: y5 :: y6 :: y7 :: y8 :: y9 :: y10 :: y11 :: tl := fun q hq => by
  rcases List.mem_cons.mp hq with rfl | hq
  · exact List.mem_cons_of_mem _ (List.mem_cons_of_mem _ (List.mem_cons_of_mem _ (List.mem_cons_of_mem _ (List.mem_cons_of_mem _ (cons31 hf)))))
  rcases List.mem_cons.mp hq with rfl | hq
  · exact List.mem_cons_self
  · exact List.mem_cons_of_mem _ (List.mem_cons_of_mem _ (List.mem_cons_of_mem _ (List.mem_cons_of_mem _ (List.mem_cons_of_mem _ (cons31 (hl q hq))))))
theorem st7_sub {d Ma La T r : Addr × Obj} {new : Led} : ∀ q ∈ T :: r :: s7 :: tl, q ∈ new ++ d :: Ma :: La :: T :: r :: s1 :: s2 :: s3 :: s4 :: s5 :: s6 :: s7 :: k1 :: k2 :: x1 :: x2 :: x3 :: x4 :: x5 :: x6 :: x7 :: x8 :: x9 :: x10 :: x11 :: y1 :: y2 :: y3 :: y4 :: y5 :: y6 :: y7 :: y8 :: y9 :: y10 :: y11 :: tl := fun q hq => by
  refine List.mem_append_right _ (List.mem_cons_of_mem _ (List.mem_cons_of_mem _ (List.mem_cons_of_mem _ ?_)))
  rcases List.mem_cons.mp hq with rfl | hq
  · exact List.mem_cons_self
  rcases List.mem_cons.mp hq with rfl | hq
  · exact List.mem_cons_of_mem _ List.mem_cons_self
  rcases List.mem_cons.mp hq with rfl | hq
  · exact List.mem_cons_of_mem _ (List.mem_cons_of_mem _ (by (iterate 6 (refine List.mem_cons_of_mem _ ?_)); exact List.mem_cons_self))
  · exact List.mem_cons_of_mem _ (List.mem_cons_of_mem _ (cons31 hq))
theorem st7_grown {h₀ h : Heap} {L : Addr} {d Ma La T r : Addr × Obj} {new : Led} {p8 p7 : Array Value} (N : News h₀ L h (new ++ d :: Ma :: La :: T :: r :: s1 :: s2 :: s3 :: s4 :: s5 :: s6 :: s7 :: k1 :: k2 :: x1 :: x2 :: x3 :: x4 :: x5 :: x6 :: x7 :: x8 :: x9 :: x10 :: x11 :: y1 :: y2 :: y3 :: y4 :: y5 :: y6 :: y7 :: y8 :: y9 :: y10 :: y11 :: tl)) (h8 : (801, tabObj p8) ∈ tl) (h7 : (775, tabObj p7) ∈ tl) : GrownAll [(805, 801), (777, 775)] h :=
  ⟨GrownAt.of N (List.mem_append_right _ (List.mem_cons_of_mem _ (List.mem_cons_of_mem _ (List.mem_cons_of_mem _ (List.mem_cons_of_mem _ (List.mem_cons_of_mem _ (cons31 h8))))))), GrownAt.of N (List.mem_append_right _ (List.mem_cons_of_mem _ (List.mem_cons_of_mem _ (List.mem_cons_of_mem _ (List.mem_cons_of_mem _ (List.mem_cons_of_mem _ (cons31 h7))))))), trivial⟩
end
end Mine
end
section
namespace Mine
theorem st7 (w : World) (xs : List Nat) : LawTail w 7 (J7 w.params xs) := by
  unfold LawTail
  k_fill
  k_with_none
  k_with "om" => (with_reducible first|assumption|exact rm1 (by assumption) rfl|exact rm2 (by assumption) rfl|exact rm3 (by assumption) rfl|exact rm0 (by assumption)|exact Nat.le_of_lt (by assumption)|exact Nat.le_add_right _ _|exact Nat.lt_succ_self _|exact Nat.le_of_not_lt (by assumption)|exact lt_i (by assumption)|exact nlt_i (by assumption)|exact le_big (by assumption) rfl)
  k_with "k_all" => (first|(first|assumption|exact off_lt (by walk_at "and_last")|exact off_le (by walk_at "and_last") (Nat.le_succ _)|exact off_le (by walk_at "and_last") (Nat.le_add_right _ _)|exact off_le' (by assumption) (Nat.le_refl _)|exact off_le' (by assumption) (Nat.le_succ _)|exact off_le' (by assumption) (Nat.le_add_right _ _)|exact off_le' (by assumption) (Nat.le_succ_of_le (Nat.le_succ _))|exact off_le' (by assumption) (Nat.le_succ_of_le (Nat.le_succ_of_le (Nat.le_succ _))))|fail)
  k_with "k_ne" => (first|(first|assumption|exact Ne.symm (by assumption))|fail)
  k_with "k_upd" => (first|((refine' upd_ap ?ap9 ?ae9 ?st9 ?sk9;(case ap9 => assumption);(case ae9 => exact rfl);(case st9 => walk_at "setn");(case sk9 => first|decide|omega)))|fail)
  k_with "mm" => (first|((repeat (first|assumption|exact List.mem_cons_self|exact List.mem_append.mpr (Or.inl (by first|assumption|fail))|apply List.mem_cons_of_mem|refine List.mem_append.mpr (Or.inr ?_)));done)|fail)
  k_with "eval Name" => ((k_here;k_dflt (first|(refine' m_local (by first|exact rfl|fail) (by first|exact rfl|fail) (by decide) (by k_asm) (by first|exact rfl|fail) ?_;k_whole)|(refine' m_free (by first|exact rfl|fail) (by first|exact rfl|fail) (by decide) (by decide) (by first|exact rfl|fail) (by k_asm) (by k_mem) (by k_asm) ?_;k_whole)|(refine' m_global (by first|exact rfl|fail) (by first|exact rfl|fail) (by decide) (by first|exact rfl|fail) (by k_asm) (by k_asm) (by k_asm) (by k_is) ?_;k_whole)|(refine' m_builtin (by first|exact rfl|fail) (by first|exact rfl|fail) (by decide) (by first|exact rfl|fail) (by first|exact rfl|fail) (by k_asm) (by k_asm) (by k_asm) (by k_is) (by decide) (by first|(boot_by_name)|fail) ?_;k_whole))))
  k_with "call ref" => ((k_here;k_extra "m call"))
  k_with "execs cons" => (((with_reducible refine wpAny_execs_cons ?_);try dsimp only))
  intro hrow mean mg mb dp un gd fu cu A₀ h₀ L m s news Q E B F X N T C1 C2 hd hu hJ hret hE
  revert B F X N T C1 C2 hd hu hJ hret hE; revert w xs mean mg mb dp un gd fu cu A₀ h₀ L m s news Q E; refine eps8 eW eLN eEx eM eM eN eN eOC ?_; generalize q81 _ = w, q82 _ = xs, q83 _ = mean, q84 _ = mg, q85 _ = mb, q86 _ = dp, q87 _ = un, q88 _ = gd; refine hold8 ?_; refine eps8 eN eV eAr eH eN eM eSh eL ?_; generalize q81 _ = fu, q82 _ = cu, q83 _ = A₀, q84 _ = h₀, q85 _ = L, q86 _ = m, q87 _ = s, q88 _ = news; refine hold8 ?_; refine eps2 eP4 eP2 ?_; generalize q21 _ = Q, q22 _ = E; refine hold2 ?_; intro B F X N T C1 C2 hd hu hJ hret hE
  refine ex8 hJ ?_; clear hJ; refine eps8 eN eLF eN eN eLV eN eLB eO ?_; generalize q81 _ = fa, q82 _ = qs, q83 _ = nf, q84 _ = da, q85 _ = dv, q86 _ = nd, q87 _ = bs, q88 _ = o2; refine hold8 ?_; intro hJ; refine ex8 hJ ?_; clear hJ; refine eps8 eN eN eN eN eN eN eN eN ?_; generalize q81 _ = sx, q82 _ = sd, q83 _ = fR, q84 _ = cS, q85 _ = c1, q86 _ = ha, q87 _ = h2, q88 _ = tv; refine hold8 ?_; intro hJ; refine ex8 hJ ?_; clear hJ; refine eps8 eN eV eV eO eO eLx eLx eN ?_; generalize q81 _ = tr, q82 _ = pm, q83 _ = ctv, q84 _ = oS, q85 _ = oc1, q86 _ = XA, q87 _ = YB, q88 _ = k1; refine hold8 ?_; intro hJ; refine ex7 hJ ?_; clear hJ; refine eps7 eN eO eO eN eLV eL eRs ?_; generalize q71 _ = k2, q72 _ = ok1, q73 _ = ok2, q74 _ = ra, q75 _ = ys, q76 _ = T0, q77 _ = c; refine hold7 ?_; intro hJ
  obtain ⟨hf, hn, hrw, hx, hb, hbl, ho2, hq, ⟨o8, m8⟩, ⟨o7, m9⟩, m2, m4, m5, m7, hR, rfl⟩ := hJ
  have hfr := nine_ok hq hx
  have hq2 := hR.sub _ m2
  have hq4 := hR.sub _ m4
  have hq5 := hR.sub _ m5
  have hq8 := hR.sub _ m8
  have hq9 := hR.sub _ m9
  have hq7 : ∀ q ∈ ftL qs, q ∈ c.tl := fun q hq => hR.sub _ (m7 q hq)
  k_with "eval Name" => (k_here;k_dflt (first|refine' m_local (by first|exact rfl|fail) (by first|exact rfl|fail) (by decide) (by k_asm) (by first|exact hf|exact hn|exact hrw|fail) ?_|refine' m_cell (by first|exact rfl|fail) (by first|exact rfl|fail) (by decide) (by first|exact rfl|fail) (by k_asm) (by first|exact List.mem_cons_of_mem _ (cons31 hq2)|walk_at "mm") (by first|exact ho2|fail) ?_);k_whole)
  k_with "newList" => (((k_here;k_dflt (refine' m_newList (by k_asm) (by k_asm) (by first|exact Nat.le_of_ble_eq_true rfl|fail) ?_;k_whole);intro La hL kL F2 N2 lR;clear lR));(all_goals (first|(revert F2 N2;revert La hL kL;refine eps3 eN eH eN ?_;generalize q31 _ = La, q32 _ = hL, q33 _ = kL;refine hold3 ?_;intro F2 N2)|skip)))
  k_with "newTuple" => (((k_here;k_dflt (refine' kup_newTuple (by k_asm) (by k_asm) ?_ (by first|decide|exact Nat.le_of_ble_eq_true rfl);k_whole);intro Tx h4 F2 N2 lR;clear lR));(all_goals (first|(revert F2 N2;revert Tx h4;refine eps2 eN eH ?_;generalize q21 _ = Tx, q22 _ = h4;refine hold2 ?_;intro F2 N2)|skip)))
  k_with "binaryOp Mult ref int" => (((k_here;k_dflt (refine' m_mul4 (by k_asm) (by k_asm) (by k_mem) ?_;k_whole);intro Ma hM F2 N2 lR;clear lR));(all_goals (first|(revert F2 N2;revert Ma hM;refine eps2 eN eH ?_;generalize q21 _ = Ma, q22 _ = hM;refine hold2 ?_;intro F2 N2)|skip)))
  k_with "binaryOp Add ref ref" => (((k_here;(with_reducible rename News _ _ _ _ => Nz);k_dflt (refine' m_addL (by k_asm) Nz (by walk_at "mm") (by k_mem) (by first|exact st6_z hb hbl|fail) ?_;k_whole);intro dx hA kx F2 N2 lR;clear lR));(all_goals (first|(revert F2 N2;revert dx hA kx;refine eps3 eN eH eN ?_;generalize q31 _ = dx, q32 _ = hA, q33 _ = kx;refine hold3 ?_;intro F2 N2)|skip)))
  k_with "subscriptTail Name Constant ref int" => (k_here;k_dflt (refine' m_sub (by k_asm) (by k_mem) (by first|decide|fail) (by first|decide|fail) (by first|exact rfl|fail) ?_);k_whole)
  k_with "m call" => ((((with_reducible show wpAny _ _ (call (Value.ref 844) _) _ _ _);k_dflt (refine' ctrP_use (by k_asm) (by k_asm) (by k_asm) (by k_asm) (by k_asm) (by first|exact rfl|assumption) (by ktr_room) (by ktr_units) (walk w fa dx qs nf kx _ _ hfr (bools8 _ _ hb) (len33 hbl)) (by exact st7_own hq5 hq7) ?_;k_whole;intro v9 new9 h9 tk9 hp9 F9 N9;(obtain ⟨wa, rfl⟩ := walk_ref hp9);(try simp only [List.cons_append, List.nil_append] at N9);(try dsimp only);skip)));(all_goals (first|(revert F9 N9 hp9;revert new9 h9 tk9 wa;refine eps4 eL eH eN eN ?_;generalize q41 _ = new9, q42 _ = h9, q43 _ = tk9, q44 _ = wa;refine hold4 ?_;intro F9 N9 hp9)|skip)))
  k_with "compareOp Eq ref ref" => (k_here;(with_reducible rename News _ _ _ _ => Nz);k_dflt (refine' m_eqD Nz (st7_dat hR) st7_sub hp9 (fun q hq => List.mem_append_left _ hq) (walkD_ok _ _) (by ktr_units) ?_);k_whole)
  with_reducible refine law_cut _ (by decide) ?_
  conv in (stN (defB _) _) => whnf
  generalize hT9 : List.drop _ (defB lawS) = tl9
  skip
  revert m8 m9 hq8 hq9 hT9; revert o8 o7 tl9; refine eps3 eAV eAV eLSt ?_; generalize q31 _ = o8, q32 _ = o7, q33 _ = tl9; refine hold3 ?_; intro m8 m9 hq8 hq9 hT9
  repeat' (first | (k_unfold; (try dsimp only)) | walk1 | (dsimp only; walk1) | (dsimp only; with_reducible refine lpost_brk ?_; try dsimp only) | (dsimp only; with_reducible refine lpost_ret ?_; try dsimp only))
  all_goals (try k_data)
  all_goals first
    | ((with_reducible rename News _ _ _ _ => Nz); exact hret _ _ _ _ (by assumption) Nz (st7_grown Nz hq8 hq9))
  k_with_none
  k_with "om" => (with_reducible first|assumption|exact rm1 (by assumption) rfl|exact rm0 (by assumption)|exact Nat.le_of_lt (by assumption)|exact Nat.le_add_right _ _|exact Nat.le_add_left _ _|exact Nat.lt_succ_self _|exact Nat.succ_pos _|exact Nat.lt_of_not_le (by assumption)|exact Nat.le_of_not_lt (by assumption)|exact Nat.le_of_not_le (by assumption)|exact Nat.le_of_lt (Nat.lt_of_not_le (by assumption))|exact lt_i (by assumption)|exact nlt_i (by assumption)|exact nneg_i|exact le_big (by assumption) rfl|exact Nat.le_of_succ_le_succ (by assumption)|exact Nat.eq_zero_of_le_zero (by assumption)|exact Nat.add_comm _ _)
end Mine
end
section
namespace Mine
theorem law1 (w : World) (xs : List Nat) : LawTail w 1 (J1 xs) := @st1 w xs (@st2 w xs (@st3 w xs (@st4 w xs (@st5 w xs (@st6 w xs (@st7 w xs))))))
theorem ghostT {w : World} {h : Heap} (X : (K w.params).In h) (hT : ∀ P ∈ [801, 775], h.get? P = some (tabObj #[])) : TabsAt [(805, 801), (777, 775)] h :=
  List.forall_mem_cons.mpr ⟨⟨codeHd_of_K (c := 805) (P := 801) X (by kernel_rfl), hT 801 (by simp)⟩, List.forall_mem_cons.mpr ⟨⟨codeHd_of_K (c := 777) (P := 775) X (by kernel_rfl), hT 775 (by simp)⟩, fun _ h => nomatch h⟩⟩
theorem final : PySem.Challenge.rw_in0150_01.Holds := by
  refine holds_law ws fun said => ?_
  refine holds_open (r := PySem.Challenge.rw_in0150_01.row) (q := qv) (loose := loose0) (Xt := Xt0) (XP := XL qv []) (Yf := hook0.obs) (Ya := hook0.val) (YP := (kmHook K kAs kAs_eq [801, 775]).says) (N := 6000) left0 hook0.of hook0.keeps (fun s e => xl_of s (Bool.and_eq_true_iff.mp e).1) XL.keeps (by rfl) (by rfl) (by rfl) (fun s e => recFacts_of (Bool.and_eq_true_iff.mp e).2) (by rfl) said ?ok bare0 ?hw ?hc
  case ok => exact look_both (look_both ok2 ok1) ok3
  case hw => w_witness2
  w_strict (k_go0; (with_reducible rename (kmHook _ _ _ _).says _ _ => Y9); (have X9 := km_in_of Y9); (have T9 := ghostT X9 (km_tabs_of Y9)); (with_reducible rename Top qv _ _ _ _ _ => Tq9); (have TQ9 := ghostQ X9 T9 Tq9); (clear Tq9); (k_dflt (show wpAny (model P0 _) _ _ _ _ _)); (k_dflt (show wpAny _ (ktrTop _ _ _ "law" _ _ _ _ _ []) _ _ _ _)); (k_dflt (show wpAny _ _ (execs (List.drop 0 (defB lawS)) _) _ _ _)); (k_dflt (show wpAny _ _ (execs _ (envOfC "law" (defS lawS) _ _ _)) _ _ _)); (k_dflt (show wpAny _ (ktrTop _ _ _ "law" (defS lawS) _ _ _ (cellsFrom _ (defS lawS).names []) []) _ _ _ _));  (refine' @st0 _ (fun xs => @law1 _ xs) rfl _ _ _ _ _ _ _ _ callerA _ _ ?mm _ ?sc ?sv ?ns ?o1 ?o2 ?o3 _ _ ?kB ?kF ?kX ?kN TQ9 ?c1 ?c2 ?hd ?hu ?kl ?ki ?hz ?hs ?h1 ?h2 ?h3 ?hr ?hE); (case' kB => assumption); (case' kF => assumption); (case' kX => assumption); (case' kN => assumption); (case' c1 => assumption); (case' c2 => assumption); (case' kl => assumption); (case' ki => assumption);  (case' hr => intro h9 tk9 m9 n9 F9 N9 G9; (dsimp only); (refine And.intro ?_ G9); (k_dflt (refine' goodW_bool (hos := ?ho) ?ga ?gb (raisesW_false ?gc) ?gd)); (case' ho => exact rfl); (case' ga => exact F9); (case' gb => assumption); (case' gc => wrow_none_raised); (case' gd => wrow_post));  (case' hd => k_dflt decide); (case' hu => k_dflt decide); (case' hz => (with_reducible rename IntsAre _ _ => hi9); (have z9 := ints_len hi9); omega); (case' hs => k_dflt (exact rfl)); (case' hE => k_dflt passes_own); (case' h1 => k_dflt (first | assumption | exact And.left (by assumption))); (case' h2 => k_dflt (first | assumption | exact And.left (by assumption))); (case' h3 => k_dflt (first | assumption | exact And.left (by assumption))))
end Mine
end
end
theorem PySem.Challenge.cw_in0150_01_holds : PySem.Challenge.rw_in0150_01.Holds :=
  Mine.final
