import PyProof.Rows.All
import Wide.All
import OpenK.AllK
import Wide.FinOn
import PyProof.IsiH_list
import Lean
import PySem.Challenge.RW_rt0042_01
set_option Elab.async false
section
open PySem PySem.W PySem.Calls PyProof.Rows
namespace Mine
/-- the top's run, its heap in a tree -/
def runTop (stp : SharedT → Thread → Option (SharedT × Thread)) (okf : Thread → Bool) : Nat → SharedT → Thread → Option SharedT
  | 0, _, _ => none
  | n + 1, s, t => match through t with
    | true => some s
    | false => match okf t with
      | false => none
      | true => match stp s t with
        | some (s', t') => runTop stp okf n s' t'
        | none => none
theorem runTop_of {tb : String → Option Builtin} {p : Program} {w : World} {n₀ : Nat} {ann : Option Value} : ∀ {n : Nat} {s s' : SharedT} {t : Thread}, runTop (stepT (denote tb) p w) (stepOk n₀ ann) n s t = some s' → topRun tb p w n₀ ann n s.abs t = some s'.abs
  | 0, _, _, _, h => by cases h
  | n + 1, s, s', t, h => by
    unfold runTop at h
    unfold topRun
    cases he : through t with
    | true => rw [he] at h; cases h; rfl
    | false =>
      rw [he] at h
      cases hk : stepOk n₀ ann t with
      | false => rw [hk] at h; cases h
      | true =>
        rw [hk] at h
        cases hs : stepT (denote tb) p w s t with
        | none => rw [hs] at h; cases h
        | some r => obtain ⟨s₂, t₂⟩ := r; rw [hs] at h; rw [stepT_spec hs]; exact runTop_of h
/-- the opening's run, its heap in a tree -/
def runImp (stp : SharedT → Thread → Option (SharedT × Thread)) (ex : Thread → Option (List Value)) : Nat → SharedT → Thread → Option SharedT
  | 0, _, _ => none
  | n + 1, s, t => match ex t with
    | some [] => some s
    | some (_ :: _) => none
    | none => match stp s t with
      | some (s', t') => runImp stp ex n s' t'
      | none => none
theorem runImp_of {tb : String → Option Builtin} {p : Program} {w : World} : ∀ {n : Nat} {s s' : SharedT} {t : Thread}, runImp (stepT (denote tb) p w) Thread.atExitBegin n s t = some s' → importEnds tb p w n s.abs t = some s'.abs
  | 0, _, _, _, h => by cases h
  | n + 1, s, s', t, h => by
    unfold runImp at h
    unfold importEnds
    cases he : t.atExitBegin with
    | some l => rw [he] at h; cases l with
      | nil => cases h; rfl
      | cons a r => cases h
    | none =>
      rw [he] at h
      cases hs : stepT (denote tb) p w s t with
      | none => rw [hs] at h; cases h
      | some r => obtain ⟨s₂, t₂⟩ := r; rw [hs] at h; dsimp only; rw [stepT_spec hs]; exact runImp_of h
def growT : List Obj → BT → Nat → Option BT
  | [], t, _ => some t
  | o :: r, t, n => match ((t.ins n o).get n).isSome with
    | true => growT r (t.ins n o) (n + 1)
    | false => none
theorem growT_abs {life : Life} : ∀ {l : List Obj} {t t' : BT} {n : Nat}, growT l t n = some t' → absHeap t' (n + l.length) life = ⟨(absHeap t n life).objs ++ l.toArray, life⟩
  | [], t, t', n, h => by cases h; simp [absHeap]
  | o :: r, t, t', n, h => by
    unfold growT at h
    cases hg : ((t.ins n o).get n).isSome with
    | false => rw [hg] at h; cases h
    | true =>
      rw [hg] at h
      have e := growT_abs (life := life) h
      rw [List.length_cons, show n + (r.length + 1) = n + 1 + r.length by omega, e, absHeap_ins hg]
      simp [Heap.push]
def toT (s : Shared) : Option SharedT := match growT s.heap.objs.toList .nil 0 with
  | some t => some ⟨t, s.heap.objs.size, s.heap.life, s.gens, s.drawn, s.toks, s.os⟩
  | none => none
theorem toT_abs {s : Shared} {s' : SharedT} (h : toT s = some s') : s'.abs = s := by
  unfold toT at h
  cases hg : growT s.heap.objs.toList .nil 0 with
  | none => rw [hg] at h; cases h
  | some t =>
    rw [hg] at h
    cases h
    have e := growT_abs (life := s.heap.life) hg
    rw [Nat.zero_add, Array.length_toList] at e
    unfold SharedT.abs
    rw [e]
    simp [absHeap, BT.list]
end Mine
end
section
open PySem PySem.W PySem.Calls PyProof.Rows
set_option maxRecDepth 100000
set_option maxHeartbeats 8000000
namespace Mine
def hdQ : Program := view PySem.Challenge.pw_rt0042_01 [0, 2, 3, 4, 5, 6, 8, 9, 11, 12, 14, 15, 17, 18, 19, 20, 21, 22, 23, 24, 25, 26, 27, 28, 29, 30, 31, 32, 33, 34, 35, 36, 37, 38, 39, 40, 42, 43, 44, 45, 46, 47, 48]
abbrev hdLO : List Str := [Str.ofString "_twin_re_1", Str.ofString "_special_chars_map", Str.ofString "_filemode_table"]
def hdRow (n c : Nat) : WData := .tuple [.int n, .str ⟨#[c]⟩]
abbrev hdLV : List (Str × WData) := [(Str.ofString "_filemode_table", .tuple [
  .tuple [hdRow 40960 108, hdRow 49152 115, hdRow 32768 45, hdRow 24576 98, hdRow 16384 100, hdRow 8192 99, hdRow 4096 112],
  .tuple [hdRow 256 114], .tuple [hdRow 128 119], .tuple [hdRow 2112 115, hdRow 2048 83, hdRow 64 120],
  .tuple [hdRow 32 114], .tuple [hdRow 16 119], .tuple [hdRow 1032 115, hdRow 1024 83, hdRow 8 120],
  .tuple [hdRow 4 114], .tuple [hdRow 2 119], .tuple [hdRow 513 116, hdRow 512 84, hdRow 1 120]])]
noncomputable abbrev hdSt := PySem.W.Fast.tw10156331382660048174 (PySem.W.Fast.tw11892475500146522536 PySem.W.Fast.tw14364793385576792824)
theorem hdSt_eq : stepT (denote treeTable) = hdSt := by
  unfold hdSt
  rw [PySem.W.Fast.te10156331382660048174, PySem.W.Fast.te11892475500146522536, PySem.W.Fast.te14364793385576792824]
theorem rows4 (r1 r2 : String) {P : World → Prop} (a : ∀ w : World, P ((w.withFollow r2 false).withFollow r1 false)) (b : ∀ w : World, P ((w.withFollow r2 true).withFollow r1 false)) (c : ∀ w : World, P ((w.withFollow r2 false).withFollow r1 true)) (d : ∀ w : World, P ((w.withFollow r2 true).withFollow r1 true)) (w : World) : P w :=
  byRow2 r1 (fun w => byRow2 r2 (P := fun w => P (w.withFollow r1 false)) a b w) (fun w => byRow2 r2 (P := fun w => P (w.withFollow r1 true)) c d w) w
theorem ws_looks : looksOpen PySem.Challenge.rw_rt0042_01.row.prog = true := by
  unfold looksOpen
  repeat' with_reducible refine look_both ?_ ?_
  all_goals decide +kernel
theorem ws_row : PySem.Challenge.rw_rt0042_01.row.wellSaid = true := by
  unfold OpenRow.wellSaid OpenRow.partSaid
  repeat' with_reducible refine look_both ?_ ?_
  all_goals first | with_reducible exact ws_looks | decide +kernel
theorem ws_law : PySem.Challenge.rw_rt0042_01.wellSaid = true := by
  unfold OpenLaw.wellSaid
  repeat' with_reducible refine look_both ?_ ?_
  all_goals first | with_reducible exact ws_row | decide +kernel
theorem ws_ok : (chainsOk hdQ && opensWell PySem.Challenge.rw_rt0042_01.row.prog && (frees PySem.Challenge.rw_rt0042_01.row.toRowW && PySem.Challenge.rw_rt0042_01.row.within.isEmpty)) = true := by
  repeat' with_reducible refine look_both ?_ ?_
  all_goals decide +kernel
theorem head_both {A B C : Prop} (f : A → B → C) (h : A ∧ B) : C := f h.1 h.2
local macro_rules | `(tactic| o_law) => `(tactic| refine holds_law ws_law fun said => ?_)
local macro_rules | `(tactic| k_qdec) => `(tactic| decide +kernel)
local macro_rules | `(tactic| o_head $H) => `(tactic| (refine head_both (A := LeftO PySem.Challenge.rw_rt0042_01.row.prog hdQ hdLO (fun s => xlAt hdQ hdLV s && recOk (RowW.records PySem.Challenge.rw_rt0042_01.row.toRowW) s) (Hook.obs $H) (Hook.val $H) 4692) (B := WalkO hdQ hdLO (XL hdQ hdLV) (Hook.says $H) PySem.Challenge.rw_rt0042_01.row.toRowW _ _ fun f vs => PySem.call f vs) (fun hl hc => holds_open (q := hdQ) (loose := hdLO) (Xt := fun s => xlAt hdQ hdLV s && recOk (RowW.records PySem.Challenge.rw_rt0042_01.row.toRowW) s) (XP := XL hdQ hdLV) (Yf := Hook.obs $H) (Ya := Hook.val $H) (YP := Hook.says $H) (N := 4692) hl (Hook.of $H) (Hook.keeps $H) (fun s e => xl_of s (Bool.and_eq_true_iff.mp e).1) XL.keeps (by rfl) (by rfl) (by rfl) (fun s e => recFacts_of (Bool.and_eq_true_iff.mp e).2) (by rfl) ws_row ws_ok ⟨rfl, rfl, rfl, rfl, rfl, by decide +kernel⟩ ?hw hc) ?hc))
open_top hd for PySem.Challenge.rw_rt0042_01
end Mine
end
section
open PySem PySem.W PySem.Calls PyProof.Rows
set_option maxRecDepth 100000
set_option maxHeartbeats 8000000
namespace Mine
abbrev pwM : Program := PySem.Challenge.pw_rt0042_01
noncomputable def bM : List Stmt := behindTheImports pwM
noncomputable def fB (k : Nat) : List Stmt := match bM[k]? with | some (.FunctionDef _ _ b ..) => b | _ => []
noncomputable def fA (k : Nat) : Arguments := match bM[k]? with | some (.FunctionDef _ a ..) => a | _ => ⟨[], [], none, [], [], none, []⟩
noncomputable def dS (P : Params) (k : Str) (n : Nat) (v : Value) : DictEntry := .mk (PyData.keyHash P k) (.str k n) v
noncomputable def dE (P : Params) (k : String) (n : Nat) (v : Value) : DictEntry := .mk (PyData.keyHash P (Str.ofString k)) (.str (Str.ofString k) n) v
noncomputable def ob1 (P : Params) : Obj := Obj.mk (Value.type "dict") none (Data.dict #[dE P "builtins" 162 (Value.ref 4), dE P "__main__" 163 (Value.ref 5), dE P "_sre" 244 (Value.ref 12)] 3) #[]
noncomputable def ob2 (P : Params) : Obj := Obj.mk Value.none none (Data.dict #[dS P (Str.mk #[105, 109, 112, 111, 114, 116, 46, 108, 111, 97, 100, 101, 100, 46, 95, 115, 114, 101]) 183 (Value.bool true), dE P "class._frozen_importlib.BuiltinImporter" 185 (Value.ref 14), dS P (Str.mk #[119, 97, 116, 99, 104, 101, 100, 46, 105, 109, 112, 111, 114, 116]) 206 (Value.ref 18), dE P "class._frozen_importlib.ModuleSpec" 216 (Value.ref 22), dE P "sys.modules.booked-epoch" 245 (Value.int 3 0), dS P (Str.mk #[105, 109, 112, 111, 114, 116, 46, 108, 97, 116, 101, 114, 45, 108, 97, 105, 100, 46, 95, 115, 114, 101]) 270 (Value.bool true), dE P "watched.library" 272 (Value.ref 27), dE P "watched.library-objects" 0 (Value.str (Str.mk (Array.mk [12])) 0), dE P "watched.library-deep._sre" 273 (Value.str (Str.mk (Array.mk [4, 0, 0, 11, 4, 0, 0, 11, 4, 0, 0, 3, 4, 0, 0, 11, 8, 4, 100, 105, 99, 116, 2])) 0)] 9) #[]
noncomputable def ob3 (P : Params) : Obj := Obj.mk (Value.type "dict") none (Data.dict #[dE P "__name__" 165 (Value.str (Str.ofString "__main__") 164), dE P "__doc__" 166 Value.none, dE P "__package__" 167 Value.none, dE P "__loader__" 168 (Value.builtin "__main__.__loader__#opaque"), dE P "__spec__" 169 Value.none, dE P "__annotations__" 170 (Value.ref 6), dE P "__builtins__" 171 (Value.ref 4), dE P "__file__" 173 (Value.str (Str.ofString "/claim/cut.py") 172), dE P "__cached__" 174 Value.none, dE P "_sre" 275 (Value.ref 12)] 10) #[]
noncomputable def ob11 (P : Params) : Obj := Obj.mk (Value.type "dict") none (Data.dict #[dE P "__name__" 247 (Value.str (Str.ofString "_sre") 246), dE P "__doc__" 248 Value.none, dE P "__package__" 250 (Value.str (Str.ofString "") 249), dE P "__loader__" 251 (Value.builtin "off-the-table:_sre.__loader__:shared#opaque"), dE P "__spec__" 252 (Value.builtin "off-the-table:_sre.__spec__:shared#opaque"), dE P "compile" 253 (Value.builtin "_sre.compile"), dE P "template" 254 (Value.builtin "off-the-table:_sre.template:shared#opaque"), dE P "getcodesize" 255 (Value.builtin "off-the-table:_sre.getcodesize:shared#opaque"), dE P "ascii_iscased" 256 (Value.builtin "off-the-table:_sre.ascii_iscased:shared#opaque"), dE P "unicode_iscased" 257 (Value.builtin "off-the-table:_sre.unicode_iscased:shared#opaque"), dE P "ascii_tolower" 258 (Value.builtin "off-the-table:_sre.ascii_tolower:shared#opaque"), dE P "unicode_tolower" 259 (Value.builtin "off-the-table:_sre.unicode_tolower:shared#opaque"), dE P "MAGIC" 261 (Value.int 20230612 260), dE P "CODESIZE" 263 (Value.int 4 262), dE P "MAXREPEAT" 265 (Value.int 4294967295 264), dE P "MAXGROUPS" 267 (Value.int 1073741823 266), dE P "copyright" 269 (Value.str (Str.mk (Array.mk [32, 83, 82, 69, 32, 50, 46, 50, 46, 50, 32, 67, 111, 112, 121, 114, 105, 103, 104, 116, 32, 40, 99, 41, 32, 49, 57, 57, 55, 45, 50, 48, 48, 50, 32, 98, 121, 32, 83, 101, 99, 114, 101, 116, 32, 76, 97, 98, 115, 32, 65, 66, 32])) 268)] 17) #[]
noncomputable def ob12 (_ : Params) : Obj := Obj.mk (Value.type "module") (some 11) Data.plain #[]
noncomputable def ob13 (P : Params) : Obj := Obj.mk (Value.type "dict") none (Data.dict #[dE P "__module__" 189 (Value.str (Str.ofString "_frozen_importlib") 186), dE P "__firstlineno__" 190 (Value.int 971 187), dE P "__doc__" 191 (Value.builtin "_frozen_importlib.BuiltinImporter.__doc__:str#opaque"), dE P "_ORIGIN" 192 (Value.str (Str.ofString "built-in") 188), dE P "find_spec" 193 (Value.builtin "_frozen_importlib.BuiltinImporter.find_spec#opaque"), dE P "create_module" 194 (Value.builtin "_frozen_importlib.BuiltinImporter.create_module#opaque"), dE P "exec_module" 195 (Value.builtin "_frozen_importlib.BuiltinImporter.exec_module#opaque"), dE P "get_code" 196 (Value.builtin "_frozen_importlib.BuiltinImporter.get_code#opaque"), dE P "get_source" 197 (Value.builtin "_frozen_importlib.BuiltinImporter.get_source#opaque"), dE P "is_package" 198 (Value.builtin "_frozen_importlib.BuiltinImporter.is_package#opaque"), dE P "load_module" 199 (Value.builtin "_frozen_importlib.BuiltinImporter.load_module#opaque"), dE P "__static_attributes__" 200 (Value.ref 15), dE P "__dict__" 202 (Value.ref 16), dE P "__weakref__" 204 (Value.ref 17)] 14) #[]
noncomputable def ob14 (_ : Params) : Obj := Obj.mk (Value.type "type") none (Data.cls (ClassData.mk (Str.ofString "BuiltinImporter") [Value.type "object"] [Value.ref 14, Value.type "object"] 13 (Str.ofString "BuiltinImporter") true [] [] false none false)) #[]
noncomputable def ob16 (_ : Params) : Obj := Obj.mk (Value.type "getset_descriptor") none (Data.fields #[Value.str (Str.ofString "__dict__") 201, Value.ref 14, Value.builtin "function.__dict__", Value.builtin "function.__dict__#set"]) #[]
noncomputable def ob17 (_ : Params) : Obj := Obj.mk (Value.type "getset_descriptor") none (Data.fields #[Value.str (Str.ofString "__weakref__") 203, Value.ref 14, Value.builtin "ExceptionGroup.__weakref__", Value.none]) #[]
noncomputable def ob18 (_ : Params) : Obj := Obj.mk Value.none none (Data.seq #[Value.int 13 0, Value.str (Str.mk (Array.mk [6, 189, 10, 95, 95, 109, 111, 100, 117, 108, 101, 95, 95, 6, 186, 17, 95, 102, 114, 111, 122, 101, 110, 95, 105, 109, 112, 111, 114, 116, 108, 105, 98, 6, 190, 15, 95, 95, 102, 105, 114, 115, 116, 108, 105, 110, 101, 110, 111, 95, 95, 4, 187, 0, 971, 6, 191, 7, 95, 95, 100, 111, 99, 95, 95, 9, 52, 95, 102, 114, 111, 122, 101, 110, 95, 105, 109, 112, 111, 114, 116, 108, 105, 98, 46, 66, 117, 105, 108, 116, 105, 110, 73, 109, 112, 111, 114, 116, 101, 114, 46, 95, 95, 100, 111, 99, 95, 95, 58, 115, 116, 114, 35, 111, 112, 97, 113, 117, 101, 6, 192, 7, 95, 79, 82, 73, 71, 73, 78, 6, 188, 8, 98, 117, 105, 108, 116, 45, 105, 110, 6, 193, 9, 102, 105, 110, 100, 95, 115, 112, 101, 99, 9, 50, 95, 102, 114, 111, 122, 101, 110, 95, 105, 109, 112, 111, 114, 116, 108, 105, 98, 46, 66, 117, 105, 108, 116, 105, 110, 73, 109, 112, 111, 114, 116, 101, 114, 46, 102, 105, 110, 100, 95, 115, 112, 101, 99, 35, 111, 112, 97, 113, 117, 101, 6, 194, 13, 99, 114, 101, 97, 116, 101, 95, 109, 111, 100, 117, 108, 101, 9, 54, 95, 102, 114, 111, 122, 101, 110, 95, 105, 109, 112, 111, 114, 116, 108, 105, 98, 46, 66, 117, 105, 108, 116, 105, 110, 73, 109, 112, 111, 114, 116, 101, 114, 46, 99, 114, 101, 97, 116, 101, 95, 109, 111, 100, 117, 108, 101, 35, 111, 112, 97, 113, 117, 101, 6, 195, 11, 101, 120, 101, 99, 95, 109, 111, 100, 117, 108, 101, 9, 52, 95, 102, 114, 111, 122, 101, 110, 95, 105, 109, 112, 111, 114, 116, 108, 105, 98, 46, 66, 117, 105, 108, 116, 105, 110, 73, 109, 112, 111, 114, 116, 101, 114, 46, 101, 120, 101, 99, 95, 109, 111, 100, 117, 108, 101, 35, 111, 112, 97, 113, 117, 101, 6, 196, 8, 103, 101, 116, 95, 99, 111, 100, 101, 9, 49, 95, 102, 114, 111, 122, 101, 110, 95, 105, 109, 112, 111, 114, 116, 108, 105, 98, 46, 66, 117, 105, 108, 116, 105, 110, 73, 109, 112, 111, 114, 116, 101, 114, 46, 103, 101, 116, 95, 99, 111, 100, 101, 35, 111, 112, 97, 113, 117, 101, 6, 197, 10, 103, 101, 116, 95, 115, 111, 117, 114, 99, 101, 9, 51, 95, 102, 114, 111, 122, 101, 110, 95, 105, 109, 112, 111, 114, 116, 108, 105, 98, 46, 66, 117, 105, 108, 116, 105, 110, 73, 109, 112, 111, 114, 116, 101, 114, 46, 103, 101, 116, 95, 115, 111, 117, 114, 99, 101, 35, 111, 112, 97, 113, 117, 101, 6, 198, 10, 105, 115, 95, 112, 97, 99, 107, 97, 103, 101, 9, 51, 95, 102, 114, 111, 122, 101, 110, 95, 105, 109, 112, 111, 114, 116, 108, 105, 98, 46, 66, 117, 105, 108, 116, 105, 110, 73, 109, 112, 111, 114, 116, 101, 114, 46, 105, 115, 95, 112, 97, 99, 107, 97, 103, 101, 35, 111, 112, 97, 113, 117, 101, 6, 199, 11, 108, 111, 97, 100, 95, 109, 111, 100, 117, 108, 101, 9, 52, 95, 102, 114, 111, 122, 101, 110, 95, 105, 109, 112, 111, 114, 116, 108, 105, 98, 46, 66, 117, 105, 108, 116, 105, 110, 73, 109, 112, 111, 114, 116, 101, 114, 46, 108, 111, 97, 100, 95, 109, 111, 100, 117, 108, 101, 35, 111, 112, 97, 113, 117, 101, 6, 200, 21, 95, 95, 115, 116, 97, 116, 105, 99, 95, 97, 116, 116, 114, 105, 98, 117, 116, 101, 115, 95, 95, 4, 0, 0, 15, 6, 202, 8, 95, 95, 100, 105, 99, 116, 95, 95, 4, 0, 0, 16, 6, 204, 11, 95, 95, 119, 101, 97, 107, 114, 101, 102, 95, 95, 4, 0, 0, 17])) 0, Value.bool true, Value.bool true, Value.str (Str.ofString "") 205, Value.int 21 0, Value.str (Str.mk (Array.mk [6, 227, 10, 95, 95, 109, 111, 100, 117, 108, 101, 95, 95, 6, 217, 17, 95, 102, 114, 111, 122, 101, 110, 95, 105, 109, 112, 111, 114, 116, 108, 105, 98, 6, 228, 15, 95, 95, 102, 105, 114, 115, 116, 108, 105, 110, 101, 110, 111, 95, 95, 4, 218, 0, 562, 6, 229, 7, 95, 95, 100, 111, 99, 95, 95, 9, 47, 95, 102, 114, 111, 122, 101, 110, 95, 105, 109, 112, 111, 114, 116, 108, 105, 98, 46, 77, 111, 100, 117, 108, 101, 83, 112, 101, 99, 46, 95, 95, 100, 111, 99, 95, 95, 58, 115, 116, 114, 35, 111, 112, 97, 113, 117, 101, 6, 230, 8, 95, 95, 105, 110, 105, 116, 95, 95, 9, 44, 95, 102, 114, 111, 122, 101, 110, 95, 105, 109, 112, 111, 114, 116, 108, 105, 98, 46, 77, 111, 100, 117, 108, 101, 83, 112, 101, 99, 46, 95, 95, 105, 110, 105, 116, 95, 95, 35, 111, 112, 97, 113, 117, 101, 6, 231, 8, 95, 95, 114, 101, 112, 114, 95, 95, 9, 44, 95, 102, 114, 111, 122, 101, 110, 95, 105, 109, 112, 111, 114, 116, 108, 105, 98, 46, 77, 111, 100, 117, 108, 101, 83, 112, 101, 99, 46, 95, 95, 114, 101, 112, 114, 95, 95, 35, 111, 112, 97, 113, 117, 101, 6, 232, 6, 95, 95, 101, 113, 95, 95, 9, 42, 95, 102, 114, 111, 122, 101, 110, 95, 105, 109, 112, 111, 114, 116, 108, 105, 98, 46, 77, 111, 100, 117, 108, 101, 83, 112, 101, 99, 46, 95, 95, 101, 113, 95, 95, 35, 111, 112, 97, 113, 117, 101, 6, 233, 6, 99, 97, 99, 104, 101, 100, 9, 42, 95, 102, 114, 111, 122, 101, 110, 95, 105, 109, 112, 111, 114, 116, 108, 105, 98, 46, 77, 111, 100, 117, 108, 101, 83, 112, 101, 99, 46, 99, 97, 99, 104, 101, 100, 35, 111, 112, 97, 113, 117, 101, 6, 234, 6, 112, 97, 114, 101, 110, 116, 9, 42, 95, 102, 114, 111, 122, 101, 110, 95, 105, 109, 112, 111, 114, 116, 108, 105, 98, 46, 77, 111, 100, 117, 108, 101, 83, 112, 101, 99, 46, 112, 97, 114, 101, 110, 116, 35, 111, 112, 97, 113, 117, 101, 6, 235, 12, 104, 97, 115, 95, 108, 111, 99, 97, 116, 105, 111, 110, 9, 48, 95, 102, 114, 111, 122, 101, 110, 95, 105, 109, 112, 111, 114, 116, 108, 105, 98, 46, 77, 111, 100, 117, 108, 101, 83, 112, 101, 99, 46, 104, 97, 115, 95, 108, 111, 99, 97, 116, 105, 111, 110, 35, 111, 112, 97, 113, 117, 101, 6, 236, 21, 95, 95, 115, 116, 97, 116, 105, 99, 95, 97, 116, 116, 114, 105, 98, 117, 116, 101, 115, 95, 95, 4, 0, 0, 23, 6, 238, 8, 95, 95, 100, 105, 99, 116, 95, 95, 4, 0, 0, 24, 6, 240, 11, 95, 95, 119, 101, 97, 107, 114, 101, 102, 95, 95, 4, 0, 0, 25, 6, 241, 8, 95, 95, 104, 97, 115, 104, 95, 95, 0])) 0, Value.bool true, Value.bool true, Value.str (Str.ofString "") 242] 1) #[]
noncomputable def ob19 (_ : Params) : Obj := Obj.mk (Value.type "list") none (Data.seq #[]) #[]
noncomputable def ob20 (P : Params) : Obj := Obj.mk (Value.type "dict") none (Data.dict #[dE P "name" 208 (Value.str (Str.ofString "_sre") 207), dE P "loader" 209 (Value.ref 14), dE P "origin" 210 (Value.str (Str.ofString "built-in") 184), dE P "loader_state" 211 Value.none, dE P "submodule_search_locations" 212 Value.none, dE P "_uninitialized_submodules" 213 (Value.ref 19), dE P "_set_fileattr" 214 (Value.bool false), dE P "_cached" 215 Value.none, dE P "_initializing" 243 (Value.bool false)] 9) #[]
noncomputable def ob21 (P : Params) : Obj := Obj.mk (Value.type "dict") none (Data.dict #[dE P "__module__" 227 (Value.str (Str.ofString "_frozen_importlib") 217), dE P "__firstlineno__" 228 (Value.int 562 218), dE P "__doc__" 229 (Value.builtin "_frozen_importlib.ModuleSpec.__doc__:str#opaque"), dE P "__init__" 230 (Value.builtin "_frozen_importlib.ModuleSpec.__init__#opaque"), dE P "__repr__" 231 (Value.builtin "_frozen_importlib.ModuleSpec.__repr__#opaque"), dE P "__eq__" 232 (Value.builtin "_frozen_importlib.ModuleSpec.__eq__#opaque"), dE P "cached" 233 (Value.builtin "_frozen_importlib.ModuleSpec.cached#opaque"), dE P "parent" 234 (Value.builtin "_frozen_importlib.ModuleSpec.parent#opaque"), dE P "has_location" 235 (Value.builtin "_frozen_importlib.ModuleSpec.has_location#opaque"), dE P "__static_attributes__" 236 (Value.ref 23), dE P "__dict__" 238 (Value.ref 24), dE P "__weakref__" 240 (Value.ref 25), dE P "__hash__" 241 Value.none] 13) #[]
noncomputable def ob22 (_ : Params) : Obj := Obj.mk (Value.type "type") none (Data.cls (ClassData.mk (Str.ofString "ModuleSpec") [Value.type "object"] [Value.ref 22, Value.type "object"] 21 (Str.ofString "ModuleSpec") true [] [] false none false)) #[]
noncomputable def ob23 (_ : Params) : Obj := Obj.mk (Value.type "tuple") none (Data.seq #[Value.str (Str.ofString "_cached") 219, Value.str (Str.ofString "_set_fileattr") 220, Value.str (Str.ofString "_uninitialized_submodules") 221, Value.str (Str.ofString "loader") 222, Value.str (Str.ofString "loader_state") 223, Value.str (Str.ofString "name") 224, Value.str (Str.ofString "origin") 225, Value.str (Str.ofString "submodule_search_locations") 226]) #[]
noncomputable def ob24 (_ : Params) : Obj := Obj.mk (Value.type "getset_descriptor") none (Data.fields #[Value.str (Str.ofString "__dict__") 237, Value.ref 22, Value.builtin "function.__dict__", Value.builtin "function.__dict__#set"]) #[]
noncomputable def ob25 (_ : Params) : Obj := Obj.mk (Value.type "getset_descriptor") none (Data.fields #[Value.str (Str.ofString "__weakref__") 239, Value.ref 22, Value.builtin "ExceptionGroup.__weakref__", Value.none]) #[]
noncomputable def ob26 (_ : Params) : Obj := Obj.mk (Value.ref 22) (some 20) Data.plain #[]
noncomputable def ob27 (_ : Params) : Obj := Obj.mk Value.none none (Data.seq #[Value.int 11 0, Value.str (Str.mk #[6, 247, 8, 95, 95, 110, 97, 109, 101, 95, 95, 6, 246, 4, 95, 115, 114, 101, 6, 248, 7, 95, 95, 100, 111, 99, 95, 95, 0, 6, 250, 11, 95, 95, 112, 97, 99, 107, 97, 103, 101, 95, 95, 6, 249, 0, 6, 251, 10, 95, 95, 108, 111, 97, 100, 101, 114, 95, 95, 4, 0, 0, 14, 6, 252, 8, 95, 95, 115, 112, 101, 99, 95, 95, 4, 0, 0, 26, 6, 253, 7, 99, 111, 109, 112, 105, 108, 101, 9, 12, 95, 115, 114, 101, 46, 99, 111, 109, 112, 105, 108, 101, 6, 254, 8, 116, 101, 109, 112, 108, 97, 116, 101, 9, 13, 95, 115, 114, 101, 46, 116, 101, 109, 112, 108, 97, 116, 101, 6, 255, 11, 103, 101, 116, 99, 111, 100, 101, 115, 105, 122, 101, 9, 16, 95, 115, 114, 101, 46, 103, 101, 116, 99, 111, 100, 101, 115, 105, 122, 101, 6, 256, 13, 97, 115, 99, 105, 105, 95, 105, 115, 99, 97, 115, 101, 100, 9, 18, 95, 115, 114, 101, 46, 97, 115, 99, 105, 105, 95, 105, 115, 99, 97, 115, 101, 100, 6, 257, 15, 117, 110, 105, 99, 111, 100, 101, 95, 105, 115, 99, 97, 115, 101, 100, 9, 20, 95, 115, 114, 101, 46, 117, 110, 105, 99, 111, 100, 101, 95, 105, 115, 99, 97, 115, 101, 100, 6, 258, 13, 97, 115, 99, 105, 105, 95, 116, 111, 108, 111, 119, 101, 114, 9, 18, 95, 115, 114, 101, 46, 97, 115, 99, 105, 105, 95, 116, 111, 108, 111, 119, 101, 114, 6, 259, 15, 117, 110, 105, 99, 111, 100, 101, 95, 116, 111, 108, 111, 119, 101, 114, 9, 20, 95, 115, 114, 101, 46, 117, 110, 105, 99, 111, 100, 101, 95, 116, 111, 108, 111, 119, 101, 114, 6, 261, 5, 77, 65, 71, 73, 67, 4, 260, 0, 20230612, 6, 263, 8, 67, 79, 68, 69, 83, 73, 90, 69, 4, 262, 0, 4, 6, 265, 9, 77, 65, 88, 82, 69, 80, 69, 65, 84, 4, 264, 0, 4294967295, 6, 267, 9, 77, 65, 88, 71, 82, 79, 85, 80, 83, 4, 266, 0, 1073741823, 6, 269, 9, 99, 111, 112, 121, 114, 105, 103, 104, 116, 6, 268, 53, 32, 83, 82, 69, 32, 50, 46, 50, 46, 50, 32, 67, 111, 112, 121, 114, 105, 103, 104, 116, 32, 40, 99, 41, 32, 49, 57, 57, 55, 45, 50, 48, 48, 50, 32, 98, 121, 32, 83, 101, 99, 114, 101, 116, 32, 76, 97, 98, 115, 32, 65, 66, 32]) 0, Value.bool true, Value.bool false, Value.str (Str.ofString "_sre") 271]) #[]
noncomputable def tree0 (P : Params) : BT := (.node (boot_o_0 P) (.node (ob1 P) (.node (ob3 P) (.node (boot_o_7 P) (.node (boot_o_7 P) .nil .nil) (.node (ob23 P) .nil .nil)) (.node (ob11 P) (.node (ob19 P) .nil .nil) (.node (ob27 P) .nil .nil))) (.node (boot_o_5 P) (.node (boot_o_9 P) (.node (ob17 P) .nil .nil) (.node (ob25 P) .nil .nil)) (.node (ob13 P) (.node (ob21 P) .nil .nil) .nil))) (.node (ob2 P) (.node (boot_o_4 P) (.node (boot_o_8 P) (.node (ob16 P) .nil .nil) (.node (ob24 P) .nil .nil)) (.node (ob12 P) (.node (ob20 P) .nil .nil) .nil)) (.node (boot_o_6 P) (.node (boot_o_10 P) (.node (ob18 P) .nil .nil) (.node (ob26 P) .nil .nil)) (.node (ob14 P) (.node (ob22 P) .nil .nil) .nil))))
noncomputable def life0 : Life := Life.mk [] [] [] 0 [] [] false #[] [] 0 false false false 0 [2000, 10, 10] false 0 true [] [] 0 false
noncomputable def stT0 (w : World) (os : OsState) : SharedT := ⟨tree0 w.params, 28, life0, #[], Drawn.mk 0 0 0 0, 276, os⟩
noncomputable def ob30 (_ : Params) : Obj := Obj.mk (Value.type "code") none (Data.fields #[Value.str (Str.ofString "<module>") 277, Value.str (Str.ofString "<module>") 278, Value.str (Str.ofString "/claim/cut.py") 279, Value.int 1 0, Value.int 0 0, Value.int 0 0, Value.int 0 0, Value.int 0 0, Value.ref 28, Value.bool false, Value.int 276 0, Value.ref 29, Value.none, Value.none, Value.none, Value.none, Value.int 280 0, Value.int 1 0, Value.str (Str.ofString "/claim/cut.py") 281]) #[]
noncomputable def ob31 (_ : Params) : Obj := Obj.mk (Value.type "frame") none Data.plain #[some (Value.ref 30), some (Value.ref 3), some (Value.ref 3), none, some (Value.str (Str.ofString "__main__") 164), none, some (Value.ref 0)]
noncomputable def tree2 (P : Params) : BT := (.node (boot_o_0 P) (.node (ob1 P) (.node (ob3 P) (.node (boot_o_7 P) (.node (boot_o_7 P) (.node (ob31 P) .nil .nil) .nil) (.node (ob23 P) .nil .nil)) (.node (ob11 P) (.node (ob19 P) .nil .nil) (.node (ob27 P) .nil .nil))) (.node (boot_o_5 P) (.node (boot_o_9 P) (.node (ob17 P) .nil .nil) (.node (ob25 P) .nil .nil)) (.node (ob13 P) (.node (ob21 P) .nil .nil) (.node (boot_o_8 P) .nil .nil)))) (.node (ob2 P) (.node (boot_o_4 P) (.node (boot_o_8 P) (.node (ob16 P) .nil .nil) (.node (ob24 P) .nil .nil)) (.node (ob12 P) (.node (ob20 P) .nil .nil) (.node (boot_o_7 P) .nil .nil))) (.node (boot_o_6 P) (.node (boot_o_10 P) (.node (ob18 P) .nil .nil) (.node (ob26 P) .nil .nil)) (.node (ob14 P) (.node (ob22 P) .nil .nil) (.node (ob30 P) .nil .nil)))))
noncomputable def stT2 (w : World) (os : OsState) : SharedT := ⟨tree2 w.params, 32, life0, #[], Drawn.mk 0 0 0 0, 282, os⟩
noncomputable def ob3_3 (P : Params) : Obj := Obj.mk (Value.type "dict") none (Data.dict #[dE P "__name__" 165 (Value.str (Str.ofString "re") 367), dE P "__doc__" 166 Value.none, dE P "__package__" 167 Value.none, dE P "__loader__" 168 (Value.builtin "__main__.__loader__#opaque"), dE P "__spec__" 169 Value.none, dE P "__annotations__" 170 (Value.ref 6), dE P "__builtins__" 171 (Value.ref 4), dE P "__file__" 173 (Value.str (Str.ofString "/claim/cut.py") 172), dE P "__cached__" 174 Value.none, dE P "_sre" 275 (Value.ref 12), dE P "_MAX_STRING_SIZE" 285 (Value.int 40 284), dE P "_MOVE_COST" 287 (Value.int 2 286), dE P "_CASE_COST" 289 (Value.int 1 288), dE P "_substitution_cost" 297 (Value.ref 38), dE P "_levenshtein_distance" 317 (Value.ref 45), dE P "_twin_re_1" 357 (Value.ref 50), dE P "translate" 366 (Value.ref 57)] 17) #[]
noncomputable def ob29_3 (_ : Params) : Obj := Obj.mk Value.none none (Data.fields #[Value.int 6 0, Value.int 0 0, Value.ref 37, Value.int 12 0, Value.int 0 0, Value.ref 44, Value.int 52 0, Value.int 0 0, Value.ref 56]) #[]
noncomputable def ob34 (_ : Params) : Obj := Obj.mk (Value.type "tuple") none (Data.seq #[Value.str (Str.ofString "ch_a") 293, Value.str (Str.ofString "ch_b") 294]) #[]
noncomputable def ob36 (_ : Params) : Obj := Obj.mk Value.none none (Data.func (FuncData.mk (Str.ofString "_substitution_cost") (Str.ofString "_substitution_cost") (fA 4) (FuncBody.stmts (fB 4)) (Scope.mk ScopeKind.function [(Str.ofString "ch_a", NameKind.local), (Str.ofString "ch_b", NameKind.local), (Str.ofString "_CASE_COST", NameKind.globalImplicit), (Str.ofString "_MOVE_COST", NameKind.globalImplicit)] false false []) 0 [] Value.none Value.none Value.none Value.none none Value.none Value.none 0)) #[]
noncomputable def ob37 (_ : Params) : Obj := Obj.mk (Value.type "code") none (Data.fields #[Value.str (Str.ofString "_substitution_cost") 290, Value.str (Str.ofString "_substitution_cost") 291, Value.str (Str.ofString "/claim/cut.py") 292, Value.int 6 0, Value.int 2 0, Value.int 0 0, Value.int 0 0, Value.int 3 0, Value.ref 32, Value.bool true, Value.int 276 0, Value.ref 33, Value.none, Value.ref 34, Value.ref 35, Value.ref 36, Value.int 295 0, Value.int 6 0, Value.str (Str.ofString "/claim/cut.py") 296]) #[]
noncomputable def ob38 (_ : Params) : Obj := Obj.mk (Value.type "function") none (Data.func (FuncData.mk (Str.ofString "_substitution_cost") (Str.ofString "_substitution_cost") (fA 4) (FuncBody.stmts (fB 4)) (Scope.mk ScopeKind.function [(Str.ofString "ch_a", NameKind.local), (Str.ofString "ch_b", NameKind.local), (Str.ofString "_CASE_COST", NameKind.globalImplicit), (Str.ofString "_MOVE_COST", NameKind.globalImplicit)] false false []) 3 [] Value.none Value.none Value.none (Value.str (Str.ofString "cpy313.traceback") 282) none (Value.ref 37) Value.none 0)) #[]
noncomputable def ob41 (_ : Params) : Obj := Obj.mk (Value.type "tuple") none (Data.seq #[Value.str (Str.ofString "a") 301, Value.str (Str.ofString "b") 302, Value.str (Str.ofString "max_cost") 303, Value.str (Str.ofString "pre") 304, Value.str (Str.ofString "post") 305, Value.str (Str.ofString "row") 306, Value.str (Str.ofString "result") 307, Value.str (Str.ofString "bindex") 308, Value.str (Str.ofString "bchar") 309, Value.str (Str.ofString "distance") 310, Value.str (Str.ofString "minimum") 311, Value.str (Str.ofString "index") 312, Value.str (Str.ofString "substitute") 313, Value.str (Str.ofString "insert_delete") 314]) #[]
noncomputable def ob43 (_ : Params) : Obj := Obj.mk Value.none none (Data.func (FuncData.mk (Str.ofString "_levenshtein_distance") (Str.ofString "_levenshtein_distance") (fA 5) (FuncBody.stmts (fB 5)) (Scope.mk ScopeKind.function [(Str.ofString "a", NameKind.local), (Str.ofString "b", NameKind.local), (Str.ofString "max_cost", NameKind.local), (Str.ofString "pre", NameKind.local), (Str.ofString "post", NameKind.local), (Str.ofString "row", NameKind.local), (Str.ofString "result", NameKind.local), (Str.ofString "bindex", NameKind.local), (Str.ofString "bchar", NameKind.local), (Str.ofString "distance", NameKind.local), (Str.ofString "minimum", NameKind.local), (Str.ofString "index", NameKind.local), (Str.ofString "substitute", NameKind.local), (Str.ofString "insert_delete", NameKind.local), (Str.ofString "_MOVE_COST", NameKind.globalImplicit), (Str.ofString "len", NameKind.globalImplicit), (Str.ofString "_MAX_STRING_SIZE", NameKind.globalImplicit), (Str.ofString "list", NameKind.globalImplicit), (Str.ofString "range", NameKind.globalImplicit), (Str.ofString "_substitution_cost", NameKind.globalImplicit), (Str.ofString "min", NameKind.globalImplicit)] false false []) 0 [] Value.none Value.none Value.none Value.none none Value.none Value.none 0)) #[]
noncomputable def ob44 (_ : Params) : Obj := Obj.mk (Value.type "code") none (Data.fields #[Value.str (Str.ofString "_levenshtein_distance") 298, Value.str (Str.ofString "_levenshtein_distance") 299, Value.str (Str.ofString "/claim/cut.py") 300, Value.int 12 0, Value.int 3 0, Value.int 0 0, Value.int 0 0, Value.int 3 0, Value.ref 39, Value.bool true, Value.int 276 0, Value.ref 40, Value.none, Value.ref 41, Value.ref 42, Value.ref 43, Value.int 315 0, Value.int 12 0, Value.str (Str.ofString "/claim/cut.py") 316]) #[]
noncomputable def ob45 (_ : Params) : Obj := Obj.mk (Value.type "function") none (Data.func (FuncData.mk (Str.ofString "_levenshtein_distance") (Str.ofString "_levenshtein_distance") (fA 5) (FuncBody.stmts (fB 5)) (Scope.mk ScopeKind.function [(Str.ofString "a", NameKind.local), (Str.ofString "b", NameKind.local), (Str.ofString "max_cost", NameKind.local), (Str.ofString "pre", NameKind.local), (Str.ofString "post", NameKind.local), (Str.ofString "row", NameKind.local), (Str.ofString "result", NameKind.local), (Str.ofString "bindex", NameKind.local), (Str.ofString "bchar", NameKind.local), (Str.ofString "distance", NameKind.local), (Str.ofString "minimum", NameKind.local), (Str.ofString "index", NameKind.local), (Str.ofString "substitute", NameKind.local), (Str.ofString "insert_delete", NameKind.local), (Str.ofString "_MOVE_COST", NameKind.globalImplicit), (Str.ofString "len", NameKind.globalImplicit), (Str.ofString "_MAX_STRING_SIZE", NameKind.globalImplicit), (Str.ofString "list", NameKind.globalImplicit), (Str.ofString "range", NameKind.globalImplicit), (Str.ofString "_substitution_cost", NameKind.globalImplicit), (Str.ofString "min", NameKind.globalImplicit)] false false []) 3 [] Value.none Value.none Value.none (Value.str (Str.ofString "cpy313.traceback") 282) none (Value.ref 44) Value.none 0)) #[]
noncomputable def ob46 (_ : Params) : Obj := Obj.mk (Value.type "list") none (Data.seq #[Value.int 14 323, Value.int 14 324, Value.int 4 325, Value.int 1 326, Value.int 1 327, Value.int 9 328, Value.int 0 329, Value.int 64 330, Value.int 0 331, Value.int 1342177280 332, Value.int 0 333, Value.int 0 334, Value.int 0 335, Value.int 0 336, Value.int 0 337, Value.int 17 338, Value.int 0 339, Value.int 13 340, Value.int 11 341, Value.int 9 342, Value.int 0 343, Value.int 64 344, Value.int 0 345, Value.int 1342177280 346, Value.int 0 347, Value.int 0 348, Value.int 0 349, Value.int 0 350, Value.int 0 351, Value.int 17 352, Value.int 1 353, Value.int 1 354]) #[]
noncomputable def ob48 (_ : Params) : Obj := Obj.mk (Value.type "tuple") none (Data.seq #[Value.none, Value.none]) #[]
noncomputable def ob49 (_ : Params) : Obj := Obj.mk (Value.type "tuple") none (Data.seq #[Value.int 14 0, Value.int 14 0, Value.int 4 0, Value.int 1 0, Value.int 1 0, Value.int 9 0, Value.int 0 0, Value.int 64 0, Value.int 0 0, Value.int 1342177280 0, Value.int 0 0, Value.int 0 0, Value.int 0 0, Value.int 0 0, Value.int 0 0, Value.int 17 0, Value.int 0 0, Value.int 13 0, Value.int 11 0, Value.int 9 0, Value.int 0 0, Value.int 64 0, Value.int 0 0, Value.int 1342177280 0, Value.int 0 0, Value.int 0 0, Value.int 0 0, Value.int 0 0, Value.int 0 0, Value.int 17 0, Value.int 1 0, Value.int 1 0]) #[]
noncomputable def ob50 (_ : Params) : Obj := Obj.mk (Value.type "re.Pattern") none (Data.fields #[Value.str (Str.ofString "([&~|])") 321, Value.int 32 356, Value.int 1 0, Value.none, Value.none, Value.ref 49, Value.int 0 0]) #[]
noncomputable def ob53 (_ : Params) : Obj := Obj.mk (Value.type "tuple") none (Data.seq #[Value.str (Str.ofString "pat") 361, Value.str (Str.ofString "STAR") 362, Value.str (Str.ofString "parts") 363]) #[]
noncomputable def ob55 (_ : Params) : Obj := Obj.mk Value.none none (Data.func (FuncData.mk (Str.ofString "translate") (Str.ofString "translate") (fA 8) (FuncBody.stmts (fB 8)) (Scope.mk ScopeKind.function [(Str.ofString "pat", NameKind.local), (Str.ofString "STAR", NameKind.local), (Str.ofString "parts", NameKind.local), (Str.ofString "object", NameKind.globalImplicit), (Str.ofString "_translate", NameKind.globalImplicit), (Str.ofString "_join_translated_parts", NameKind.globalImplicit)] false false []) 0 [] Value.none Value.none Value.none Value.none none Value.none Value.none 0)) #[]
noncomputable def ob56 (_ : Params) : Obj := Obj.mk (Value.type "code") none (Data.fields #[Value.str (Str.ofString "translate") 358, Value.str (Str.ofString "translate") 359, Value.str (Str.ofString "/claim/cut.py") 360, Value.int 52 0, Value.int 1 0, Value.int 0 0, Value.int 0 0, Value.int 3 0, Value.ref 51, Value.bool true, Value.int 276 0, Value.ref 52, Value.none, Value.ref 53, Value.ref 54, Value.ref 55, Value.int 364 0, Value.int 52 0, Value.str (Str.ofString "/claim/cut.py") 365]) #[]
noncomputable def ob57 (_ : Params) : Obj := Obj.mk (Value.type "function") none (Data.func (FuncData.mk (Str.ofString "translate") (Str.ofString "translate") (fA 8) (FuncBody.stmts (fB 8)) (Scope.mk ScopeKind.function [(Str.ofString "pat", NameKind.local), (Str.ofString "STAR", NameKind.local), (Str.ofString "parts", NameKind.local), (Str.ofString "object", NameKind.globalImplicit), (Str.ofString "_translate", NameKind.globalImplicit), (Str.ofString "_join_translated_parts", NameKind.globalImplicit)] false false []) 3 [] Value.none Value.none Value.none (Value.str (Str.ofString "cpy313.fnmatch") 318) none (Value.ref 56) Value.none 0)) #[]
noncomputable def tree3 (P : Params) : BT := (.node (boot_o_0 P) (.node (ob1 P) (.node (ob3_3 P) (.node (boot_o_7 P) (.node (boot_o_7 P) (.node (ob31 P) .nil .nil) (.node (boot_o_6 P) .nil .nil)) (.node (ob23 P) (.node (boot_o_7 P) .nil .nil) (.node (ob55 P) .nil .nil))) (.node (ob11 P) (.node (ob19 P) (.node (boot_o_7 P) .nil .nil) (.node (boot_o_7 P) .nil .nil)) (.node (ob27 P) (.node (ob43 P) .nil .nil) .nil))) (.node (boot_o_5 P) (.node (boot_o_9 P) (.node (ob17 P) (.node (boot_o_8 P) .nil .nil) (.node (ob49 P) .nil .nil)) (.node (ob25 P) (.node (ob41 P) .nil .nil) (.node (ob57 P) .nil .nil))) (.node (ob13 P) (.node (ob21 P) (.node (ob37 P) .nil .nil) (.node (ob53 P) .nil .nil)) (.node (ob29_3 P) (.node (ob45 P) .nil .nil) .nil)))) (.node (ob2 P) (.node (boot_o_4 P) (.node (boot_o_8 P) (.node (ob16 P) (.node (boot_o_7 P) .nil .nil) (.node (ob48 P) .nil .nil)) (.node (ob24 P) (.node (boot_o_8 P) .nil .nil) (.node (ob56 P) .nil .nil))) (.node (ob12 P) (.node (ob20 P) (.node (ob36 P) .nil .nil) (.node (boot_o_8 P) .nil .nil)) (.node (boot_o_7 P) (.node (ob44 P) .nil .nil) .nil))) (.node (boot_o_6 P) (.node (boot_o_10 P) (.node (ob18 P) (.node (ob34 P) .nil .nil) (.node (ob50 P) .nil .nil)) (.node (ob26 P) (.node (boot_o_7 P) .nil .nil) .nil)) (.node (ob14 P) (.node (ob22 P) (.node (ob38 P) .nil .nil) (.node (boot_o_7 P) .nil .nil)) (.node (ob30 P) (.node (ob46 P) .nil .nil) .nil)))))
noncomputable def stT3 (w : World) (os : OsState) : SharedT := ⟨tree3 w.params, 58, life0, #[], Drawn.mk 0 0 0 0, 369, os⟩
noncomputable def ob3_4 (P : Params) : Obj := Obj.mk (Value.type "dict") none (Data.dict #[dE P "__name__" 165 (Value.str (Str.ofString "re") 367), dE P "__doc__" 166 Value.none, dE P "__package__" 167 Value.none, dE P "__loader__" 168 (Value.builtin "__main__.__loader__#opaque"), dE P "__spec__" 169 Value.none, dE P "__annotations__" 170 (Value.ref 6), dE P "__builtins__" 171 (Value.ref 4), dE P "__file__" 173 (Value.str (Str.ofString "/claim/cut.py") 172), dE P "__cached__" 174 Value.none, dE P "_sre" 275 (Value.ref 12), dE P "_MAX_STRING_SIZE" 285 (Value.int 40 284), dE P "_MOVE_COST" 287 (Value.int 2 286), dE P "_CASE_COST" 289 (Value.int 1 288), dE P "_substitution_cost" 297 (Value.ref 38), dE P "_levenshtein_distance" 317 (Value.ref 45), dE P "_twin_re_1" 357 (Value.ref 50), dE P "translate" 366 (Value.ref 57), dE P "_special_chars_map" 514 (Value.ref 59)] 18) #[]
noncomputable def ob58 (_ : Params) : Obj := Obj.mk (Value.type "bytes_iterator") none (Data.fields #[Value.none, Value.int 24 0]) #[]
noncomputable def ob59 (_ : Params) : Obj := Obj.mk (Value.type "dict") none (Data.dict #[DictEntry.mk 40 (Value.int 40 370) (Value.str (Str.ofString "\\(") 374), DictEntry.mk 41 (Value.int 41 376) (Value.str (Str.ofString "\\)") 380), DictEntry.mk 91 (Value.int 91 382) (Value.str (Str.ofString "\\[") 386), DictEntry.mk 93 (Value.int 93 388) (Value.str (Str.ofString "\\]") 392), DictEntry.mk 123 (Value.int 123 394) (Value.str (Str.ofString "\\{") 398), DictEntry.mk 125 (Value.int 125 400) (Value.str (Str.ofString "\\}") 404), DictEntry.mk 63 (Value.int 63 406) (Value.str (Str.ofString "\\?") 410), DictEntry.mk 42 (Value.int 42 412) (Value.str (Str.ofString "\\*") 416), DictEntry.mk 43 (Value.int 43 418) (Value.str (Str.ofString "\\+") 422), DictEntry.mk 45 (Value.int 45 424) (Value.str (Str.ofString "\\-") 428), DictEntry.mk 124 (Value.int 124 430) (Value.str (Str.ofString "\\|") 434), DictEntry.mk 94 (Value.int 94 436) (Value.str (Str.ofString "\\^") 440), DictEntry.mk 36 (Value.int 36 442) (Value.str (Str.ofString "\\$") 446), DictEntry.mk 92 (Value.int 92 448) (Value.str (Str.ofString "\\\\") 452), DictEntry.mk 46 (Value.int 46 454) (Value.str (Str.ofString "\\.") 458), DictEntry.mk 38 (Value.int 38 460) (Value.str (Str.ofString "\\&") 464), DictEntry.mk 126 (Value.int 126 466) (Value.str (Str.ofString "\\~") 470), DictEntry.mk 35 (Value.int 35 472) (Value.str (Str.ofString "\\#") 476), DictEntry.mk 32 (Value.int 32 478) (Value.str (Str.ofString "\\ ") 482), DictEntry.mk 9 (Value.int 9 484) (Value.str (Str.mk (Array.mk [92, 9])) 488), DictEntry.mk 10 (Value.int 10 490) (Value.str (Str.mk (Array.mk [92, 10])) 494), DictEntry.mk 13 (Value.int 13 496) (Value.str (Str.mk (Array.mk [92, 13])) 500), DictEntry.mk 11 (Value.int 11 502) (Value.str (Str.mk (Array.mk [92, 11])) 506), DictEntry.mk 12 (Value.int 12 508) (Value.str (Str.mk (Array.mk [92, 12])) 512)] 24) #[]
noncomputable def ob60 (_ : Params) : Obj := Obj.mk (Value.type "dict") none (Data.dict #[] 2) #[]
noncomputable def ob62 (_ : Params) : Obj := Obj.mk (Value.type "StopIteration") none (Data.fields #[Value.ref 61, Value.none, Value.none, Value.none, Value.bool false, Value.none]) #[]
noncomputable def tree4 (P : Params) : BT := (.node (boot_o_0 P) (.node (ob1 P) (.node (ob3_4 P) (.node (boot_o_7 P) (.node (boot_o_7 P) (.node (ob31 P) .nil .nil) (.node (boot_o_6 P) .nil .nil)) (.node (ob23 P) (.node (boot_o_7 P) .nil .nil) (.node (ob55 P) .nil .nil))) (.node (ob11 P) (.node (ob19 P) (.node (boot_o_7 P) .nil .nil) (.node (boot_o_7 P) .nil .nil)) (.node (ob27 P) (.node (ob43 P) .nil .nil) (.node (ob59 P) .nil .nil)))) (.node (boot_o_5 P) (.node (boot_o_9 P) (.node (ob17 P) (.node (boot_o_8 P) .nil .nil) (.node (ob49 P) .nil .nil)) (.node (ob25 P) (.node (ob41 P) .nil .nil) (.node (ob57 P) .nil .nil))) (.node (ob13 P) (.node (ob21 P) (.node (ob37 P) .nil .nil) (.node (ob53 P) .nil .nil)) (.node (ob29_3 P) (.node (ob45 P) .nil .nil) (.node (boot_o_7 P) .nil .nil))))) (.node (ob2 P) (.node (boot_o_4 P) (.node (boot_o_8 P) (.node (ob16 P) (.node (boot_o_7 P) .nil .nil) (.node (ob48 P) .nil .nil)) (.node (ob24 P) (.node (boot_o_8 P) .nil .nil) (.node (ob56 P) .nil .nil))) (.node (ob12 P) (.node (ob20 P) (.node (ob36 P) .nil .nil) (.node (boot_o_8 P) .nil .nil)) (.node (boot_o_7 P) (.node (ob44 P) .nil .nil) (.node (ob60 P) .nil .nil)))) (.node (boot_o_6 P) (.node (boot_o_10 P) (.node (ob18 P) (.node (ob34 P) .nil .nil) (.node (ob50 P) .nil .nil)) (.node (ob26 P) (.node (boot_o_7 P) .nil .nil) (.node (ob58 P) .nil .nil))) (.node (ob14 P) (.node (ob22 P) (.node (ob38 P) .nil .nil) (.node (boot_o_7 P) .nil .nil)) (.node (ob30 P) (.node (ob46 P) .nil .nil) (.node (ob62 P) .nil .nil))))))
noncomputable def stT4 (w : World) (os : OsState) : SharedT := ⟨tree4 w.params, 63, life0, #[], Drawn.mk 0 0 0 0, 515, os⟩
noncomputable def ob3_5 (P : Params) : Obj := Obj.mk (Value.type "dict") none (Data.dict #[dE P "__name__" 165 (Value.str (Str.ofString "law_rt0042_01") 655), dE P "__doc__" 166 Value.none, dE P "__package__" 167 Value.none, dE P "__loader__" 168 (Value.builtin "__main__.__loader__#opaque"), dE P "__spec__" 169 Value.none, dE P "__annotations__" 170 (Value.ref 6), dE P "__builtins__" 171 (Value.ref 4), dE P "__file__" 173 (Value.str (Str.ofString "/claim/cut.py") 172), dE P "__cached__" 174 Value.none, dE P "_sre" 275 (Value.ref 12), dE P "_MAX_STRING_SIZE" 285 (Value.int 40 284), dE P "_MOVE_COST" 287 (Value.int 2 286), dE P "_CASE_COST" 289 (Value.int 1 288), dE P "_substitution_cost" 297 (Value.ref 38), dE P "_levenshtein_distance" 317 (Value.ref 45), dE P "_twin_re_1" 357 (Value.ref 50), dE P "translate" 366 (Value.ref 57), dE P "_special_chars_map" 514 (Value.ref 59), dE P "escape" 521 (Value.ref 69), dE P "_translate" 542 (Value.ref 76), dE P "_join_translated_parts" 555 (Value.ref 83), dE P "S_IMODE" 564 (Value.ref 90), dE P "S_IFMT" 571 (Value.ref 97), dE P "S_IFDIR" 573 (Value.int 16384 572), dE P "S_IFCHR" 575 (Value.int 8192 574), dE P "S_IFBLK" 577 (Value.int 24576 576), dE P "S_IFREG" 579 (Value.int 32768 578), dE P "S_IFIFO" 581 (Value.int 4096 580), dE P "S_IFLNK" 583 (Value.int 40960 582), dE P "S_IFSOCK" 585 (Value.int 49152 584), dE P "S_ISREG" 592 (Value.ref 104), dE P "S_ISUID" 594 (Value.int 2048 593), dE P "S_ISGID" 596 (Value.int 1024 595), dE P "S_ISVTX" 598 (Value.int 512 597), dE P "S_IRUSR" 600 (Value.int 256 599), dE P "S_IWUSR" 602 (Value.int 128 601), dE P "S_IXUSR" 604 (Value.int 64 603), dE P "S_IRGRP" 606 (Value.int 32 605), dE P "S_IWGRP" 608 (Value.int 16 607), dE P "S_IXGRP" 610 (Value.int 8 609), dE P "S_IROTH" 612 (Value.int 4 611), dE P "S_IWOTH" 614 (Value.int 2 613), dE P "S_IXOTH" 616 (Value.int 1 615), dE P "_filemode_table" 642 (Value.ref 137), dE P "filemode" 654 (Value.ref 144), dE P "_law_classes" 662 (Value.ref 149), dE P "_law_known" 669 (Value.ref 156), dE P "_law_shown" 679 (Value.ref 163), dE P "_law_inside" 690 (Value.ref 170), dE P "_law_items" 699 (Value.ref 177), dE P "_law_takes" 708 (Value.ref 184), dE P "law" 714 (Value.ref 189)] 52) #[]
noncomputable def ob29_5 (_ : Params) : Obj := Obj.mk Value.none none (Data.fields #[Value.int 6 0, Value.int 0 0, Value.ref 37, Value.int 12 0, Value.int 0 0, Value.ref 44, Value.int 52 0, Value.int 0 0, Value.ref 56, Value.int 58 0, Value.int 0 0, Value.ref 68, Value.int 65 0, Value.int 0 0, Value.ref 75, Value.int 127 0, Value.int 0 0, Value.ref 82, Value.int 155 0, Value.int 0 0, Value.ref 89, Value.int 157 0, Value.int 0 0, Value.ref 96, Value.int 166 0, Value.int 0 0, Value.ref 103, Value.int 181 0, Value.int 0 0, Value.ref 143, Value.int 199 0, Value.int 0 0, Value.ref 148, Value.int 202 0, Value.int 0 0, Value.ref 155, Value.int 204 0, Value.int 0 0, Value.ref 162, Value.int 211 0, Value.int 0 0, Value.ref 169, Value.int 224 0, Value.int 0 0, Value.ref 176, Value.int 242 0, Value.int 0 0, Value.ref 183, Value.int 249 0, Value.int 0 0, Value.ref 188]) #[]
noncomputable def ob65 (_ : Params) : Obj := Obj.mk (Value.type "tuple") none (Data.seq #[Value.str (Str.ofString "pattern") 518]) #[]
noncomputable def ob67 (_ : Params) : Obj := Obj.mk Value.none none (Data.func (FuncData.mk (Str.ofString "escape") (Str.ofString "escape") (fA 11) (FuncBody.stmts (fB 11)) (Scope.mk ScopeKind.function [(Str.ofString "pattern", NameKind.local), (Str.ofString "isinstance", NameKind.globalImplicit), (Str.ofString "str", NameKind.globalImplicit), (Str.ofString "_special_chars_map", NameKind.globalImplicit)] false false []) 0 [] Value.none Value.none Value.none Value.none none Value.none Value.none 0)) #[]
noncomputable def ob68 (_ : Params) : Obj := Obj.mk (Value.type "code") none (Data.fields #[Value.str (Str.ofString "escape") 515, Value.str (Str.ofString "escape") 516, Value.str (Str.ofString "/claim/cut.py") 517, Value.int 58 0, Value.int 1 0, Value.int 0 0, Value.int 0 0, Value.int 3 0, Value.ref 63, Value.bool true, Value.int 276 0, Value.ref 64, Value.none, Value.ref 65, Value.ref 66, Value.ref 67, Value.int 519 0, Value.int 58 0, Value.str (Str.ofString "/claim/cut.py") 520]) #[]
noncomputable def ob69 (_ : Params) : Obj := Obj.mk (Value.type "function") none (Data.func (FuncData.mk (Str.ofString "escape") (Str.ofString "escape") (fA 11) (FuncBody.stmts (fB 11)) (Scope.mk ScopeKind.function [(Str.ofString "pattern", NameKind.local), (Str.ofString "isinstance", NameKind.globalImplicit), (Str.ofString "str", NameKind.globalImplicit), (Str.ofString "_special_chars_map", NameKind.globalImplicit)] false false []) 3 [] Value.none Value.none Value.none (Value.str (Str.ofString "re") 367) none (Value.ref 68) Value.none 0)) #[]
noncomputable def ob72 (_ : Params) : Obj := Obj.mk (Value.type "tuple") none (Data.seq #[Value.str (Str.ofString "pat") 527, Value.str (Str.ofString "STAR") 528, Value.str (Str.ofString "QUESTION_MARK") 529, Value.str (Str.ofString "res") 530, Value.str (Str.ofString "add") 531, Value.str (Str.ofString "i") 532, Value.str (Str.ofString "n") 533, Value.str (Str.ofString "c") 534, Value.str (Str.ofString "j") 535, Value.str (Str.ofString "stuff") 536, Value.str (Str.ofString "chunks") 537, Value.str (Str.ofString "k") 538, Value.str (Str.ofString "chunk") 539]) #[]
noncomputable def ob74 (_ : Params) : Obj := Obj.mk Value.none none (Data.func (FuncData.mk (Str.ofString "_translate") (Str.ofString "_translate") (fA 13) (FuncBody.stmts (fB 13)) (Scope.mk ScopeKind.function [(Str.ofString "pat", NameKind.local), (Str.ofString "STAR", NameKind.local), (Str.ofString "QUESTION_MARK", NameKind.local), (Str.ofString "res", NameKind.local), (Str.ofString "add", NameKind.local), (Str.ofString "i", NameKind.local), (Str.ofString "n", NameKind.local), (Str.ofString "c", NameKind.local), (Str.ofString "j", NameKind.local), (Str.ofString "stuff", NameKind.local), (Str.ofString "chunks", NameKind.local), (Str.ofString "k", NameKind.local), (Str.ofString "chunk", NameKind.local), (Str.ofString "len", NameKind.globalImplicit), (Str.ofString "range", NameKind.globalImplicit), (Str.ofString "_twin_re_1", NameKind.globalImplicit), (Str.ofString "escape", NameKind.globalImplicit)] false false []) 0 [] Value.none Value.none Value.none Value.none none Value.none Value.none 0)) #[]
noncomputable def ob75 (_ : Params) : Obj := Obj.mk (Value.type "code") none (Data.fields #[Value.str (Str.ofString "_translate") 524, Value.str (Str.ofString "_translate") 525, Value.str (Str.ofString "/claim/cut.py") 526, Value.int 65 0, Value.int 3 0, Value.int 0 0, Value.int 0 0, Value.int 3 0, Value.ref 70, Value.bool true, Value.int 276 0, Value.ref 71, Value.none, Value.ref 72, Value.ref 73, Value.ref 74, Value.int 540 0, Value.int 65 0, Value.str (Str.ofString "/claim/cut.py") 541]) #[]
noncomputable def ob76 (_ : Params) : Obj := Obj.mk (Value.type "function") none (Data.func (FuncData.mk (Str.ofString "_translate") (Str.ofString "_translate") (fA 13) (FuncBody.stmts (fB 13)) (Scope.mk ScopeKind.function [(Str.ofString "pat", NameKind.local), (Str.ofString "STAR", NameKind.local), (Str.ofString "QUESTION_MARK", NameKind.local), (Str.ofString "res", NameKind.local), (Str.ofString "add", NameKind.local), (Str.ofString "i", NameKind.local), (Str.ofString "n", NameKind.local), (Str.ofString "c", NameKind.local), (Str.ofString "j", NameKind.local), (Str.ofString "stuff", NameKind.local), (Str.ofString "chunks", NameKind.local), (Str.ofString "k", NameKind.local), (Str.ofString "chunk", NameKind.local), (Str.ofString "len", NameKind.globalImplicit), (Str.ofString "range", NameKind.globalImplicit), (Str.ofString "_twin_re_1", NameKind.globalImplicit), (Str.ofString "escape", NameKind.globalImplicit)] false false []) 3 [] Value.none Value.none Value.none (Value.str (Str.ofString "cpy313.fnmatch") 522) none (Value.ref 75) Value.none 0)) #[]
noncomputable def ob79 (_ : Params) : Obj := Obj.mk (Value.type "tuple") none (Data.seq #[Value.str (Str.ofString "inp") 546, Value.str (Str.ofString "STAR") 547, Value.str (Str.ofString "res") 548, Value.str (Str.ofString "add") 549, Value.str (Str.ofString "i") 550, Value.str (Str.ofString "n") 551, Value.str (Str.ofString "fixed") 552]) #[]
noncomputable def ob81 (_ : Params) : Obj := Obj.mk Value.none none (Data.func (FuncData.mk (Str.ofString "_join_translated_parts") (Str.ofString "_join_translated_parts") (fA 14) (FuncBody.stmts (fB 14)) (Scope.mk ScopeKind.function [(Str.ofString "inp", NameKind.local), (Str.ofString "STAR", NameKind.local), (Str.ofString "res", NameKind.local), (Str.ofString "add", NameKind.local), (Str.ofString "i", NameKind.local), (Str.ofString "n", NameKind.local), (Str.ofString "fixed", NameKind.local), (Str.ofString "len", NameKind.globalImplicit)] false false []) 0 [] Value.none Value.none Value.none Value.none none Value.none Value.none 0)) #[]
noncomputable def ob82 (_ : Params) : Obj := Obj.mk (Value.type "code") none (Data.fields #[Value.str (Str.ofString "_join_translated_parts") 543, Value.str (Str.ofString "_join_translated_parts") 544, Value.str (Str.ofString "/claim/cut.py") 545, Value.int 127 0, Value.int 2 0, Value.int 0 0, Value.int 0 0, Value.int 3 0, Value.ref 77, Value.bool true, Value.int 276 0, Value.ref 78, Value.none, Value.ref 79, Value.ref 80, Value.ref 81, Value.int 553 0, Value.int 127 0, Value.str (Str.ofString "/claim/cut.py") 554]) #[]
noncomputable def ob83 (_ : Params) : Obj := Obj.mk (Value.type "function") none (Data.func (FuncData.mk (Str.ofString "_join_translated_parts") (Str.ofString "_join_translated_parts") (fA 14) (FuncBody.stmts (fB 14)) (Scope.mk ScopeKind.function [(Str.ofString "inp", NameKind.local), (Str.ofString "STAR", NameKind.local), (Str.ofString "res", NameKind.local), (Str.ofString "add", NameKind.local), (Str.ofString "i", NameKind.local), (Str.ofString "n", NameKind.local), (Str.ofString "fixed", NameKind.local), (Str.ofString "len", NameKind.globalImplicit)] false false []) 3 [] Value.none Value.none Value.none (Value.str (Str.ofString "cpy313.fnmatch") 522) none (Value.ref 82) Value.none 0)) #[]
noncomputable def ob86 (_ : Params) : Obj := Obj.mk (Value.type "tuple") none (Data.seq #[Value.str (Str.ofString "mode") 561]) #[]
noncomputable def ob88 (_ : Params) : Obj := Obj.mk Value.none none (Data.func (FuncData.mk (Str.ofString "S_IMODE") (Str.ofString "S_IMODE") (fA 16) (FuncBody.stmts (fB 16)) (Scope.mk ScopeKind.function [(Str.ofString "mode", NameKind.local)] false false []) 0 [] Value.none Value.none Value.none Value.none none Value.none Value.none 0)) #[]
noncomputable def ob89 (_ : Params) : Obj := Obj.mk (Value.type "code") none (Data.fields #[Value.str (Str.ofString "S_IMODE") 558, Value.str (Str.ofString "S_IMODE") 559, Value.str (Str.ofString "/claim/cut.py") 560, Value.int 155 0, Value.int 1 0, Value.int 0 0, Value.int 0 0, Value.int 3 0, Value.ref 84, Value.bool true, Value.int 276 0, Value.ref 85, Value.none, Value.ref 86, Value.ref 87, Value.ref 88, Value.int 562 0, Value.int 155 0, Value.str (Str.ofString "/claim/cut.py") 563]) #[]
noncomputable def ob90 (_ : Params) : Obj := Obj.mk (Value.type "function") none (Data.func (FuncData.mk (Str.ofString "S_IMODE") (Str.ofString "S_IMODE") (fA 16) (FuncBody.stmts (fB 16)) (Scope.mk ScopeKind.function [(Str.ofString "mode", NameKind.local)] false false []) 3 [] Value.none Value.none Value.none (Value.str (Str.ofString "cpy313.stat") 556) none (Value.ref 89) Value.none 0)) #[]
noncomputable def ob93 (_ : Params) : Obj := Obj.mk (Value.type "tuple") none (Data.seq #[Value.str (Str.ofString "mode") 568]) #[]
noncomputable def ob95 (_ : Params) : Obj := Obj.mk Value.none none (Data.func (FuncData.mk (Str.ofString "S_IFMT") (Str.ofString "S_IFMT") (fA 17) (FuncBody.stmts (fB 17)) (Scope.mk ScopeKind.function [(Str.ofString "mode", NameKind.local)] false false []) 0 [] Value.none Value.none Value.none Value.none none Value.none Value.none 0)) #[]
noncomputable def ob96 (_ : Params) : Obj := Obj.mk (Value.type "code") none (Data.fields #[Value.str (Str.ofString "S_IFMT") 565, Value.str (Str.ofString "S_IFMT") 566, Value.str (Str.ofString "/claim/cut.py") 567, Value.int 157 0, Value.int 1 0, Value.int 0 0, Value.int 0 0, Value.int 3 0, Value.ref 91, Value.bool true, Value.int 276 0, Value.ref 92, Value.none, Value.ref 93, Value.ref 94, Value.ref 95, Value.int 569 0, Value.int 157 0, Value.str (Str.ofString "/claim/cut.py") 570]) #[]
noncomputable def ob97 (_ : Params) : Obj := Obj.mk (Value.type "function") none (Data.func (FuncData.mk (Str.ofString "S_IFMT") (Str.ofString "S_IFMT") (fA 17) (FuncBody.stmts (fB 17)) (Scope.mk ScopeKind.function [(Str.ofString "mode", NameKind.local)] false false []) 3 [] Value.none Value.none Value.none (Value.str (Str.ofString "cpy313.stat") 556) none (Value.ref 96) Value.none 0)) #[]
noncomputable def ob100 (_ : Params) : Obj := Obj.mk (Value.type "tuple") none (Data.seq #[Value.str (Str.ofString "mode") 589]) #[]
noncomputable def ob102 (_ : Params) : Obj := Obj.mk Value.none none (Data.func (FuncData.mk (Str.ofString "S_ISREG") (Str.ofString "S_ISREG") (fA 25) (FuncBody.stmts (fB 25)) (Scope.mk ScopeKind.function [(Str.ofString "mode", NameKind.local), (Str.ofString "S_IFMT", NameKind.globalImplicit), (Str.ofString "S_IFREG", NameKind.globalImplicit)] false false []) 0 [] Value.none Value.none Value.none Value.none none Value.none Value.none 0)) #[]
noncomputable def ob103 (_ : Params) : Obj := Obj.mk (Value.type "code") none (Data.fields #[Value.str (Str.ofString "S_ISREG") 586, Value.str (Str.ofString "S_ISREG") 587, Value.str (Str.ofString "/claim/cut.py") 588, Value.int 166 0, Value.int 1 0, Value.int 0 0, Value.int 0 0, Value.int 3 0, Value.ref 98, Value.bool true, Value.int 276 0, Value.ref 99, Value.none, Value.ref 100, Value.ref 101, Value.ref 102, Value.int 590 0, Value.int 166 0, Value.str (Str.ofString "/claim/cut.py") 591]) #[]
noncomputable def ob104 (_ : Params) : Obj := Obj.mk (Value.type "function") none (Data.func (FuncData.mk (Str.ofString "S_ISREG") (Str.ofString "S_ISREG") (fA 25) (FuncBody.stmts (fB 25)) (Scope.mk ScopeKind.function [(Str.ofString "mode", NameKind.local), (Str.ofString "S_IFMT", NameKind.globalImplicit), (Str.ofString "S_IFREG", NameKind.globalImplicit)] false false []) 3 [] Value.none Value.none Value.none (Value.str (Str.ofString "cpy313.stat") 556) none (Value.ref 103) Value.none 0)) #[]
noncomputable def ob105 (_ : Params) : Obj := Obj.mk (Value.type "tuple") none (Data.seq #[Value.int 40960 582, Value.str (Str.ofString "l") 617]) #[]
noncomputable def ob106 (_ : Params) : Obj := Obj.mk (Value.type "tuple") none (Data.seq #[Value.int 49152 584, Value.str (Str.ofString "s") 618]) #[]
noncomputable def ob107 (_ : Params) : Obj := Obj.mk (Value.type "tuple") none (Data.seq #[Value.int 32768 578, Value.str (Str.ofString "-") 619]) #[]
noncomputable def ob108 (_ : Params) : Obj := Obj.mk (Value.type "tuple") none (Data.seq #[Value.int 24576 576, Value.str (Str.ofString "b") 620]) #[]
noncomputable def ob109 (_ : Params) : Obj := Obj.mk (Value.type "tuple") none (Data.seq #[Value.int 16384 572, Value.str (Str.ofString "d") 621]) #[]
noncomputable def ob110 (_ : Params) : Obj := Obj.mk (Value.type "tuple") none (Data.seq #[Value.int 8192 574, Value.str (Str.ofString "c") 622]) #[]
noncomputable def ob111 (_ : Params) : Obj := Obj.mk (Value.type "tuple") none (Data.seq #[Value.int 4096 580, Value.str (Str.ofString "p") 623]) #[]
noncomputable def ob112 (_ : Params) : Obj := Obj.mk (Value.type "tuple") none (Data.seq #[Value.ref 105, Value.ref 106, Value.ref 107, Value.ref 108, Value.ref 109, Value.ref 110, Value.ref 111]) #[]
noncomputable def ob113 (_ : Params) : Obj := Obj.mk (Value.type "tuple") none (Data.seq #[Value.int 256 599, Value.str (Str.ofString "r") 624]) #[]
noncomputable def ob114 (_ : Params) : Obj := Obj.mk (Value.type "tuple") none (Data.seq #[Value.ref 113]) #[]
noncomputable def ob115 (_ : Params) : Obj := Obj.mk (Value.type "tuple") none (Data.seq #[Value.int 128 601, Value.str (Str.ofString "w") 625]) #[]
noncomputable def ob116 (_ : Params) : Obj := Obj.mk (Value.type "tuple") none (Data.seq #[Value.ref 115]) #[]
noncomputable def ob117 (_ : Params) : Obj := Obj.mk (Value.type "tuple") none (Data.seq #[Value.int 2112 626, Value.str (Str.ofString "s") 627]) #[]
noncomputable def ob118 (_ : Params) : Obj := Obj.mk (Value.type "tuple") none (Data.seq #[Value.int 2048 593, Value.str (Str.ofString "S") 628]) #[]
noncomputable def ob119 (_ : Params) : Obj := Obj.mk (Value.type "tuple") none (Data.seq #[Value.int 64 603, Value.str (Str.ofString "x") 629]) #[]
noncomputable def ob120 (_ : Params) : Obj := Obj.mk (Value.type "tuple") none (Data.seq #[Value.ref 117, Value.ref 118, Value.ref 119]) #[]
noncomputable def ob121 (_ : Params) : Obj := Obj.mk (Value.type "tuple") none (Data.seq #[Value.int 32 605, Value.str (Str.ofString "r") 630]) #[]
noncomputable def ob122 (_ : Params) : Obj := Obj.mk (Value.type "tuple") none (Data.seq #[Value.ref 121]) #[]
noncomputable def ob123 (_ : Params) : Obj := Obj.mk (Value.type "tuple") none (Data.seq #[Value.int 16 607, Value.str (Str.ofString "w") 631]) #[]
noncomputable def ob124 (_ : Params) : Obj := Obj.mk (Value.type "tuple") none (Data.seq #[Value.ref 123]) #[]
noncomputable def ob125 (_ : Params) : Obj := Obj.mk (Value.type "tuple") none (Data.seq #[Value.int 1032 632, Value.str (Str.ofString "s") 633]) #[]
noncomputable def ob126 (_ : Params) : Obj := Obj.mk (Value.type "tuple") none (Data.seq #[Value.int 1024 595, Value.str (Str.ofString "S") 634]) #[]
noncomputable def ob127 (_ : Params) : Obj := Obj.mk (Value.type "tuple") none (Data.seq #[Value.int 8 609, Value.str (Str.ofString "x") 635]) #[]
noncomputable def ob128 (_ : Params) : Obj := Obj.mk (Value.type "tuple") none (Data.seq #[Value.ref 125, Value.ref 126, Value.ref 127]) #[]
noncomputable def ob129 (_ : Params) : Obj := Obj.mk (Value.type "tuple") none (Data.seq #[Value.int 4 611, Value.str (Str.ofString "r") 636]) #[]
noncomputable def ob130 (_ : Params) : Obj := Obj.mk (Value.type "tuple") none (Data.seq #[Value.ref 129]) #[]
noncomputable def ob131 (_ : Params) : Obj := Obj.mk (Value.type "tuple") none (Data.seq #[Value.int 2 613, Value.str (Str.ofString "w") 637]) #[]
noncomputable def ob132 (_ : Params) : Obj := Obj.mk (Value.type "tuple") none (Data.seq #[Value.ref 131]) #[]
noncomputable def ob133 (_ : Params) : Obj := Obj.mk (Value.type "tuple") none (Data.seq #[Value.int 513 638, Value.str (Str.ofString "t") 639]) #[]
noncomputable def ob134 (_ : Params) : Obj := Obj.mk (Value.type "tuple") none (Data.seq #[Value.int 512 597, Value.str (Str.ofString "T") 640]) #[]
noncomputable def ob135 (_ : Params) : Obj := Obj.mk (Value.type "tuple") none (Data.seq #[Value.int 1 615, Value.str (Str.ofString "x") 641]) #[]
noncomputable def ob136 (_ : Params) : Obj := Obj.mk (Value.type "tuple") none (Data.seq #[Value.ref 133, Value.ref 134, Value.ref 135]) #[]
noncomputable def ob137 (_ : Params) : Obj := Obj.mk (Value.type "tuple") none (Data.seq #[Value.ref 112, Value.ref 114, Value.ref 116, Value.ref 120, Value.ref 122, Value.ref 124, Value.ref 128, Value.ref 130, Value.ref 132, Value.ref 136]) #[]
noncomputable def ob140 (_ : Params) : Obj := Obj.mk (Value.type "tuple") none (Data.seq #[Value.str (Str.ofString "mode") 646, Value.str (Str.ofString "perm") 647, Value.str (Str.ofString "index") 648, Value.str (Str.ofString "table") 649, Value.str (Str.ofString "bit") 650, Value.str (Str.ofString "char") 651]) #[]
noncomputable def ob142 (_ : Params) : Obj := Obj.mk Value.none none (Data.func (FuncData.mk (Str.ofString "filemode") (Str.ofString "filemode") (fA 39) (FuncBody.stmts (fB 39)) (Scope.mk ScopeKind.function [(Str.ofString "mode", NameKind.local), (Str.ofString "perm", NameKind.local), (Str.ofString "index", NameKind.local), (Str.ofString "table", NameKind.local), (Str.ofString "bit", NameKind.local), (Str.ofString "char", NameKind.local), (Str.ofString "enumerate", NameKind.globalImplicit), (Str.ofString "_filemode_table", NameKind.globalImplicit), (Str.ofString "S_IFMT", NameKind.globalImplicit)] false false []) 0 [] Value.none Value.none Value.none Value.none none Value.none Value.none 0)) #[]
noncomputable def ob143 (_ : Params) : Obj := Obj.mk (Value.type "code") none (Data.fields #[Value.str (Str.ofString "filemode") 643, Value.str (Str.ofString "filemode") 644, Value.str (Str.ofString "/claim/cut.py") 645, Value.int 181 0, Value.int 1 0, Value.int 0 0, Value.int 0 0, Value.int 3 0, Value.ref 138, Value.bool true, Value.int 276 0, Value.ref 139, Value.none, Value.ref 140, Value.ref 141, Value.ref 142, Value.int 652 0, Value.int 181 0, Value.str (Str.ofString "/claim/cut.py") 653]) #[]
noncomputable def ob144 (_ : Params) : Obj := Obj.mk (Value.type "function") none (Data.func (FuncData.mk (Str.ofString "filemode") (Str.ofString "filemode") (fA 39) (FuncBody.stmts (fB 39)) (Scope.mk ScopeKind.function [(Str.ofString "mode", NameKind.local), (Str.ofString "perm", NameKind.local), (Str.ofString "index", NameKind.local), (Str.ofString "table", NameKind.local), (Str.ofString "bit", NameKind.local), (Str.ofString "char", NameKind.local), (Str.ofString "enumerate", NameKind.globalImplicit), (Str.ofString "_filemode_table", NameKind.globalImplicit), (Str.ofString "S_IFMT", NameKind.globalImplicit)] false false []) 3 [] Value.none Value.none Value.none (Value.str (Str.ofString "cpy313.stat") 556) none (Value.ref 143) Value.none 0)) #[]
noncomputable def ob147 (_ : Params) : Obj := Obj.mk Value.none none (Data.func (FuncData.mk (Str.ofString "_law_classes") (Str.ofString "_law_classes") (fA 41) (FuncBody.stmts (fB 41)) (Scope.mk ScopeKind.function [(Str.ofString "mode", NameKind.local), (Str.ofString "rights", NameKind.cell), (Str.ofString "S_IMODE", NameKind.globalImplicit), (Str.ofString "range", NameKind.globalImplicit)] false false [(Str.ofString "fast", Const.str (Str.ofString "mode")), (Str.ofString "fast", Const.str (Str.ofString "rights")), (Str.ofString "fast", Const.str (Str.ofString "k"))]) 0 [] Value.none Value.none Value.none Value.none none Value.none Value.none 0)) #[]
noncomputable def ob148 (_ : Params) : Obj := Obj.mk (Value.type "code") none (Data.fields #[Value.str (Str.ofString "_law_classes") 657, Value.str (Str.ofString "_law_classes") 658, Value.str (Str.ofString "/claim/cut.py") 659, Value.int 199 0, Value.int 1 0, Value.int 0 0, Value.int 0 0, Value.int 3 0, Value.ref 145, Value.bool true, Value.int 276 0, Value.ref 146, Value.none, Value.none, Value.none, Value.ref 147, Value.int 660 0, Value.int 199 0, Value.str (Str.ofString "/claim/cut.py") 661]) #[]
noncomputable def ob149 (_ : Params) : Obj := Obj.mk (Value.type "function") none (Data.func (FuncData.mk (Str.ofString "_law_classes") (Str.ofString "_law_classes") (fA 41) (FuncBody.stmts (fB 41)) (Scope.mk ScopeKind.function [(Str.ofString "mode", NameKind.local), (Str.ofString "rights", NameKind.cell), (Str.ofString "S_IMODE", NameKind.globalImplicit), (Str.ofString "range", NameKind.globalImplicit)] false false [(Str.ofString "fast", Const.str (Str.ofString "mode")), (Str.ofString "fast", Const.str (Str.ofString "rights")), (Str.ofString "fast", Const.str (Str.ofString "k"))]) 3 [] Value.none Value.none Value.none (Value.str (Str.ofString "law_rt0042_01") 655) none (Value.ref 148) Value.none 0)) #[]
noncomputable def ob152 (_ : Params) : Obj := Obj.mk (Value.type "tuple") none (Data.seq #[Value.str (Str.ofString "mode") 666]) #[]
noncomputable def ob154 (_ : Params) : Obj := Obj.mk Value.none none (Data.func (FuncData.mk (Str.ofString "_law_known") (Str.ofString "_law_known") (fA 42) (FuncBody.stmts (fB 42)) (Scope.mk ScopeKind.function [(Str.ofString "mode", NameKind.local), (Str.ofString "S_IFMT", NameKind.globalImplicit)] false false []) 0 [] Value.none Value.none Value.none Value.none none Value.none Value.none 0)) #[]
noncomputable def ob155 (_ : Params) : Obj := Obj.mk (Value.type "code") none (Data.fields #[Value.str (Str.ofString "_law_known") 663, Value.str (Str.ofString "_law_known") 664, Value.str (Str.ofString "/claim/cut.py") 665, Value.int 202 0, Value.int 1 0, Value.int 0 0, Value.int 0 0, Value.int 3 0, Value.ref 150, Value.bool true, Value.int 276 0, Value.ref 151, Value.none, Value.ref 152, Value.ref 153, Value.ref 154, Value.int 667 0, Value.int 202 0, Value.str (Str.ofString "/claim/cut.py") 668]) #[]
noncomputable def ob156 (_ : Params) : Obj := Obj.mk (Value.type "function") none (Data.func (FuncData.mk (Str.ofString "_law_known") (Str.ofString "_law_known") (fA 42) (FuncBody.stmts (fB 42)) (Scope.mk ScopeKind.function [(Str.ofString "mode", NameKind.local), (Str.ofString "S_IFMT", NameKind.globalImplicit)] false false []) 3 [] Value.none Value.none Value.none (Value.str (Str.ofString "law_rt0042_01") 655) none (Value.ref 155) Value.none 0)) #[]
noncomputable def ob159 (_ : Params) : Obj := Obj.mk (Value.type "tuple") none (Data.seq #[Value.str (Str.ofString "mode") 673, Value.str (Str.ofString "count") 674, Value.str (Str.ofString "figure") 675, Value.str (Str.ofString "run") 676]) #[]
noncomputable def ob161 (_ : Params) : Obj := Obj.mk Value.none none (Data.func (FuncData.mk (Str.ofString "_law_shown") (Str.ofString "_law_shown") (fA 43) (FuncBody.stmts (fB 43)) (Scope.mk ScopeKind.function [(Str.ofString "mode", NameKind.local), (Str.ofString "count", NameKind.local), (Str.ofString "figure", NameKind.local), (Str.ofString "run", NameKind.local), (Str.ofString "S_ISREG", NameKind.globalImplicit), (Str.ofString "_law_classes", NameKind.globalImplicit)] false false []) 0 [] Value.none Value.none Value.none Value.none none Value.none Value.none 0)) #[]
noncomputable def ob162 (_ : Params) : Obj := Obj.mk (Value.type "code") none (Data.fields #[Value.str (Str.ofString "_law_shown") 670, Value.str (Str.ofString "_law_shown") 671, Value.str (Str.ofString "/claim/cut.py") 672, Value.int 204 0, Value.int 1 0, Value.int 0 0, Value.int 0 0, Value.int 3 0, Value.ref 157, Value.bool true, Value.int 276 0, Value.ref 158, Value.none, Value.ref 159, Value.ref 160, Value.ref 161, Value.int 677 0, Value.int 204 0, Value.str (Str.ofString "/claim/cut.py") 678]) #[]
noncomputable def ob163 (_ : Params) : Obj := Obj.mk (Value.type "function") none (Data.func (FuncData.mk (Str.ofString "_law_shown") (Str.ofString "_law_shown") (fA 43) (FuncBody.stmts (fB 43)) (Scope.mk ScopeKind.function [(Str.ofString "mode", NameKind.local), (Str.ofString "count", NameKind.local), (Str.ofString "figure", NameKind.local), (Str.ofString "run", NameKind.local), (Str.ofString "S_ISREG", NameKind.globalImplicit), (Str.ofString "_law_classes", NameKind.globalImplicit)] false false []) 3 [] Value.none Value.none Value.none (Value.str (Str.ofString "law_rt0042_01") 655) none (Value.ref 162) Value.none 0)) #[]
noncomputable def ob166 (_ : Params) : Obj := Obj.mk (Value.type "tuple") none (Data.seq #[Value.str (Str.ofString "first") 683, Value.str (Str.ofString "second") 684, Value.str (Str.ofString "mine") 685, Value.str (Str.ofString "others") 686, Value.str (Str.ofString "k") 687]) #[]
noncomputable def ob168 (_ : Params) : Obj := Obj.mk Value.none none (Data.func (FuncData.mk (Str.ofString "_law_inside") (Str.ofString "_law_inside") (fA 44) (FuncBody.stmts (fB 44)) (Scope.mk ScopeKind.function [(Str.ofString "first", NameKind.local), (Str.ofString "second", NameKind.local), (Str.ofString "mine", NameKind.local), (Str.ofString "others", NameKind.local), (Str.ofString "k", NameKind.local), (Str.ofString "S_ISREG", NameKind.globalImplicit), (Str.ofString "_law_known", NameKind.globalImplicit), (Str.ofString "S_IFMT", NameKind.globalImplicit), (Str.ofString "_law_classes", NameKind.globalImplicit), (Str.ofString "range", NameKind.globalImplicit)] false false []) 0 [] Value.none Value.none Value.none Value.none none Value.none Value.none 0)) #[]
noncomputable def ob169 (_ : Params) : Obj := Obj.mk (Value.type "code") none (Data.fields #[Value.str (Str.ofString "_law_inside") 680, Value.str (Str.ofString "_law_inside") 681, Value.str (Str.ofString "/claim/cut.py") 682, Value.int 211 0, Value.int 2 0, Value.int 0 0, Value.int 0 0, Value.int 3 0, Value.ref 164, Value.bool true, Value.int 276 0, Value.ref 165, Value.none, Value.ref 166, Value.ref 167, Value.ref 168, Value.int 688 0, Value.int 211 0, Value.str (Str.ofString "/claim/cut.py") 689]) #[]
noncomputable def ob170 (_ : Params) : Obj := Obj.mk (Value.type "function") none (Data.func (FuncData.mk (Str.ofString "_law_inside") (Str.ofString "_law_inside") (fA 44) (FuncBody.stmts (fB 44)) (Scope.mk ScopeKind.function [(Str.ofString "first", NameKind.local), (Str.ofString "second", NameKind.local), (Str.ofString "mine", NameKind.local), (Str.ofString "others", NameKind.local), (Str.ofString "k", NameKind.local), (Str.ofString "S_ISREG", NameKind.globalImplicit), (Str.ofString "_law_known", NameKind.globalImplicit), (Str.ofString "S_IFMT", NameKind.globalImplicit), (Str.ofString "_law_classes", NameKind.globalImplicit), (Str.ofString "range", NameKind.globalImplicit)] false false []) 3 [] Value.none Value.none Value.none (Value.str (Str.ofString "law_rt0042_01") 655) none (Value.ref 169) Value.none 0)) #[]
noncomputable def ob173 (_ : Params) : Obj := Obj.mk (Value.type "tuple") none (Data.seq #[Value.str (Str.ofString "text") 694, Value.str (Str.ofString "items") 695, Value.str (Str.ofString "at") 696]) #[]
noncomputable def ob175 (_ : Params) : Obj := Obj.mk Value.none none (Data.func (FuncData.mk (Str.ofString "_law_items") (Str.ofString "_law_items") (fA 45) (FuncBody.stmts (fB 45)) (Scope.mk ScopeKind.function [(Str.ofString "text", NameKind.local), (Str.ofString "items", NameKind.local), (Str.ofString "at", NameKind.local), (Str.ofString "len", NameKind.globalImplicit)] false false []) 0 [] Value.none Value.none Value.none Value.none none Value.none Value.none 0)) #[]
noncomputable def ob176 (_ : Params) : Obj := Obj.mk (Value.type "code") none (Data.fields #[Value.str (Str.ofString "_law_items") 691, Value.str (Str.ofString "_law_items") 692, Value.str (Str.ofString "/claim/cut.py") 693, Value.int 224 0, Value.int 1 0, Value.int 0 0, Value.int 0 0, Value.int 3 0, Value.ref 171, Value.bool true, Value.int 276 0, Value.ref 172, Value.none, Value.ref 173, Value.ref 174, Value.ref 175, Value.int 697 0, Value.int 224 0, Value.str (Str.ofString "/claim/cut.py") 698]) #[]
noncomputable def ob177 (_ : Params) : Obj := Obj.mk (Value.type "function") none (Data.func (FuncData.mk (Str.ofString "_law_items") (Str.ofString "_law_items") (fA 45) (FuncBody.stmts (fB 45)) (Scope.mk ScopeKind.function [(Str.ofString "text", NameKind.local), (Str.ofString "items", NameKind.local), (Str.ofString "at", NameKind.local), (Str.ofString "len", NameKind.globalImplicit)] false false []) 3 [] Value.none Value.none Value.none (Value.str (Str.ofString "law_rt0042_01") 655) none (Value.ref 176) Value.none 0)) #[]
noncomputable def ob180 (_ : Params) : Obj := Obj.mk (Value.type "tuple") none (Data.seq #[Value.str (Str.ofString "items") 703, Value.str (Str.ofString "text") 704, Value.str (Str.ofString "k") 705]) #[]
noncomputable def ob182 (_ : Params) : Obj := Obj.mk Value.none none (Data.func (FuncData.mk (Str.ofString "_law_takes") (Str.ofString "_law_takes") (fA 46) (FuncBody.stmts (fB 46)) (Scope.mk ScopeKind.function [(Str.ofString "items", NameKind.local), (Str.ofString "text", NameKind.local), (Str.ofString "k", NameKind.local), (Str.ofString "len", NameKind.globalImplicit), (Str.ofString "range", NameKind.globalImplicit)] false false []) 0 [] Value.none Value.none Value.none Value.none none Value.none Value.none 0)) #[]
noncomputable def ob183 (_ : Params) : Obj := Obj.mk (Value.type "code") none (Data.fields #[Value.str (Str.ofString "_law_takes") 700, Value.str (Str.ofString "_law_takes") 701, Value.str (Str.ofString "/claim/cut.py") 702, Value.int 242 0, Value.int 2 0, Value.int 0 0, Value.int 0 0, Value.int 3 0, Value.ref 178, Value.bool true, Value.int 276 0, Value.ref 179, Value.none, Value.ref 180, Value.ref 181, Value.ref 182, Value.int 706 0, Value.int 242 0, Value.str (Str.ofString "/claim/cut.py") 707]) #[]
noncomputable def ob184 (_ : Params) : Obj := Obj.mk (Value.type "function") none (Data.func (FuncData.mk (Str.ofString "_law_takes") (Str.ofString "_law_takes") (fA 46) (FuncBody.stmts (fB 46)) (Scope.mk ScopeKind.function [(Str.ofString "items", NameKind.local), (Str.ofString "text", NameKind.local), (Str.ofString "k", NameKind.local), (Str.ofString "len", NameKind.globalImplicit), (Str.ofString "range", NameKind.globalImplicit)] false false []) 3 [] Value.none Value.none Value.none (Value.str (Str.ofString "law_rt0042_01") 655) none (Value.ref 183) Value.none 0)) #[]
noncomputable def ob187 (_ : Params) : Obj := Obj.mk Value.none none (Data.func (FuncData.mk (Str.ofString "law") (Str.ofString "law") (fA 47) (FuncBody.stmts (fB 47)) (Scope.mk ScopeKind.function [(Str.ofString "script", NameKind.cell), (Str.ofString "starts", NameKind.cell), (Str.ofString "a", NameKind.local), (Str.ofString "b", NameKind.local), (Str.ofString "c", NameKind.local), (Str.ofString "first", NameKind.local), (Str.ofString "second", NameKind.local), (Str.ofString "word", NameKind.local), (Str.ofString "listed", NameKind.local), (Str.ofString "pattern", NameKind.local), (Str.ofString "sign", NameKind.local), (Str.ofString "inside", NameKind.local), (Str.ofString "bound", NameKind.local), (Str.ofString "told", NameKind.local), (Str.ofString "row", NameKind.local), (Str.ofString "turned", NameKind.local), (Str.ofString "due", NameKind.local), (Str.ofString "range", NameKind.globalImplicit), (Str.ofString "filemode", NameKind.globalImplicit), (Str.ofString "_law_inside", NameKind.globalImplicit), (Str.ofString "_law_takes", NameKind.globalImplicit), (Str.ofString "_law_items", NameKind.globalImplicit), (Str.ofString "translate", NameKind.globalImplicit), (Str.ofString "_law_shown", NameKind.globalImplicit), (Str.ofString "_levenshtein_distance", NameKind.globalImplicit)] false false [(Str.ofString "fast", Const.str (Str.ofString "script")), (Str.ofString "fast", Const.str (Str.ofString "starts")), (Str.ofString "fast", Const.str (Str.ofString "k")), (Str.ofString "fast", Const.str (Str.ofString "a")), (Str.ofString "fast", Const.str (Str.ofString "b")), (Str.ofString "fast", Const.str (Str.ofString "c")), (Str.ofString "fast", Const.str (Str.ofString "first")), (Str.ofString "fast", Const.str (Str.ofString "second")), (Str.ofString "fast", Const.str (Str.ofString "word")), (Str.ofString "fast", Const.str (Str.ofString "listed")), (Str.ofString "fast", Const.str (Str.ofString "pattern")), (Str.ofString "fast", Const.str (Str.ofString "sign")), (Str.ofString "fast", Const.str (Str.ofString "inside")), (Str.ofString "fast", Const.str (Str.ofString "bound")), (Str.ofString "fast", Const.str (Str.ofString "told")), (Str.ofString "fast", Const.str (Str.ofString "row")), (Str.ofString "fast", Const.str (Str.ofString "turned")), (Str.ofString "fast", Const.str (Str.ofString "due"))]) 0 [] Value.none Value.none Value.none Value.none none Value.none Value.none 0)) #[]
noncomputable def ob188 (_ : Params) : Obj := Obj.mk (Value.type "code") none (Data.fields #[Value.str (Str.ofString "law") 709, Value.str (Str.ofString "law") 710, Value.str (Str.ofString "/claim/cut.py") 711, Value.int 249 0, Value.int 1 0, Value.int 0 0, Value.int 0 0, Value.int 3 0, Value.ref 185, Value.bool true, Value.int 276 0, Value.ref 186, Value.none, Value.none, Value.none, Value.ref 187, Value.int 712 0, Value.int 249 0, Value.str (Str.ofString "/claim/cut.py") 713]) #[]
noncomputable def ob189 (_ : Params) : Obj := Obj.mk (Value.type "function") none (Data.func (FuncData.mk (Str.ofString "law") (Str.ofString "law") (fA 47) (FuncBody.stmts (fB 47)) (Scope.mk ScopeKind.function [(Str.ofString "script", NameKind.cell), (Str.ofString "starts", NameKind.cell), (Str.ofString "a", NameKind.local), (Str.ofString "b", NameKind.local), (Str.ofString "c", NameKind.local), (Str.ofString "first", NameKind.local), (Str.ofString "second", NameKind.local), (Str.ofString "word", NameKind.local), (Str.ofString "listed", NameKind.local), (Str.ofString "pattern", NameKind.local), (Str.ofString "sign", NameKind.local), (Str.ofString "inside", NameKind.local), (Str.ofString "bound", NameKind.local), (Str.ofString "told", NameKind.local), (Str.ofString "row", NameKind.local), (Str.ofString "turned", NameKind.local), (Str.ofString "due", NameKind.local), (Str.ofString "range", NameKind.globalImplicit), (Str.ofString "filemode", NameKind.globalImplicit), (Str.ofString "_law_inside", NameKind.globalImplicit), (Str.ofString "_law_takes", NameKind.globalImplicit), (Str.ofString "_law_items", NameKind.globalImplicit), (Str.ofString "translate", NameKind.globalImplicit), (Str.ofString "_law_shown", NameKind.globalImplicit), (Str.ofString "_levenshtein_distance", NameKind.globalImplicit)] false false [(Str.ofString "fast", Const.str (Str.ofString "script")), (Str.ofString "fast", Const.str (Str.ofString "starts")), (Str.ofString "fast", Const.str (Str.ofString "k")), (Str.ofString "fast", Const.str (Str.ofString "a")), (Str.ofString "fast", Const.str (Str.ofString "b")), (Str.ofString "fast", Const.str (Str.ofString "c")), (Str.ofString "fast", Const.str (Str.ofString "first")), (Str.ofString "fast", Const.str (Str.ofString "second")), (Str.ofString "fast", Const.str (Str.ofString "word")), (Str.ofString "fast", Const.str (Str.ofString "listed")), (Str.ofString "fast", Const.str (Str.ofString "pattern")), (Str.ofString "fast", Const.str (Str.ofString "sign")), (Str.ofString "fast", Const.str (Str.ofString "inside")), (Str.ofString "fast", Const.str (Str.ofString "bound")), (Str.ofString "fast", Const.str (Str.ofString "told")), (Str.ofString "fast", Const.str (Str.ofString "row")), (Str.ofString "fast", Const.str (Str.ofString "turned")), (Str.ofString "fast", Const.str (Str.ofString "due"))]) 3 [] Value.none Value.none Value.none (Value.str (Str.ofString "law_rt0042_01") 655) none (Value.ref 188) Value.none 0)) #[]
noncomputable def tree5 (P : Params) : BT := (.node (boot_o_0 P) (.node (ob1 P) (.node (ob3_5 P) (.node (boot_o_7 P) (.node (boot_o_7 P) (.node (ob31 P) (.node (boot_o_7 P) (.node (ob127 P) .nil .nil) .nil) (.node (ob95 P) (.node (ob159 P) .nil .nil) .nil)) (.node (boot_o_6 P) (.node (ob79 P) (.node (ob143 P) .nil .nil) .nil) (.node (ob111 P) (.node (ob175 P) .nil .nil) .nil))) (.node (ob23 P) (.node (boot_o_7 P) (.node (boot_o_8 P) (.node (ob135 P) .nil .nil) .nil) (.node (ob103 P) (.node (boot_o_7 P) .nil .nil) .nil)) (.node (ob55 P) (.node (boot_o_7 P) (.node (boot_o_8 P) .nil .nil) .nil) (.node (ob119 P) (.node (ob183 P) .nil .nil) .nil)))) (.node (ob11 P) (.node (ob19 P) (.node (boot_o_7 P) (.node (ob67 P) (.node (ob131 P) .nil .nil) .nil) (.node (boot_o_8 P) (.node (ob163 P) .nil .nil) .nil)) (.node (boot_o_7 P) (.node (ob83 P) (.node (ob147 P) .nil .nil) .nil) (.node (ob115 P) (.node (boot_o_8 P) .nil .nil) .nil))) (.node (ob27 P) (.node (ob43 P) (.node (ob75 P) (.node (boot_o_8 P) .nil .nil) .nil) (.node (ob107 P) (.node (boot_o_7 P) .nil .nil) .nil)) (.node (ob59 P) (.node (boot_o_7 P) (.node (ob155 P) .nil .nil) .nil) (.node (ob123 P) (.node (ob187 P) .nil .nil) .nil))))) (.node (boot_o_5 P) (.node (boot_o_9 P) (.node (ob17 P) (.node (boot_o_8 P) (.node (ob65 P) (.node (ob129 P) .nil .nil) .nil) (.node (ob97 P) (.node (ob161 P) .nil .nil) .nil)) (.node (ob49 P) (.node (ob81 P) (.node (boot_o_7 P) .nil .nil) .nil) (.node (ob113 P) (.node (ob177 P) .nil .nil) .nil))) (.node (ob25 P) (.node (ob41 P) (.node (boot_o_7 P) (.node (ob137 P) .nil .nil) .nil) (.node (ob105 P) (.node (ob169 P) .nil .nil) .nil)) (.node (ob57 P) (.node (ob89 P) (.node (boot_o_7 P) .nil .nil) .nil) (.node (ob121 P) (.node (boot_o_7 P) .nil .nil) .nil)))) (.node (ob13 P) (.node (ob21 P) (.node (ob37 P) (.node (ob69 P) (.node (ob133 P) .nil .nil) .nil) (.node (boot_o_7 P) (.node (boot_o_8 P) .nil .nil) .nil)) (.node (ob53 P) (.node (boot_o_8 P) (.node (ob149 P) .nil .nil) .nil) (.node (ob117 P) (.node (boot_o_7 P) .nil .nil) .nil))) (.node (ob29_5 P) (.node (ob45 P) (.node (boot_o_7 P) (.node (boot_o_7 P) .nil .nil) .nil) (.node (ob109 P) (.node (ob173 P) .nil .nil) .nil)) (.node (boot_o_7 P) (.node (ob93 P) (.node (boot_o_7 P) .nil .nil) .nil) (.node (ob125 P) (.node (ob189 P) .nil .nil) .nil)))))) (.node (ob2 P) (.node (boot_o_4 P) (.node (boot_o_8 P) (.node (ob16 P) (.node (boot_o_7 P) (.node (boot_o_8 P) (.node (ob128 P) .nil .nil) .nil) (.node (ob96 P) (.node (boot_o_7 P) .nil .nil) .nil)) (.node (ob48 P) (.node (boot_o_7 P) (.node (ob144 P) .nil .nil) .nil) (.node (ob112 P) (.node (ob176 P) .nil .nil) .nil))) (.node (ob24 P) (.node (boot_o_8 P) (.node (ob72 P) (.node (ob136 P) .nil .nil) .nil) (.node (ob104 P) (.node (ob168 P) .nil .nil) .nil)) (.node (ob56 P) (.node (ob88 P) (.node (ob152 P) .nil .nil) .nil) (.node (ob120 P) (.node (ob184 P) .nil .nil) .nil)))) (.node (ob12 P) (.node (ob20 P) (.node (ob36 P) (.node (ob68 P) (.node (ob132 P) .nil .nil) .nil) (.node (ob100 P) (.node (boot_o_7 P) .nil .nil) .nil)) (.node (boot_o_8 P) (.node (boot_o_7 P) (.node (ob148 P) .nil .nil) .nil) (.node (ob116 P) (.node (ob180 P) .nil .nil) .nil))) (.node (boot_o_7 P) (.node (ob44 P) (.node (ob76 P) (.node (ob140 P) .nil .nil) .nil) (.node (ob108 P) (.node (boot_o_8 P) .nil .nil) .nil)) (.node (ob60 P) (.node (boot_o_8 P) (.node (ob156 P) .nil .nil) .nil) (.node (ob124 P) (.node (ob188 P) .nil .nil) .nil))))) (.node (boot_o_6 P) (.node (boot_o_10 P) (.node (ob18 P) (.node (ob34 P) (.node (boot_o_7 P) (.node (ob130 P) .nil .nil) .nil) (.node (boot_o_7 P) (.node (ob162 P) .nil .nil) .nil)) (.node (ob50 P) (.node (ob82 P) (.node (boot_o_8 P) .nil .nil) .nil) (.node (ob114 P) (.node (boot_o_7 P) .nil .nil) .nil))) (.node (ob26 P) (.node (boot_o_7 P) (.node (ob74 P) (.node (boot_o_7 P) .nil .nil) .nil) (.node (ob106 P) (.node (ob170 P) .nil .nil) .nil)) (.node (ob58 P) (.node (ob90 P) (.node (ob154 P) .nil .nil) .nil) (.node (ob122 P) (.node (boot_o_8 P) .nil .nil) .nil)))) (.node (ob14 P) (.node (ob22 P) (.node (ob38 P) (.node (boot_o_7 P) (.node (ob134 P) .nil .nil) .nil) (.node (ob102 P) (.node (ob166 P) .nil .nil) .nil)) (.node (boot_o_7 P) (.node (ob86 P) (.node (boot_o_7 P) .nil .nil) .nil) (.node (ob118 P) (.node (ob182 P) .nil .nil) .nil))) (.node (ob30 P) (.node (ob46 P) (.node (boot_o_8 P) (.node (ob142 P) .nil .nil) .nil) (.node (ob110 P) (.node (boot_o_7 P) .nil .nil) .nil)) (.node (ob62 P) (.node (boot_o_7 P) (.node (boot_o_8 P) .nil .nil) .nil) (.node (ob126 P) .nil .nil)))))))
noncomputable def stT5 (w : World) (os : OsState) : SharedT := ⟨tree5 w.params, 190, life0, #[], Drawn.mk 0 0 0 0, 715, os⟩
noncomputable def envM : Env := { scope := pwM.main.scope, locals := mainNs, globals := mainNs, cells := [], code := .ref 30, frame := some 31 }
noncomputable def cM : Code := .body bM envM
noncomputable def qM : Pos := ⟨0, 0, 0, 0⟩
noncomputable def pX : Pos := ⟨56, 0, 56, 8⟩
noncomputable def pY : Pos := ⟨57, 0, 57, 18⟩
noncomputable def pZ : Pos := ⟨249, 0, 267, 103⟩
noncomputable def annM : Option Value := some (.ref 6)
noncomputable abbrev denM := PySem.W.Fast.tw11892475500146522536 PySem.W.Fast.tw14364793385576792824
theorem denM_eq : denote treeTable = denM := by
  unfold denM
  rw [PySem.W.Fast.te11892475500146522536, PySem.W.Fast.te14364793385576792824]
/-- a segment's run -/
noncomputable def segQ (stp : SharedT → Thread → Option (SharedT × Thread)) (okf : Thread → Bool) (en : Thread → Option Flow) : Nat → SharedT → Thread → Option (Flow × SharedT × Code × Pos)
  | 0, _, _ => none
  | n + 1, s, t => match en t with
    | some f => some (f, s, t.code, t.pos)
    | none => match okf t with
      | false => none
      | true => match stp s t with
        | some (s', t') => segQ stp okf en n s' t'
        | none => none
theorem segQ_eq {tb : String → Option Builtin} {p : Program} {w : World} {n₀ : Nat} {ann : Option Value} {b : Nat} : ∀ (n : Nat) (s : SharedT) (t : Thread), segRunT tb p w n₀ ann b n s t = segQ (stepT (denote tb) p w) (stepOk n₀ ann) (endAt b) n s t
  | 0, _, _ => rfl
  | n + 1, s, t => by
    unfold segRunT segQ
    cases endAt b t with
    | some f => rfl
    | none =>
      cases stepOk n₀ ann t with
      | false => rfl
      | true =>
        cases stepT (denote tb) p w s t with
        | none => rfl
        | some r => exact segQ_eq n r.1 r.2
noncomputable def goQ (stp : SharedT → Thread → Option (SharedT × Thread)) (okf : Thread → Bool) : Nat → SharedT → Thread → Option (SharedT × Thread)
  | 0, s, t => some (s, t)
  | n + 1, s, t => match through t with
    | true => none
    | false => match okf t with
      | false => none
      | true => match stp s t with
        | some (s', t') => goQ stp okf n s' t'
        | none => none
theorem goQ_of {tb : String → Option Builtin} {p : Program} {w : World} {n₀ : Nat} {ann : Option Value} : ∀ {n : Nat} {s s' : SharedT} {t t' : Thread}, goQ (stepT (denote tb) p w) (stepOk n₀ ann) n s t = some (s', t') → topGo tb p w n₀ ann n s.abs t = some (s'.abs, t')
  | 0, _, _, _, _, h => by cases h; rfl
  | n + 1, s, s', t, t', h => by
    unfold goQ at h
    unfold topGo
    cases he : through t with
    | true => rw [he] at h; cases h
    | false =>
      rw [he] at h
      cases hk : stepOk n₀ ann t with
      | false => rw [hk] at h; cases h
      | true =>
        rw [hk] at h
        cases hs : stepT (denote tb) p w s t with
        | none => rw [hs] at h; cases h
        | some r => obtain ⟨s₂, t₂⟩ := r; rw [hs] at h; rw [stepT_spec hs]; exact goQ_of h
noncomputable abbrev stpM (w : World) := hdSt pwM w
noncomputable abbrev okM := PySem.W.Fast.tw6613529449190102663 28 annM
theorem seg_of {w : World} {n : Nat} {s s' : SharedT} {t : Thread} {f : Flow} {c : Code} {q : Pos} (h : segQ (stpM w) okM (endAt 1) n s t = some (f, s', c, q)) : segRun treeTable pwM w 28 annM 1 n s.abs t = some (f, s'.abs, c, q) := by
  unfold stpM okM at h
  rw [← hdSt_eq, ← PySem.W.Fast.te6613529449190102663, ← segQ_eq] at h
  exact segRun_of h
theorem go_of {w : World} {n : Nat} {s s' : SharedT} {t t' : Thread} (h : goQ (stpM w) okM n s t = some (s', t')) : topGo treeTable pwM w 28 annM n s.abs t = some (s'.abs, t') := by
  unfold stpM okM at h
  rw [← hdSt_eq, ← PySem.W.Fast.te6613529449190102663] at h
  exact goQ_of h
theorem run_of {w : World} {n : Nat} {s s' : SharedT} {t : Thread} (h : runTop (stpM w) okM n s t = some s') : topRun treeTable pwM w 28 annM n s.abs t = some s'.abs := by
  unfold stpM okM at h
  rw [← hdSt_eq, ← PySem.W.Fast.te6613529449190102663] at h
  exact runTop_of h
noncomputable def openQ (stI : SharedT → Thread → Option (SharedT × Thread)) (ex : Thread → Option (List Value)) (p : Program) (N : Nat) : Option Shared :=
  (toT (start (PySem.W.opening p)).1).bind fun a => (runImp stI ex N a (start (PySem.W.opening p)).2).bind fun b => fenceModules? p b.abs
theorem openQ_of {w : World} {N : Nat} {s : Shared} (h : openQ (hdSt (PySem.W.opening pwM) w) PySem.W.Fast.tw3805553451399329143 pwM N = some s) : fencedOpening treeTable pwM w N = some s := by
  rw [← hdSt_eq, ← PySem.W.Fast.te3805553451399329143] at h
  unfold openQ at h
  obtain ⟨a, ha, h⟩ := Option.bind_eq_some_iff.mp h
  obtain ⟨b, hb, h⟩ := Option.bind_eq_some_iff.mp h
  unfold fencedOpening
  have e1 := runImp_of hb
  rw [toT_abs ha] at e1
  rw [e1, Option.bind_some, h]
theorem p_open : ∀ w : World, (openQ (hdSt (PySem.W.opening pwM) w) PySem.W.Fast.tw3805553451399329143 pwM 4692).map (fun s => (s.heap, s.gens, s.drawn, s.toks)) = some (absHeap (tree0 w.params) 28 life0, #[], Drawn.mk 0 0 0 0, 276) := fun w => by
  kernel_rfl
theorem p_pre : ∀ (w : World) (os : OsState), goQ (stpM w) okM 12 (stT0 w os) (topStub pwM) = some (stT2 w os, ⟨denM cM, cM, qM, [topFrame qM]⟩) := fun w os => by
  kernel_rfl
theorem p_blk : ∀ (w : World) (os : OsState), segQ (stpM w) okM (endAt 1) 1 (stT2 w os) (blockOf bM envM cM qM [topFrame qM]) = some (.next, stT2 w os, cM, qM) := fun w os => by
  kernel_rfl
noncomputable def bM1 : List Stmt := bM.take 10
noncomputable def bM2 : List Stmt := (bM.drop 10).take 1
noncomputable def bM3 : List Stmt := bM.drop 11
theorem b_eq : bM = bM1 ++ (bM2 ++ (bM3 ++ [])) := by
  unfold bM1 bM2 bM3
  rw [List.append_nil, show bM.drop 11 = (bM.drop 10).drop 1 by rw [List.drop_drop], List.take_append_drop, List.take_append_drop]
theorem p_one : ∀ (w : World) (os : OsState), segQ (stpM w) okM (endAt 1) 300 (stT2 w os) (piecesOf bM1 envM cM qM [topFrame qM]) = some (.next, stT3 w os, cM, pX) := fun w os => by
  kernel_rfl
theorem p_two1 : ∀ (w : World) (os : OsState), segQ (stpM ((w.withFollow "special-get-raises" false).withFollow "comprehension-iter-twice" false)) okM (endAt 1) 1260 (stT3 ((w.withFollow "special-get-raises" false).withFollow "comprehension-iter-twice" false) os) (piecesOf bM2 envM cM pX [topFrame qM]) = some (.next, stT4 ((w.withFollow "special-get-raises" false).withFollow "comprehension-iter-twice" false) os, cM, pY) := fun w os => by
  kernel_rfl
theorem p_two2 : ∀ (w : World) (os : OsState), segQ (stpM ((w.withFollow "special-get-raises" true).withFollow "comprehension-iter-twice" false)) okM (endAt 1) 1260 (stT3 ((w.withFollow "special-get-raises" true).withFollow "comprehension-iter-twice" false) os) (piecesOf bM2 envM cM pX [topFrame qM]) = some (.next, stT4 ((w.withFollow "special-get-raises" true).withFollow "comprehension-iter-twice" false) os, cM, pY) := fun w os => by
  kernel_rfl
theorem p_two3 : ∀ (w : World) (os : OsState), segQ (stpM ((w.withFollow "special-get-raises" false).withFollow "comprehension-iter-twice" true)) okM (endAt 1) 1260 (stT3 ((w.withFollow "special-get-raises" false).withFollow "comprehension-iter-twice" true) os) (piecesOf bM2 envM cM pX [topFrame qM]) = some (.next, stT4 ((w.withFollow "special-get-raises" false).withFollow "comprehension-iter-twice" true) os, cM, pY) := fun w os => by
  kernel_rfl
theorem p_two4 : ∀ (w : World) (os : OsState), segQ (stpM ((w.withFollow "special-get-raises" true).withFollow "comprehension-iter-twice" true)) okM (endAt 1) 1260 (stT3 ((w.withFollow "special-get-raises" true).withFollow "comprehension-iter-twice" true) os) (piecesOf bM2 envM cM pX [topFrame qM]) = some (.next, stT4 ((w.withFollow "special-get-raises" true).withFollow "comprehension-iter-twice" true) os, cM, pY) := fun w os => by
  kernel_rfl
theorem p_two (w : World) : ∀ os : OsState, segQ (stpM w) okM (endAt 1) 1260 (stT3 w os) (piecesOf bM2 envM cM pX [topFrame qM]) = some (.next, stT4 w os, cM, pY) :=
  rows4 (P := fun w => ∀ os : OsState, segQ (stpM w) okM (endAt 1) 1260 (stT3 w os) (piecesOf bM2 envM cM pX [topFrame qM]) = some (.next, stT4 w os, cM, pY)) "comprehension-iter-twice" "special-get-raises" p_two1 p_two2 p_two3 p_two4 w
theorem p_three : ∀ (w : World) (os : OsState), segQ (stpM w) okM (endAt 1) 800 (stT4 w os) (piecesOf bM3 envM cM pY [topFrame qM]) = some (.next, stT5 w os, cM, pZ) := fun w os => by
  kernel_rfl
theorem p_fin : ∀ (w : World) (os : OsState), runTop (stpM w) okM 2 (stT5 w os) ⟨doneF .next, cM, pZ, [topFrame qM]⟩ = some (stT5 w os) := fun w os => by
  kernel_rfl
noncomputable abbrev heapM (P : Params) : Heap := absHeap (tree0 P) 28 life0
noncomputable abbrev endM (P : Params) : Heap := absHeap (tree5 P) 190 life0
noncomputable abbrev sM (w : World) (os : OsState) : Shared := ⟨endM w.params, #[], Drawn.mk 0 0 0 0, 715, os⟩
theorem p_size : ∀ w : World, ((heapM w.params).isNs mainGlobals && (#[] : Array GenState).size == 0, (heapM w.params).objs.size, (heapM w.params).nsMap mainGlobals "__annotations__") = (true, 28, annM) := fun w => by
  kernel_rfl
theorem p_opens (w : World) : (fencedOpening treeTable pwM w 4692).map (fun s => (s.heap, s.gens, s.drawn, s.toks)) = some (heapM w.params, #[], Drawn.mk 0 0 0 0, 276) := by
  obtain ⟨s, hs, hr⟩ := Option.map_eq_some_iff.mp (p_open w)
  rw [openQ_of hs, Option.map_some, hr]
theorem p_run (w : World) (os : OsState) : topRun treeTable pwM w 28 annM (12 + (1 + (300 + (1260 + (800 + 2))))) ⟨heapM w.params, #[], Drawn.mk 0 0 0 0, 276, os⟩ (topStub pwM) = some (sM w os) := by
  have e := go_of (p_pre w os)
  rw [← denM_eq] at e
  have k5 : topRun treeTable pwM w 28 annM 2 (stT5 w os).abs (restOf [] envM cM pZ [topFrame qM]) = some (sM w os) := piece_nil (run_of (p_fin w os))
  have k4 := piece_app (seg_of (p_three w os)) k5
  have k3 := piece_app (seg_of (p_two w os)) k4
  have k2 := piece_app (seg_of (p_one w os)) k3
  rw [← b_eq] at k2
  exact go_top e (piece_block (seg_of (p_blk w os)) k2)
noncomputable abbrev HK : Hook := kmHook hd.heap_1 [2, 3, 32, 34, 35, 37, 38, 39, 41, 42, 44, 45, 49, 50, 51, 53, 54, 56, 57, 59, 63, 65, 66, 68, 69, 70, 72, 73, 75, 76, 77, 79, 80, 82, 83, 84, 86, 87, 89, 90, 91, 93, 94, 96, 97, 98, 100, 101, 103, 104, 105, 106, 107, 108, 109, 110, 111, 112, 113, 114, 115, 116, 117, 118, 119, 120, 121, 122, 123, 124, 125, 126, 127, 128, 129, 130, 131, 132, 133, 134, 135, 136, 137, 138, 140, 141, 143, 144, 145, 148, 149, 150, 152, 153, 155, 156, 157, 159, 160, 162, 163, 164, 166, 167, 169, 170, 171, 173, 174, 176, 177, 178, 180, 181, 183, 184, 185, 188, 189] (fun _ => by kernel_rfl) [71]
theorem l_seen : ∀ (w : World) (os : OsState), seen ((recsOf hdQ).map (·.name)) (ownsOf hdQ) [] { sM w os with gens := #[] } = expectedOf hdQ := fun w os => by
  kernel_rfl
theorem l_blt : ∀ (w : World) (os : OsState), (sM w os).heap.bltView = bltViewBooted := fun w os => by
  kernel_rfl
theorem l_keys : ∀ (w : World) (os : OsState), (sM w os).heap.keysOk (looseW hdQ hdLO) ((recsOf hdQ).map (·.name)) ((litsOf hdQ).map (·.1)) ((clssOf hdQ (looseW hdQ hdLO)).map (·.name)) = true := fun w os => by
  kernel_rfl
theorem l_acc : ∀ (w : World) (os : OsState), (sM w os).heap.accountedOkI (importedModules pwM.main.body) = true := fun w os => by
  kernel_rfl
theorem l_ns1 : ∀ (w : World) (os : OsState), (sM w os).heap.isNs mainGlobals = true := fun w os => by
  kernel_rfl
theorem l_ns2 : ∀ (w : World) (os : OsState), (sM w os).heap.isNs builtinsNs = true := fun w os => by
  kernel_rfl
theorem l_tabs : ∀ (w : World) (os : OsState), tablesOk hdQ (sM w os).heap = true := fun w os => by
  kernel_rfl
theorem l_xt : ∀ (w : World) (os : OsState), (xlAt hdQ hdLV (sM w os) && recOk (RowW.records PySem.Challenge.rw_rt0042_01.row.toRowW) (sM w os)) = true := fun w os => by
  kernel_rfl
theorem l_tabs2 : ∀ (w : World) (os : OsState), tabsOk hdQ (sM w os) = true := fun w os => by
  kernel_rfl
theorem l_pin : ∀ (w : World) (os : OsState), pinSeenD hdQ (drecsOf hdQ) (sM w os) = pinGoodD (drecsOf hdQ) := fun w os => by
  kernel_rfl
theorem l_plE : ∀ (w : World) (os : OsState), plainSeenE hdQ (looseW hdQ hdLO) (sM w os) = plainGoodE hdQ (looseW hdQ hdLO) := fun w os => by
  kernel_rfl
theorem l_plD : ∀ (w : World) (os : OsState), plainSeenD hdQ hdLO (sM w os) = plainGoodD hdQ hdLO := fun w os => by
  kernel_rfl
theorem l_wide : ∀ (w : World) (os : OsState), wideSeen hdQ (sM w os) = wideGood hdQ := fun w os => by
  kernel_rfl
theorem l_cls : ∀ (w : World) (os : OsState), clsSeenW hdQ hdLO (sM w os) = clsGoodW hdQ hdLO := fun w os => by
  kernel_rfl
theorem l_st : ∀ (w : World) (os : OsState), staticsOk (importedModules pwM.main.body) (heapM w.params) (endM w.params) = true := fun w os => by
  kernel_rfl
theorem l_nb : ∀ (w : World) (os : OsState), namesBound pwM (endM w.params) = true := fun w os => by
  kernel_rfl
theorem l_gd : ∀ (w : World) (os : OsState), gensDone (sM w os) = true := fun w os => by
  kernel_rfl
theorem l_lk : ∀ (w : World) (os : OsState), laidKept (heapM w.params) (endM w.params) = true := fun w os => by
  kernel_rfl
theorem l_obs : ∀ (w : World) (os : OsState), HK.obs (sM w os) = HK.val w := fun w os => by
  kernel_rfl
theorem left_all : LeftO PySem.Challenge.rw_rt0042_01.row.prog hdQ hdLO (fun s => xlAt hdQ hdLV s && recOk (RowW.records PySem.Challenge.rw_rt0042_01.row.toRowW) s) HK.obs HK.val 4692 :=
  LeftO.of_pieces (p := pwM) (H₀ := heapM) (H₁ := endM) p_opens p_size p_run rfl fun w => by
    funext os
    refine looks_pair ?_ (looks_pair ?_ (l_obs w os))
    · exact look_both (look_both (look_both (l_st w os) (l_nb w os)) (l_gd w os)) (l_lk w os)
    · unfold openSeen openGood
      refine looks_pair (l_seen w os) (looks_pair (l_blt w os) (looks_pair ?_ (looks_pair (l_tabs2 w os) (looks_pair (l_pin w os) (looks_pair (l_plE w os) (looks_pair (l_plD w os) (looks_pair (l_wide w os) (l_cls w os))))))))
      exact look_both (look_both (look_both (look_both (look_both (look_both (l_keys w os) (l_acc w os)) (l_ns1 w os)) (l_ns2 w os)) (l_tabs w os)) (l_xt w os)) rfl
end Mine
end
section
open PySem PySem.W PySem.W.X PyProof.Rows
namespace Mine
abbrev PR : Program := PySem.Challenge.rw_rt0042_01.row.prog

end Mine
end
section
open PySem PySem.W PySem.W.X PyProof.Rows PySem.Builtin.Str
namespace Mine
/-- a text by its signs' numbers -/
def tx (l : List Nat) : Str := ⟨l.toArray⟩
theorem tx_len (l : List Nat) : (tx l).length = l.length := rfl
theorem tx_inj {l m : List Nat} : tx l = tx m ↔ l = m := by
  constructor
  · intro h
    have := congrArg (fun x => x.cps.toList) h
    simpa [tx] using this
  · rintro rfl; rfl
theorem tx_beq (l m : List Nat) : (tx l == tx m) = decide (l = m) := by
  by_cases h : l = m
  · subst h; simp
  · have : tx l ≠ tx m := fun e => h (tx_inj.mp e)
    simp [h, this]
theorem tx_bne (l m : List Nat) : (tx l != tx m) = decide (l ≠ m) := by
  unfold bne; rw [tx_beq]; simp
theorem tx_app (l m : List Nat) : tx l ++ tx m = tx (l ++ m) := by
  apply PySem.Str.ext'
  show l.toArray ++ m.toArray = (l ++ m).toArray
  simp
theorem tx_of (x : Str) : tx x.cps.toList = x := by
  apply PySem.Str.ext'
  show x.cps.toList.toArray = x.cps
  simp

def clipN (n : Nat) (v : Option Int) (d : Nat) : Nat := match v with
  | none => d
  | some i => (max 0 (min (if i < 0 then i + n else i) (n : Int))).toNat

theorem clip_in {n d : Nat} {i : Int} (h0 : 0 ≤ i) (h : i ≤ n) : clipN n (some i) d = i.toNat := by
  unfold clipN
  dsimp only
  rw [if_neg (Int.not_lt.mpr h0), Int.min_eq_left h, Int.max_eq_right h0]
theorem clip_out {n d : Nat} {i : Int} (h0 : 0 ≤ i) (h : ¬ i ≤ n) : clipN n (some i) d = n := by
  unfold clipN
  dsimp only
  rw [if_neg (Int.not_lt.mpr h0), Int.min_eq_right (Int.le_of_lt (Int.not_le.mp h)), Int.max_eq_right (Int.natCast_nonneg n), Int.toNat_natCast]
theorem clip_neg {n d : Nat} {j : Int} (h0 : j < 0) : clipN n (some j) d = n - (-j).toNat := by
  unfold clipN
  dsimp only
  rw [if_pos h0, Int.min_eq_left (by omega)]
  omega
theorem clipN_le (n : Nat) (v : Option Int) (d : Nat) (hd : d ≤ n) : clipN n v d ≤ n := by
  unfold clipN
  cases v with
  | none => exact hd
  | some i =>
    dsimp only
    have h : max 0 (min (if i < 0 then i + n else i) (n : Int)) ≤ n := Int.max_le.mpr ⟨Int.natCast_nonneg n, Int.min_le_right _ _⟩
    exact Int.toNat_le.mpr h

theorem idx_eq (l u : Option Int) (n : Nat) : strSliceIndices l u 1 n = (List.range (clipN n u n - clipN n l 0)).map (clipN n l 0 + ·) := by
  have key : ∀ (lo hi : Int) (a b : Nat), lo = (a : Int) → hi = (b : Int) → sliceRange lo hi 1 = (List.range (b - a)).map (a + ·) := by
    intro lo hi a b h1 h2
    subst h1 h2
    show List.map (fun k : Nat => ((a : Int) + 1 * (k : Int)).toNat) (List.range (if (1 : Int) > 0 then (if (a : Int) < b then ((b : Int) - a + 1 - 1) / 1 else 0) else (if (a : Int) > b then ((a : Int) - b - 1 - 1) / (-1) else 0)).toNat) = _
    have e : (if (1 : Int) > 0 then (if (a : Int) < b then ((b : Int) - a + 1 - 1) / 1 else 0) else (if (a : Int) > b then ((a : Int) - b - 1 - 1) / (-1) else 0)).toNat = b - a := by
      simp only [show (1 : Int) > 0 by decide, if_true, Int.ediv_one]
      split <;> omega
    rw [e]
    refine List.map_congr_left fun k _ => ?_
    omega
  unfold strSliceIndices
  refine key _ _ _ _ ?_ ?_
  · cases l with
    | none => simp [clipN]
    | some i =>
      simp only [clipN, show (1 : Int) > 0 by decide, if_true]
      first | exact (Int.toNat_of_nonneg (Int.le_max_left _ _)).symm | (trace "OM"; omega)
  · cases u with
    | none => simp [clipN]
    | some i =>
      simp only [clipN, show (1 : Int) > 0 by decide, if_true]
      first | exact (Int.toNat_of_nonneg (Int.le_max_left _ _)).symm | (trace "OM"; omega)

theorem pick_eq (A : List Nat) (a k : Nat) : ((List.range k).map (a + ·)).filterMap (A.toArray[·]?) = (A.drop a).take k := by
  induction k with
  | zero => simp
  | succ k ih =>
    rw [List.range_succ, List.map_append, List.filterMap_append, ih, List.take_add_one]
    congr 1
    rw [List.getElem?_drop]
    cases h : A[a + k]? <;> simp [h]

theorem slice_tx (A : List Nat) (l u : Option Int) :
    Txt.slice (tx A) l u = tx ((A.drop (clipN A.length l 0)).take (clipN A.length u A.length - clipN A.length l 0)) := by
  have hl := clipN_le A.length l 0 (Nat.zero_le _)
  have hu := clipN_le A.length u A.length (Nat.le_refl _)
  unfold Txt.slice
  rw [tx_len, idx_eq]
  split
  · rename_i h
    simp only [List.length_map, List.length_range, Bool.and_eq_true, beq_iff_eq] at h
    have h2 := h.2
    by_cases h0 : A.length = 0
    · have : A = [] := List.length_eq_zero_iff.mp h0
      subst this; simp
    · have e1 : clipN A.length l 0 = 0 := by omega
      have e2 : clipN A.length u A.length = A.length := by omega
      rw [e1, e2]; simp
  · show (⟨_⟩ : Str) = ⟨_⟩
    rw [show (tx A).cps = A.toArray from rfl, pick_eq]

theorem slice_from {A : List Nat} {i : Int} (h0 : 0 ≤ i) : Txt.slice (tx A) (some i) none = tx (A.drop i.toNat) := by
  rw [slice_tx]
  have e2 : clipN A.length none A.length = A.length := rfl
  by_cases h : i ≤ A.length
  · have e1 : clipN A.length (some i) 0 = i.toNat := clip_in h0 h
    rw [e1, e2]
    congr 1
    rw [List.take_of_length_le]
    rw [List.length_drop]; omega
  · have e1 : clipN A.length (some i) 0 = A.length := clip_out h0 h
    rw [e1, e2, List.drop_length, List.drop_of_length_le (by omega)]; simp
theorem slice_all {A : List Nat} : Txt.slice (tx A) none none = tx A := by
  rw [slice_tx]
  simp [clipN]
theorem slice_to {A : List Nat} {j : Int} (h0 : 0 ≤ j) : Txt.slice (tx A) none (some j) = tx (A.take j.toNat) := by
  rw [slice_tx]
  have e2 : clipN A.length none 0 = 0 := rfl
  rw [e2]
  by_cases h : j ≤ A.length
  · have e1 : clipN A.length (some j) A.length = j.toNat := clip_in h0 h
    rw [e1]; simp
  · have e1 : clipN A.length (some j) A.length = A.length := clip_out h0 h
    rw [e1]
    simp only [List.drop_zero, Nat.sub_zero, List.take_length]
    rw [List.take_of_length_le (by omega)]
theorem slice_back {A : List Nat} {j : Int} (h0 : j < 0) : Txt.slice (tx A) none (some j) = tx (A.take (A.length - (-j).toNat)) := by
  rw [slice_tx]
  have e2 : clipN A.length none 0 = 0 := rfl
  have e1 : clipN A.length (some j) A.length = A.length - (-j).toNat := clip_neg h0
  rw [e2, e1]; simp
theorem slice_last {A : List Nat} {j : Int} (h0 : j < 0) : Txt.slice (tx A) (some j) none = tx (A.drop (A.length - (-j).toNat)) := by
  rw [slice_tx]
  have e2 : clipN A.length none A.length = A.length := rfl
  have e1 : clipN A.length (some j) 0 = A.length - (-j).toNat := clip_neg h0
  rw [e2, e1]
  congr 1
  rw [List.take_of_length_le]
  rw [List.length_drop]; omega
theorem slice_mid {A : List Nat} {i j : Int} (h0 : 0 ≤ i) (h1 : i ≤ j) : Txt.slice (tx A) (some i) (some j) = tx ((A.drop i.toNat).take (j - i).toNat) := by
  rw [slice_tx]
  by_cases h : i ≤ A.length
  · have e1 : clipN A.length (some i) 0 = i.toNat := clip_in h0 h
    rw [e1]
    by_cases h' : j ≤ A.length
    · have e2 : clipN A.length (some j) A.length = j.toNat := clip_in (Int.le_trans h0 h1) h'
      rw [e2]; congr 2; omega
    · have e2 : clipN A.length (some j) A.length = A.length := clip_out (Int.le_trans h0 h1) h'
      rw [e2]
      congr 1
      rw [List.take_of_length_le (by rw [List.length_drop]; omega), List.take_of_length_le (by rw [List.length_drop]; omega)]
  · have e1 : clipN A.length (some i) 0 = A.length := clip_out h0 h
    rw [e1, List.drop_length, List.drop_of_length_le (by omega)]; simp

theorem item_tx {A : List Nat} {i : Int} (h0 : 0 ≤ i) (h1 : i < A.length) : Txt.item (tx A) i = tx [A.getD i.toNat 0] := by
  have h : i.toNat < A.length := by omega
  have : (tx A).cps[i.toNat]? = some (A.getD i.toNat 0) := by
    show A.toArray[i.toNat]? = _
    simp [h]
  rw [item_meets h0 this]; rfl
theorem item_txN {A : List Nat} {i : Int} (h0 : i < 0) (h1 : -(A.length : Int) ≤ i) : Txt.item (tx A) i = tx [A.getD (A.length - (-i).toNat) 0] := by
  have h : A.length - (-i).toNat < A.length := by omega
  unfold Txt.item Txt.charAt
  rw [tx_len]
  have e : PySem.seqIndex? i A.length = some (A.length - (-i).toNat) := by
    unfold PySem.seqIndex?
    simp only [h0, if_true]
    have e1 : (i + (A.length : Int)).toNat = A.length - (-i).toNat := by omega
    rw [e1, if_pos (by simp only [Bool.and_eq_true, decide_eq_true_eq]; omega)]
  rw [e]
  show (⟨#[(A.toArray[A.length - (-i).toNat]?).getD 0]⟩ : Str) = _
  simp [h]; rfl
end Mine
end
section
open PySem PySem.W PySem.W.X PyProof.Rows PySem.Builtin.Str PySem.Calls
namespace Mine
theorem fits_of {n : Nat} (h : n ≤ 100000) : n ≤ sizeLine := by rw [sizeLine_eq]; omega
section
variable {prog : Program} {w : World} {Ar : Around} {E : Value → Shared → Prop} {s : Shared} {value slice : Expr} {A B : List Nat} {t u : Tok} {h₀ : Heap} {L : Addr} {m : Str → Option Value} {news : List (Addr × Obj)} {Q : Value → Shared → Prop}
theorem r_drop {i : Int} {ui : Tok} (hF : Fr h₀ L s.heap m) (hN : News h₀ L s.heap news) (h0 : 0 ≤ i) (hsz : A.length ≤ 100000) (h : ∀ h' t' k, Fr h₀ L h' m → News h₀ L h' news → Q (.str (tx (A.drop i.toNat)) t') { s with heap := h', toks := k })
    (hs : subscripted slice false (.str (tx A) t) (.ref s.heap.objs.size) = operate [.ref s.heap.objs.size, .str (tx A) t] (getItem (.str (tx A) t) (.ref s.heap.objs.size)) := by with_unfolding_all rfl)
    (ht : ∀ r, letTemporaryGo value (.str (tx A) t) r = pure () := by intro _; with_unfolding_all rfl) :
    wpAny (model prog w) Ar (subscriptTail value slice (.str (tx A) t) (.ref s.heap.objs.size)) Q E { s with heap := s.heap.push { cls := .type "slice", data := .fields #[.int i ui, .none, .none] } } :=
  slice_strN_sn hF hN (by rw [slice_from h0]; exact h) hs ht (fits_of hsz)
theorem r_last {i : Int} {ui : Tok} (hF : Fr h₀ L s.heap m) (hN : News h₀ L s.heap news) (h0 : i < 0) (hsz : A.length ≤ 100000) (h : ∀ h' t' k, Fr h₀ L h' m → News h₀ L h' news → Q (.str (tx (A.drop (A.length - (-i).toNat))) t') { s with heap := h', toks := k })
    (hs : subscripted slice false (.str (tx A) t) (.ref s.heap.objs.size) = operate [.ref s.heap.objs.size, .str (tx A) t] (getItem (.str (tx A) t) (.ref s.heap.objs.size)) := by with_unfolding_all rfl)
    (ht : ∀ r, letTemporaryGo value (.str (tx A) t) r = pure () := by intro _; with_unfolding_all rfl) :
    wpAny (model prog w) Ar (subscriptTail value slice (.str (tx A) t) (.ref s.heap.objs.size)) Q E { s with heap := s.heap.push { cls := .type "slice", data := .fields #[.int i ui, .none, .none] } } :=
  slice_strN_sn hF hN (by rw [slice_last h0]; exact h) hs ht (fits_of hsz)
theorem r_all (hF : Fr h₀ L s.heap m) (hN : News h₀ L s.heap news) (hsz : A.length ≤ 100000) (h : ∀ h' t' k, Fr h₀ L h' m → News h₀ L h' news → Q (.str (tx A) t') { s with heap := h', toks := k })
    (hs : subscripted slice false (.str (tx A) t) (.ref s.heap.objs.size) = operate [.ref s.heap.objs.size, .str (tx A) t] (getItem (.str (tx A) t) (.ref s.heap.objs.size)) := by with_unfolding_all rfl)
    (ht : ∀ r, letTemporaryGo value (.str (tx A) t) r = pure () := by intro _; with_unfolding_all rfl) :
    wpAny (model prog w) Ar (subscriptTail value slice (.str (tx A) t) (.ref s.heap.objs.size)) Q E { s with heap := s.heap.push { cls := .type "slice", data := .fields #[.none, .none, .none] } } :=
  slice_strN_nn hF hN (by rw [slice_all]; exact h) hs ht (fits_of hsz)
theorem r_take {j : Int} {uj : Tok} (hF : Fr h₀ L s.heap m) (hN : News h₀ L s.heap news) (h0 : 0 ≤ j) (hsz : A.length ≤ 100000) (h : ∀ h' t' k, Fr h₀ L h' m → News h₀ L h' news → Q (.str (tx (A.take j.toNat)) t') { s with heap := h', toks := k })
    (hs : subscripted slice false (.str (tx A) t) (.ref s.heap.objs.size) = operate [.ref s.heap.objs.size, .str (tx A) t] (getItem (.str (tx A) t) (.ref s.heap.objs.size)) := by with_unfolding_all rfl)
    (ht : ∀ r, letTemporaryGo value (.str (tx A) t) r = pure () := by intro _; with_unfolding_all rfl) :
    wpAny (model prog w) Ar (subscriptTail value slice (.str (tx A) t) (.ref s.heap.objs.size)) Q E { s with heap := s.heap.push { cls := .type "slice", data := .fields #[.none, .int j uj, .none] } } :=
  slice_strN_ns hF hN (by rw [slice_to h0]; exact h) hs ht (fits_of hsz)
theorem r_back {j : Int} {uj : Tok} (hF : Fr h₀ L s.heap m) (hN : News h₀ L s.heap news) (h0 : j < 0) (hsz : A.length ≤ 100000) (h : ∀ h' t' k, Fr h₀ L h' m → News h₀ L h' news → Q (.str (tx (A.take (A.length - (-j).toNat))) t') { s with heap := h', toks := k })
    (hs : subscripted slice false (.str (tx A) t) (.ref s.heap.objs.size) = operate [.ref s.heap.objs.size, .str (tx A) t] (getItem (.str (tx A) t) (.ref s.heap.objs.size)) := by with_unfolding_all rfl)
    (ht : ∀ r, letTemporaryGo value (.str (tx A) t) r = pure () := by intro _; with_unfolding_all rfl) :
    wpAny (model prog w) Ar (subscriptTail value slice (.str (tx A) t) (.ref s.heap.objs.size)) Q E { s with heap := s.heap.push { cls := .type "slice", data := .fields #[.none, .int j uj, .none] } } :=
  slice_strN_ns hF hN (by rw [slice_back h0]; exact h) hs ht (fits_of hsz)
theorem r_mid {i j : Int} {ui uj : Tok} (hF : Fr h₀ L s.heap m) (hN : News h₀ L s.heap news) (h0 : 0 ≤ i ∧ i ≤ j) (hsz : A.length ≤ 100000) (h : ∀ h' t' k, Fr h₀ L h' m → News h₀ L h' news → Q (.str (tx ((A.drop i.toNat).take (j - i).toNat)) t') { s with heap := h', toks := k })
    (hs : subscripted slice false (.str (tx A) t) (.ref s.heap.objs.size) = operate [.ref s.heap.objs.size, .str (tx A) t] (getItem (.str (tx A) t) (.ref s.heap.objs.size)) := by with_unfolding_all rfl)
    (ht : ∀ r, letTemporaryGo value (.str (tx A) t) r = pure () := by intro _; with_unfolding_all rfl) :
    wpAny (model prog w) Ar (subscriptTail value slice (.str (tx A) t) (.ref s.heap.objs.size)) Q E { s with heap := s.heap.push { cls := .type "slice", data := .fields #[.int i ui, .int j uj, .none] } } :=
  slice_strN_ss hF hN (by rw [slice_mid h0.1 h0.2]; exact h) hs ht (fits_of hsz)

theorem r_item {i : Int} {u : Tok} (h1 : 0 ≤ i) (h2 : i < A.length) (hsz : A.length ≤ 100000)
    (h : ∀ t' k, Q (.str (tx [A.getD i.toNat 0]) t') { s with toks := k })
    (hs : subscripted slice false (.str (tx A) t) (.int i u) = operate [.str (tx A) t, .int i u] (getItem (.str (tx A) t) (.int i u)) := by with_unfolding_all rfl)
    (ht : ∀ r, letTemporaryGo value (.str (tx A) t) r = pure () := by intro _; with_unfolding_all rfl) :
    wpAny (model prog w) Ar (subscriptTail value slice (.str (tx A) t) (.int i u)) Q E s :=
  item_str (fitsSsize_of (N := 9223372036854775808) (by omega) (by omega) (Int.le_refl _)) (by rw [tx_len]; omega) (by rw [tx_len]; omega) (fun _ => by rw [item_tx h1 h2]; exact h _ _) hs ht
theorem r_itemN {i : Int} {u : Tok} (h1 : i < 0) (h2 : -(A.length : Int) ≤ i) (hsz : A.length ≤ 100000)
    (h : ∀ t' k, Q (.str (tx [A.getD (A.length - (-i).toNat) 0]) t') { s with toks := k })
    (hs : subscripted slice false (.str (tx A) t) (.int i u) = operate [.str (tx A) t, .int i u] (getItem (.str (tx A) t) (.int i u)) := by with_unfolding_all rfl)
    (ht : ∀ r, letTemporaryGo value (.str (tx A) t) r = pure () := by intro _; with_unfolding_all rfl) :
    wpAny (model prog w) Ar (subscriptTail value slice (.str (tx A) t) (.int i u)) Q E s :=
  item_str (fitsSsize_of (N := 9223372036854775808) (by omega) (by omega) (Int.le_refl _)) (by rw [tx_len]; omega) (by rw [tx_len]; omega) (fun _ => by rw [item_txN h1 h2]; exact h _ _) hs ht
theorem r_len (hsz : A.length ≤ 100000) (h : ∀ t' k, Q (.int A.length t') { s with toks := k }) : wpAny (model prog w) Ar (call (.builtin "len") [.str (tx A) t]) Q E s :=
  SBL.len (by rw [tx_len]; omega) (h _ _)
theorem r_truthy {Q : Bool → Shared → Prop} (hsz : A.length ≤ 100000) (h : ∀ k, Q (decide (A ≠ [])) { s with toks := k }) : wpAny (model prog w) Ar (PySem.truthy (.str (tx A) t)) Q E s := by
  refine SBL.truthy (by rw [tx_len]; omega) ?_
  have e : (((tx A).length : Int) != 0) = decide (A ≠ []) := by
    rw [tx_len]
    cases A with
    | nil => rfl
    | cons a r => simp; omega
  rw [e]; exact h _
theorem r_eq (h : Q (.bool (decide (A = B))) s) : wpAny (model prog w) Ar (compareOp .Eq (.str (tx A) t) (.str (tx B) u)) Q E s :=
  eq_str (by rw [tx_beq]; exact h)
theorem r_ne (h : Q (.bool (decide (A ≠ B))) s) : wpAny (model prog w) Ar (compareOp .NotEq (.str (tx A) t) (.str (tx B) u)) Q E s :=
  ne_str (by rw [tx_bne]; exact h)
theorem r_add (hsz : A.length + B.length ≤ 100000) (h : ∀ t' k, Q (.str (tx (A ++ B)) t') { s with toks := k }) : wpAny (model prog w) Ar (binaryOp .Add (.str (tx A) t) (.str (tx B) u)) Q E s :=
  SBL.add (fun t' k _ => by rw [tx_app]; exact h _ _) (fits_of hsz)
theorem r_iadd (hsz : A.length + B.length ≤ 100000) (h : ∀ t' k, Q (.str (tx (A ++ B)) t') { s with toks := k }) : wpAny (model prog w) Ar (inplaceOp .Add (.str (tx A) t) (.str (tx B) u)) Q E s :=
  SBL.iadd (fun t' k _ => by rw [tx_app]; exact h _ _) (fits_of hsz)
end
theorem lower_one {c : Nat} (hc : c < 128) : Txt.lower (tx [c]) = tx [lo1 c] := by
  rw [lower_ascii (by intro d hd; simp [tx] at hd; omega)]
  apply PySem.Str.ext'
  simp [tx]
theorem my_lower {prog : Program} {w : World} {A : Around} {E : Value → Shared → Prop} {s : Shared} {c : Nat} {t : Tok} {Q : Value → Shared → Prop} (hc : c < 128)
   (h : ∀ t' k, Q (.str (tx [lo1 c]) t') { s with toks := k }) : wpAny (model prog w) A (call (.builtin "str.lower") [.str (tx [c]) t]) Q E s :=
  KXw.lower (lower_one hc) (by rw [lower_one hc]; rfl) h
end Mine
end
section
open PySem PySem.W PySem.W.X PyProof.Rows PySem.Builtin.Str PySem.Calls
namespace Mine
/-- a fact put away from simp and omega -/
structure Hid (p : Prop) : Prop where
  out : p
section
variable {prog : Program} {w : World} {Ar : Around} {E : Value → Shared → Prop} {s : Shared} {A B : List Nat} {t u : Tok} {h₀ : Heap} {L : Addr} {m : Str → Option Value} {news : List (Addr × Obj)}
theorem r_truthyD {i : Nat} {Q : Bool → Shared → Prop} (hsz : A.length ≤ 100000) (h1 : i < A.length → ∀ k, Q true { s with toks := k }) (h2 : A.length ≤ i → ∀ k, Q false { s with toks := k }) : wpAny (model prog w) Ar (PySem.truthy (.str (tx (A.drop i)) t)) Q E s := by
  refine r_truthy (by rw [List.length_drop]; omega) fun k => ?_
  by_cases h : i < A.length
  · have : A.drop i ≠ [] := fun e => by have := congrArg List.length e; simp at this; omega
    rw [decide_eq_true this]; exact h1 h k
  · have : A.drop i = [] := List.drop_of_length_le (by omega)
    rw [decide_eq_false (fun q => q this)]; exact h2 (by omega) k
theorem r_truthyT {i : Nat} {Q : Bool → Shared → Prop} (hsz : A.length ≤ 100000) (h1 : (0 < i ∧ 0 < A.length) → ∀ k, Q true { s with toks := k }) (h2 : (i = 0 ∨ A.length = 0) → ∀ k, Q false { s with toks := k }) : wpAny (model prog w) Ar (PySem.truthy (.str (tx (A.take i)) t)) Q E s := by
  refine r_truthy (by rw [List.length_take]; omega) fun k => ?_
  by_cases h : 0 < i ∧ 0 < A.length
  · have : A.take i ≠ [] := fun e => by
      have : (A.take i).length = 0 := by rw [e]; rfl
      rw [List.length_take] at this; omega
    rw [decide_eq_true this]; exact h1 h k
  · have : A.take i = [] := by
      have : (A.take i).length = 0 := by rw [List.length_take]; omega
      exact List.length_eq_zero_iff.mp this
    rw [decide_eq_false (fun q => q this)]; exact h2 (by omega) k
theorem r_truthyC {Q : Bool → Shared → Prop} (hsz : A.length ≤ 100000) (h1 : 0 < A.length → ∀ k, Q true { s with toks := k }) (h2 : A.length = 0 → ∀ k, Q false { s with toks := k }) : wpAny (model prog w) Ar (PySem.truthy (.str (tx A) t)) Q E s := by
  refine r_truthy hsz fun k => ?_
  cases A with
  | nil => exact h2 rfl k
  | cons a r => rw [decide_eq_true (by simp)]; exact h1 (by simp) k
theorem r_eqC {Q : Value → Shared → Prop} (h1 : A = B → Q (.bool true) s) (h2 : A ≠ B → Q (.bool false) s) : wpAny (model prog w) Ar (compareOp .Eq (.str (tx A) t) (.str (tx B) u)) Q E s := by
  refine r_eq ?_
  by_cases h : A = B
  · rw [decide_eq_true h]; exact h1 h
  · rw [decide_eq_false h]; exact h2 h
theorem r_neC {Q : Value → Shared → Prop} (h1 : A = B → Q (.bool false) s) (h2 : A ≠ B → Q (.bool true) s) : wpAny (model prog w) Ar (compareOp .NotEq (.str (tx A) t) (.str (tx B) u)) Q E s := by
  refine r_ne ?_
  by_cases h : A = B
  · rw [decide_eq_false (fun q => q h)]; exact h1 h
  · rw [decide_eq_true h]; exact h2 h
theorem r_eq1 {a b : Nat} {Q : Value → Shared → Prop} (h1 : a = b → Q (.bool true) s) (h2 : a ≠ b → Q (.bool false) s) : wpAny (model prog w) Ar (compareOp .Eq (.str (tx [a]) t) (.str (tx [b]) u)) Q E s :=
  r_eqC (fun h => h1 (by simpa using h)) (fun h => h2 (by simpa using h))
theorem r_ne1 {a b : Nat} {Q : Value → Shared → Prop} (h1 : a = b → Q (.bool false) s) (h2 : a ≠ b → Q (.bool true) s) : wpAny (model prog w) Ar (compareOp .NotEq (.str (tx [a]) t) (.str (tx [b]) u)) Q E s :=
  r_neC (fun h => h1 (by simpa using h)) (fun h => h2 (by simpa using h))

/-- a test whose ways meet -/
def CutPost (h₀ : Heap) (L : Addr) (m : Str → Option Value) (news : List (Addr × Obj)) (s : Shared) (C : Prop) (b : Bool) (s₂ : Shared) : Prop :=
  ∃ h' tk, s₂ = { s with heap := h', toks := tk } ∧ Fr h₀ L h' m ∧ News h₀ L h' news ∧ (b = true ↔ C)
theorem CutPost.yes {h' : Heap} {tk : Nat} {C : Prop} (F : Fr h₀ L h' m) (N : News h₀ L h' news) (hc : C) : CutPost h₀ L m news s C true { s with heap := h', toks := tk } := ⟨h', tk, rfl, F, N, ⟨fun _ => hc, fun _ => rfl⟩⟩
theorem CutPost.no {h' : Heap} {tk : Nat} {C : Prop} (F : Fr h₀ L h' m) (N : News h₀ L h' news) (hc : ¬ C) : CutPost h₀ L m news s C false { s with heap := h', toks := tk } := ⟨h', tk, rfl, F, N, ⟨fun h => (nomatch h), fun h => absurd h hc⟩⟩
theorem cut_bool {M : Model} {tr : Sem Bool} {Q : Bool → Shared → Prop} (_F : Fr h₀ L s.heap m) (_N : News h₀ L s.heap news) (C : Prop)
    (h1 : wpAny M Ar tr (CutPost h₀ L m news s C) E s)
    (ht : C → ∀ h' tk, Fr h₀ L h' m → News h₀ L h' news → Q true { s with heap := h', toks := tk })
    (hf : ¬ C → ∀ h' tk, Fr h₀ L h' m → News h₀ L h' news → Q false { s with heap := h', toks := tk }) : wpAny M Ar tr Q E s := by
  refine wpAny_mono h1 (fun b s₂ h => ?_) fun _ _ e => e
  obtain ⟨h', tk, rfl, F', N', hb⟩ := h
  cases b with
  | true => exact ht (hb.mp rfl) h' tk F' N'
  | false => exact hf (fun c => by have := hb.mpr c; cases this) h' tk F' N'

/-- a text whose ways meet -/
def CutText (h₀ : Heap) (L : Addr) (m : Str → Option Value) (news : List (Addr × Obj)) (s : Shared) (X : List Nat) (v : Value) (s₂ : Shared) : Prop :=
  ∃ t' h' tk, v = .str (tx X) t' ∧ s₂ = { s with heap := h', toks := tk } ∧ Fr h₀ L h' m ∧ News h₀ L h' news
theorem CutText.of {h' : Heap} {tk : Nat} {X Y : List Nat} {t' : Tok} (e : X = Y) (F : Fr h₀ L h' m) (N : News h₀ L h' news) : CutText h₀ L m news s Y (.str (tx X) t') { s with heap := h', toks := tk } := by
  subst e
  exact ⟨t', h', tk, rfl, rfl, F, N⟩
theorem cut_text {M : Model} {tr : Sem Value} {Q : Value → Shared → Prop} (_F : Fr h₀ L s.heap m) (_N : News h₀ L s.heap news) (X : List Nat)
    (h1 : wpAny M Ar tr (CutText h₀ L m news s X) E s)
    (h2 : ∀ t' h' tk, Fr h₀ L h' m → News h₀ L h' news → Q (.str (tx X) t') { s with heap := h', toks := tk }) : wpAny M Ar tr Q E s := by
  refine wpAny_mono h1 (fun f s₂ h => ?_) fun _ _ e => e
  obtain ⟨t', h', tk, rfl, rfl, F', N'⟩ := h
  exact h2 t' h' tk F' N'
end
end Mine
end
section
open PySem PySem.W PySem.W.X PyProof.Rows PySem.Calls PySem.Spec
set_option maxRecDepth 100000
namespace Mine
def costF (c d : Nat) : Int := if c = d then 0 else if lo1 c = lo1 d then 1 else 2
theorem costF_nn (c d : Nat) : 0 ≤ costF c d ∧ costF c d ≤ 2 := by unfold costF; split <;> (try split) <;> omega
/-- one row of the table, from the one above it -/
def nextCell (X : List Nat) (y : Nat) (j : Nat) (prev : Nat → Int) : Nat → Int
  | 0 => 2 * ((j : Int) + 1)
  | i + 1 => min (min (if i = 0 then 2 * (j : Int) else nextCell X y j prev i) (prev (i + 1)) + 2) (prev i + costF y (X.getD i 0))
def cell (X Y : List Nat) : Nat → Nat → Int
  | 0 => fun i => 2 * (i : Int)
  | j + 1 => nextCell X (Y.getD j 0) j (cell X Y j)
def leftOf (X Y : List Nat) (j i : Nat) : Int := if i = 0 then 2 * (j : Int) else cell X Y (j + 1) i
theorem cell_succ (X Y : List Nat) (j i : Nat) : cell X Y (j + 1) (i + 1) = min (min (leftOf X Y j i) (cell X Y j (i + 1)) + 2) (cell X Y j i + costF (Y.getD j 0) (X.getD i 0)) := rfl
theorem cell_zero (X Y : List Nat) (j : Nat) : cell X Y j 0 = 2 * (j : Int) := by
  cases j with
  | zero => rfl
  | succ j => show 2 * ((j : Int) + 1) = _; omega
theorem cell_top (X Y : List Nat) (i : Nat) : cell X Y 0 i = 2 * (i : Int) := rfl
def rowF (X Y : List Nat) (j : Nat) : List Int := (List.range X.length).map fun k => cell X Y j (k + 1)
/-- the row half way: the first i cells are of the next row -/
def rowH (X Y : List Nat) (j i : Nat) : List Int := (List.range X.length).map fun k => if k < i then cell X Y (j + 1) (k + 1) else cell X Y j (k + 1)
theorem rowH_zero (X Y : List Nat) (j : Nat) : rowH X Y j 0 = rowF X Y j := by simp [rowH, rowF]
theorem rowH_full (X Y : List Nat) (j : Nat) : rowH X Y j X.length = rowF X Y (j + 1) := by
  unfold rowH rowF
  refine List.map_congr_left fun k hk => ?_
  rw [if_pos (List.mem_range.mp hk)]
theorem rowH_len (X Y : List Nat) (j i : Nat) : (rowH X Y j i).length = X.length := by simp [rowH]
theorem rowF_len (X Y : List Nat) (j : Nat) : (rowF X Y j).length = X.length := by simp [rowF]
theorem rowH_at (X Y : List Nat) (j i k : Nat) (h : k < X.length) : (rowH X Y j i).getD k 0 = if k < i then cell X Y (j + 1) (k + 1) else cell X Y j (k + 1) := by
  unfold rowH
  rw [List.getD_eq_getElem?_getD, List.getElem?_map, List.getElem?_range h]
  rfl
theorem rowH_set (X Y : List Nat) (j i : Nat) (_h : i < X.length) (v : Int) (hv : v = cell X Y (j + 1) (i + 1)) : (rowH X Y j i).set i v = rowH X Y j (i + 1) := by
  subst hv
  apply List.ext_getElem
  · simp [rowH]
  · intro k h1 h2
    simp only [rowH, List.length_set, List.length_map, List.length_range] at h1 h2
    rw [List.getElem_set]
    simp only [rowH, List.getElem_map, List.getElem_range]
    by_cases e : i = k
    · subst e; simp
    · simp only [if_neg e]
      by_cases hk : k < i
      · rw [if_pos hk, if_pos (by omega)]
      · rw [if_neg hk, if_neg (by omega)]
theorem row0 (X Y : List Nat) : (List.range X.length).map (fun k : Nat => 2 * ((k : Int) + 1)) = rowF X Y 0 := by
  unfold rowF
  refine List.map_congr_left fun k _ => ?_
  rw [cell_top]; omega
theorem getD_mid {A P X S : List Nat} (h : A = P ++ X ++ S) (hA : ∀ c ∈ A, c < 128) (k : Nat) : X.getD k 0 < 128 := by
  by_cases hk : k < X.length
  · rw [List.getD_eq_getElem?_getD, List.getElem?_eq_getElem hk]
    refine hA _ ?_
    subst h
    simp [List.getElem_mem]
  · rw [List.getD_eq_getElem?_getD, List.getElem?_eq_none (by omega)]
    decide
/-- what holds within a row's loop -/
def InnerP (X Y : List Nat) (j i : Nat) (d r mn : Int) (row : List Int) : Prop := d = cell X Y j i ∧ r = leftOf X Y j i ∧ row = rowH X Y j i ∧ ∀ k, 1 ≤ k → k ≤ i → mn ≤ cell X Y (j + 1) k
theorem InnerP.start {X Y : List Nat} {j : Nat} {d r mn : Int} {row : List Int} (h : row = rowF X Y j) (hd : d = 2 * (j : Int)) (hr : r = 2 * (j : Int)) : InnerP X Y j 0 d r mn row :=
  ⟨by rw [cell_zero]; exact hd, by rw [hr]; rfl, by rw [rowH_zero]; exact h, fun k h1 h2 => by omega⟩
theorem InnerP.turn {X Y : List Nat} {j i : Nat} {d r mn v mn' : Int} {row row' : List Int} (h : InnerP X Y j i d r mn row) (hi : i < X.length)
    (hv : v = min (min r (row.getD i 0) + 2) (d + costF (Y.getD j 0) (X.getD i 0))) (hrow : row' = row.set i v) (h1 : mn' ≤ mn) (h2 : mn' ≤ v) : InnerP X Y j (i + 1) (row.getD i 0) v mn' row' := by
  obtain ⟨rfl, rfl, rfl, hm⟩ := h
  have e : (rowH X Y j i).getD i 0 = cell X Y j (i + 1) := by rw [rowH_at X Y j i i hi, if_neg (Nat.lt_irrefl _)]
  have hv' : v = cell X Y (j + 1) (i + 1) := by rw [hv, e, cell_succ]
  refine ⟨e, ?_, ?_, fun k k1 k2 => ?_⟩
  · show v = leftOf X Y j (i + 1)
    rw [hv']; unfold leftOf; rw [if_neg (Nat.succ_ne_zero i)]
  · rw [hrow]; exact rowH_set X Y j i hi v hv'
  · by_cases hk : k = i + 1
    · subst hk; omega
    · exact Int.le_trans h1 (hm k k1 (by omega))
theorem InnerP.turnH {X Y : List Nat} {j i n' : Nat} {d r mn c v1 v mn' k kY : Int} {row row' : List Int} (h : InnerP X Y j i d r mn row)
    (e4 : Hid (row' = row.set k.toNat v)) (e3 : Hid (v = min (v1 + 2) (d + costF (Y.getD kY.toNat 0) (X.getD k.toNat 0)))) (e2 : Hid (v1 = min r c)) (e1 : Hid (c = row.getD k.toNat 0))
    (hl : row.length = X.length) (hk : k = 0 + (i : Int)) (hkY : kY = 0 + (j : Int)) (hi : i < X.length) (h1 : mn' ≤ mn) (h2 : mn' ≤ v) (hn : n' = i + 1) :
    InnerP X Y j n' c v mn' row' ∧ row'.length = X.length := by
  have ek : k.toNat = i := by omega
  have eY : kY.toNat = j := by omega
  have e1 := e1.out
  have e2 := e2.out
  have e3 := e3.out
  have e4 := e4.out
  rw [ek] at e1 e3 e4
  rw [eY] at e3
  subst hn
  refine ⟨?_, by rw [e4, List.length_set]; exact hl⟩
  rw [e1]
  refine h.turn hi ?_ e4 h1 h2
  rw [e3, e2, e1]
/-- what the distance gives back -/
def DPRes (X Y : List Nat) (mc r : Int) : Prop :=
  (∃ j, 1 ≤ j ∧ j ≤ Y.length ∧ (∀ k, 1 ≤ k → k ≤ X.length → mc < cell X Y j k) ∧ r = mc + 1) ∨ r = cell X Y Y.length X.length
def LevSpec (A B : List Nat) (mc r : Int) : Prop :=
  ∃ P S X Y, A = P ++ X ++ S ∧ B = P ++ Y ++ S ∧ X.length = Y.length ∧ ((X.length = 0 ∧ r = 0) ∨ (mc < 0 ∧ r = mc + 1) ∨ (0 ≤ mc ∧ 0 < X.length ∧ DPRes X Y mc r))
/-- what holds between the rows -/
def OuterP (X Y : List Nat) (j : Nat) (row : List Int) (r : Int) : Prop := row = rowF X Y j ∧ (0 < j → r = cell X Y j X.length)
theorem OuterP.start {X Y : List Nat} {row : List Int} {r : Int} (h : row = rowF X Y 0) : OuterP X Y 0 row r ∧ row.length = X.length := ⟨⟨h, fun q => absurd q (Nat.lt_irrefl _)⟩, by rw [h, rowF_len]⟩
theorem OuterP.inner {X Y : List Nat} {j n : Nat} {d r r0 mn : Int} {row : List Int} (h : OuterP X Y j row r0) (hl : row.length = X.length) (hn : n = 0) (hd : d = 2 * (j : Int)) (hr : r = 2 * (j : Int)) : InnerP X Y j n d r mn row ∧ row.length = X.length := by
  subst hn
  exact ⟨InnerP.start h.1 hd hr, hl⟩
theorem OuterP.turn {X Y : List Nat} {j j' n : Nat} {d r mn : Int} {row : List Int} (h : InnerP X Y j n d r mn row) (hl : row.length = X.length) (hn : n = X.length) (hX : 0 < X.length) (hj : j' = j + 1) : OuterP X Y j' row r ∧ row.length = X.length := by
  obtain ⟨_, h2, h3, _⟩ := h
  subst hn hj
  refine ⟨⟨by rw [h3, rowH_full], fun _ => ?_⟩, hl⟩
  rw [h2]; unfold leftOf; rw [if_neg (by omega)]
theorem lev_early {A B X Y : List Nat} {j n : Nat} {mc d r mn : Int} {row : List Int} (h : InnerP X Y j n d r mn row) (e : Hid (∃ P S, A = P ++ X ++ S ∧ B = P ++ Y ++ S)) (hl : X.length = Y.length) (h0 : 0 ≤ mc) (hX : 0 < X.length) (hn : n = X.length) (hj : j < Y.length) (hm : mc < mn) : LevSpec A B mc (mc + 1) := by
  obtain ⟨⟨P, S, hA, hB⟩⟩ := e
  refine ⟨P, S, X, Y, hA, hB, hl, .inr (.inr ⟨h0, hX, .inl ⟨j + 1, by omega, by omega, fun k k1 k2 => ?_, rfl⟩⟩)⟩
  have := h.2.2.2 k k1 (by omega)
  omega
theorem lev_done {A B X Y : List Nat} {n : Nat} {mc r : Int} {row : List Int} (h : OuterP X Y n row r) (e : Hid (∃ P S, A = P ++ X ++ S ∧ B = P ++ Y ++ S)) (hl : X.length = Y.length) (h0 : 0 ≤ mc) (hX : 0 < X.length) (hn : n = Y.length) : LevSpec A B mc r := by
  obtain ⟨⟨P, S, hA, hB⟩⟩ := e
  refine ⟨P, S, X, Y, hA, hB, hl, .inr (.inr ⟨h0, hX, .inr ?_⟩)⟩
  rw [h.2 (by omega), hn]
section
variable {prog : Program} {w : World} {Ar : Around} {E : Value → Shared → Prop} {s : Shared} {h₀ : Heap} {L r : Addr} {m : Str → Option Value} {news : List (Addr × Obj)} {Q : Value → Shared → Prop}
theorem ints_of {f : Nat → Int} : ∀ (vs : List Value) (a n : Nat), vs.length = n → (∀ (j : Nat) (v : Value), vs[j]? = some v → ∃ t, v = .int (f (a + j)) t) → IntsAre vs ((List.range n).map fun k => f (a + k))
  | [], a, n, e, _ => by subst e; exact IntsAre.nil
  | v :: r, a, n, e, h => by
    subst e
    rw [List.length_cons, List.range_succ_eq_map, List.map_cons, List.map_map]
    obtain ⟨t, ht⟩ := h 0 v rfl
    have hv : v = .int (f (a + 0)) t := ht
    subst hv
    refine IntsAre.cons _ _ ?_
    have := ints_of (f := f) r (a + 1) r.length rfl fun j v hj => by
      obtain ⟨t', ht'⟩ := h (j + 1) v hj
      exact ⟨t', by rw [ht']; congr 2; omega⟩
    have e2 : ((fun k => f (a + k)) ∘ Nat.succ) = fun k => f (a + 1 + k) := by
      funext k; show f (a + (k + 1)) = f (a + 1 + k); congr 1; omega
    rw [e2]; exact this
theorem r_list2 {t₀ u₀ v₀ : Tok} {n : Nat} (hh : Ar.handled = none) (F : Fr h₀ L s.heap m) (N : News h₀ L s.heap news) (hr : IsRange s.heap r 2 (2 * ((n : Int) + 1)) 2 t₀ u₀ v₀) (hz : n ≤ 1000)
    (h : ∀ D us c h' tk, Fr h₀ L h' m → News h₀ L h' ((D, listOf (List.toArray us) c) :: news) → (∀ p ∈ news, p.1 < D) → IntsAre us ((List.range n).map fun k : Nat => 2 * ((k : Int) + 1)) → Q (.ref D) { s with heap := h', toks := tk }) :
    wpAny (model prog w) Ar (call (.type "list") [.ref r]) Q E s := by
  have hn : Builtin.Range.rangeSize 2 (2 * ((n : Int) + 1)) 2 = (n : Int) := by
    unfold Builtin.Range.rangeSize
    simp only [show (2 : Int) > 0 by decide, if_true]
    split <;> omega
  have hf : ∀ i : Int, 0 ≤ i → i < 100000 → Builtin.Range.rangeFitsLong i = true := fun i h0 h1 => by
    unfold Builtin.Range.rangeFitsLong
    rw [Bool.and_eq_true, decide_eq_true_eq, decide_eq_true_eq]
    exact ⟨by omega, by omega⟩
  have hs : Builtin.Range.small 2 (2 * ((n : Int) + 1)) 2 = true := by
    unfold Builtin.Range.small
    rw [hn, hf 2 (by omega) (by omega), hf _ (by omega) (by omega), hf n (by omega) (by omega), if_pos (by decide), hf _ (by omega) (by omega)]
    simp
  refine call_list_range hh hr hs hn (Nat.le_trans hz (Nat.le_of_ble_eq_true rfl)) fun h' tk acc c hk hD hI => ?_
  have hD' : h'.get? s.heap.objs.size = some (listOf (List.toArray acc.toList) c) := by
    rw [Array.toArray_toList]
    exact hD
  refine h _ acc.toList c h' tk (F.keeps hk) (news_pushed F N hk hD' rfl) (fun p hp => Heap.lt_size (N p hp).1) ?_
  have := ints_of (f := fun k : Nat => 2 * ((k : Int) + 1)) acc.toList 0 n (by rw [Array.length_toList]; exact hI.1) fun j v hj => by
    obtain ⟨t, ht⟩ := hI.2 j v (by rw [← hj, Array.getElem?_toList])
    have e : (2 : Int) + (j : Int) * 2 = 2 * (((0 + j : Nat) : Int) + 1) := by omega
    exact ⟨t, by rw [ht, e]⟩
  simpa using this
theorem r_min2 {a b : Int} {t u : Tok} (hh : Ar.handled = none) (F : Fr h₀ L s.heap m) (N : News h₀ L s.heap news)
    (h : ∀ v t' h' tk, Hid (v = min a b) → Fr h₀ L h' m → News h₀ L h' news → Q (.int v t') { s with heap := h', toks := tk }) :
    wpAny (model prog w) Ar (call (.builtin "min") [.int a t, .int b u]) Q E s :=
  min_two_N hh F N fun h' tk F' N' => h _ _ h' tk ⟨by split <;> omega⟩ F' N'
theorem r_set {D : Addr} {news' : List (Addr × Obj)} {vs : List Value} {ns : List Int} {n : Nat} {k x : Int} {t u : Tok} {Q : Unit → Shared → Prop} (F : Fr h₀ L s.heap m) (N : News h₀ L s.heap news) (U : Upd D (listOf vs.toArray n) (listOf (vs.set k.toNat (.int x u)).toArray n) news news') (hi : IntsAre vs ns) (h0 : 0 ≤ k) (h1 : k < ns.length) (hsz : ns.length ≤ 1000)
    (h : ∀ h' row', Fr h₀ L h' m → News h₀ L h' news' → Hid (row' = ns.set k.toNat x) → IntsAre (vs.set k.toNat (.int x u)) row' → row'.length = ns.length → Q () { s with heap := h' }) :
    wpAny (model prog w) Ar (setItem (.ref D) (.int k t) (.int x u)) Q E s :=
  ksa_set F N U hi h0 h1 (by omega) fun h' F' N' hi' hl _ => h h' _ F' N' ⟨rfl⟩ hi' hl
theorem r_row {D : Addr} {vs : List Value} {ns : List Int} {n : Nat} {k : Int} {u : Tok} {value slice : PySem.Expr} (N : News h₀ L s.heap news) (hm : (D, listOf vs.toArray n) ∈ news) (hi : IntsAre vs ns) (h0 : 0 ≤ k) (h1 : k < ns.length) (hsz : ns.length ≤ 1000) (h : ∀ v t, Hid (v = ns.getD k.toNat 0) → Q (.int v t) s)
    (hs : subscripted slice false (.ref D) (.int k u) = operate [.ref D, .int k u] (getItem (.ref D) (.int k u)) := by with_unfolding_all rfl) :
    wpAny (model prog w) Ar (subscriptTail value slice (.ref D) (.int k u)) Q E s := ksa_sub N hm hi h0 h1 (by omega) (fun t => h _ t ⟨rfl⟩) hs
end
end Mine
end
section
open PySem PySem.W PySem.W.X PyProof.Rows PySem.Calls PySem.Spec
namespace Mine
/-- what a call of a def of the text's does, whatever stands around it: a plain value comes back -/
abbrev FnOk (w : World) (p : Program) (loose : List Str) (mean : ExcName → Option Value) (mg mb : Str → Option Value) (d : Nat) (f : Addr) (news : List (Addr × Obj)) (pre : Prop) (vs : List Value) (Post : Value → Prop) : Prop :=
  ∀ (dp un : Nat) (gd : Option (List Code)) (cn : Str) (cs : Scope) (a : Addr) (ccd : Value) (cl : List (Str × Addr)) (outer : List Env) (A₀ : Around) (base h₀ : Heap) (L : Addr) (m : Str → Option Value) (s : Shared) (Q E : Value → Shared → Prop),
    Below A₀ base outer h₀ → Fr h₀ L s.heap m → (hd.heap_1 w.params).In h₀ → News h₀ L s.heap news → Top p loose mean mg mb h₀ → cs.kind = .function →
    pre → dp + d < recursionLimit → un + 8 * d < cLine →
    (∀ (v : Value) (h' : Heap) (tk' : Nat), Post v → Fr h₀ L h' m → News h₀ L h' news → Q v { s with heap := h', toks := tk' }) →
      wpAny (model PR w) (ktrTop dp un gd cn cs L a ccd cl outer) (call (.ref f) vs) Q E s
/-- the same, a new list comes back -/
abbrev FnOkL (w : World) (p : Program) (loose : List Str) (mean : ExcName → Option Value) (mg mb : Str → Option Value) (d : Nat) (f : Addr) (news : List (Addr × Obj)) (pre : Prop) (vs : List Value) (Post : List Value → Prop) : Prop :=
  ∀ (dp un : Nat) (gd : Option (List Code)) (cn : Str) (cs : Scope) (a : Addr) (ccd : Value) (cl : List (Str × Addr)) (outer : List Env) (A₀ : Around) (base h₀ : Heap) (L : Addr) (m : Str → Option Value) (s : Shared) (Q E : Value → Shared → Prop),
    Below A₀ base outer h₀ → Fr h₀ L s.heap m → (hd.heap_1 w.params).In h₀ → News h₀ L s.heap news → Top p loose mean mg mb h₀ → cs.kind = .function →
    pre → dp + d < recursionLimit → un + 8 * d < cLine →
    (∀ (D : Addr) (us : List Value) (c : Nat) (h' : Heap) (tk' : Nat), Post us → Fr h₀ L h' m → News h₀ L h' ((D, listOf us.toArray c) :: news) → (∀ p ∈ news, p.1 < D) → Q (.ref D) { s with heap := h', toks := tk' }) →
      wpAny (model PR w) (ktrTop dp un gd cn cs L a ccd cl outer) (call (.ref f) vs) Q E s
theorem use_ok {w : World} {p : Program} {loose : List Str} {mean : ExcName → Option Value} {mg mb : Str → Option Value} {d : Nat} {f : Addr} {news : List (Addr × Obj)} {pre : Prop} {vs : List Value} {Post : Value → Prop} {dp un : Nat} {gd : Option (List Code)} {cn : Str} {cs : Scope} {a : Addr} {ccd : Value} {cl : List (Str × Addr)} {outer : List Env} {A₀ : Around} {base h₀ : Heap} {L : Addr} {m : Str → Option Value} {s : Shared} {Q E : Value → Shared → Prop}
    (H : FnOk w p loose mean mg mb d f news pre vs Post) (k1 : Below A₀ base outer h₀) (k2 : Fr h₀ L s.heap m) (k3 : (hd.heap_1 w.params).In h₀) (k4 : News h₀ L s.heap news) (k5 : Top p loose mean mg mb h₀) (kK : cs.kind = .function)
    (kp : pre) (kd : dp + d < recursionLimit) (ku : un + 8 * d < cLine) (h : ∀ (v : Value) (h' : Heap) (tk' : Nat), Post v → Fr h₀ L h' m → News h₀ L h' news → Q v { s with heap := h', toks := tk' }) :
    wpAny (model PR w) (ktrTop dp un gd cn cs L a ccd cl outer) (call (.ref f) vs) Q E s := H dp un gd cn cs a ccd cl outer A₀ base h₀ L m s Q E k1 k2 k3 k4 k5 kK kp kd ku h
theorem use_okR {w : World} {p : Program} {loose : List Str} {mean : ExcName → Option Value} {mg mb : Str → Option Value} {d : Nat} {f : Addr} {news : List (Addr × Obj)} {pre : Prop} {vs : List Value} {Post : Value → Prop} {dp un : Nat} {gd : Option (List Code)} {cn : Str} {cs : Scope} {a : Addr} {ccd : Value} {cl : List (Str × Addr)} {outer : List Env} {A₀ : Around} {base h₀ : Heap} {L : Addr} {m : Str → Option Value} {s : Shared} {Q E : Value → Shared → Prop}
    (k1 : Below A₀ base outer h₀) (k2 : Fr h₀ L s.heap m) (k3 : (hd.heap_1 w.params).In h₀) (k4 : News h₀ L s.heap news) (k5 : Top p loose mean mg mb h₀) (kK : cs.kind = .function)
    (kd : dp + d < recursionLimit) (ku : un + 8 * d < cLine) (H : FnOk w p loose mean mg mb d f news pre vs Post) (kp : pre) (h : ∀ (v : Value) (h' : Heap) (tk' : Nat), Post v → Fr h₀ L h' m → News h₀ L h' news → Q v { s with heap := h', toks := tk' }) :
    wpAny (model PR w) (ktrTop dp un gd cn cs L a ccd cl outer) (call (.ref f) vs) Q E s := use_ok H k1 k2 k3 k4 k5 kK kp kd ku h
end Mine
end
section
open PySem PySem.W PySem.W.X PyProof.Rows
namespace Mine
theorem allNe_lt {D : Addr} {l : List (Addr × Obj)} (h : ∀ p ∈ l, p.1 < D) : ∀ p ∈ l, p.1 ≠ D := fun p hp => Nat.ne_of_lt (h p hp)
theorem allLt_succ {D : Addr} (k : Nat) {l : List (Addr × Obj)} (h : ∀ p ∈ l, p.1 < D) : ∀ p ∈ l, p.1 < D + k := fun p hp => Nat.lt_of_lt_of_le (h p hp) (Nat.le_add_right _ _)
end Mine
namespace Mine
section
variable {h₀ h' : Heap} {L I C D : Addr} {m : Str → Option Value} {s₁ : Shared} {oI oC oD : Obj} {S : List (Addr × Obj) → Prop} {rest : Value → List (Addr × Obj) → Prop} {y : Value} {tk : Nat} {q : Addr × Obj} {nw : List (Addr × Obj)}
theorem compEnd_one (F : Fr h₀ L h' m) (N : News h₀ L h' (q :: (I, oI) :: (C, oC) :: (D, oD) :: nw)) (h1 : @Ne Nat q.1 I) (h2 : @Ne Nat q.1 C) (h3 : @Ne Nat q.1 D) (off : LCg.Off3 I C D nw) (hS : S (q :: nw)) (r : rest y (q :: nw)) :
    LCg.CompEnd h₀ L m s₁ I oI C oC D oD S rest y { s₁ with heap := h', toks := tk } :=
  ⟨h', tk, q :: nw, rfl, F, fun p hp => by
    rcases List.mem_cons.mp hp with rfl | hp
    · exact N _ (.tail _ (.head _))
    rcases List.mem_cons.mp hp with rfl | hp
    · exact N _ (.tail _ (.tail _ (.head _)))
    rcases List.mem_cons.mp hp with rfl | hp
    · exact N _ (.tail _ (.tail _ (.tail _ (.head _))))
    rcases List.mem_cons.mp hp with rfl | hp
    · exact N _ (.head _)
    · exact N _ (.tail _ (.tail _ (.tail _ (.tail _ hp)))), ⟨⟨h1, h2, h3⟩, off⟩, hS, r⟩
end
end Mine
namespace Mine
theorem news_drop5 {h₀ h : Heap} {L : Addr} {a b c d e : Addr × Obj} {nw : List (Addr × Obj)} (N : News h₀ L h (a :: b :: c :: d :: e :: nw)) : News h₀ L h (a :: b :: c :: d :: nw) := fun p hp => by
  rcases List.mem_cons.mp hp with rfl | hp
  · exact N _ (.head _)
  rcases List.mem_cons.mp hp with rfl | hp
  · exact N _ (.tail _ (.head _))
  rcases List.mem_cons.mp hp with rfl | hp
  · exact N _ (.tail _ (.tail _ (.head _)))
  rcases List.mem_cons.mp hp with rfl | hp
  · exact N _ (.tail _ (.tail _ (.tail _ (.head _))))
  · exact N _ (.tail _ (.tail _ (.tail _ (.tail _ (.tail _ hp)))))
end Mine
end
section
open PySem PySem.W PySem.W.X PyProof.Rows PySem.Calls PySem.Spec
open Sem (wp)
set_option maxRecDepth 100000
namespace Mine
section
variable {prog : Program} {w : World} {A : Around} {E : Value → Shared → Prop} {s : Shared}
/-- the next item of a tuple's iterator, as enumerate asks for it -/
theorem nextOf_tuple {it t : Addr} {i : Nat} {items : Array Value} {x : Value} {Q : Value → Shared → Prop} (hit : s.heap.IsTupleIter it t i) (ht : s.heap.IsTuple t items) (hx : items[i]? = some x)
    (hQ : ∀ h', h'.IsTupleIter it t (i + 1) → Heap.SameBut it s.heap h' → Q x { s with heap := h' }) :
    wpAny (model prog w) A (Builtin.SmallTypes.nextOf (.ref it)) Q E s := by
  obtain ⟨o, ho, hc, hd⟩ := id hit
  obtain ⟨ot, hot, _, nt, hdt⟩ := ht
  unfold Builtin.SmallTypes.nextOf
  refine wpAny_bind (wpAny_callSpecial?_slot (name := Str.ofString "__next__") hit.typeIs F.slot_tuple_iterator_next (wpAny_call_entry F.slot_tuple_iterator_next hit.typeIs F.entry_tuple_iterator_next ?_ (F.args_tuple_iterator_next_1 _)))
  show wpAny _ _ (field (.ref it) 0 >>= _) _ _ s
  refine wpAny_bind (wpAny_field ho hd (x := .ref t) rfl ?_)
  show wpAny _ _ (if (Value.ref t == Value.none) = true then _ else _) _ _ s
  rw [if_neg (show ¬ ((Value.ref t == Value.none) = true) from Bool.false_ne_true)]
  show wpAny _ _ (field (.ref it) 1 >>= _) _ _ s
  refine wpAny_bind (wpAny_field ho hd (x := .int i 0) rfl ?_)
  show wpAny _ _ (seqItems? (.ref t) >>= _) _ _ s
  refine wpAny_bind (wpAny_seqItems hot hdt ?_)
  simp only [Int.toNat_natCast, hx]
  refine wpAny_bind (wpAny_setField ho hd (by simp) (wpAny_pure ⟨x, rfl, wpAny_pure (hQ _ ?_ (Heap.SameBut.update ..))⟩))
  exact ⟨_, Heap.get?_update_self _ ho (Obj.isFreed_of_fields (Obj.data_mapFields hd _)), (Obj.cls_mapFields ..).trans hc, by rw [Obj.data_mapFields hd]; simp [rawInt]⟩
theorem nextOf_tuple_end {it t : Addr} {i : Nat} {items : Array Value} {Q : Value → Shared → Prop} (hh : A.handled = none) (hit : s.heap.IsTupleIter it t i) (ht : s.heap.IsTuple t items) (hx : items[i]? = none)
    (hE : ∀ h' e, Heap.ExtBut it s.heap h' → (∃ o, h'.get? e = some o ∧ o.cls = .type "StopIteration") → E (.ref e) { s with heap := h' }) :
    wpAny (model prog w) A (Builtin.SmallTypes.nextOf (.ref it)) Q E s := by
  obtain ⟨o, ho, hc, hd⟩ := id hit
  obtain ⟨ot, hot, _, nt, hdt⟩ := ht
  unfold Builtin.SmallTypes.nextOf
  refine wpAny_bind (wpAny_callSpecial?_slot (name := Str.ofString "__next__") hit.typeIs F.slot_tuple_iterator_next (wpAny_call_entry F.slot_tuple_iterator_next hit.typeIs F.entry_tuple_iterator_next ?_ (F.args_tuple_iterator_next_1 _)))
  show wpAny _ _ (field (.ref it) 0 >>= _) _ _ s
  refine wpAny_bind (wpAny_field ho hd (x := .ref t) rfl ?_)
  show wpAny _ _ (if (Value.ref t == Value.none) = true then _ else _) _ _ s
  rw [if_neg (show ¬ ((Value.ref t == Value.none) = true) from Bool.false_ne_true)]
  show wpAny _ _ (field (.ref it) 1 >>= _) _ _ s
  refine wpAny_bind (wpAny_field ho hd (x := .int i 0) rfl ?_)
  show wpAny _ _ (seqItems? (.ref t) >>= _) _ _ s
  refine wpAny_bind (wpAny_seqItems hot hdt ?_)
  simp only [Int.toNat_natCast, hx]
  refine wpAny_bind (wpAny_rule (wpAny_bind (wpAny_setField ho hd (by simp) ?_)))
  show wpAny _ _ (newExc (.type "StopIteration") [] >>= _) _ _ _
  refine wpAny_bind ?_
  simp only [newExc, newTuple]
  refine wpAny_bind (wpAny_newObj_type ?_ (by size_fits))
  refine wpAny_bind (m := firstArgMember _ _) (wpAny_of_eq (a := Value.none) (by first | rfl | (simp only [firstArgMember]; rfl)) ?_)
  refine wpAny_newObj_type ?_ (by size_fits)
  simp only [raiseNew]
  refine wpAny_bind (wpAny_handled ?_)
  first | rw [show A.in1.handled = none from hh] | rw [hh]
  refine wpAny_bind (wpAny_pure (wpAny_throw ?_))
  exact hE _ _ (((Heap.SameBut.update ..).extBut.push _).push _) ⟨_, Heap.get?_push_size _ rfl, rfl⟩
theorem draws_tuple (hh : A.handled = none) (it t : Addr) (hne : t ≠ it) (items : Array Value) :
    Draws prog w A it [it, t] items.size (fun i v => items[i]? = some v) (fun i h => h.IsTupleIter it t i ∧ h.IsTuple t items) where
  live := fun _ _ st => let ⟨o, ho, _⟩ := st.1; ⟨o, ho⟩
  frame := fun _ _ _ st hk => ⟨st.1.at fun o e => hk it (by simp) o e, st.2.at fun o e => hk t (by simp) o e⟩
  item := fun i s Q E hi st hQ => nextOf_tuple st.1 st.2 (x := items[i]) (by simp [hi]) fun h' hit' hs' => hQ _ h' s.toks (by simp [hi]) ⟨hit', st.2.extBut hs'.extBut hne⟩ hs'
  done := fun s Q E st hE => nextOf_tuple_end hh st.1 st.2 (by simp) hE
/-- enumerate of a tuple that stands -/
theorem meets_enum_tuple (l : Addr) (items : Array Value) (n : Nat) (dct : Option Addr) (sl : Array (Option Value)) :
    Meets (Builtin.«enumerate.__new__» ⟨[.type "enumerate", .ref l], []⟩) (fun _ R s => s.heap.get? l = some { cls := .type "tuple", dict := dct, data := .seq items n, slots := sl } ∧
      R (.ok (.ret (.ref (s.heap.push { cls := .type "tuple_iterator", data := .fields #[.ref l, .int 0 0] }).objs.size)))
        { s with heap := (s.heap.push { cls := .type "tuple_iterator", data := .fields #[.ref l, .int 0 0] }).push { cls := .type "enumerate", data := .fields #[.none, .bool false, .ref s.heap.objs.size, rawInt 0, .none, .none] } }) :=
  .of_wp fun prog w A R s h => by
    obtain ⟨hp, g, d, tk, os⟩ := s; obtain ⟨hl, h⟩ := h
    have hsub := sub_enumerate
    have hL : Heap.IsTuple (Shared.heap ⟨hp, g, d, tk, os⟩) l items := ⟨_, hl, rfl, n, rfl⟩
    wp_walk using AutoSeq1.wpAny_loadPart' hl
    refine wpAny_stack_any fun st => wpAny_pure ?_
    split
    · rename_i c _ _ _ _ _
      cases (c == Value.type "enumerate")
      · wp_walk using AutoSeq1.wpAny_loadPart' hl, wpAny_pyIter_tuple hL
        exact ⟨_, rfl, h⟩
      · wp_walk using AutoSeq1.wpAny_loadPart' hl, wpAny_pyIter_tuple hL
        exact ⟨_, rfl, h⟩
    · wp_walk using AutoSeq1.wpAny_loadPart' hl, wpAny_pyIter_tuple hL
      exact ⟨_, rfl, h⟩
theorem call_enum_tuple {l : Addr} {items : Array Value} {Q : Value → Shared → Prop} (hL : s.heap.IsTuple l items)
    (h : ∀ h', IsEnum h' (s.heap.objs.size + 1) s.heap.objs.size 0 .none → h'.IsTupleIter s.heap.objs.size l 0 → h'.objs.size = s.heap.objs.size + 2 →
      (∀ b o, s.heap.get? b = some o → h'.get? b = some o) → Q (.ref (s.heap.objs.size + 1)) { s with heap := h' }) :
    wpAny (model prog w) A (call (.type "enumerate") [.ref l]) Q E s := by
  obtain ⟨⟨c, dct, dt, sl⟩, hl, hc, n, hd⟩ := hL
  replace hc : c = .type "tuple" := hc
  replace hd : dt = .seq items n := hd
  subst hc hd
  refine callType_new F.called_enumerate (by decide) (F.typeCall_enumerate_1 _) (F.newCall_enumerate_1 _) (fun obj => F.args_object_init_2 obj _) F.entry_enumerate_new (meets_enum_tuple l items n dct sl) ⟨hl, ?_⟩
  have hz : (s.heap.push { cls := .type "tuple_iterator", data := .fields #[.ref l, .int 0 0] }).objs.size = s.heap.objs.size + 1 := Heap.size_push ..
  show _ ∧ _
  rw [hz]
  have he : IsEnum ((s.heap.push { cls := .type "tuple_iterator", data := .fields #[.ref l, .int 0 0] }).push { cls := .type "enumerate", data := .fields #[.none, .bool false, .ref s.heap.objs.size, rawInt 0, .none, .none] }) (s.heap.objs.size + 1) s.heap.objs.size 0 .none := by
    have := Heap.get?_push_size (s.heap.push { cls := .type "tuple_iterator", data := .fields #[.ref l, .int 0 0] }) (o := { cls := .type "enumerate", data := .fields #[.none, .bool false, .ref s.heap.objs.size, rawInt 0, .none, .none] }) rfl
    rw [hz] at this; exact this
  exact ⟨⟨_, he, rfl⟩, h _ he ⟨_, Heap.get?_push_of_some _ (Heap.get?_push_size _ rfl), rfl, rfl⟩ (by rw [Heap.size_push, hz]) fun b o x => Heap.get?_push_of_some _ (Heap.get?_push_of_some _ x)⟩
end
end Mine
end
section
open PySem PySem.W PySem.W.X PyProof.Rows PySem.Calls PySem.Spec
open Sem (wp)
set_option maxRecDepth 100000
namespace Mine
section
variable {prog : Program} {w : World} {A : Around} {E : Value → Shared → Prop} {s : Shared} {h₀ : Heap}
/-- a turn's end: the frame's names and the ledger are told again; a break goes behind the whole -/
def TurnEnd (h₀ : Heap) (L : Addr) (own : List (Addr × Obj)) (s : Shared) (Jn : (Str → Option Value) → List (Addr × Obj) → Prop) (Q : Flow → Shared → Prop) (f : Flow) (s₂ : Shared) : Prop :=
  match f with
  | .ret v => Q (.ret v) s₂
  | .brk => Q .next s₂
  | _ => ∃ h' tk m' news', s₂ = { s with heap := h', toks := tk } ∧ Fr h₀ L h' m' ∧ News h₀ L h' (own ++ news') ∧ Jn m' news'
theorem TurnEnd.next {L : Addr} {own : List (Addr × Obj)} {Jn : (Str → Option Value) → List (Addr × Obj) → Prop} {Q : Flow → Shared → Prop} {h' : Heap} {tk : Nat} {m' : Str → Option Value} (news' : List (Addr × Obj)) (F : Fr h₀ L h' m') (N : News h₀ L h' (own ++ news')) (hJ : Jn m' news') : TurnEnd h₀ L own s Jn Q .next { s with heap := h', toks := tk } := ⟨h', tk, m', news', rfl, F, N, hJ⟩

/-- the core of the for loops: any walk whose iterator stands alone -/
theorem loop_walk {env : Env} {I : Addr} {fp : List Addr} {n : Nat} {P : Nat → Value → Prop} {St : Nat → Heap → Prop} {C : Value} {target : Expr} {body orelse : List Stmt} {Q : Flow → Shared → Prop} {m : Str → Option Value} {news : List (Addr × Obj)}
    (W : Walks prog w A I fp [I] n P St) (hst : ∀ i h, St i h → ∃ o, h.get? I = some o ∧ o.cls = C)
    (hgo : ∀ (i : Nat) v (s' : Shared) (Q' : Unit → Shared → Prop) (E' : Value → Shared → Prop), P i v → St (i + 1) s'.heap → Q' () s' → wpAny (model prog w) A (letOwnedTupleGo target (.ref I) v) Q' E' s')
    (hLne : env.locals ≠ I) (hI0 : h₀.get? I = none) (hNlt : ∀ p ∈ news, p.1 < I) (F : Fr h₀ env.locals s.heap m) (N : News h₀ env.locals s.heap news) (st0 : St 0 s.heap)
    (J : Nat → (Str → Option Value) → List (Addr × Obj) → Prop) (h0 : J 0 m news) (hJa : ∀ i m' n', J i m' n' → n'.map (·.1) = news.map (·.1))
    (hfp : ∀ b ∈ fp, b ≠ I → ∃ o : Obj, ∀ i m' n' h', J i m' n' → Fr h₀ env.locals h' m' → News h₀ env.locals h' n' → h'.get? b = some o)
    (step : ∀ (i : Nat) v m₁ n₁ o h₁ tk₁, i < n → P i v → J i m₁ n₁ → (∀ p ∈ n₁, p.1 < I) → o.cls = C → Fr h₀ env.locals h₁ m₁ → News h₀ env.locals h₁ ((I, o) :: n₁) →
      wpAny (model prog w) A (assign target env v) (fun _ s₂ => wpAny (model prog w) A (execs body env) (TurnEnd h₀ env.locals [(I, o)] s (J (i + 1)) Q) E s₂) E { s with heap := h₁, toks := tk₁ })
    (done : ∀ m' n' h' tk, J n m' n' → Fr h₀ env.locals h' m' → News h₀ env.locals h' n' → wpAny (model prog w) A (execs orelse env) Q E { s with heap := h', toks := tk })
    (hE : PassesOwn (model prog w) A env E) :
    codeAny (model prog w) A (.forLoop target (.ref I) body orelse env) (fun r s' => match r with | .ok f => Q f s' | .error e => cameBackBy (model prog w) A env E e s') s := by
  refine codeAny_forLoop_any
    (fun k s' => ∃ h' tk m' n' i, s' = { s with heap := h', toks := tk } ∧ St i h' ∧ Fr h₀ env.locals h' m' ∧ News h₀ env.locals h' n' ∧ J i m' n' ∧ i ≤ n ∧ k = n + 1 - i) ?_ (n + 1)
    ⟨_, s.toks, m, news, 0, rfl, st0, F, N, h0, Nat.zero_le _, rfl⟩
  rintro k s' ⟨h', tk, m', n', i, rfl, hst', F', N', hJ, hi, rfl⟩
  have hNlt' : ∀ p ∈ n', p.1 < I := fun p hp => by
    have : p.1 ∈ news.map (·.1) := hJa _ _ _ hJ ▸ List.mem_map.mpr ⟨p, hp, rfl⟩
    obtain ⟨q, hq, e⟩ := List.mem_map.mp this
    exact e ▸ hNlt q hq
  have next : ∀ h₁ : Heap, (∀ b o, b ∉ [I] → h'.get? b = some o → h₁.get? b = some o) → Fr h₀ env.locals h₁ m' ∧ News h₀ env.locals h₁ n' := fun h₁ hk₁ =>
    ⟨⟨F'.ns.at' fun o e => hk₁ _ o (by simpa using hLne) e, fun b o e => hk₁ b o (by
        intro hb
        have hb := List.mem_singleton.mp hb
        rw [hb, hI0] at e; cases e) (F'.keep b o e), F'.above⟩, fun p hp => ⟨hk₁ _ _ (by
        intro hb
        have hb := List.mem_singleton.mp hb
        exact Nat.ne_of_lt (hNlt' p hp) hb) (N' p hp).1, (N' p hp).2⟩⟩
  by_cases hlt : i < n
  · refine W.item i _ _ _ hlt hst' fun v h₁ tk₁ hv st₁ hk₁ => ?_
    obtain ⟨F₂, N₂⟩ := next h₁ hk₁
    refine hgo i v _ _ _ hv st₁ ?_
    obtain ⟨o, ho, hoc⟩ := hst _ _ st₁
    have N₃ : News h₀ env.locals h₁ ((I, o) :: n') := fun p hp => by
      rcases List.mem_cons.mp hp with rfl | hp
      · exact ⟨ho, hLne.symm, hI0⟩
      · exact N₂ p hp
    have key : ∀ s₃, (∃ h' tk m' news', s₃ = { s with heap := h', toks := tk } ∧ Fr h₀ env.locals h' m' ∧ News h₀ env.locals h' ([(I, o)] ++ news') ∧ J (i + 1) m' news') →
        ∃ k', k' < n + 1 - i ∧ ∃ h' tk m' n'' i', s₃ = { s with heap := h', toks := tk } ∧ St i' h' ∧ Fr h₀ env.locals h' m' ∧ News h₀ env.locals h' n'' ∧ J i' m' n'' ∧ i' ≤ n ∧ k' = n + 1 - i' := by
      rintro s₃ ⟨h₃', tk₃, m₂, news₂, rfl, F₃, N₄, hJ₃⟩
      have N₅ : News h₀ env.locals h₃' news₂ := fun p hp => N₄ p (.tail _ hp)
      have hit : St (i + 1) h₃' := W.frame _ _ _ st₁ fun b hb o' e => by
        by_cases hbI : b = I
        · subst hbI
          rw [ho] at e
          cases e
          exact (N₄ (b, o) (.head _)).1
        · obtain ⟨ob, hob⟩ := hfp b hb hbI
          have e2 := hk₁ b ob (by simpa using hbI) (hob _ _ _ _ hJ F' N')
          rw [e2] at e
          cases e
          exact hob _ _ _ _ hJ₃ F₃ N₅
      exact ⟨n + 1 - (i + 1), by omega, h₃', tk₃, m₂, news₂, i + 1, rfl, hit, F₃, N₅, hJ₃, hlt, rfl⟩
    refine wpAny_mono (step i v m' n' o h₁ tk₁ hlt hv hJ hNlt' hoc F₂ N₃) (fun _ s₂ h₂' => wpAny_mono (wpAny_passesOwn hE h₂') (fun f s₃ h₃ => ?_) fun _ _ e => e) hE
    cases f with
    | ret v => exact h₃
    | brk => exact h₃
    | cont => exact key s₃ h₃
    | next => exact key s₃ h₃
  · have hin : i = n := by omega
    subst hin
    refine W.done _ _ _ hst' fun h₁ tk₁ hk₁ => ?_
    obtain ⟨F₁, N₁⟩ := next h₁ hk₁
    exact wpAny_passesOwn hE (done m' n' h₁ tk₁ hJ F₁ N₁)
/-- a for over a tuple that stands in the base, with an else -/
theorem loop_tupE {env : Env} {T : Addr} {items : Array Value} {target : Expr} {body orelse : List Stmt} {Q : Flow → Shared → Prop} {m : Str → Option Value} {news : List (Addr × Obj)}
    (hT : h₀.IsTuple T items) (hh : A.handled = none) (F : Fr h₀ env.locals s.heap m) (N : News h₀ env.locals s.heap news)
    (J : Nat → (Str → Option Value) → Prop) (h0 : J 0 m)
    (step : ∀ (i : Nat) v m₁ I o h₁ tk₁, items[i]? = some v → J i m₁ → (∀ p ∈ news, p.1 < I) → o.cls = .type "tuple_iterator" → Fr h₀ env.locals h₁ m₁ → News h₀ env.locals h₁ ((I, o) :: news) →
      wpAny (model prog w) A (assign target env v) (fun _ s₂ => wpAny (model prog w) A (execs body env) (TurnEnd h₀ env.locals [(I, o)] s (fun m' news' => news' = news ∧ J (i + 1) m') Q) E s₂) E { s with heap := h₁, toks := tk₁ })
    (done : ∀ m' h' tk, J items.size m' → Fr h₀ env.locals h' m' → News h₀ env.locals h' news → wpAny (model prog w) A (execs orelse env) Q E { s with heap := h', toks := tk })
    (hE : PassesOwn (model prog w) A env E) :
    wpAny (model prog w) A (pyIter (.ref T)) (fun it s₂ => codeAny (model prog w) A (.forLoop target it body orelse env) (fun r s' => match r with | .ok f => Q f s' | .error e => cameBackBy (model prog w) A env E e s') s₂) E s := by
  have hTs : s.heap.IsTuple T items := IsTup.keeps hT F.keep
  refine wpAny_pyIter_tuple hTs ?_
  have hne : T ≠ s.heap.objs.size := Nat.ne_of_lt (IsTup.lt hTs)
  obtain ⟨to, hto, htr⟩ := id hT
  exact loop_walk (C := .type "tuple_iterator") (Walks.tuple hh _ T hne items) (fun i h st => let ⟨o, ho, hoc, _⟩ := st.1; ⟨o, ho, hoc⟩) (fun i v s' Q' E' hv st h => letGo_tupleiter st.1 h) (Nat.ne_of_lt F.ns.lt) F.fresh (fun p hp => Heap.lt_size (N p hp).1) (F.push _) (fun p hp => ⟨Heap.get?_push_of_some _ (N p hp).1, (N p hp).2⟩)
    ⟨⟨_, Heap.get?_push_size _ rfl, rfl, rfl⟩, IsTup.keeps hT (F.push _).keep⟩ (fun i m' n' => n' = news ∧ J i m') ⟨rfl, h0⟩ (fun _ _ _ h => congrArg _ h.1)
    (fun b hb hbI => by
      have hb : b = T := by simpa [hbI] using hb
      subst hb
      exact ⟨to, fun i m' n' h' _ F' _ => F'.keep _ _ hto⟩)
    (fun i v m₁ n₁ o h₁ tk₁ hlt hv hJ hl hoc F₁ N₁ => by
      obtain ⟨rfl, hJ⟩ := hJ
      exact step i v m₁ _ o h₁ tk₁ hv hJ hl hoc F₁ N₁) (fun m' n' h' tk hJ F' N' => by
      obtain ⟨rfl, hJ⟩ := hJ
      exact done m' h' tk hJ F' N') hE

/-- a for over enumerate of a tuple that stands in the base -/
theorem loop_enumT {env : Env} {T : Addr} {items : Array Value} {elts : List Expr} {k0 : Nat} {tpos : Pos} {body : List Stmt} {Q : Flow → Shared → Prop} {m : Str → Option Value} {news : List (Addr × Obj)}
    (hT : h₀.IsTuple T items) (hh : A.handled = none) (F : Fr h₀ env.locals s.heap m) (N : News h₀ env.locals s.heap news)
    (J : Nat → (Str → Option Value) → List (Addr × Obj) → Prop) (h0 : J 0 m news) (hJa : ∀ i m' n', J i m' n' → n'.map (·.1) = news.map (·.1))
    (step : ∀ (i : Nat) x T' t m₁ news₁ I o o' h₁ tk₁, items[i]? = some x → IsTup h₁ T' #[.int i t, x] → J i m₁ news₁ → (∀ p ∈ news₁, p.1 < I) → o.cls = .type "tuple_iterator" → o'.cls = .type "enumerate" → Fr h₀ env.locals h₁ m₁ → News h₀ env.locals h₁ ((I + 1, o') :: (I, o) :: news₁) →
      wpAny (model prog w) A (assign (.Tuple elts k0 tpos) env (.ref T')) (fun _ s₂ => wpAny (model prog w) A (execs body env) (TurnEnd h₀ env.locals [(I + 1, o'), (I, o)] { s with heap := h₁, toks := tk₁ } (J (i + 1)) Q) E s₂) E { s with heap := h₁, toks := tk₁ })
    (done : ∀ m' news' h' tk, J items.size m' news' → Fr h₀ env.locals h' m' → News h₀ env.locals h' news' → Q .next { s with heap := h', toks := tk }) :
    wpAny (model prog w) A (call (.type "enumerate") [.ref T]) (fun xv s₁ => wpAny (model prog w) A (pyIter xv) (fun it s₂ => TurnsAt prog w A h₀ env (.Tuple elts k0 tpos) body Q E it s₂) E s₁) E s := by
  have hTs : s.heap.IsTuple T items := IsTup.keeps hT F.keep
  have hNlt : ∀ p ∈ news, p.1 < s.heap.objs.size := fun p hp => Heap.lt_size (N p hp).1
  have hL := F.ns.lt
  have hTlt := IsTup.lt hTs
  have hI0 : h₀.get? s.heap.objs.size = none := F.fresh
  have hI1 : h₀.get? (s.heap.objs.size + 1) = none := Heap.get?_none_of_le (by have := Nat.le_trans F.above (Nat.le_of_lt F.ns.lt); omega)
  refine call_enum_tuple hTs fun h' he hit hsz hk => ?_
  have F' : Fr h₀ env.locals h' m := F.keeps hk
  have N' := N.grown hk
  generalize s.heap.objs.size = I at *
  refine wpAny_pyIter_enum he ?_
  have D := draws_tuple (prog := prog) (w := w) (A := A.in1) hh I T (Nat.ne_of_lt hTlt) items
  have lt1 : ∀ n' : List (Addr × Obj), n'.map (·.1) = news.map (·.1) → ∀ p ∈ n', p.1 < I := fun n' e p hp => by
    have : p.1 ∈ news.map (·.1) := e ▸ List.mem_map.mpr ⟨p, hp, rfl⟩
    obtain ⟨q, hq, e⟩ := List.mem_map.mp this
    exact e ▸ hNlt q hq
  have lt2 : ∀ n' : List (Addr × Obj), n'.map (·.1) = news.map (·.1) → ∀ p ∈ n', p.1 ∉ [I + 1, I] := fun n' e p hp hb => by
    have := lt1 n' e p hp
    rcases List.mem_cons.mp hb with h | hb
    · exact Nat.ne_of_lt (Nat.lt_succ_of_lt this) h
    · exact Nat.ne_of_lt this (List.mem_singleton.mp hb)
  refine ⟨I + 1, _, _, _, _, _, _, m, news, J, rfl, KTurns.ofWalksU (WalksT.enumerateD D (I + 1) (Nat.succ_ne_self I) (by simp only [List.mem_cons, List.not_mem_nil, or_false, not_or]; exact ⟨Nat.succ_ne_self I, (Nat.ne_of_lt (Nat.lt_succ_of_lt hTlt)).symm⟩) (by simp)).toU, ?_, ?_, lt2 news rfl, ⟨⟨_, he⟩, hit, IsTup.keeps hT F'.keep⟩, F', N', h0, ?_, ?_⟩
  · intro hb
    have hb' : env.locals = I + 1 ∨ env.locals = I ∨ env.locals = T := by simpa using hb
    rcases hb' with e | e | e
    · exact Nat.ne_of_lt (Nat.lt_succ_of_lt hL) e
    · exact Nat.ne_of_lt hL e
    · obtain ⟨o, ho, _⟩ := hT
      have h1 := Heap.lt_size ho
      have h2 := F.above
      exact Nat.lt_irrefl _ (Nat.lt_of_lt_of_le (e ▸ h1) h2)
  · intro b hb
    rcases List.mem_cons.mp hb with rfl | hb
    · exact hI1
    · rw [List.mem_singleton.mp hb]; exact hI0
  · intro i v m₁ news₁ h₁ tk₁ own hi hP hJ ha hown hget hall hst F₁ N₁
    obtain ⟨T', vals, rfl, ⟨t, x, hx, rfl⟩, hT'⟩ := hP
    obtain ⟨⟨old, he₁⟩, hit₁, _⟩ := hst
    obtain ⟨oi, hoi, hic, _⟩ := id hit₁
    obtain ⟨oe, hoe, hec⟩ : ∃ oe : Obj, h₁.get? (I + 1) = some oe ∧ oe.cls = .type "enumerate" := ⟨_, he₁, rfl⟩
    have N₂ : News h₀ env.locals h₁ ((I + 1, oe) :: (I, oi) :: news₁) := fun p hp => by
      rcases List.mem_cons.mp hp with rfl | hp
      · exact ⟨hoe, fun e => Nat.ne_of_lt (Nat.lt_succ_of_lt hL) (Eq.symm e), hI1⟩
      rcases List.mem_cons.mp hp with rfl | hp
      · exact ⟨hoi, fun e => Nat.ne_of_lt hL (Eq.symm e), hI0⟩
      · exact N₁.right p hp
    refine wpAny_mono (step i x T' t m₁ news₁ I oi oe h₁ tk₁ hx hT' hJ (lt1 news₁ (hJa _ _ _ hJ)) hic hec F₁ N₂) (fun _ s₂ h₂ => wpAny_mono h₂ (fun f s₃ h₃ => ?_) fun _ _ e => e) fun _ _ e => e
    have fin : (∃ h' tk m' news', s₃ = { s with heap := h', toks := tk } ∧ Fr h₀ env.locals h' m' ∧ News h₀ env.locals h' ([(I + 1, oe), (I, oi)] ++ news') ∧ J (i + 1) m' news') →
        LoopStepU h₀ env.locals [I + 1, I] own (J (i + 1)) { s with heap := h₁, toks := tk₁ } .next s₃ := by
      rintro ⟨h', tk, m', news', e, F', N', hJ'⟩
      refine ⟨rfl, h', tk, m', news', e, F', ?_, lt2 _ (hJa _ _ _ hJ'), hJ'⟩
      rintro ⟨pa, po⟩ hp
      rcases List.mem_append.mp hp with hp | hp
      · have h2 : h₁.get? pa = some po := hget _ hp
        have h3 := hown _ hp
        have h3 : pa = I + 1 ∨ pa = I ∨ pa = T := by simpa using h3
        rcases h3 with rfl | rfl | rfl
        · rw [hoe] at h2; cases h2
          exact N' _ (.head _)
        · rw [hoi] at h2; cases h2
          exact N' _ (.tail _ (.head _))
        · exfalso
          obtain ⟨o, ho, _⟩ := hT
          have := (N₁ _ (List.mem_append_left _ hp)).2.2
          rw [ho] at this; cases this
      · exact N' _ (.tail _ (.tail _ hp))
    cases f with
    | ret v => exact .ret h₃
    | brk => exact .brk h₃
    | next => exact .next (fin h₃)
    | cont => exact .cont (fin h₃)
  · intro h' tk m' news' F' N' _ hJ
    exact done m' news' h' tk hJ F' N'
end
end Mine
end
section
open PySem PySem.W PySem.W.X PyProof.Rows PySem.Calls PySem.Spec
namespace Mine
theorem join_tx : ∀ ts : List (List Nat), PySem.Txt.join (PySem.Str.ofString "") (ts.map tx) = tx ts.flatten := by
  intro ts
  show (Builtin.Str.glued (PySem.Str.ofString "") _) = _
  rw [StrLaws.glued_eq_join]
  induction ts with
  | nil => rfl
  | cons a r ih =>
    cases r with
    | nil => simp [Str.join]
    | cons b r =>
      rw [List.map_cons, List.map_cons, Str.join, ← List.map_cons, ih, List.flatten_cons]
      · have e : PySem.Str.ofString "" = tx [] := rfl
        rw [e, tx_app, tx_app, List.append_nil]; simp only [List.flatten_cons]
      · simp
section
variable {prog : Program} {w : World} {A : Around} {E : Value → Shared → Prop} {s : Shared} {h₀ : Heap} {L D : Addr} {news : List (Addr × Obj)}
theorem r_joinT {ts : List (List Nat)} {l : List (Str × Tok)} {n : Nat} {t : Tok} {Q : Value → Shared → Prop} (N : News h₀ L s.heap news) (hm : (D, W.listOf (strValues l).toArray n) ∈ news) (hl : l.map (·.1) = ts.map tx) (hB : ∀ y ∈ ts, y.length ≤ 100) (hz : ts.length ≤ 1000)
    (h : ∀ t' k, Q (.str (tx ts.flatten) t') { s with toks := k }) : wpAny (model prog w) A (call (.builtin "str.join") [.str (PySem.Str.ofString "") t, .ref D]) Q E s := by
  refine SC.join (News.isList N hm) hl ?_ fun t' k => ?_
  · unfold JoinOk
    rw [Bool.not_eq_true']
    refine StrLaws.joinFits (B := 100) (fun y hy => ?_) ?_
    · obtain ⟨z, hz, e⟩ := List.mem_map.mp hy
      rw [← e, tx_len]; exact hB z hz
    · have e : (PySem.Str.ofString "").length = 0 := by decide
      rw [List.length_map, e]; omega
  · rw [join_tx]; exact h t' k
end
end Mine
end
section
open PySem PySem.W PySem.W.X PyProof.Rows
set_option maxRecDepth 100000
namespace Mine
def PairsOk (h : Heap) : List Value → List (Int × Nat) → Prop
  | [], [] => True
  | v :: vs, p :: ps => (∃ a t u, v = .ref a ∧ IsTup h a #[.int p.1 t, .str (tx [p.2]) u]) ∧ PairsOk h vs ps
  | _, _ => False
theorem PairsOk.len {h : Heap} : ∀ {vs : List Value} {ps : List (Int × Nat)}, PairsOk h vs ps → vs.length = ps.length
  | [], [], _ => rfl
  | [], _ :: _, x => x.elim
  | _ :: _, [], x => x.elim
  | _ :: _, _ :: _, x => congrArg (· + 1) x.2.len
theorem PairsOk.get {h : Heap} : ∀ {vs : List Value} {ps : List (Int × Nat)} {i : Nat} {v : Value}, PairsOk h vs ps → vs[i]? = some v → ∃ b c a t u, ps[i]? = some (b, c) ∧ v = .ref a ∧ IsTup h a #[.int b t, .str (tx [c]) u]
  | [], [], _, _, _, e => by simp at e
  | [], _ :: _, _, _, x, _ => x.elim
  | _ :: _, [], _, _, x, _ => x.elim
  | v :: vs, p :: ps, 0, w, x, e => by
    obtain ⟨a, t, u, ev, ht⟩ := x.1
    have e : v = w := by simpa using e
    exact ⟨p.1, p.2, a, t, u, rfl, e ▸ ev, ht⟩
  | v :: vs, p :: ps, i + 1, w, x, e => by
    obtain ⟨b, c, r⟩ := x.2.get (i := i) (v := w) (by simpa using e)
    exact ⟨b, c, by simpa using r⟩
def TabOk (h : Heap) (v : Value) (ps : List (Int × Nat)) : Prop := ∃ T items, v = .ref T ∧ h.IsTuple T items ∧ PairsOk h items.toList ps
def TabsOk (h : Heap) : List Value → List (List (Int × Nat)) → Prop
  | [], [] => True
  | v :: vs, p :: ps => TabOk h v p ∧ TabsOk h vs ps
  | _, _ => False
theorem TabsOk.get {h : Heap} : ∀ {vs : List Value} {ps : List (List (Int × Nat))} {i : Nat} {v : Value}, TabsOk h vs ps → vs[i]? = some v → ∃ p, ps[i]? = some p ∧ TabOk h v p
  | [], [], _, _, _, e => by simp at e
  | [], _ :: _, _, _, x, _ => x.elim
  | _ :: _, [], _, _, x, _ => x.elim
  | v :: vs, p :: ps, 0, w, x, e => by
    have e : v = w := by simpa using e
    exact ⟨p, rfl, e ▸ x.1⟩
  | v :: vs, p :: ps, i + 1, w, x, e => by
    obtain ⟨b, r⟩ := x.2.get (i := i) (v := w) (by simpa using e)
    exact ⟨b, by simpa using r⟩
theorem TabsOk.len {h : Heap} : ∀ {vs : List Value} {ps : List (List (Int × Nat))}, TabsOk h vs ps → vs.length = ps.length
  | [], [], _ => rfl
  | [], _ :: _, x => x.elim
  | _ :: _, [], x => x.elim
  | _ :: _, _ :: _, x => congrArg (· + 1) x.2.len
def tabs : List (List (Int × Nat)) := [[(40960, 108), (49152, 115), (32768, 45), (24576, 98), (16384, 100), (8192, 99), (4096, 112)],
  [(256, 114)], [(128, 119)], [(2112, 115), (2048, 83), (64, 120)],
  [(32, 114)], [(16, 119)], [(1032, 115), (1024, 83), (8, 120)],
  [(4, 114)], [(2, 119)], [(513, 116), (512, 84), (1, 120)]]
theorem tabs_ok {P : Params} {h : Heap} (X : (hd.heap_1 P).In h) : ∃ items, h.IsTuple 137 items ∧ TabsOk h items.toList tabs := by
  refine ⟨_, ⟨_, X 137 _ rfl, rfl, _, rfl⟩, ?_⟩
  repeat' first
    | exact trivial
    | (refine And.intro (b := TabsOk _ _ _) ⟨_, _, rfl, ⟨_, X _ _ rfl, rfl, _, rfl⟩, ?_⟩ ?_)
    | (refine And.intro (b := PairsOk _ _ _) ⟨_, _, _, rfl, ⟨_, X _ _ rfl, rfl, _, rfl⟩⟩ ?_)
/-- the sign of one table -/
def selT (i : Nat) (x : Int) : List (Int × Nat) → Nat
  | [] => if i = 0 then 63 else 45
  | p :: ps => if Builtin.bitAnd x (if i = 0 then 61440 else p.1) = p.1 then p.2 else selT i x ps
def listing (x : Int) : List Nat := tabs.zipIdx.map fun p => selT p.2 x p.1
end Mine
end
section
open PySem PySem.W PySem.W.X PyProof.Rows PySem.Calls PySem.Spec
open Sem (wp)
set_option maxRecDepth 100000
namespace Mine
section
variable {prog : Program} {w : World} {A : Around} {E : Value → Shared → Prop} {s : Shared} {h₀ : Heap}
/-- a for over a list of the ledger, told by what holds -/
theorem loop_listL {env : Env} {T : Addr} {items : Array Value} {lo : Obj} {ln : Nat} {target : Expr} {body orelse : List Stmt} {Q : Flow → Shared → Prop} {m : Str → Option Value} {news : List (Addr × Obj)}
    (hm : (T, lo) ∈ news) (hlc : lo.cls = .type "list") (hld : lo.data = .seq items ln) (hh : A.handled = none) (F : Fr h₀ env.locals s.heap m) (N : News h₀ env.locals s.heap news)
    (J : Nat → (Str → Option Value) → Prop) (h0 : J 0 m)
    (step : ∀ (i : Nat) v m₁ I o h₁ tk₁, items[i]? = some v → J i m₁ → (∀ p ∈ news, p.1 < I) → o.cls = .type "list_iterator" → Fr h₀ env.locals h₁ m₁ → News h₀ env.locals h₁ ((I, o) :: news) →
      wpAny (model prog w) A (assign target env v) (fun _ s₂ => wpAny (model prog w) A (execs body env) (TurnEnd h₀ env.locals [(I, o)] s (fun m' news' => news' = news ∧ J (i + 1) m') Q) E s₂) E { s with heap := h₁, toks := tk₁ })
    (done : ∀ m' h' tk, J items.size m' → Fr h₀ env.locals h' m' → News h₀ env.locals h' news → wpAny (model prog w) A (execs orelse env) Q E { s with heap := h', toks := tk })
    (hE : PassesOwn (model prog w) A env E) :
    wpAny (model prog w) A (pyIter (.ref T)) (fun it s₂ => codeAny (model prog w) A (.forLoop target it body orelse env) (fun r s' => match r with | .ok f => Q f s' | .error e => cameBackBy (model prog w) A env E e s') s₂) E s := by
  have hTs : s.heap.IsList T items := ⟨lo, (N _ hm).1, hlc, ln, hld⟩
  refine wpAny_pyIter_list hTs ?_
  have hne : T ≠ s.heap.objs.size := Nat.ne_of_lt (Heap.lt_size (N _ hm).1)
  exact loop_walk (C := .type "list_iterator") (Walks.list hh _ T hne items) (fun i h st => let ⟨o, ho, hoc, _⟩ := st.1; ⟨o, ho, hoc⟩) (fun i v s' Q' E' hv st h => letGo_listiter st.1 h) (Nat.ne_of_lt F.ns.lt) F.fresh (fun p hp => Heap.lt_size (N p hp).1) (F.push _) (fun p hp => ⟨Heap.get?_push_of_some _ (N p hp).1, (N p hp).2⟩)
    ⟨⟨_, Heap.get?_push_size _ rfl, rfl, rfl⟩, ⟨lo, Heap.get?_push_of_some _ (N _ hm).1, hlc, ln, hld⟩⟩ (fun i m' n' => n' = news ∧ J i m') ⟨rfl, h0⟩ (fun _ _ _ h => congrArg _ h.1)
    (fun b hb hbI => by
      have hb : b = T := by simpa [hbI] using hb
      subst hb
      exact ⟨lo, fun i m' n' h' hJ _ N' => (N' _ (hJ.1 ▸ hm)).1⟩)
    (fun i v m₁ n₁ o h₁ tk₁ hlt hv hJ hl hoc F₁ N₁ => by
      obtain ⟨rfl, hJ⟩ := hJ
      exact step i v m₁ _ o h₁ tk₁ hv hJ hl hoc F₁ N₁) (fun m' n' h' tk hJ F' N' => by
      obtain ⟨rfl, hJ⟩ := hJ
      exact done m' h' tk hJ F' N') hE

end
end Mine
end
section
open PySem PySem.W PySem.W.X PyProof.Rows PySem.Calls PySem.Spec
open Sem (wp)
set_option maxRecDepth 100000
namespace Mine
section
variable {prog : Program} {w : World} {A : Around} {E : Value → Shared → Prop} {s : Shared} {h₀ : Heap}
/-- a for over range(n), told by what holds -/
theorem loop_rangeN {n : Nat} {env : Env} {T : Addr} {rt ru rv : Tok} {x : Str} {xpos : Pos} {body orelse : List Stmt} {Q : Flow → Shared → Prop} {m : Str → Option Value} {news : List (Addr × Obj)}
    (hT : IsRange s.heap T 0 (n : Int) 1 rt ru rv) (hz : n ≤ 1000) (hh : A.handled = none) (F : Fr h₀ env.locals s.heap m) (N : News h₀ env.locals s.heap news)
    (J : Nat → (Str → Option Value) → Prop) (h0 : J 0 m)
    (step : ∀ (i : Nat) v t m₁ I o h₁ tk₁, i < n → v = .int (i : Int) t → J i m₁ → (∀ p ∈ news, p.1 < I) → o.cls = .type "range_iterator" → Fr h₀ env.locals h₁ m₁ → News h₀ env.locals h₁ ((I, o) :: news) →
      wpAny (model prog w) A (assign (.Name x xpos) env v) (fun _ s₂ => wpAny (model prog w) A (execs body env) (TurnEnd h₀ env.locals [(I, o)] s (fun m' news' => news' = news ∧ J (i + 1) m') Q) E s₂) E { s with heap := h₁, toks := tk₁ })
    (done : ∀ m' h' tk, J n m' → Fr h₀ env.locals h' m' → News h₀ env.locals h' news → wpAny (model prog w) A (execs orelse env) Q E { s with heap := h', toks := tk })
    (hE : PassesOwn (model prog w) A env E) :
    wpAny (model prog w) A (pyIter (.ref T)) (fun it s₂ => codeAny (model prog w) A (.forLoop (.Name x xpos) it body orelse env) (fun r s' => match r with | .ok f => Q f s' | .error e => cameBackBy (model prog w) A env E e s') s₂) E s := by
  have hn : Builtin.Range.rangeSize 0 (n : Int) 1 = (n : Int) := by
    unfold Builtin.Range.rangeSize
    simp only [show (1 : Int) > 0 by decide, if_true, Int.ediv_one]
    split <;> omega
  have hf : ∀ i : Int, 0 ≤ i → i < 100000 → Builtin.Range.rangeFitsLong i = true := fun i h0 h1 => by
    unfold Builtin.Range.rangeFitsLong
    rw [Bool.and_eq_true, decide_eq_true_eq, decide_eq_true_eq]
    exact ⟨by omega, by omega⟩
  have hs : Builtin.Range.small 0 (n : Int) 1 = true := by
    unfold Builtin.Range.small
    rw [hn, hf 0 (by omega) (by omega), hf 1 (by omega) (by omega), hf n (by omega) (by omega), if_pos (by decide), hf _ (by omega) (by omega)]
    simp
  refine wpAny_pyIter_range hT hs ?_
  rw [hn]
  exact loop_walk (n := n) (C := .type "range_iterator") (Walks.range hh _ 0 1 n) (fun i h st => ⟨_, st, rfl⟩) (fun i v s' Q' E' hv st h => by unfold letOwnedTupleGo; exact wpAny_pure h) (Nat.ne_of_lt F.ns.lt) F.fresh (fun p hp => Heap.lt_size (N p hp).1) (F.push _) (fun p hp => ⟨Heap.get?_push_of_some _ (N p hp).1, (N p hp).2⟩)
    (Heap.get?_push_size _ rfl) (fun i m' n' => n' = news ∧ J i m') ⟨rfl, h0⟩ (fun _ _ _ h => congrArg _ h.1) (fun b hb hbI => absurd (List.mem_singleton.mp hb) hbI)
    (fun i v m₁ n₁ o h₁ tk₁ hlt hv hJ hl hoc F₁ N₁ => by
      obtain ⟨rfl, hJ⟩ := hJ
      obtain ⟨vt, hv⟩ := hv
      exact step i v vt m₁ _ o h₁ tk₁ hlt (by rw [hv, Int.zero_add, Int.mul_one]) hJ hl hoc F₁ N₁) (fun m' n' h' tk hJ F' N' => by
      obtain ⟨rfl, hJ⟩ := hJ
      exact done m' h' tk hJ F' N') hE


theorem loop_rangeJ {n : Nat} {env : Env} {T : Addr} {rt ru rv : Tok} {x : Str} {xpos : Pos} {body orelse : List Stmt} {Q : Flow → Shared → Prop} {m : Str → Option Value} {news : List (Addr × Obj)}
    (hT : IsRange s.heap T 0 (n : Int) 1 rt ru rv) (hz : n ≤ 1000) (hh : A.handled = none) (F : Fr h₀ env.locals s.heap m) (N : News h₀ env.locals s.heap news)
    (J : (Str → Option Value) → Nat → (Str → Option Value) → Prop) (h0 : J m 0 m)
    (step : ∀ (i : Nat) v t m₁ I o h₁ tk₁, i < n → v = .int (i : Int) t → J m i m₁ → (∀ p ∈ news, p.1 < I) → o.cls = .type "range_iterator" → Fr h₀ env.locals h₁ m₁ → News h₀ env.locals h₁ ((I, o) :: news) →
      wpAny (model prog w) A (assign (.Name x xpos) env v) (fun _ s₂ => wpAny (model prog w) A (execs body env) (TurnEnd h₀ env.locals [(I, o)] s (fun m' news' => news' = news ∧ J m (i + 1) m') Q) E s₂) E { s with heap := h₁, toks := tk₁ })
    (done : ∀ m' h' tk, J m n m' → Fr h₀ env.locals h' m' → News h₀ env.locals h' news → wpAny (model prog w) A (execs orelse env) Q E { s with heap := h', toks := tk })
    (hE : PassesOwn (model prog w) A env E) :
    wpAny (model prog w) A (pyIter (.ref T)) (fun it s₂ => codeAny (model prog w) A (.forLoop (.Name x xpos) it body orelse env) (fun r s' => match r with | .ok f => Q f s' | .error e => cameBackBy (model prog w) A env E e s') s₂) E s :=
  loop_rangeN hT hz hh F N (J m) h0 step done hE
end
end Mine
end
section
open PySem PySem.W PySem.W.X PyProof.Rows PySem.Calls PySem.Spec
open Sem (wp)
set_option maxRecDepth 100000
namespace Mine
section
variable {prog : Program} {w : World} {A : Around} {E : Value → Shared → Prop} {s : Shared} {h₀ : Heap}
/-- a for over range(3), told by what holds -/
theorem loop_range3 {env : Env} {T : Addr} {rt ru rv : Tok} {x : Str} {xpos : Pos} {body orelse : List Stmt} {Q : Flow → Shared → Prop} {m : Str → Option Value} {news : List (Addr × Obj)}
    (hT : IsRange s.heap T 0 3 1 rt ru rv) (hh : A.handled = none) (F : Fr h₀ env.locals s.heap m) (N : News h₀ env.locals s.heap news)
    (J : Nat → (Str → Option Value) → Prop) (h0 : J 0 m)
    (step : ∀ (i : Nat) v t m₁ I o h₁ tk₁, i < 3 → v = .int (i : Int) t → J i m₁ → (∀ p ∈ news, p.1 < I) → o.cls = .type "range_iterator" → Fr h₀ env.locals h₁ m₁ → News h₀ env.locals h₁ ((I, o) :: news) →
      wpAny (model prog w) A (assign (.Name x xpos) env v) (fun _ s₂ => wpAny (model prog w) A (execs body env) (TurnEnd h₀ env.locals [(I, o)] s (fun m' news' => news' = news ∧ J (i + 1) m') Q) E s₂) E { s with heap := h₁, toks := tk₁ })
    (done : ∀ m' h' tk, J 3 m' → Fr h₀ env.locals h' m' → News h₀ env.locals h' news → wpAny (model prog w) A (execs orelse env) Q E { s with heap := h', toks := tk })
    (hE : PassesOwn (model prog w) A env E) :
    wpAny (model prog w) A (pyIter (.ref T)) (fun it s₂ => codeAny (model prog w) A (.forLoop (.Name x xpos) it body orelse env) (fun r s' => match r with | .ok f => Q f s' | .error e => cameBackBy (model prog w) A env E e s') s₂) E s := by
  exact loop_rangeN (n := 3) hT (by decide) hh F N J h0 step done hE

end
end Mine
end
section
open PySem PySem.W PySem.W.X PyProof.Rows PySem.Calls PySem.Spec
open Sem (wp)
set_option maxRecDepth 100000
namespace Mine
section
variable {prog : Program} {w : World} {A : Around} {E : Value → Shared → Prop} {s : Shared} {h₀ : Heap}
/-- a for over a tuple of the ledger, which may turn otherwise -/
theorem loop_tupL {env : Env} {T : Addr} {items : Array Value} {to : Obj} {tn : Nat} {target : Expr} {body orelse : List Stmt} {Q : Flow → Shared → Prop} {m : Str → Option Value} {news : List (Addr × Obj)}
    (hm : (T, to) ∈ news) (htc : to.cls = .type "tuple") (htd : to.data = .seq items tn) (hh : A.handled = none) (F : Fr h₀ env.locals s.heap m) (N : News h₀ env.locals s.heap news)
    (J : Nat → (Str → Option Value) → List (Addr × Obj) → Prop) (h0 : J 0 m news) (hJa : ∀ i m' n', J i m' n' → n'.map (·.1) = news.map (·.1) ∧ (T, to) ∈ n')
    (step : ∀ (i : Nat) v m₁ n₁ I o h₁ tk₁, items[i]? = some v → J i m₁ n₁ → (∀ p ∈ n₁, p.1 < I) → o.cls = .type "tuple_iterator" → Fr h₀ env.locals h₁ m₁ → News h₀ env.locals h₁ ((I, o) :: n₁) →
      wpAny (model prog w) A (assign target env v) (fun _ s₂ => wpAny (model prog w) A (execs body env) (TurnEnd h₀ env.locals [(I, o)] s (J (i + 1)) Q) E s₂) E { s with heap := h₁, toks := tk₁ })
    (done : ∀ m' n' h' tk, J items.size m' n' → Fr h₀ env.locals h' m' → News h₀ env.locals h' n' → wpAny (model prog w) A (execs orelse env) Q E { s with heap := h', toks := tk })
    (hE : PassesOwn (model prog w) A env E) :
    wpAny (model prog w) A (pyIter (.ref T)) (fun it s₂ => codeAny (model prog w) A (.forLoop target it body orelse env) (fun r s' => match r with | .ok f => Q f s' | .error e => cameBackBy (model prog w) A env E e s') s₂) E s := by
  have hTs : s.heap.IsTuple T items := ⟨to, (N _ hm).1, htc, tn, htd⟩
  refine wpAny_pyIter_tuple hTs ?_
  have hne : T ≠ s.heap.objs.size := Nat.ne_of_lt (IsTup.lt hTs)
  exact loop_walk (C := .type "tuple_iterator") (Walks.tuple hh _ T hne items) (fun i h st => let ⟨o, ho, hoc, _⟩ := st.1; ⟨o, ho, hoc⟩) (fun i v s' Q' E' hv st h => letGo_tupleiter st.1 h) (Nat.ne_of_lt F.ns.lt) F.fresh (fun p hp => Heap.lt_size (N p hp).1) (F.push _) (fun p hp => ⟨Heap.get?_push_of_some _ (N p hp).1, (N p hp).2⟩)
    ⟨⟨_, Heap.get?_push_size _ rfl, rfl, rfl⟩, ⟨to, Heap.get?_push_of_some _ (N _ hm).1, htc, tn, htd⟩⟩ J h0 (fun i m' n' h => (hJa i m' n' h).1)
    (fun b hb hbI => by
      have hb : b = T := by simpa [hbI] using hb
      subst hb
      exact ⟨to, fun i m' n' h' hJ _ N' => (N' _ (hJa _ _ _ hJ).2).1⟩)
    (fun i v m₁ n₁ o h₁ tk₁ hlt hv hJ hl hoc F₁ N₁ => step i v m₁ n₁ _ o h₁ tk₁ hv hJ hl hoc F₁ N₁) done hE

end
end Mine
end
section
open PySem PySem.W PySem.W.X PyProof.Rows PySem.Calls PySem.Spec
open Sem (wp)
set_option maxRecDepth 100000
namespace Mine
section
variable {prog : Program} {w : World} {A : Around} {E : Value → Shared → Prop} {s : Shared} {h₀ : Heap}
/-- a for over a text's signs, told by what holds -/
theorem loop_strA {A' : List Nat} {env : Env} {rt : Tok} {x : Str} {xpos : Pos} {body orelse : List Stmt} {Q : Flow → Shared → Prop} {m : Str → Option Value} {news : List (Addr × Obj)}
    (hz : ∀ c ∈ A', c < 128) (hh : A.handled = none) (F : Fr h₀ env.locals s.heap m) (N : News h₀ env.locals s.heap news)
    (J : Nat → (Str → Option Value) → Prop) (h0 : J 0 m)
    (step : ∀ (i : Nat) v t m₁ I o h₁ tk₁, i < A'.length → v = .str (tx [A'.getD i 0]) t → J i m₁ → (∀ p ∈ news, p.1 < I) → o.cls = .type "str_ascii_iterator" → Fr h₀ env.locals h₁ m₁ → News h₀ env.locals h₁ ((I, o) :: news) →
      wpAny (model prog w) A (assign (.Name x xpos) env v) (fun _ s₂ => wpAny (model prog w) A (execs body env) (TurnEnd h₀ env.locals [(I, o)] s (fun m' news' => news' = news ∧ J (i + 1) m') Q) E s₂) E { s with heap := h₁, toks := tk₁ })
    (done : ∀ m' h' tk, J A'.length m' → Fr h₀ env.locals h' m' → News h₀ env.locals h' news → wpAny (model prog w) A (execs orelse env) Q E { s with heap := h', toks := tk })
    (hE : PassesOwn (model prog w) A env E) :
    wpAny (model prog w) A (pyIter (.str (tx A') rt)) (fun it s₂ => codeAny (model prog w) A (.forLoop (.Name x xpos) it body orelse env) (fun r s' => match r with | .ok f => Q f s' | .error e => cameBackBy (model prog w) A env E e s') s₂) E s := by
  have ha : (tx A').cps.all (· < 128) = true := by
    show (A'.toArray.all (· < 128)) = true
    simpa using hz
  refine wpAny_pyIter_ascii ha ?_
  exact loop_walk (n := A'.length) (C := .type "str_ascii_iterator") (Walks.strAscii hh _ (tx A') rt) (fun i h st => let ⟨o, ho, hoc, _⟩ := st; ⟨o, ho, hoc⟩) (fun i v s' Q' E' hv st h => by unfold letOwnedTupleGo; exact wpAny_pure h) (Nat.ne_of_lt F.ns.lt) F.fresh (fun p hp => Heap.lt_size (N p hp).1) (F.push _) (fun p hp => ⟨Heap.get?_push_of_some _ (N p hp).1, (N p hp).2⟩)
    ⟨_, Heap.get?_push_size _ rfl, rfl, rfl⟩ (fun i m' n' => n' = news ∧ J i m') ⟨rfl, h0⟩ (fun _ _ _ h => congrArg _ h.1) (fun b hb hbI => absurd (List.mem_singleton.mp hb) hbI)
    (fun i v m₁ n₁ o h₁ tk₁ hlt hv hJ hl hoc F₁ N₁ => by
      obtain ⟨rfl, hJ⟩ := hJ
      obtain ⟨c, vt, hc, hv⟩ := hv
      have hc : A'[i]? = some c := by simpa [tx] using hc
      exact step i v vt m₁ _ o h₁ tk₁ hlt (by rw [hv, List.getD_eq_getElem?_getD, hc]; rfl) hJ hl hoc F₁ N₁) (fun m' n' h' tk hJ F' N' => by
      obtain ⟨rfl, hJ⟩ := hJ
      exact done m' h' tk hJ F' N') hE

end
end Mine
end
section
open PySem PySem.W PySem.W.X PyProof.Rows PySem.Calls PySem.Spec
set_option maxRecDepth 100000
namespace Mine
theorem getD_app1 {A B : List Nat} {i : Nat} (h : i < A.length) : (A ++ B).getD i 0 = A.getD i 0 := by
  rw [List.getD_eq_getElem?_getD, List.getD_eq_getElem?_getD, List.getElem?_append_left h]
theorem getD_app2 {A B : List Nat} {i : Nat} (h : A.length ≤ i) : (A ++ B).getD i 0 = B.getD (i - A.length) 0 := by
  rw [List.getD_eq_getElem?_getD, List.getD_eq_getElem?_getD, List.getElem?_append_right h]
/-- one for a sign that is shown -/
def nm (c : Nat) : Int := if c = 45 then 0 else 1
def cnt : List Nat → Int
  | [] => 0
  | c :: r => nm c + cnt r
def pc (X : List Nat) : Nat → Int
  | 0 => 0
  | i + 1 => pc X i + nm (X.getD i 0)
theorem nm_b (c : Nat) : 0 ≤ nm c ∧ nm c ≤ 1 := by unfold nm; split <;> omega
theorem pc_b (X : List Nat) : ∀ i : Nat, 0 ≤ pc X i ∧ pc X i ≤ (i : Int)
  | 0 => ⟨Int.le_refl _, Int.le_refl _⟩
  | i + 1 => by
    have h := pc_b X i
    have h2 := nm_b (X.getD i 0)
    simp only [pc]
    omega
theorem cost_ge (d c : Nat) : 2 * (nm d - nm c) ≤ costF d c := by
  unfold nm costF lo1
  split <;> split <;> (try split) <;> (try split) <;> (try split) <;> (try split) <;> omega
theorem cost_tight {d c : Nat} (h : costF d c = 2 * (nm d - nm c)) : c = 45 ∨ c = d := by
  unfold nm costF at h
  by_cases e : d = c
  · exact .inr e.symm
  rw [if_neg e] at h
  by_cases e2 : c = 45
  · exact .inl e2
  exfalso
  rw [if_neg e2] at h
  split at h <;> split at h <;> omega
theorem cost_le {d c : Nat} (h : c = 45 ∨ c = d) : costF d c = 2 * (nm d - nm c) := by
  rcases h with rfl | rfl
  · unfold nm costF lo1
    split <;> split <;> (try split) <;> (try split) <;> (try split) <;> (try split) <;> omega
  · unfold costF; rw [if_pos rfl]; omega
theorem min_add2 (a b : Int) : min a b + 2 = min (a + 2) (b + 2) := by
  rcases Int.le_total a b with h | h
  · rw [Int.min_eq_left h, Int.min_eq_left (Int.add_le_add_right h 2)]
  · rw [Int.min_eq_right h, Int.min_eq_right (Int.add_le_add_right h 2)]
theorem min_far {p q v t : Int} (h1 : t ≤ p) (h2 : t ≤ q) : min (min p v) t = min (min q v) t := by
  have e : ∀ r : Int, t ≤ r → min (min r v) t = min v t := fun r hr => by
    rcases Int.le_total v t with h | h
    · rw [Int.min_eq_right (Int.le_trans h hr)]
    · rw [Int.min_eq_right h, Int.min_eq_right (Int.le_min.mpr ⟨hr, h⟩)]
  rw [e p h1, e q h2]
theorem cell_step (X Y : List Nat) (j i : Nat) : cell X Y (j + 1) (i + 1) = min (min (cell X Y (j + 1) i + 2) (cell X Y j (i + 1) + 2)) (cell X Y j i + costF (Y.getD j 0) (X.getD i 0)) := by
  rw [cell_succ, min_add2]
  unfold leftOf
  have hc := costF_nn (Y.getD j 0) (X.getD i 0)
  by_cases h : i = 0
  · subst h
    rw [if_pos rfl, cell_zero, cell_zero]
    exact min_far (by omega) (by omega)
  · rw [if_neg h]
theorem cell_ge (X Y : List Nat) : ∀ j i : Nat, 2 * (pc Y j - pc X i) ≤ cell X Y j i ∧ 2 * (pc Y j - pc X i) + 2 * ((i : Int) - j) ≤ cell X Y j i := by
  intro j
  induction j with
  | zero =>
    intro i
    rw [cell_top]
    have := pc_b X i
    simp only [pc]
    omega
  | succ j ihj =>
    intro i
    induction i with
    | zero =>
      rw [cell_zero]
      have := pc_b Y (j + 1)
      simp only [pc] at this ⊢
      omega
    | succ i ihi =>
      rw [cell_step]
      have h1 := ihj (i + 1)
      have h2 := ihj i
      have hx := nm_b (X.getD i 0)
      have hy := nm_b (Y.getD j 0)
      have hc := cost_ge (Y.getD j 0) (X.getD i 0)
      simp only [pc] at h1 h2 ihi ⊢
      exact ⟨Int.le_min.mpr ⟨Int.le_min.mpr ⟨by omega, by omega⟩, by omega⟩, Int.le_min.mpr ⟨Int.le_min.mpr ⟨by omega, by omega⟩, by omega⟩⟩
theorem cell_tight (X Y : List Nat) : ∀ n : Nat, cell X Y n n = 2 * (pc Y n - pc X n) → ∀ k < n, X.getD k 0 = 45 ∨ X.getD k 0 = Y.getD k 0 := by
  intro n
  induction n with
  | zero => intro _ k hk; omega
  | succ n ih =>
    intro h k hk
    rw [cell_step] at h
    have h1 := cell_ge X Y (n + 1) n
    have h2 := cell_ge X Y n (n + 1)
    have h3 := cell_ge X Y n n
    have hx := nm_b (X.getD n 0)
    have hy := nm_b (Y.getD n 0)
    have hc := cost_ge (Y.getD n 0) (X.getD n 0)
    simp only [pc] at h h1 h2 h3
    have e1 : costF (Y.getD n 0) (X.getD n 0) = 2 * (nm (Y.getD n 0) - nm (X.getD n 0)) := by omega
    have e2 : cell X Y n n = 2 * (pc Y n - pc X n) := by omega
    by_cases e : k = n
    · subst e
      exact cost_tight e1
    · exact ih e2 k (by omega)
theorem cell_diag (X Y : List Nat) : ∀ n : Nat, (∀ k < n, X.getD k 0 = 45 ∨ X.getD k 0 = Y.getD k 0) → cell X Y n n = 2 * (pc Y n - pc X n) := by
  intro n
  induction n with
  | zero => intro _; rw [cell_zero]; rfl
  | succ n ih =>
    intro h
    have e := ih fun k hk => h k (by omega)
    have h1 := cell_ge X Y (n + 1) (n + 1)
    have hc := cost_le (h n (by omega))
    rw [cell_step] at h1 ⊢
    simp only [pc] at h1 ⊢
    omega
theorem pc_mono (X Y : List Nat) {n : Nat} (h : ∀ k < n, X.getD k 0 = 45 ∨ X.getD k 0 = Y.getD k 0) : ∀ j ≤ n, pc Y j - pc X j ≤ pc Y n - pc X n := by
  induction n with
  | zero => intro j hj; have : j = 0 := by omega
            subst this; exact Int.le_refl _
  | succ n ih =>
    intro j hj
    by_cases e : j = n + 1
    · subst e; exact Int.le_refl _
    have h1 := ih (fun k hk => h k (by omega)) j (by omega)
    have h2 : 0 ≤ nm (Y.getD n 0) - nm (X.getD n 0) := by
      have hy := nm_b (Y.getD n 0)
      rcases h n (by omega) with e | e
      · rw [e]; have : nm 45 = 0 := rfl
        omega
      · rw [e]; omega
    simp only [pc]
    omega
theorem pc_cnt : ∀ X : List Nat, pc X X.length = cnt X := by
  have key : ∀ (X Z : List Nat) (n : Nat), n ≤ X.length → pc (X ++ Z) n = pc X n := by
    intro X Z n
    induction n with
    | zero => intro _; rfl
    | succ n ih =>
      intro h
      simp only [pc]
      rw [ih (by omega), getD_app1 (by omega)]
  have shift : ∀ (c : Nat) (X : List Nat) (n : Nat), pc (c :: X) (n + 1) = nm c + pc X n := by
    intro c X n
    induction n with
    | zero => simp [pc]
    | succ n ih =>
      rw [pc, ih]
      simp only [pc, List.getD_cons_succ]
      omega
  intro X
  induction X with
  | nil => rfl
  | cons c r ih => rw [List.length_cons, shift, ih, cnt]
theorem cnt_app : ∀ X Y : List Nat, cnt (X ++ Y) = cnt X + cnt Y
  | [], Y => by rw [List.nil_append, cnt]; omega
  | c :: r, Y => by rw [List.cons_append, cnt, cnt, cnt_app r Y]; omega
/-- all that the first shows the second has -/
def insL (A B : List Nat) : Prop := ∀ k < A.length, A.getD k 0 = 45 ∨ A.getD k 0 = B.getD k 0
theorem mid_getD {P X S : List Nat} {k : Nat} (h : k < X.length) : (P ++ X ++ S).getD (P.length + k) 0 = X.getD k 0 := by
  rw [List.append_assoc, getD_app2 (by omega), Nat.add_sub_cancel_left, getD_app1 h]
theorem insL_mid {P X Y S : List Nat} (h : X.length = Y.length) : insL (P ++ X ++ S) (P ++ Y ++ S) ↔ insL X Y := by
  constructor
  · intro hi k hk
    have := hi (P.length + k) (by simp only [List.length_append]; omega)
    rw [mid_getD hk, mid_getD (h ▸ hk)] at this
    exact this
  · intro hi k hk
    by_cases h1 : k < P.length
    · right
      rw [List.append_assoc, List.append_assoc, getD_app1 h1, getD_app1 h1]
    by_cases h2 : k < P.length + X.length
    · obtain ⟨i, rfl⟩ : ∃ i, k = P.length + i := ⟨k - P.length, by omega⟩
      rw [mid_getD (by omega), mid_getD (by omega)]
      exact hi i (by omega)
    · right
      rw [getD_app2 (by simp only [List.length_append]; omega), getD_app2 (by simp only [List.length_append]; omega)]
      simp only [List.length_append, h]
theorem lev_law {A B : List Nat} {mc r : Int} (h : LevSpec A B mc r) (hm : mc = 2 * (cnt B - cnt A)) : mc ≤ r ∧ (r = mc ↔ insL A B) := by
  obtain ⟨P, S, X, Y, rfl, rfl, hl, h⟩ := h
  rw [insL_mid hl]
  replace hm : mc = 2 * (pc Y X.length - pc X X.length) := by
    rw [hm, cnt_app, cnt_app, cnt_app, cnt_app, ← pc_cnt X, ← pc_cnt Y, hl]; omega
  clear P S
  rcases h with ⟨h0, rfl⟩ | ⟨hneg, rfl⟩ | ⟨h0, hX, hD⟩
  · rw [h0] at hm
    refine ⟨by rw [hm]; exact Int.le_refl _, fun _ k hk => by omega, fun _ => by rw [hm]; rfl⟩
  · refine ⟨by omega, fun e => by omega, fun hi => ?_⟩
    have := pc_mono X Y (n := X.length) hi 0 (Nat.zero_le _)
    simp only [pc] at this
    omega
  · rcases hD with ⟨j, j1, j2, hj, rfl⟩ | rfl
    · refine ⟨by omega, fun e => by omega, fun hi => ?_⟩
      have h1 := hj j j1 (by omega)
      have h2 := cell_diag X Y j fun k hk => hi k (by omega)
      have h3 := pc_mono X Y (n := X.length) hi j (by omega)
      omega
    · rw [← hl, hm]
      have h1 := (cell_ge X Y X.length X.length).1
      exact ⟨h1, fun e => cell_tight X Y _ e, fun hi => cell_diag X Y _ hi⟩

/-- the costs of all places added up -/
def dsum : List Nat → List Nat → Int
  | a :: A, b :: B => costF b a + dsum A B
  | _, _ => 0
def ds (X Y : List Nat) : Nat → Int
  | 0 => 0
  | n + 1 => ds X Y n + costF (Y.getD n 0) (X.getD n 0)
theorem cell_far (X Y : List Nat) : ∀ j i : Nat, 2 * ((i : Int) - j) ≤ cell X Y j i ∧ 2 * ((j : Int) - i) ≤ cell X Y j i := by
  intro j
  induction j with
  | zero => intro i; rw [cell_top]; omega
  | succ j ihj =>
    intro i
    induction i with
    | zero => rw [cell_zero]; omega
    | succ i ihi =>
      rw [cell_step]
      have h1 := ihj (i + 1)
      have h2 := ihj i
      have hc := costF_nn (Y.getD j 0) (X.getD i 0)
      omega
theorem cell_ds (X Y : List Nat) : ∀ n : Nat, 0 ≤ ds X Y n ∧ (4 ≤ cell X Y n n ∨ ds X Y n ≤ cell X Y n n) := by
  intro n
  induction n with
  | zero => exact ⟨Int.le_refl _, .inr (by rw [cell_zero]; simp only [ds]; omega)⟩
  | succ n ih =>
    have h1 := cell_far X Y (n + 1) n
    have h2 := cell_far X Y n (n + 1)
    have hc := costF_nn (Y.getD n 0) (X.getD n 0)
    rw [cell_step]
    simp only [ds]
    omega
theorem cell_ds_le (X Y : List Nat) : ∀ n : Nat, cell X Y n n ≤ ds X Y n := by
  intro n
  induction n with
  | zero => rw [cell_zero]; exact Int.le_refl _
  | succ n ih => rw [cell_step]; simp only [ds]; omega
theorem ds_dsum : ∀ X Y : List Nat, X.length = Y.length → ds X Y X.length = dsum X Y := by
  have shift : ∀ (a b : Nat) (X Y : List Nat) (n : Nat), ds (a :: X) (b :: Y) (n + 1) = costF b a + ds X Y n := by
    intro a b X Y n
    induction n with
    | zero => simp [ds]
    | succ n ih =>
      rw [ds, ih]
      simp only [ds, List.getD_cons_succ]
      omega
  intro X
  induction X with
  | nil => intro Y _; cases Y <;> rfl
  | cons a r ih =>
    intro Y h
    cases Y with
    | nil => simp at h
    | cons b q => rw [List.length_cons, shift, ih q (by simpa using h), dsum]
theorem dsum_same : ∀ S : List Nat, dsum S S = 0
  | [] => rfl
  | c :: r => by rw [dsum, dsum_same r]; unfold costF; rw [if_pos rfl]; rfl
theorem dsum_app : ∀ X Y P Q : List Nat, X.length = Y.length → dsum (X ++ P) (Y ++ Q) = dsum X Y + dsum P Q
  | [], [], P, Q, _ => by simp only [List.nil_append, dsum]; omega
  | [], _ :: _, _, _, h => by simp at h
  | _ :: _, [], _, _, h => by simp at h
  | a :: X, b :: Y, P, Q, h => by
    rw [List.cons_append, List.cons_append, dsum, dsum, dsum_app X Y P Q (by simpa using h)]; omega
theorem dsum_mid {P X Y S : List Nat} (h : X.length = Y.length) : dsum (P ++ X ++ S) (P ++ Y ++ S) = dsum X Y := by
  rw [dsum_app _ _ _ _ (by simp [h]), dsum_app _ _ _ _ rfl, dsum_same, dsum_same]; omega
theorem ds_zero_eq {X Y : List Nat} : ∀ {n : Nat}, ds X Y n = 0 → ∀ j ≤ n, ds X Y j = 0 := by
  intro n
  induction n with
  | zero => intro h j hj; have : j = 0 := by omega
            subst this; exact h
  | succ n ih =>
    intro h j hj
    by_cases e : j = n + 1
    · subst e; exact h
    have h1 := (cell_ds X Y n).1
    have hc := costF_nn (Y.getD n 0) (X.getD n 0)
    simp only [ds] at h
    exact ih (by omega) j (by omega)
/-- the distance of a text and its turn, told with 4: where nothing parts, nought -/
theorem lev_same {A B : List Nat} {r : Int} (h : LevSpec A B 4 r) (hd : dsum A B = 0) : r = 0 := by
  obtain ⟨P, S, X, Y, rfl, rfl, hl, h⟩ := h
  rw [dsum_mid hl, ← ds_dsum X Y hl] at hd
  rcases h with ⟨h0, rfl⟩ | ⟨hneg, rfl⟩ | ⟨h0, hX, hD⟩
  · rfl
  · omega
  rcases hD with ⟨j, j1, j2, hj, rfl⟩ | rfl
  · have h1 := hj j j1 (by omega)
    have h2 := cell_ds_le X Y j
    have h3 := ds_zero_eq hd j (by omega)
    omega
  · rw [← hl]
    have h2 := cell_ds_le X Y X.length
    have h3 := cell_far X Y X.length X.length
    omega
theorem cell_up {X Y : List Nat} (h : ∀ k, k + 1 < X.length → Y.getD k 0 = X.getD (k + 1) 0) : ∀ j, j + 1 ≤ X.length → cell X Y j (j + 1) ≤ 2 := by
  intro j
  induction j with
  | zero => intro _; rw [cell_top]; decide
  | succ j ih =>
    intro hj
    have h1 := ih (by omega)
    have h2 : costF (Y.getD j 0) (X.getD (j + 1) 0) = 0 := by rw [h j (by omega)]; unfold costF; rw [if_pos rfl]
    rw [cell_step]
    omega
theorem cell_dn {X Y : List Nat} (h : ∀ k, k + 1 < X.length → X.getD k 0 = Y.getD (k + 1) 0) : ∀ j, j + 1 ≤ X.length → cell X Y (j + 1) j ≤ 2 := by
  intro j
  induction j with
  | zero => intro _; rw [cell_zero]; decide
  | succ j ih =>
    intro hj
    have h1 := ih (by omega)
    have h2 : costF (Y.getD (j + 1) 0) (X.getD j 0) = 0 := by rw [h j (by omega)]; unfold costF; rw [if_pos rfl]
    rw [cell_step]
    omega
theorem lev_turn {A B : List Nat} {r : Int} (h : LevSpec A B 4 r) (hd : 4 ≤ dsum A B)
    (ht : (∀ k, k + 1 < A.length → B.getD k 0 = A.getD (k + 1) 0) ∨ (∀ k, k + 1 < A.length → A.getD k 0 = B.getD (k + 1) 0)) : r = 4 := by
  obtain ⟨P, S, X, Y, rfl, rfl, hl, h⟩ := h
  rw [dsum_mid hl, ← ds_dsum X Y hl] at hd
  have ht : (∀ k, k + 1 < X.length → Y.getD k 0 = X.getD (k + 1) 0) ∨ (∀ k, k + 1 < X.length → X.getD k 0 = Y.getD (k + 1) 0) := by
    rcases ht with ht | ht
    · refine .inl fun k hk => ?_
      have := ht (P.length + k) (by simp only [List.length_append]; omega)
      rw [Nat.add_assoc, mid_getD (by omega), mid_getD hk] at this
      exact this
    · refine .inr fun k hk => ?_
      have := ht (P.length + k) (by simp only [List.length_append]; omega)
      rw [Nat.add_assoc, mid_getD (by omega), mid_getD (by omega)] at this
      exact this
  rcases h with ⟨h0, rfl⟩ | ⟨hneg, rfl⟩ | ⟨h0, hX, hD⟩
  · rw [h0] at hd; simp only [ds] at hd; omega
  · omega
  have hrow : ∀ j, 1 ≤ j → j ≤ X.length → ∃ k, 1 ≤ k ∧ k ≤ X.length ∧ cell X Y j k ≤ 4 := by
    intro j j1 j2
    rcases ht with ht | ht
    · by_cases e : j + 1 ≤ X.length
      · exact ⟨j + 1, by omega, e, Int.le_trans (cell_up ht j e) (by decide)⟩
      · obtain ⟨i, rfl⟩ : ∃ i, j = i + 1 := ⟨j - 1, by omega⟩
        refine ⟨i + 1, by omega, by omega, ?_⟩
        have := cell_up ht i (by omega)
        rw [cell_step]; exact Int.le_trans (Int.min_le_left _ _) (Int.le_trans (Int.min_le_right _ _) (by omega))
    · obtain ⟨i, rfl⟩ : ∃ i, j = i + 1 := ⟨j - 1, by omega⟩
      refine ⟨i + 1, by omega, by omega, ?_⟩
      have := cell_dn ht i (by omega)
      rw [cell_step]; exact Int.le_trans (Int.min_le_left _ _) (Int.le_trans (Int.min_le_left _ _) (by omega))
  rcases hD with ⟨j, j1, j2, hj, rfl⟩ | rfl
  · obtain ⟨k, k1, k2, k3⟩ := hrow j j1 (by omega)
    have := hj k k1 k2
    omega
  · rw [← hl]
    obtain ⟨i, hi⟩ : ∃ i, X.length = i + 1 := ⟨X.length - 1, by omega⟩
    have h2 := (cell_ds X Y X.length).2
    have h3 : cell X Y X.length X.length ≤ 4 := by
      rw [hi]
      rcases ht with ht | ht
      · have := cell_up ht i (by omega)
        rw [cell_step]; exact Int.le_trans (Int.min_le_left _ _) (Int.le_trans (Int.min_le_right _ _) (by omega))
      · have := cell_dn ht i (by omega)
        rw [cell_step]; exact Int.le_trans (Int.min_le_left _ _) (Int.le_trans (Int.min_le_left _ _) (by omega))
    omega
end Mine
end
section
open PySem PySem.W PySem.W.X PyProof.Rows PySem.Calls
open Sem (wp)
set_option maxRecDepth 100000
namespace Mine
theorem lk_list_append : typeLookup (.type "list") "append" = pure (some (.builtin "list.append")) := by rw [typeLookup_type, builtinLookup_eq_fast]; kernel_rfl
theorem slot_md_get : Slot "method_descriptor" "__get__" "method_descriptor.__get__" :=
  .of (owner := "method_descriptor") (n := "__get__") (by rw [typeLookup_type, builtinLookup_eq_fast]; kernel_rfl) (by decide +kernel) (by decide +kernel) (by decide +kernel)
    (by first | exact .inl (by decide +kernel) | exact .inr (by decide +kernel)) (by rw [isSubtype_type]; kernel_rfl)
theorem md_set : typeLookup (.type "method_descriptor") "__set__" = pure none := by rw [typeLookup_type, builtinLookup_eq_fast]; kernel_rfl
theorem md_delete : typeLookup (.type "method_descriptor") "__delete__" = pure none := by rw [typeLookup_type, builtinLookup_eq_fast]; kernel_rfl
theorem entry_md_get : entryFor table "method_descriptor.__get__" = some Builtin.«method_descriptor.__get__» := entryFor_of_tree (by kernel_rfl)
theorem args_md_get (a b c : Value) : argsOk "method_descriptor.__get__" ⟨[a, b, c], []⟩ := by unfold argsOk; kernel_rfl
theorem type_list_app : typeOf (.builtin "list.append") = pure (.type "method_descriptor") := by show builtinType _ = _; rw [builtinType_eq_fast]; kernel_rfl
theorem owner_list_app : (".".intercalate ("list.append".cutAt '.').dropLast) = "list" := by
  have e0 : "list.append".cutAt '.' = ["list", "append"] := by first | rfl | decide +kernel
  rw [e0]; decide +kernel
theorem sub_list_app : isSubtype (.type "list") (.type (".".intercalate ("list.append".cutAt '.').dropLast)) = pure true := by
  rw [owner_list_app, isSubtype_type]; kernel_rfl
section
variable {prog : Program} {w : World} {A : Around} {E : Value → Shared → Prop} {h : Heap} {g : Array GenState} {d : Drawn} {t : Nat} {os : OsState} {a : Addr} {xs : Array Value} {n : Nat}
/-- list.append, bound to a list -/
abbrev bmObj (D : Addr) : Obj := { cls := .type "builtin_function_or_method", data := .fields #[.builtin "list.append", .ref D] }
theorem ba_get {R : Result → Shared → Prop} (hx : h.get? a = some { cls := .type "list", data := .seq xs n }) (hq : R (.ok (.ret (.ref h.objs.size))) ⟨h.push (bmObj a), g, d, t, os⟩) :
    codeAny (model prog w) A (.call (.builtin "method_descriptor.__get__") ⟨[.builtin "list.append", .ref a, .type "list"], []⟩) R ⟨h, g, d, t, os⟩ := by
  have hT : (⟨h, g, d, t, os⟩ : Shared).TypeIs (.ref a) "list" := ⟨_, hx, rfl⟩
  have hT5 : (⟨h, g, d, t, os⟩ : Shared).TypeIs (.builtin "list.append") "method_descriptor" := type_list_app
  have f8 := sub_list_app
  refine codeAny_call_builtin slot_md_get.plain entry_md_get (slot_md_get.check _ _ _ _ _ _ _ _ hT5 (args_md_get _ _ _) ?_)
  repeat (any_goals (first | assumption | wp_step))
theorem ba_entry {tk : Tok} {Q : PySem.Fin → Shared → Prop} (hx : h.get? a = some { cls := .type "list", data := .seq xs n }) (hq : Q (.done (.ret (.ref h.objs.size))) ⟨h.push (bmObj a), g, d, t, os⟩) :
    wpAny (model prog w) A (Builtin.«object.__getattribute__» ⟨[.ref a, .str "append" tk], []⟩) Q E ⟨h, g, d, t, os⟩ := by
  have hT : (⟨h, g, d, t, os⟩ : Shared).TypeIs (.ref a) "list" := ⟨_, hx, rfl⟩
  have hT5 : (⟨h, g, d, t, os⟩ : Shared).TypeIs (.builtin "list.append") "method_descriptor" := type_list_app
  have f4 := lk_list_append
  have f5 := type_list_app
  have f6 := slot_md_get.lookup
  have f7 := md_set
  have f8 := md_delete
  repeat (any_goals (first | assumption | wp_step))
  refine ba_get hx ?_
  repeat (any_goals (first | assumption | wp_step))
theorem ba_call {tk : Tok} {R : Result → Shared → Prop} (hx : h.get? a = some { cls := .type "list", data := .seq xs n }) (hq : R (.ok (.ret (.ref h.objs.size))) ⟨h.push (bmObj a), g, d, t, os⟩) :
    codeAny (model prog w) A (.call (.builtin "list.__getattribute__") ⟨[.ref a, .str "append" tk], []⟩) R ⟨h, g, d, t, os⟩ :=
  codeAny_call_builtin F.slot_list_getattribute.plain F.entry_list_ga (F.slot_list_getattribute.check _ _ _ _ _ _ _ _ (show (⟨h, g, d, t, os⟩ : Shared).TypeIs (.ref a) "list" from ⟨_, hx, rfl⟩) (F.args_list_getattribute_2 _ _) (ba_entry hx hq))
theorem ba_attr {Q : Value → Shared → Prop} (hx : h.get? a = some { cls := .type "list", data := .seq xs n }) (hq : Q (.ref h.objs.size) ⟨h.push (bmObj a), g, d, t + 1, os⟩) :
    wpAny (model prog w) A (getAttr (.ref a) "append" true) Q E ⟨h, g, d, t, os⟩ := by
  have hT : ∀ tk', (⟨h, g, d, tk', os⟩ : Shared).TypeIs (.ref a) "list" := fun _ => ⟨_, hx, rfl⟩
  have f2 := F.slot_list_getattribute.lookup
  have f3 := F.slot_list_getattribute.bind (.ref a)
  unfold getAttr getAttrBy
  repeat (any_goals (first | assumption | exact hT _ | wp_step))
  refine ba_call hx ?_
  repeat (any_goals (first | assumption | wp_step))
end
end Mine
end
section
open PySem PySem.W PySem.W.X PyProof.Rows PySem.Calls
open Sem (wp)
set_option maxRecDepth 100000
namespace Mine
section
variable {prog : Program} {w : World} {A : Around} {E : Value → Shared → Prop} {h : Heap} {g : Array GenState} {d : Drawn} {t : Nat} {os : OsState} {a : Addr} {xs : Array Value} {n : Nat}
theorem sig_append : ∃ sig, Manifest.signature? "list.append" = some sig ∧ ∀ v : Value, Bind.checkArgs "list.append" { sig with full := "list.append" } ⟨[.ref a, v], []⟩ = pure () := by
  rw [signature?_of (id := "list.append") (n := ['d', 'n', 'e', 'p', 'p', 'a']) (o := ['t', 's', 'i', 'l']) (by kernel_rfl) F.owner_list]
  exact ⟨({ machinery := .oneArg, full := "list.append", short := "append", receiver := .self, params := [⟨"object", .posOnly, true⟩] } : Manifest.Signature), by kernel_rfl, fun v => by kernel_rfl⟩
theorem kind_append : builtinKind "list.append" = some .method := by decide +kernel
theorem bound_check {v : Value} {Q : Unit → Shared → Prop} (hx : h.get? a = some { cls := .type "list", data := .seq xs n }) (hq : Q () ⟨h, g, d, t, os⟩) :
    wpAny (model prog w) A (checkBoundCall "list.append" ⟨[.ref a, v], []⟩) Q E ⟨h, g, d, t, os⟩ := by
  have hT : (⟨h, g, d, t, os⟩ : Shared).TypeIs (.ref a) "list" := ⟨_, hx, rfl⟩
  obtain ⟨sig, h1, h2⟩ := sig_append (a := a)
  have e1 : Manifest.varargsMethods.contains "list.append" = false := by decide +kernel
  have s1 : isSubtype (.type "list") (.type "module") = pure false := by rw [isSubtype_type]; kernel_rfl
  have s2 : isSubtype (.type "list") (.type "type") = pure false := by rw [isSubtype_type]; kernel_rfl
  have e2 : (toString (Bind.lastOf "list") ++ toString "." ++ toString (Bind.lastOf "list.append")) = "list.append" := by decide +kernel
  unfold checkBoundCall
  rw [h1, kind_append]
  dsimp only
  rw [e1]
  repeat (any_goals (first | assumption | ((fail_if_success (with_reducible show wpAny _ _ (Bind.checkArgs _ _ _) _ _ _)); wp_step)))
  all_goals (dsimp only; rw [e2, h2]; exact wpAny_pure hq)
theorem call_bm {B : Addr} {v : Value} {Q : Value → Shared → Prop} (hB : h.get? B = some (bmObj a)) (hx : h.get? a = some { cls := .type "list", data := .seq xs n }) (hz : xs.size ≤ sizeLine)
    (hq : Q .none ⟨h.update a (Obj.mapSeq fun ys => ys.push v), g, d, t, os⟩) :
    wpAny (model prog w) A (call (.ref B) [v]) Q E ⟨h, g, d, t, os⟩ := by
  refine wpAny_call (codeAny_of_tree ?_)
  show wpAny _ _ (callAny (.ref B) _) _ _ _
  refine wpAny_bind (nd_load hB (wpAny_pure ?_))
  show wpAny _ _ (checkBoundCall "list.append" ⟨[.ref a, v], []⟩ >>= fun _ => again (.builtin "list.append" ⟨[.ref a, v], []⟩)) _ _ _
  refine wpAny_bind (bound_check hx ?_)
  refine wpAny_pure ⟨Code.quiet_builtin _ (by decide +kernel), codeAny_builtin F.entry_list_append ?_⟩
  rw [Around.under_plainId F.slot_list_append.plain]
  exact AutoListH.list_append_list_val_0 a xs n v hz prog w A (fun r s' => match r with | .ok (.ret v) => Q v s' | .ok _ => False | .error e => E e s') ⟨h, g, d, t, os⟩ ⟨hx, hq⟩
end
end Mine
end
section
open PySem PySem.W PySem.W.X PyProof.Rows PySem.Calls
open Sem (wp)
set_option maxRecDepth 100000
namespace Mine
theorem mro_object : mroOf (.type "object") = pure [.type "object"] := by kernel_rfl
theorem lookup_object_new : typeLookup (.type "object") "__new__" = pure (some (.builtin "object.__new__")) := by rw [typeLookup_type, builtinLookup_eq_fast]; kernel_rfl
theorem slot_object_init : Slot "object" "__init__" "object.__init__" :=
  .of (owner := "object") (n := "__init__") (by rw [typeLookup_type, builtinLookup_eq_fast]; kernel_rfl) (by decide +kernel) (by decide +kernel) (by decide +kernel)
    (by first | exact .inl (by decide +kernel) | exact .inr (by decide +kernel)) (by rw [isSubtype_type]; kernel_rfl)
theorem made_object : Bind.madeBy (.type "object") = pure (some "object.__new__") := madeBy_type mro_object lookup_object_new (by decide +kernel)
theorem called_object : TypeCalled "object" "object.__new__" "object.__init__" :=
  ⟨by decide +kernel, by decide +kernel, ⟨_, _, mro_object⟩, made_object, by decide +kernel, by rw [isSubtype_type]; kernel_rfl, slot_object_init⟩
theorem typeCall_object_0 : checkTypeCall "object" ⟨[], []⟩ = pure () := by kernel_rfl
theorem newCall_object_0 : checkBuiltinCall "object.__new__" ⟨[.type "object"], []⟩ = pure () := by kernel_rfl
theorem entry_object_new : entryFor table "object.__new__" = some Builtin.«object.__new__» := entryFor_of_tree (by kernel_rfl)
theorem meets_object_new : Meets (Builtin.«object.__new__» ⟨[.type "object"], []⟩) (fun _ R s => R (.ok (.ret (.ref s.heap.objs.size))) { s with heap := s.heap.push { cls := .type "object", data := .plain } }) :=
  .of_wp fun prog w A R s h => by
    obtain ⟨hp, g, d, tk, os⟩ := s
    have m := made_object
    unfold Builtin.«object.__new__» Bind.madeHere
    repeat (any_goals (first | assumption | wp_step))
    exact ⟨_, rfl, h⟩
theorem args_init_1 (a : Value) : argsOk "object.__init__" ⟨[a], []⟩ := by unfold argsOk; kernel_rfl
theorem meets_object_init (self : Value) : Meets (Builtin.«object.__init__» ⟨[self], []⟩) (fun _ R s => R (.ok (.ret .none)) s) :=
  .of_wp fun prog w A R s h => wpAny_pure ⟨_, rfl, h⟩
section
variable {prog : Program} {w : World} {A : Around} {E : Value → Shared → Prop} {s : Shared} {h₀ : Heap} {L : Addr} {m : Str → Option Value} {news : List (Addr × Obj)}
abbrev objObj : Obj := { cls := .type "object", data := .plain }
theorem r_object {Q : Value → Shared → Prop} (F : Fr h₀ L s.heap m) (N : News h₀ L s.heap news)
    (h : ∀ O h', Fr h₀ L h' m → News h₀ L h' ((O, objObj) :: news) → (∀ p ∈ news, p.1 < O) → Q (.ref O) { s with heap := h' }) :
    wpAny (model prog w) A (call (.type "object") []) Q E s := by
  refine callType_meets (Q₁ := fun obj s₁ => s₁.TypeIs obj "object" ∧ Q obj s₁) called_object typeCall_object_0 newCall_object_0 entry_object_new PySem.F.entry_object_init meets_object_new ?_ fun obj s₁ hq => ?_
  · exact ⟨⟨_, Heap.get?_push_size _ rfl, rfl⟩, h _ _ (F.push _) (N.push F _) fun p hp => Heap.lt_size (N p hp).1⟩
  · exact ⟨hq.1, args_init_1 obj, _, meets_object_init obj, rfl, hq.2⟩
end
end Mine
end
section
open PySem PySem.W PySem.W.X PyProof.Rows
set_option maxRecDepth 100000
namespace Mine
theorem fillme (P : Params) : hd.heap_1 P = hd.heap_1 P ∧ PySem.Challenge.rw_rt0042_01 = PySem.Challenge.rw_rt0042_01 := by
  k_fill
  w_top off
  exact ⟨rfl, rfl⟩
local macro_rules | `(tactic| walk_at $s:str) => `(tactic| k_extra $s)
local macro_rules | `(tactic| o_head $e) => `(tactic| refine' use_okR (by k_asm) (by k_asm) (by k_asm) (by k_asm) (by k_asm) (by first | exact rfl | assumption) (by ktr_room) (by ktr_units) $e (by walk_at "mine kp") ?_)
theorem lines_1 : True := by
  k_with_none
  w_top off
  k_with "mine stp" => (first | (k_unfold; (try dsimp only)) | (k_end; wrow_close) | walk1 | (dsimp only; walk1) | (leave1; walk_say "STEP leave1"; try dsimp only) | fail "no step")
  k_with "stepsP" => (repeat' (((fail_if_success (with_reducible show wpAny _ _ (pyIter _) _ _ _))); ((fail_if_success (with_reducible show TurnEnd _ _ _ _ _ _ _ _))); walk_at "mine stp"))
  k_with "stepsC" => (repeat' (((fail_if_success (with_reducible show LCg.CompRest _ _ _ _ _ _ _ _ _ _ _ _ _ _ _ _ _ _ _)); (fail_if_success (with_reducible show LCg.CompEnd _ _ _ _ _ _ _ _ _ _ _ _ _ _))); walk_at "mine stp"))
  k_with "mine turn2" => ((refine LCg.CompRest.succ ?_; intro v' I' oI' C' oC' D' m' h' tk' E' hv' hC' hx' F' N' off' ne'; (obtain ⟨t9', hv9'⟩ := hv'); (subst hv9'); (replace hx' : m' (Str.ofString "k") = some (Value.int 2 t9') := hx')))
  k_with "mine turn0" => ((refine LCg.CompRest.succ ?_; intro v' I' oI' C' oC' D' m' h' tk' E' hv' hC' hx' F' N' off' ne'; (obtain ⟨t9', hv9'⟩ := hv'); (subst hv9'); (replace hx' : m' (Str.ofString "k") = some (Value.int 0 t9') := hx')))
  k_with "mine cend" => ((k_dflt (refine' compEnd_one (by k_asm) (by k_asm) (by k_ne) (by k_ne) (by k_ne) (by assumption) (by exact trivial) ?_)))
  k_with "mine turn1" => ((refine LCg.CompRest.succ ?_; intro v' I' oI' C' oC' D' m' h' tk' E' hv' hC' hx' F' N' off' ne'; (obtain ⟨t9', hv9'⟩ := hv'); (subst hv9'); (replace hx' : m' (Str.ofString "k") = some (Value.int 1 t9') := hx')))
  k_with "stepsD" => (repeat' (((fail_if_success (with_reducible show LCg.CompEnd _ _ _ _ _ _ _ _ _ _ _ _ _ _)); first | walk1 | (dsimp only; walk1)); (try dsimp only)))
  k_with "mine kargs" => (((case k1 | k2 | k3 | k4 | k5 => k_asm); (case kK => first | exact rfl | assumption); (case kp => first | exact trivial | assumption); (case kd => ktr_room); (case ku => ktr_units)))
  k_with "mine kp" => (first | exact trivial | with_reducible assumption | assumption | omega | exact ⟨by with_reducible assumption, by with_reducible assumption⟩ | exact ⟨by solve_by_elim, by solve_by_elim⟩)
  k_with "steps" => (repeat' (((fail_if_success (with_reducible show wpAny _ _ (PySem.exec (PySem.Stmt.While _ _ _ _) _) _ _ _))); ((fail_if_success (with_reducible show wpAny _ _ (PySem.exec (PySem.Stmt.For _ _ _ _ _) _) _ _ _))); walk_at "mine stp"))
  k_with "tsz" => ((first | omega | (simp only [List.length_drop, List.length_take, List.length_append, List.length_cons, List.length_nil]; omega) | (simp only [List.length_drop, List.length_take, List.length_append, List.length_cons, List.length_nil] at *; omega)))
  k_with "subscriptTail Name Slice str ref" => ((k_here; (with_reducible show wpAny _ _ (subscriptTail _ (PySem.Expr.Slice _ _ none _) (Value.str (tx _) _) _) _ _ _); (rename Fr _ _ _ _ => kTF); (rename News _ _ _ _ => kTN); first | (refine' r_all (s := ⟨_, _, _, _, _⟩) kTF kTN (by walk_at "tsz") ?_; (intro _ _ _ _ _); (try dsimp only)) | (refine' r_drop (s := ⟨_, _, _, _, _⟩) kTF kTN (by omega) (by walk_at "tsz") ?_; (intro _ _ _ _ _); (try dsimp only)) | (refine' r_last (s := ⟨_, _, _, _, _⟩) kTF kTN (by omega) (by walk_at "tsz") ?_; (intro _ _ _ _ _); (try dsimp only)) | (refine' r_take (s := ⟨_, _, _, _, _⟩) kTF kTN (by omega) (by walk_at "tsz") ?_; (intro _ _ _ _ _); (try dsimp only)) | (refine' r_back (s := ⟨_, _, _, _, _⟩) kTF kTN (by omega) (by walk_at "tsz") ?_; (intro _ _ _ _ _); (try dsimp only)) | (refine' r_mid (s := ⟨_, _, _, _, _⟩) kTF kTN (by omega) (by walk_at "tsz") ?_; (intro _ _ _ _ _); (try dsimp only))))
  k_with "mine item" => ((k_here; (with_reducible show wpAny _ _ (subscriptTail _ _ (Value.str (tx _) _) (Value.int _ _)) _ _ _); first | (refine' r_item (by omega) (by walk_at "tsz") (by walk_at "tsz") ?_; (intro _ _); (try dsimp only)) | (refine' r_itemN (by omega) (by walk_at "tsz") (by walk_at "tsz") ?_; (intro _ _); (try dsimp only))))
  k_with "subscriptTail Name Name str int" => (walk_at "mine item")
  k_with "subscriptTail Name BinOp str int" => (walk_at "mine item")
  k_with "subscriptTail Name Constant str int" => (walk_at "mine item")
  k_with "call builtin:len" => ((k_here; (with_reducible show wpAny _ _ (call (Value.builtin "len") [Value.str (tx _) _]) _ _ _); refine' r_len (by walk_at "tsz") ?_; (intro _ _); (try dsimp only)))
  k_with "truthy str" => ((k_here; (with_reducible show wpAny _ _ (PySem.truthy (Value.str (tx _) _)) _ _ _); (first | (with_reducible refine' r_truthyD (by k_dflt (walk_at "tsz")) ?_ ?_) | (with_reducible refine' r_truthyT (by k_dflt (walk_at "tsz")) ?_ ?_) | (with_reducible refine' r_truthyC (by k_dflt (walk_at "tsz")) ?_ ?_)); (all_goals (intro _ _)); (all_goals (try dsimp only))))
  k_with "compareOp Eq str str" => ((k_here; (first | (with_reducible refine' r_eq1 ?_ ?_) | (with_reducible refine' r_eqC ?_ ?_)); (all_goals (intro _)); (all_goals (try dsimp only))))
  k_with "compareOp NotEq str str" => ((k_here; (first | (with_reducible refine' r_ne1 ?_ ?_) | (with_reducible refine' r_neC ?_ ?_)); (all_goals (intro _)); (all_goals (try dsimp only))))
  k_with "binaryOp Add str str" => ((k_here; (with_reducible show wpAny _ _ (binaryOp PySem.Operator.Add (Value.str (tx _) _) (Value.str (tx _) _)) _ _ _); refine' r_add (by walk_at "tsz") ?_; (intro _ _); (try dsimp only)))
  k_with "inplaceOp Add str str" => ((k_here; (with_reducible show wpAny _ _ (inplaceOp PySem.Operator.Add (Value.str (tx _) _) (Value.str (tx _) _)) _ _ _); refine' r_iadd (by walk_at "tsz") ?_; (intro _ _); (try dsimp only)))
  k_with "call builtin:str.lower" => ((k_here; (with_reducible show wpAny _ _ (call (Value.builtin "str.lower") [Value.str (tx _) _]) _ _ _); refine my_lower (by omega) ?_; intro _ _; (try dsimp only)))
  k_with "stepsN" => (repeat' (((fail_if_success (with_reducible show InvEndN _ _ _ _ _ _ _))); walk_at "mine stp"))
  exact trivial
section
set_option maxRecDepth 100000
set_option maxHeartbeats 8000000
section
theorem sub_ok (w : World) (p : Program) (loose : List Str) (mean : ExcName → Option Value) (mg mb : Str → Option Value) (news : List (Addr × Obj)) (c d : Nat) (t u : Tok) :
   FnOk w p loose mean mg mb 1 38 news (c < 128 ∧ d < 128) [Value.str (tx [c]) t, Value.str (tx [d]) u] (fun v => ∃ t, v = Value.int (costF c d) t) := by
  dsimp only [FnOk]; intros; rename_i hret
  refine wpAny_call ?_
  k_dflt cell_enter
  walk_at "steps"
  all_goals (refine hret _ _ _ (ktn_int ?_) (by k_asm) (by k_asm); simp_all [costF])
end
end
theorem lines_2 : True := by
  k_with_none
  w_top off
  k_with "mine stp" => (first | (k_unfold; (try dsimp only)) | (k_end; wrow_close) | walk1 | (dsimp only; walk1) | (leave1; walk_say "STEP leave1"; try dsimp only) | fail "no step")
  k_with "stepsP" => (repeat' (((fail_if_success (with_reducible show wpAny _ _ (pyIter _) _ _ _))); ((fail_if_success (with_reducible show TurnEnd _ _ _ _ _ _ _ _))); walk_at "mine stp"))
  k_with "stepsC" => (repeat' (((fail_if_success (with_reducible show LCg.CompRest _ _ _ _ _ _ _ _ _ _ _ _ _ _ _ _ _ _ _)); (fail_if_success (with_reducible show LCg.CompEnd _ _ _ _ _ _ _ _ _ _ _ _ _ _))); walk_at "mine stp"))
  k_with "mine turn2" => ((refine LCg.CompRest.succ ?_; intro v' I' oI' C' oC' D' m' h' tk' E' hv' hC' hx' F' N' off' ne'; (obtain ⟨t9', hv9'⟩ := hv'); (subst hv9'); (replace hx' : m' (Str.ofString "k") = some (Value.int 2 t9') := hx')))
  k_with "mine turn0" => ((refine LCg.CompRest.succ ?_; intro v' I' oI' C' oC' D' m' h' tk' E' hv' hC' hx' F' N' off' ne'; (obtain ⟨t9', hv9'⟩ := hv'); (subst hv9'); (replace hx' : m' (Str.ofString "k") = some (Value.int 0 t9') := hx')))
  k_with "mine cend" => ((k_dflt (refine' compEnd_one (by k_asm) (by k_asm) (by k_ne) (by k_ne) (by k_ne) (by assumption) (by exact trivial) ?_)))
  k_with "mine turn1" => ((refine LCg.CompRest.succ ?_; intro v' I' oI' C' oC' D' m' h' tk' E' hv' hC' hx' F' N' off' ne'; (obtain ⟨t9', hv9'⟩ := hv'); (subst hv9'); (replace hx' : m' (Str.ofString "k") = some (Value.int 1 t9') := hx')))
  k_with "stepsD" => (repeat' (((fail_if_success (with_reducible show LCg.CompEnd _ _ _ _ _ _ _ _ _ _ _ _ _ _)); first | walk1 | (dsimp only; walk1)); (try dsimp only)))
  k_with "mine kargs" => (((case k1 | k2 | k3 | k4 | k5 => k_asm); (case kK => first | exact rfl | assumption); (case kp => first | exact trivial | assumption); (case kd => ktr_room); (case ku => ktr_units)))
  k_with "mine kp" => (first | exact trivial | with_reducible assumption | assumption | omega | exact ⟨by with_reducible assumption, by with_reducible assumption⟩ | exact ⟨by solve_by_elim, by solve_by_elim⟩)
  k_with "steps" => (repeat' (((fail_if_success (with_reducible show wpAny _ _ (PySem.exec (PySem.Stmt.While _ _ _ _) _) _ _ _))); ((fail_if_success (with_reducible show wpAny _ _ (PySem.exec (PySem.Stmt.For _ _ _ _ _) _) _ _ _))); walk_at "mine stp"))
  k_with "tsz" => ((first | omega | (simp only [List.length_drop, List.length_take, List.length_append, List.length_cons, List.length_nil]; omega) | (simp only [List.length_drop, List.length_take, List.length_append, List.length_cons, List.length_nil] at *; omega)))
  k_with "subscriptTail Name Slice str ref" => ((k_here; (with_reducible show wpAny _ _ (subscriptTail _ (PySem.Expr.Slice _ _ none _) (Value.str (tx _) _) _) _ _ _); (rename Fr _ _ _ _ => kTF); (rename News _ _ _ _ => kTN); first | (refine' r_all (s := ⟨_, _, _, _, _⟩) kTF kTN (by walk_at "tsz") ?_; (intro _ _ _ _ _); (try dsimp only)) | (refine' r_drop (s := ⟨_, _, _, _, _⟩) kTF kTN (by omega) (by walk_at "tsz") ?_; (intro _ _ _ _ _); (try dsimp only)) | (refine' r_last (s := ⟨_, _, _, _, _⟩) kTF kTN (by omega) (by walk_at "tsz") ?_; (intro _ _ _ _ _); (try dsimp only)) | (refine' r_take (s := ⟨_, _, _, _, _⟩) kTF kTN (by omega) (by walk_at "tsz") ?_; (intro _ _ _ _ _); (try dsimp only)) | (refine' r_back (s := ⟨_, _, _, _, _⟩) kTF kTN (by omega) (by walk_at "tsz") ?_; (intro _ _ _ _ _); (try dsimp only)) | (refine' r_mid (s := ⟨_, _, _, _, _⟩) kTF kTN (by omega) (by walk_at "tsz") ?_; (intro _ _ _ _ _); (try dsimp only))))
  k_with "mine item" => ((k_here; (with_reducible show wpAny _ _ (subscriptTail _ _ (Value.str (tx _) _) (Value.int _ _)) _ _ _); first | (refine' r_item (by omega) (by walk_at "tsz") (by walk_at "tsz") ?_; (intro _ _); (try dsimp only)) | (refine' r_itemN (by omega) (by walk_at "tsz") (by walk_at "tsz") ?_; (intro _ _); (try dsimp only))))
  k_with "subscriptTail Name Name str int" => (walk_at "mine item")
  k_with "subscriptTail Name BinOp str int" => (walk_at "mine item")
  k_with "subscriptTail Name Constant str int" => (walk_at "mine item")
  k_with "call builtin:len" => ((k_here; (with_reducible show wpAny _ _ (call (Value.builtin "len") [Value.str (tx _) _]) _ _ _); refine' r_len (by walk_at "tsz") ?_; (intro _ _); (try dsimp only)))
  k_with "truthy str" => ((k_here; (with_reducible show wpAny _ _ (PySem.truthy (Value.str (tx _) _)) _ _ _); (first | (with_reducible refine' r_truthyD (by k_dflt (walk_at "tsz")) ?_ ?_) | (with_reducible refine' r_truthyT (by k_dflt (walk_at "tsz")) ?_ ?_) | (with_reducible refine' r_truthyC (by k_dflt (walk_at "tsz")) ?_ ?_)); (all_goals (intro _ _)); (all_goals (try dsimp only))))
  k_with "compareOp Eq str str" => ((k_here; (first | (with_reducible refine' r_eq1 ?_ ?_) | (with_reducible refine' r_eqC ?_ ?_)); (all_goals (intro _)); (all_goals (try dsimp only))))
  k_with "compareOp NotEq str str" => ((k_here; (first | (with_reducible refine' r_ne1 ?_ ?_) | (with_reducible refine' r_neC ?_ ?_)); (all_goals (intro _)); (all_goals (try dsimp only))))
  k_with "binaryOp Add str str" => ((k_here; (with_reducible show wpAny _ _ (binaryOp PySem.Operator.Add (Value.str (tx _) _) (Value.str (tx _) _)) _ _ _); refine' r_add (by walk_at "tsz") ?_; (intro _ _); (try dsimp only)))
  k_with "inplaceOp Add str str" => ((k_here; (with_reducible show wpAny _ _ (inplaceOp PySem.Operator.Add (Value.str (tx _) _) (Value.str (tx _) _)) _ _ _); refine' r_iadd (by walk_at "tsz") ?_; (intro _ _); (try dsimp only)))
  k_with "call builtin:str.lower" => ((k_here; (with_reducible show wpAny _ _ (call (Value.builtin "str.lower") [Value.str (tx _) _]) _ _ _); refine my_lower (by omega) ?_; intro _ _; (try dsimp only)))
  k_with "stepsN" => (repeat' (((fail_if_success (with_reducible show InvEndN _ _ _ _ _ _ _))); walk_at "mine stp"))
  exact trivial
section
set_option maxRecDepth 100000
set_option maxHeartbeats 8000000
section
theorem lines_3 : True := by
  k_with "call builtin:min" => ((k_here; (with_reducible show wpAny _ _ (call (Value.builtin "min") [Value.int _ _, Value.int _ _]) _ _ _); (rename Fr _ _ _ _ => kTF); (rename News _ _ _ _ => kTN); (with_unfolding_all refine' r_min2 (by rfl) kTF kTN ?_); (intro v8 t8 h8 tk8 hv8 F8 N8); (try dsimp only)))
  k_with "setItem ref int" => ((k_here; (with_reducible show wpAny _ _ (setItem (Value.ref _) (Value.int _ _) (Value.int _ _)) _ _ _); k_dflt (refine' r_set (by k_asm) (by k_asm) (by k_upd) (by with_reducible assumption) (by omega) (by omega) (by omega) ?_); (intro h8 row8 F8 N8 hr8 hi8 hl8); (try dsimp only)))
  k_with "subscriptTail Name Name ref int" => ((k_here; k_dflt (refine' r_row (by k_asm) (by k_mem) (by with_reducible assumption) (by omega) (by omega) (by omega) ?_ (by with_unfolding_all rfl)); (intro v8 t8 hv8); (try dsimp only)))
  k_with "call ref" => ((k_here; k_dflt (o_head (sub_ok _ _ _ _ _ _ _ _ _ _ _)); (intro v9 h9 tk9 hp9 F9 N9); (obtain ⟨t9, e9⟩ := hp9); (subst e9); (try dsimp only); (try k_fold)))
  k_with "call type:list" => ((k_here; (with_reducible show wpAny _ _ (call (Value.type "list") [Value.ref _]) _ _ _); (rename IsRange _ _ _ _ _ _ _ _ => rgX); (rename Fr _ _ _ _ => kTF); (rename News _ _ _ _ => kTN); (with_unfolding_all refine' r_list2 (by rfl) kTF kTN rgX (by omega) ?_); (intro D' us' c' h' tk' F' N' l1 hI'); (try k_lt l1)))
  k_with "stepsI" => (repeat' (((fail_if_success (with_reducible show wpAny _ _ (PySem.pyIter _) _ _ _))); walk_at "mine stp"))
  exact trivial
theorem w1_turn {A B : List Nat} {p : Int} (h0 : 0 ≤ p) (h1 : p < A.length) (h2 : p < B.length) (he : A.take p.toNat = B.take p.toNat) (hd : decide ([A.getD p.toNat 0] = [B.getD p.toNat 0]) = true) :
   0 ≤ p + 1 ∧ p + 1 ≤ A.length ∧ A.take (p + 1).toNat = B.take (p + 1).toNat := by
  refine ⟨Int.le_trans h0 (Int.le_of_lt (Int.lt_succ p)), h1, ?_⟩
  obtain ⟨n, rfl⟩ := Int.eq_ofNat_of_zero_le h0
  have ha : n < A.length := Int.ofNat_lt.mp h1
  have hb : n < B.length := Int.ofNat_lt.mp h2
  show A.take (n + 1) = B.take (n + 1)
  simp only [decide_eq_true_eq, List.cons.injEq, and_true] at hd
  have he : A.take n = B.take n := he
  have hd : A.getD n 0 = B.getD n 0 := hd
  rw [List.take_add_one, List.take_add_one, he]
  congr 1
  rw [List.getD_eq_getElem?_getD, List.getD_eq_getElem?_getD] at hd
  simp [ha, hb] at hd ⊢
  exact hd
theorem w2_nat {X Y : List Nat} {n : Nat} (h1 : n < X.length) (hl : X.length = Y.length) (he : X.drop (X.length - n) = Y.drop (Y.length - n))
    (hd : X.getD (X.length - (n + 1)) 0 = Y.getD (Y.length - (n + 1)) 0) : X.drop (X.length - (n + 1)) = Y.drop (Y.length - (n + 1)) := by
  have ha : X.length - (n + 1) < X.length := Nat.sub_lt (Nat.lt_of_le_of_lt (Nat.zero_le n) h1) (Nat.succ_pos n)
  have hb : Y.length - (n + 1) < Y.length := by rw [← hl]; exact ha
  have e1 : X.length - (n + 1) + 1 = X.length - n := Nat.succ_pred_eq_of_pos (Nat.sub_pos_of_lt h1)
  have e2 : Y.length - (n + 1) + 1 = Y.length - n := by rw [← hl]; exact e1
  rw [List.drop_eq_getElem_cons ha, List.drop_eq_getElem_cons hb, e1, e2, he]
  congr 1
  rw [List.getD_eq_getElem?_getD, List.getD_eq_getElem?_getD] at hd
  simpa [ha, hb] using hd
theorem w2_turn {X Y : List Nat} {j : Int} (h0 : j ≤ 0) (h1 : -j < X.length) (hl : X.length = Y.length) (he : X.drop (X.length - (-j).toNat) = Y.drop (Y.length - (-j).toNat))
    (hd : X.getD (X.length - (-(j - 1)).toNat) 0 = Y.getD (Y.length - (-(j - 1)).toNat) 0) :
   j - 1 ≤ 0 ∧ -(j - 1) ≤ X.length ∧ X.drop (X.length - (-(j - 1)).toNat) = Y.drop (Y.length - (-(j - 1)).toNat) := by
  obtain ⟨n, hn⟩ := Int.eq_ofNat_of_zero_le (Int.neg_nonneg_of_nonpos h0)
  have e : -(j - 1) = ((n + 1 : Nat) : Int) := by omega
  rw [hn] at h1 he
  rw [e] at hd ⊢
  have h1 : n < X.length := Int.ofNat_lt.mp h1
  exact ⟨by omega, Int.ofNat_le.mpr h1, w2_nat h1 hl he hd⟩

theorem lev_ok (w : World) (p : Program) (loose : List Str) (mean : ExcName → Option Value) (mg mb : Str → Option Value) (news : List (Addr × Obj)) (A B : List Nat) (mc : Int) (t u v : Tok)
    (hl : A.length = B.length) (ha : A.length ≤ 40) (hA : ∀ c ∈ A, c < 128) (hB : ∀ c ∈ B, c < 128) :
   FnOk w p loose mean mg mb 2 45 news (mc < 100 ∧ -100 < mc) [Value.str (tx A) t, Value.str (tx B) u, Value.int mc v] (fun v => ∃ r, LevSpec A B mc r ∧ ∃ t, v = Value.int r t) := by
  dsimp only [FnOk]; intros; rename_i hret
  refine wpAny_call ?_
  k_dflt cell_enter
  walk_at "steps"
  · exact hret _ _ _ ⟨0, ⟨A, [], [], [], by simp, by subst_vars; simp, rfl, .inl ⟨rfl, rfl⟩⟩, _, rfl⟩ (by k_asm) (by k_asm)
  · k_while (fun _ pre => 0 ≤ pre ∧ pre ≤ A.length ∧ A.take pre.toNat = B.take pre.toNat) (fun _ pre => (A.length - pre).toNat) "pre"
    rename Int => i
    rename Fr _ _ _ _ => kF
    rename News _ _ _ _ => kN
    refine cut_bool kF kN (i < A.length ∧ A.getD i.toNat 0 = B.getD i.toNat 0) ?_ ?_ ?_
    · walk_at "steps"
      all_goals (first | (exfalso; omega) | (refine CutPost.yes (by k_asm) (by k_asm) ?_; exact ⟨by omega, by assumption⟩) | (refine CutPost.no (by k_asm) (by k_asm) ?_; intro hcc; first | (exfalso; omega) | exact absurd hcc.2 (by assumption)))
    · intro hC h' tk' F' N'
      k_with "state" => exact w1_turn (by assumption) (by omega) (by omega) (by assumption) (by simp only [hC.2, decide_true])
      walk_at "steps"
    · intro hC h' tk' F' N'
      walk_at "steps"
      clear hC
      rename 0 ≤ i => hi0
      rename i ≤ A.length => hi1
      rename List.take _ _ = List.take _ _ => hpre
      have hX : (A.drop i.toNat).length = A.length - i.toNat := List.length_drop
      have hY : (B.drop i.toNat).length = B.length - i.toNat := List.length_drop
      have eXY : Hid (A = A.take i.toNat ++ A.drop i.toNat ∧ B = A.take i.toNat ++ B.drop i.toNat) := ⟨(List.take_append_drop ..).symm, by rw [hpre]; exact (List.take_append_drop ..).symm⟩
      clear hpre
      generalize A.drop i.toNat = X at *
      generalize B.drop i.toNat = Y at *
      have hXY : X.length = Y.length := by omega
      have hX40 : X.length ≤ 40 := by omega
      clear hX hY
      k_while (fun _ post => post ≤ 0 ∧ -post ≤ X.length ∧ X.drop (X.length - (-post).toNat) = Y.drop (Y.length - (-post).toNat)) (fun _ post => (X.length + post).toNat) "post"
      rename Int => j
      rename Fr _ _ _ _ => kF
      rename News _ _ _ _ => kN
      rename j ≤ 0 => hj0
      rename -j ≤ (X.length : Int) => hj1
      rename List.drop _ _ = List.drop _ _ => hsuf
      refine cut_bool kF kN (-j < X.length ∧ X.getD (X.length - (-(j - 1)).toNat) 0 = Y.getD (Y.length - (-(j - 1)).toNat) 0) ?_ ?_ ?_
      · rcases Int.lt_or_eq_of_le hj0 with hj | hj
        rotate_left
        · subst hj
          walk_at "steps"
          all_goals (first | (exfalso; omega) | (refine CutPost.yes (by k_asm) (by k_asm) ?_; exact ⟨by omega, by assumption⟩) | (refine CutPost.no (by k_asm) (by k_asm) ?_; intro hcc; first | (exfalso; omega) | exact absurd hcc.2 (by assumption)))
        · walk_at "steps"
          all_goals (first | (exfalso; omega) | (refine CutPost.yes (by k_asm) (by k_asm) ?_; exact ⟨by omega, by assumption⟩) | (refine CutPost.no (by k_asm) (by k_asm) ?_; intro hcc; first | (exfalso; omega) | exact absurd hcc.2 (by assumption)))
      · intro hC h' tk' F' N'
        k_with "state" => exact w2_turn (by assumption) hC.1 (by assumption) (by assumption) hC.2
        walk_at "steps"
      · intro hC h' tk' F' N'
        clear hC
        k_unfold
        (try dsimp only)
        walk1
        walk1
        walk1
        refine cut_text F' N' (X.take (X.length - (-j).toNat)) ?_ ?_
        · rcases Int.lt_or_eq_of_le hj0 with hj | hj
          rotate_left
          · subst hj
            walk_at "steps"
            all_goals (first | exact .of (by simp) (by k_asm) (by k_asm) | (exfalso; omega))
          · walk_at "steps"
            all_goals (first | exact .of rfl (by k_asm) (by k_asm) | (exfalso; omega))
        clear F' N' kF kN
        intro t1 h1 tk1 F1 N1
        dsimp only
        walk1
        walk1
        walk1
        walk1
        rename Fr _ _ _ _ => F1
        rename News _ _ _ _ => N1
        refine cut_text F1 N1 (Y.take (Y.length - (-j).toNat)) ?_ ?_
        · rcases Int.lt_or_eq_of_le hj0 with hj | hj
          rotate_left
          · subst hj
            walk_at "steps"
            all_goals (first | exact .of (by simp) (by k_asm) (by k_asm) | (exfalso; omega))
          · walk_at "steps"
            all_goals (first | exact .of rfl (by k_asm) (by k_asm) | (exfalso; omega))
        clear F1 N1
        intro t1 h1 tk1 F1 N1
        dsimp only
        have e3 : Hid (∃ P S, A = P ++ X.take (X.length - (-j).toNat) ++ S ∧ B = P ++ Y.take (Y.length - (-j).toNat) ++ S) := by
          refine ⟨A.take i.toNat, X.drop (X.length - (-j).toNat), ?_, ?_⟩
          · rw [List.append_assoc, List.take_append_drop]; exact eXY.out.1
          · rw [hsuf, List.append_assoc, List.take_append_drop]; exact eXY.out.2
        have hl2 : (X.take (X.length - (-j).toNat)).length = (Y.take (Y.length - (-j).toNat)).length := by rw [List.length_take, List.length_take]; omega
        have hl40 : (X.take (X.length - (-j).toNat)).length ≤ 40 := by rw [List.length_take]; omega
        clear eXY hsuf
        generalize X.take (X.length - (-j).toNat) = X1 at *
        generalize Y.take (Y.length - (-j).toNat) = Y1 at *
        have hgX : ∀ k, X1.getD k 0 < 128 := getD_mid e3.out.choose_spec.choose_spec.1 hA
        have hgY : ∀ k, Y1.getD k 0 < 128 := getD_mid e3.out.choose_spec.choose_spec.2 hB
        walk_at "steps"
        · exact hret _ _ _ ⟨_, ⟨_, _, _, _, e3.out.choose_spec.choose_spec.1, e3.out.choose_spec.choose_spec.2, hl2, .inr (.inl ⟨by omega, rfl⟩)⟩, _, rfl⟩ (by k_asm) (by k_asm)
        rotate_left
        · exact hret _ _ _ ⟨_, ⟨_, _, _, _, e3.out.choose_spec.choose_spec.1, e3.out.choose_spec.choose_spec.2, hl2, .inl ⟨by omega, by omega⟩⟩, _, rfl⟩ (by k_asm) (by k_asm)
        · exact hret _ _ _ ⟨_, ⟨_, _, _, _, e3.out.choose_spec.choose_spec.1, e3.out.choose_spec.choose_spec.2, hl2, .inl ⟨by omega, by omega⟩⟩, _, rfl⟩ (by k_asm) (by k_asm)
        walk1
        walk_at "stepsI"
        rename IntsAre _ _ => hI
        rw [row0 X1 Y1] at hI
        k_with "state" => first | exact OuterP.start rfl | exact OuterP.turn (by assumption) (by assumption) (by simp only [rangeKs_length]; omega) (by omega) (by simp only [List.length_append, List.length_cons, List.length_nil])
        k_state (fun pre row result => OuterP X1 Y1 pre.length row result ∧ row.length = X1.length) "row" "result"
        · walk_at "steps"
          walk1
          walk_at "stepsI"
          k_with "state" => first | exact OuterP.inner (by assumption) (by assumption) rfl (by omega) (by omega) | exact InnerP.turnH (by assumption) (by assumption) (by assumption) (by assumption) (by assumption) (by assumption) (by assumption) (by omega) (by omega) (by omega) (by omega) (by simp only [List.length_append, List.length_cons, List.length_nil])
          k_state (fun pre distance result minimum row => InnerP X1 Y1 kPre.length pre.length distance result minimum row ∧ row.length = X1.length) "distance" "result" "minimum" "row"
          · walk_at "steps"
          · k_with "state" => first | exact OuterP.turn (by assumption) (by assumption) (by simp only [rangeKs_length]; omega) (by omega) (by simp only [List.length_append, List.length_cons, List.length_nil])
            walk_at "steps"
            all_goals exact hret _ _ _ ⟨_, lev_early (by assumption) e3 hl2 (by omega) (by omega) (by simp only [rangeKs_length]; omega) (by omega) (by omega), _, rfl⟩ (by k_asm) (cb_drop (by k_asm) fun p hp => by first | exact .tail _ hp | exact .tail _ (List.mem_append_left _ hp))
        · walk_at "steps"
          all_goals exact hret _ _ _ ⟨_, lev_done (by assumption) e3 hl2 (by omega) (by omega) (by simp only [rangeKs_length]; omega), _, rfl⟩ (by k_asm) (cb_drop (by k_asm) fun p hp => by first | exact .tail _ hp | exact .tail _ (List.mem_append_left _ hp))
end
end
theorem lines_4 : True := by
  k_with_none
  w_top off
  k_with "mine stp" => (first | (k_unfold; (try dsimp only)) | (k_end; wrow_close) | walk1 | (dsimp only; walk1) | (leave1; walk_say "STEP leave1"; try dsimp only) | fail "no step")
  k_with "stepsP" => (repeat' (((fail_if_success (with_reducible show wpAny _ _ (pyIter _) _ _ _))); ((fail_if_success (with_reducible show TurnEnd _ _ _ _ _ _ _ _))); walk_at "mine stp"))
  k_with "stepsC" => (repeat' (((fail_if_success (with_reducible show LCg.CompRest _ _ _ _ _ _ _ _ _ _ _ _ _ _ _ _ _ _ _)); (fail_if_success (with_reducible show LCg.CompEnd _ _ _ _ _ _ _ _ _ _ _ _ _ _))); walk_at "mine stp"))
  k_with "mine turn2" => ((refine LCg.CompRest.succ ?_; intro v' I' oI' C' oC' D' m' h' tk' E' hv' hC' hx' F' N' off' ne'; (obtain ⟨t9', hv9'⟩ := hv'); (subst hv9'); (replace hx' : m' (Str.ofString "k") = some (Value.int 2 t9') := hx')))
  k_with "mine turn0" => ((refine LCg.CompRest.succ ?_; intro v' I' oI' C' oC' D' m' h' tk' E' hv' hC' hx' F' N' off' ne'; (obtain ⟨t9', hv9'⟩ := hv'); (subst hv9'); (replace hx' : m' (Str.ofString "k") = some (Value.int 0 t9') := hx')))
  k_with "mine cend" => ((k_dflt (refine' compEnd_one (by k_asm) (by k_asm) (by k_ne) (by k_ne) (by k_ne) (by assumption) (by exact trivial) ?_)))
  k_with "mine turn1" => ((refine LCg.CompRest.succ ?_; intro v' I' oI' C' oC' D' m' h' tk' E' hv' hC' hx' F' N' off' ne'; (obtain ⟨t9', hv9'⟩ := hv'); (subst hv9'); (replace hx' : m' (Str.ofString "k") = some (Value.int 1 t9') := hx')))
  k_with "stepsD" => (repeat' (((fail_if_success (with_reducible show LCg.CompEnd _ _ _ _ _ _ _ _ _ _ _ _ _ _)); first | walk1 | (dsimp only; walk1)); (try dsimp only)))
  k_with "mine kargs" => (((case k1 | k2 | k3 | k4 | k5 => k_asm); (case kK => first | exact rfl | assumption); (case kp => first | exact trivial | assumption); (case kd => ktr_room); (case ku => ktr_units)))
  k_with "mine kp" => (first | exact trivial | with_reducible assumption | assumption | omega | exact ⟨by with_reducible assumption, by with_reducible assumption⟩ | exact ⟨by solve_by_elim, by solve_by_elim⟩)
  k_with "steps" => (repeat' (((fail_if_success (with_reducible show wpAny _ _ (PySem.exec (PySem.Stmt.While _ _ _ _) _) _ _ _))); ((fail_if_success (with_reducible show wpAny _ _ (PySem.exec (PySem.Stmt.For _ _ _ _ _) _) _ _ _))); walk_at "mine stp"))
  k_with "tsz" => ((first | omega | (simp only [List.length_drop, List.length_take, List.length_append, List.length_cons, List.length_nil]; omega) | (simp only [List.length_drop, List.length_take, List.length_append, List.length_cons, List.length_nil] at *; omega)))
  k_with "subscriptTail Name Slice str ref" => ((k_here; (with_reducible show wpAny _ _ (subscriptTail _ (PySem.Expr.Slice _ _ none _) (Value.str (tx _) _) _) _ _ _); (rename Fr _ _ _ _ => kTF); (rename News _ _ _ _ => kTN); first | (refine' r_all (s := ⟨_, _, _, _, _⟩) kTF kTN (by walk_at "tsz") ?_; (intro _ _ _ _ _); (try dsimp only)) | (refine' r_drop (s := ⟨_, _, _, _, _⟩) kTF kTN (by omega) (by walk_at "tsz") ?_; (intro _ _ _ _ _); (try dsimp only)) | (refine' r_last (s := ⟨_, _, _, _, _⟩) kTF kTN (by omega) (by walk_at "tsz") ?_; (intro _ _ _ _ _); (try dsimp only)) | (refine' r_take (s := ⟨_, _, _, _, _⟩) kTF kTN (by omega) (by walk_at "tsz") ?_; (intro _ _ _ _ _); (try dsimp only)) | (refine' r_back (s := ⟨_, _, _, _, _⟩) kTF kTN (by omega) (by walk_at "tsz") ?_; (intro _ _ _ _ _); (try dsimp only)) | (refine' r_mid (s := ⟨_, _, _, _, _⟩) kTF kTN (by omega) (by walk_at "tsz") ?_; (intro _ _ _ _ _); (try dsimp only))))
  k_with "mine item" => ((k_here; (with_reducible show wpAny _ _ (subscriptTail _ _ (Value.str (tx _) _) (Value.int _ _)) _ _ _); first | (refine' r_item (by omega) (by walk_at "tsz") (by walk_at "tsz") ?_; (intro _ _); (try dsimp only)) | (refine' r_itemN (by omega) (by walk_at "tsz") (by walk_at "tsz") ?_; (intro _ _); (try dsimp only))))
  k_with "subscriptTail Name Name str int" => (walk_at "mine item")
  k_with "subscriptTail Name BinOp str int" => (walk_at "mine item")
  k_with "subscriptTail Name Constant str int" => (walk_at "mine item")
  k_with "call builtin:len" => ((k_here; (with_reducible show wpAny _ _ (call (Value.builtin "len") [Value.str (tx _) _]) _ _ _); refine' r_len (by walk_at "tsz") ?_; (intro _ _); (try dsimp only)))
  k_with "truthy str" => ((k_here; (with_reducible show wpAny _ _ (PySem.truthy (Value.str (tx _) _)) _ _ _); (first | (with_reducible refine' r_truthyD (by k_dflt (walk_at "tsz")) ?_ ?_) | (with_reducible refine' r_truthyT (by k_dflt (walk_at "tsz")) ?_ ?_) | (with_reducible refine' r_truthyC (by k_dflt (walk_at "tsz")) ?_ ?_)); (all_goals (intro _ _)); (all_goals (try dsimp only))))
  k_with "compareOp Eq str str" => ((k_here; (first | (with_reducible refine' r_eq1 ?_ ?_) | (with_reducible refine' r_eqC ?_ ?_)); (all_goals (intro _)); (all_goals (try dsimp only))))
  k_with "compareOp NotEq str str" => ((k_here; (first | (with_reducible refine' r_ne1 ?_ ?_) | (with_reducible refine' r_neC ?_ ?_)); (all_goals (intro _)); (all_goals (try dsimp only))))
  k_with "binaryOp Add str str" => ((k_here; (with_reducible show wpAny _ _ (binaryOp PySem.Operator.Add (Value.str (tx _) _) (Value.str (tx _) _)) _ _ _); refine' r_add (by walk_at "tsz") ?_; (intro _ _); (try dsimp only)))
  k_with "inplaceOp Add str str" => ((k_here; (with_reducible show wpAny _ _ (inplaceOp PySem.Operator.Add (Value.str (tx _) _) (Value.str (tx _) _)) _ _ _); refine' r_iadd (by walk_at "tsz") ?_; (intro _ _); (try dsimp only)))
  k_with "call builtin:str.lower" => ((k_here; (with_reducible show wpAny _ _ (call (Value.builtin "str.lower") [Value.str (tx _) _]) _ _ _); refine my_lower (by omega) ?_; intro _ _; (try dsimp only)))
  k_with "stepsN" => (repeat' (((fail_if_success (with_reducible show InvEndN _ _ _ _ _ _ _))); walk_at "mine stp"))
  exact trivial
section
set_option maxRecDepth 100000
set_option maxHeartbeats 8000000
section
theorem ifmt_ok (w : World) (p : Program) (loose : List Str) (mean : ExcName → Option Value) (mg mb : Str → Option Value) (news : List (Addr × Obj)) (x : Int) (t : Tok) :
   FnOk w p loose mean mg mb 1 97 news True [Value.int x t] (fun v => ∃ t, v = Value.int (Builtin.bitAnd x 61440) t) := by
  dsimp only [FnOk]; intros; rename_i hret
  refine wpAny_call ?_
  k_dflt cell_enter
  walk_at "steps"
  all_goals (refine hret _ _ _ (ktn_int rfl) (by k_asm) (by k_asm))
def M5 (m : Str → Option Value) (vi vt vb vc : Option Value) : Str → Option Value := fun y => if y = Str.ofString "char" then vc else if y = Str.ofString "bit" then vb else if y = Str.ofString "table" then vt else if y = Str.ofString "index" then vi else m y
def M2 (m : Str → Option Value) (vb vc : Option Value) : Str → Option Value := fun y => if y = Str.ofString "char" then vc else if y = Str.ofString "bit" then vb else m y
theorem M5_eq {m m' : Str → Option Value} (h : ∀ y, y ≠ Str.ofString "char" → y ≠ Str.ofString "bit" → y ≠ Str.ofString "table" → y ≠ Str.ofString "index" → m' y = m y) : ∃ vi vt vb vc, m' = M5 m vi vt vb vc := by
  refine ⟨m' (Str.ofString "index"), m' (Str.ofString "table"), m' (Str.ofString "bit"), m' (Str.ofString "char"), ?_⟩
  funext y
  unfold M5
  by_cases h1 : y = Str.ofString "char"
  · rw [if_pos h1, h1]
  rw [if_neg h1]
  by_cases h2 : y = Str.ofString "bit"
  · rw [if_pos h2, h2]
  rw [if_neg h2]
  by_cases h3 : y = Str.ofString "table"
  · rw [if_pos h3, h3]
  rw [if_neg h3]
  by_cases h4 : y = Str.ofString "index"
  · rw [if_pos h4, h4]
  rw [if_neg h4]
  exact h y h1 h2 h3 h4
theorem M2_eq {m m' : Str → Option Value} (h : ∀ y, y ≠ Str.ofString "char" → y ≠ Str.ofString "bit" → m' y = m y) : ∃ vb vc, m' = M2 m vb vc := by
  refine ⟨m' (Str.ofString "bit"), m' (Str.ofString "char"), ?_⟩
  funext y
  unfold M2
  by_cases h1 : y = Str.ofString "char"
  · rw [if_pos h1, h1]
  rw [if_neg h1]
  by_cases h2 : y = Str.ofString "bit"
  · rw [if_pos h2, h2]
  rw [if_neg h2]
  exact h y h1 h2
def Signs (us : List Value) (cs : List Nat) : Prop := ∃ l : List (Str × Tok), us = strValues l ∧ l.map (·.1) = cs.map fun c => tx [c]
theorem Signs.nil : Signs [] [] := ⟨[], rfl, rfl⟩
theorem Signs.snoc {us : List Value} {cs : List Nat} {c : Nat} {t : Tok} (h : Signs us cs) : Signs (us ++ [.str (tx [c]) t]) (cs ++ [c]) := by
  obtain ⟨l, e, h⟩ := h
  exact ⟨l ++ [(tx [c], t)], by subst e; simp [strValues], by simp [h]⟩
theorem listing_take {x : Int} {i : Nat} {ps : List (Int × Nat)} (h : tabs[i]? = some ps) : (listing x).take (i + 1) = (listing x).take i ++ [selT i x ps] := by
  unfold listing
  rw [List.take_add_one]
  congr 1
  simp [List.getElem?_map, List.getElem?_zipIdx, h]
theorem selT_drop {i k : Nat} {x b : Int} {c : Nat} {ps : List (Int × Nat)} (h : ps[k]? = some (b, c)) : selT i x (ps.drop k) = if Builtin.bitAnd x (if i = 0 then 61440 else b) = b then c else selT i x (ps.drop (k + 1)) := by
  obtain ⟨hk, e⟩ := List.getElem?_eq_some_iff.mp h
  rw [List.drop_eq_getElem_cons hk, e]
  rfl
def FmJ (m : Str → Option Value) (D : Addr) (news : List (Addr × Obj)) (x : Int) (i : Nat) (m' : Str → Option Value) (n' : List (Addr × Obj)) : Prop :=
  ∃ us c vi vt vb vc, m' = M5 m vi vt vb vc ∧ n' = (D, W.listOf (List.toArray us) c) :: news ∧ Signs us ((listing x).take i)
section
open PySem.Calls PySem.Spec
variable {prog : Program} {w : World} {A : Around} {E : Value → Shared → Prop} {s : Shared} {h₀ : Heap}
theorem loop_enumF {x : Int} {D : Addr} {c0 : Nat} {env : Env} {T : Addr} {items : Array Value} {elts : List Expr} {k0 : Nat} {tpos : Pos} {body : List Stmt} {Q : Flow → Shared → Prop} {m : Str → Option Value} {news : List (Addr × Obj)}
    (hT : h₀.IsTuple T items) (hTs : TabsOk h₀ items.toList tabs) (hh : A.handled = none) (F : Fr h₀ env.locals s.heap m) (N : News h₀ env.locals s.heap ((D, W.listOf #[] c0) :: news))
    (step : ∀ (i : Nat) T₁ items₁ ps us c vi vt vb vc T' t I o o' h₁ tk₁, IsTup h₁ T' #[.int i t, .ref T₁] → h₀.IsTuple T₁ items₁ → PairsOk h₀ items₁.toList ps → Signs us ((listing x).take i) → (listing x).take (i + 1) = (listing x).take i ++ [selT i x ps] → 
      (∀ p ∈ (D, W.listOf (List.toArray us) c) :: news, p.1 < I) → o.cls = .type "tuple_iterator" → o'.cls = .type "enumerate" → Fr h₀ env.locals h₁ (M5 m vi vt vb vc) → News h₀ env.locals h₁ ((I + 1, o') :: (I, o) :: (D, W.listOf (List.toArray us) c) :: news) →
      wpAny (model prog w) A (assign (.Tuple elts k0 tpos) env (.ref T')) (fun _ s₂ => wpAny (model prog w) A (execs body env) (TurnEnd h₀ env.locals [(I + 1, o'), (I, o)] { s with heap := h₁, toks := tk₁ } (FmJ m D news x (i + 1)) Q) E s₂) E { s with heap := h₁, toks := tk₁ })
    (done : ∀ us c vi vt vb vc h' tk, Signs us (listing x) → Fr h₀ env.locals h' (M5 m vi vt vb vc) → News h₀ env.locals h' ((D, W.listOf (List.toArray us) c) :: news) → Q .next { s with heap := h', toks := tk }) :
    wpAny (model prog w) A (call (.type "enumerate") [.ref T]) (fun xv s₁ => wpAny (model prog w) A (pyIter xv) (fun it s₂ => TurnsAt prog w A h₀ env (.Tuple elts k0 tpos) body Q E it s₂) E s₁) E s := by
  refine loop_enumT hT hh F N (FmJ m D news x) ?_ ?_ ?_ ?_
  · obtain ⟨vi, vt, vb, vc, e⟩ := M5_eq (m := m) (m' := m) (fun _ _ _ _ _ => rfl)
    exact ⟨[], c0, vi, vt, vb, vc, e, rfl, Signs.nil⟩
  · rintro i m' n' ⟨us, c, vi, vt, vb, vc, em, en, hS⟩; subst en; rfl
  · rintro i x₁ T' ti m₁ news₁ I o o' h₁ tk₁ hx hT' ⟨us, c, vi, vt, vb, vc, em, en, hS⟩ hlt hc1 hc2 F₁ N₁
    obtain ⟨ps, hps, T₁, items₁, ev, hT₁, hP₁⟩ := hTs.get (by simpa using hx)
    subst ev em en
    exact step i T₁ items₁ ps us c vi vt vb vc T' ti I o o' h₁ tk₁ hT' hT₁ hP₁ hS (listing_take hps) hlt hc1 hc2 F₁ N₁
  · rintro m' n' h' tk ⟨us, c, vi, vt, vb, vc, em, en, hS⟩ F' N'
    subst em en
    have e : items.size = 10 := by have := hTs.len; simpa [tabs] using this
    rw [e, List.take_of_length_le (by simp [listing, tabs])] at hS
    exact done us c vi vt vb vc h' tk hS F' N'
end
def FmK (m : Str → Option Value) (news : List (Addr × Obj)) (x : Int) (i : Nat) (ps : List (Int × Nat)) (k : Nat) (m' : Str → Option Value) (n' : List (Addr × Obj)) : Prop :=
  n' = news ∧ ∃ vb vc, m' = M2 m vb vc ∧ selT i x ps = selT i x (ps.drop k)
section
open PySem.Calls PySem.Spec
variable {prog : Program} {w : World} {A : Around} {E : Value → Shared → Prop} {s : Shared} {h₀ : Heap}
theorem loop_tupF {env : Env} {T : Addr} {items : Array Value} {target : Expr} {body orelse : List Stmt} {Q : Flow → Shared → Prop} {m : Str → Option Value} {news : List (Addr × Obj)}
    (x : Int) (i : Nat) (ps : List (Int × Nat)) (hT : h₀.IsTuple T items) (hP : PairsOk h₀ items.toList ps) (hh : A.handled = none) (F : Fr h₀ env.locals s.heap m) (N : News h₀ env.locals s.heap news)
    (step : ∀ (k : Nat) b c a t u vb vc I o h₁ tk₁, IsTup h₁ a #[.int b t, .str (tx [c]) u] → selT i x ps = (if Builtin.bitAnd x (if i = 0 then 61440 else b) = b then c else selT i x (ps.drop (k + 1))) →
      (∀ p ∈ news, p.1 < I) → o.cls = .type "tuple_iterator" → Fr h₀ env.locals h₁ (M2 m vb vc) → News h₀ env.locals h₁ ((I, o) :: news) →
      wpAny (model prog w) A (assign target env (.ref a)) (fun _ s₂ => wpAny (model prog w) A (execs body env) (TurnEnd h₀ env.locals [(I, o)] s (FmK m news x i ps (k + 1)) Q) E s₂) E { s with heap := h₁, toks := tk₁ })
    (done : ∀ vb vc h' tk, selT i x ps = (if i = 0 then 63 else 45) → Fr h₀ env.locals h' (M2 m vb vc) → News h₀ env.locals h' news → wpAny (model prog w) A (execs orelse env) Q E { s with heap := h', toks := tk })
    (hE : PassesOwn (model prog w) A env E) :
    wpAny (model prog w) A (pyIter (.ref T)) (fun it s₂ => codeAny (model prog w) A (.forLoop target it body orelse env) (fun r s' => match r with | .ok f => Q f s' | .error e => cameBackBy (model prog w) A env E e s') s₂) E s := by
  refine loop_tupE hT hh F N (fun k m' => ∃ vb vc, m' = M2 m vb vc ∧ selT i x ps = selT i x (ps.drop k)) ?_ ?_ ?_ hE
  · obtain ⟨vb, vc, e⟩ := M2_eq (m := m) (m' := m) (fun _ _ _ => rfl)
    exact ⟨vb, vc, e, rfl⟩
  · rintro k v m₁ I o h₁ tk₁ hv ⟨vb, vc, em, hsel⟩ hlt hc F₁ N₁
    obtain ⟨b, c, a, t, u, hps, ev, ht⟩ := hP.get (by simpa using hv)
    subst em ev
    rw [selT_drop hps] at hsel
    exact step k b c a t u vb vc I o h₁ tk₁ (ht.keeps F₁.keep) hsel hlt hc F₁ N₁
  · rintro m' h' tk ⟨vb, vc, em, hsel⟩ F' N'
    subst em
    have e : items.size = ps.length := by have := hP.len; simpa using this
    rw [e, List.drop_length] at hsel
    exact done vb vc h' tk hsel F' N'
end
section
open PySem.Calls PySem.Spec
variable {prog : Program} {w : World} {A : Around} {E : Value → Shared → Prop} {s : Shared} {h₀ : Heap} {L D : Addr} {m : Str → Option Value} {news news' : List (Addr × Obj)}
theorem r_append {us : List Value} {n : Nat} {x : Value} {Q : Value → Shared → Prop} (F : Fr h₀ L s.heap m) (N : News h₀ L s.heap news) (U : Upd D (W.listOf us.toArray n) (W.listOf (us ++ [x]).toArray (n + 1)) news news') (hz : us.length ≤ 1000)
    (h : ∀ h', Fr h₀ L h' m → News h₀ L h' news' → Q .none { s with heap := h' }) : wpAny (model prog w) A (call (.builtin "list.append") [.ref D, x]) Q E s := by
  have e : us.toArray.push x = (us ++ [x]).toArray := by simp
  exact append_K F N (e ▸ U) h (by simp only [List.size_toArray]; exact Nat.le_trans hz (by decide))
end
theorem Signs.len {us : List Value} {cs : List Nat} (h : Signs us cs) : us.length = cs.length := by
  obtain ⟨l, e, h⟩ := h
  have := congrArg List.length h
  subst e
  simpa [strValues] using this
section
variable {i k : Nat} {x b : Int} {c R : Nat} {ps : List (Int × Nat)}
theorem sel_no0 (hsel : selT i x ps = if Builtin.bitAnd x (if i = 0 then 61440 else b) = b then c else R) (hi : (i : Int) = 0) (h : ¬ Builtin.bitAnd x 61440 = b) : selT i x ps = R := by
  have hi : i = 0 := by omega
  rw [hsel, if_pos hi, if_neg h]
theorem sel_no1 (hsel : selT i x ps = if Builtin.bitAnd x (if i = 0 then 61440 else b) = b then c else R) (hi : ¬ (i : Int) = 0) (h : ¬ Builtin.bitAnd x b = b) : selT i x ps = R := by
  have hi : ¬ i = 0 := by omega
  rw [hsel, if_neg hi, if_neg h]
theorem sel_yes0 (hsel : selT i x ps = if Builtin.bitAnd x (if i = 0 then 61440 else b) = b then c else R) (hi : (i : Int) = 0) (h : Builtin.bitAnd x 61440 = b) : selT i x ps = c := by
  have hi : i = 0 := by omega
  rw [hsel, if_pos hi, if_pos h]
theorem sel_yes1 (hsel : selT i x ps = if Builtin.bitAnd x (if i = 0 then 61440 else b) = b then c else R) (hi : ¬ (i : Int) = 0) (h : Builtin.bitAnd x b = b) : selT i x ps = c := by
  have hi : ¬ i = 0 := by omega
  rw [hsel, if_neg hi, if_pos h]
theorem sel_none0 (hsel : selT i x ps = if i = 0 then 63 else 45) (hi : (i : Int) = 0) : selT i x ps = 63 := by
  have hi : i = 0 := by omega
  rw [hsel, if_pos hi]
theorem sel_none1 (hsel : selT i x ps = if i = 0 then 63 else 45) (hi : ¬ (i : Int) = 0) : selT i x ps = 45 := by
  have hi : ¬ i = 0 := by omega
  rw [hsel, if_neg hi]
end
section
variable {h₀ h' : Heap} {L D : Addr} {m m' : Str → Option Value} {news : List (Addr × Obj)} {s : Shared} {Q : Flow → Shared → Prop} {tk i k : Nat} {x : Int} {ps : List (Int × Nat)} {q q' : Addr × Obj}
theorem end_in (F : Fr h₀ L h' m') (N : News h₀ L h' (q :: news)) (hm : ∀ y, y ≠ Str.ofString "char" → y ≠ Str.ofString "bit" → m' y = m y) (hs : selT i x ps = selT i x (ps.drop (k + 1))) :
    TurnEnd h₀ L [q] s (FmK m news x i ps (k + 1)) Q .next { s with heap := h', toks := tk } :=
  TurnEnd.next news F N ⟨rfl, let ⟨vb, vc, e⟩ := M2_eq hm; ⟨vb, vc, e, hs⟩⟩
theorem end_out {us : List Value} {r : Nat} {t : Tok} {n : Nat} (F : Fr h₀ L h' m') (N : News h₀ L h' (q :: q' :: (D, W.listOf (us ++ [Value.str (tx [r]) t]).toArray n) :: news)) (hm : ∀ y, y ≠ Str.ofString "char" → y ≠ Str.ofString "bit" → y ≠ Str.ofString "table" → y ≠ Str.ofString "index" → m' y = m y)
    (hS : Signs us ((listing x).take i)) (hcat : (listing x).take (i + 1) = (listing x).take i ++ [selT i x ps]) (hs : selT i x ps = r) :
    TurnEnd h₀ L [q, q'] s (FmJ m D news x (i + 1)) Q .next { s with heap := h', toks := tk } :=
  TurnEnd.next ((D, W.listOf (us ++ [Value.str (tx [r]) t]).toArray n) :: news) F N (by
    obtain ⟨vi, vt, vb, vc, e⟩ := M5_eq hm
    refine ⟨_, _, vi, vt, vb, vc, e, rfl, ?_⟩
    rw [hcat, hs]
    exact hS.snoc)
end
section
open PySem.Calls PySem.Spec
variable {prog : Program} {w : World} {A : Around} {E : Value → Shared → Prop} {s : Shared} {h₀ : Heap} {L D : Addr} {news : List (Addr × Obj)}
theorem flatten_ones : ∀ cs : List Nat, (cs.map fun c => [c]).flatten = cs
  | [] => rfl
  | c :: r => by rw [List.map_cons, List.flatten_cons, flatten_ones r]; rfl
theorem r_joinS {us : List Value} {cs : List Nat} {n : Nat} {t : Tok} {Q : Value → Shared → Prop} (N : News h₀ L s.heap news) (hm : (D, W.listOf us.toArray n) ∈ news) (hS : Signs us cs) (hz : cs.length ≤ 1000)
    (h : ∀ t' k, Q (.str (tx cs) t') { s with toks := k }) : wpAny (model prog w) A (call (.builtin "str.join") [.str (PySem.Str.ofString "") t, .ref D]) Q E s := by
  obtain ⟨l, e, hl⟩ := hS
  subst e
  have e : cs.map (fun c => tx [c]) = (cs.map fun c => [c]).map tx := by simp
  have e2 : (cs.map fun c => [c]).flatten = cs := flatten_ones cs
  refine r_joinT N hm (e ▸ hl) (fun y hy => by obtain ⟨c, _, rfl⟩ := List.mem_map.mp hy; simp) (by simpa using hz) fun t' k => ?_
  rw [e2]; exact h t' k
end
theorem lines_5 : True := by
  k_with "call builtin:str.join" => ((k_here; (with_reducible show wpAny _ _ (call (Value.builtin "str.join") [Value.str _ _, Value.ref _]) _ _ _); k_dflt (refine' r_joinS (by k_asm) (by k_mem) (by with_reducible assumption) (by first | omega | (simp [listing, tabs])) ?_); (intro _ _); (try dsimp only)))
  k_with "call builtin:list.append" => ((k_here; (with_reducible show wpAny _ _ (call (Value.builtin _) [Value.ref _, _]) _ _ _); k_dflt (refine' r_append (by k_asm) (by k_asm) (by k_upd) (by omega) ?_; k_whole); intro h' F' N'; (try k_sweep)))
  k_with "call ref" => ((k_here; k_dflt (o_head (ifmt_ok _ _ _ _ _ _ _ _ _)); (intro v9 h9 tk9 hp9 F9 N9); (obtain ⟨t9, e9⟩ := hp9); (subst e9); (try dsimp only); (try k_fold)))
  k_with "stepsE" => (repeat' (((fail_if_success (with_reducible show wpAny _ _ (call (Value.type "enumerate") _) _ _ _))); ((fail_if_success (with_reducible show wpAny _ _ (PySem.exec (PySem.Stmt.For _ _ _ (_ :: _) _) _) _ _ _))); walk_at "mine stp"))
  exact trivial
theorem fm_ok (w : World) (p : Program) (loose : List Str) (mean : ExcName → Option Value) (mg mb : Str → Option Value) (news : List (Addr × Obj)) (x : Int) (t : Tok) :
   FnOk w p loose mean mg mb 2 144 news (0 ≤ x ∧ x < 262144) [Value.int x t] (fun v => ∃ t, v = Value.str (tx (listing x)) t) := by
  dsimp only [FnOk]; intros; rename_i hret
  refine wpAny_call ?_
  k_dflt cell_enter
  walk_at "steps"
  (rename Fr _ _ _ _ => lF')
  (with_unfolding_all refine' For_turns lF' ?_; k_whole)
  walk_at "stepsE"
  rename Fr _ _ _ (fun _ => _) => kF
  rename News _ _ _ _ => kN
  rename (hd.heap_1 w.params).In _ => kX
  obtain ⟨items, hT, hTs⟩ := tabs_ok kX
  refine' loop_enumF (x := x) (s := ⟨_, _, _, _, _⟩) hT hTs ?hh ?hF ?hN ?step ?done
  case hh => rfl
  case hF => exact kF
  case hN => exact kN
  case step =>
    intro i T₁ items₁ ps us c vi vt vb vc T' ti I o o' h₁ tk₁ hT' hT₁ hP₁ hS hcat hlt hc1 hc2 F₁ N₁
    have hus : us.length ≤ 10 := by rw [hS.len, List.length_take]; exact Nat.le_trans (Nat.min_le_right _ _) (by simp [listing, tabs])
    have hlt' : ∀ p ∈ (I, o) :: (_, W.listOf us.toArray c) :: news, p.1 < I + 1 := fun p hp => by
      rcases List.mem_cons.mp hp with rfl | hp
      · exact Nat.lt_succ_self _
      · exact Nat.lt_succ_of_lt (hlt p hp)
    (try k_lt hlt)
    (try k_lt hlt')
    unfold M5 at F₁
    clear kF kN
    walk_at "stepsE"
    refine' wpAny_For ?_ ?hs
    case hs => intro _; rfl
    walk_at "stepsP"
    (rename Fr _ _ _ _ => kF)
    rename News _ _ _ _ => kN
    refine' loop_tupF (s := ⟨_, _, _, _, _⟩) x i ps hT₁ hP₁ ?hh2 ?hF2 ?hN2 ?step2 ?done2 ?hE2
    case hh2 => rfl
    case hF2 => exact kF
    case hN2 => exact kN
    case hE2 => passes_own
    case step2 =>
      intro k b c1 a t1 u1 vb vc I1 o1 h1 tk1 hA hsel hlt1 hc3 F2 N2
      (try clear kF kN); (try clear F₁); (try clear N₁)
      unfold M2 at F2
      (try k_lt hlt1)
      walk_at "stepsP"
      all_goals (try ((fail_if_success (with_reducible show TurnEnd _ _ _ _ _ _ Flow.next _)); (dsimp only [TurnEnd]); walk_at "stepsP"))
      all_goals (rename Fr _ _ _ _ => kF; rename News _ _ _ _ => kN)
      all_goals first
        | (refine' end_in (s := ⟨_, _, _, _, _⟩) ?F ?N ?M ?S; (case F => exact kF); (case N => exact kN); (case M => intro y e1 e2; simp only [if_neg e1, if_neg e2]); (case S => first | exact sel_no0 hsel (by assumption) (by assumption) | exact sel_no1 hsel (by assumption) (by assumption)))
        | (refine' end_out (s := ⟨_, _, _, _, _⟩) ?F ?N ?M hS hcat ?S; (case F => exact kF); (case N => exact fun p hp => kN p (.tail _ hp)); (case M => intro y e1 e2 e3 e4; simp only [if_neg e1, if_neg e2, if_neg e3, if_neg e4]); (case S => first | exact sel_yes0 hsel (by assumption) (by assumption) | exact sel_yes1 hsel (by assumption) (by assumption)))
    case done2 => 
      intro vb vc h1 tk1 hsel F2 N2
      (try clear kF kN); (try clear F₁); (try clear N₁)
      unfold M2 at F2
      walk_at "stepsP"
      all_goals (rename Fr _ _ _ _ => kF; rename News _ _ _ _ => kN)
      all_goals first
        | (refine' end_out (s := ⟨_, _, _, _, _⟩) (r := 63) ?F ?N ?M hS hcat ?S; (case F => exact kF); (case N => exact kN); (case M => intro y e1 e2 e3 e4; simp only [if_neg e1, if_neg e2, if_neg e3, if_neg e4]); (case S => exact sel_none0 hsel (by assumption)))
        | (refine' end_out (s := ⟨_, _, _, _, _⟩) (r := 45) ?F ?N ?M hS hcat ?S; (case F => exact kF); (case N => exact kN); (case M => intro y e1 e2 e3 e4; simp only [if_neg e1, if_neg e2, if_neg e3, if_neg e4]); (case S => exact sel_none1 hsel (by assumption)))
  case done =>
    intro us c vi vt vb vc h1 tk1 hS F2 N2
    have hus : us.length ≤ 10 := by rw [hS.len]; simp [listing, tabs]
    unfold M5 at F2
    clear kF kN
    walk_at "stepsP"
    exact hret _ _ _ ⟨_, rfl⟩ (by k_asm) (cb_drop (by k_asm) fun p hp => .tail _ hp)
end
end
theorem lines_6 : True := by
  k_with_none
  w_top off
  k_with "mine stp" => (first | (k_unfold; (try dsimp only)) | (k_end; wrow_close) | walk1 | (dsimp only; walk1) | (leave1; walk_say "STEP leave1"; try dsimp only) | fail "no step")
  k_with "stepsP" => (repeat' (((fail_if_success (with_reducible show wpAny _ _ (pyIter _) _ _ _))); ((fail_if_success (with_reducible show TurnEnd _ _ _ _ _ _ _ _))); walk_at "mine stp"))
  k_with "stepsC" => (repeat' (((fail_if_success (with_reducible show LCg.CompRest _ _ _ _ _ _ _ _ _ _ _ _ _ _ _ _ _ _ _)); (fail_if_success (with_reducible show LCg.CompEnd _ _ _ _ _ _ _ _ _ _ _ _ _ _))); walk_at "mine stp"))
  k_with "mine turn2" => ((refine LCg.CompRest.succ ?_; intro v' I' oI' C' oC' D' m' h' tk' E' hv' hC' hx' F' N' off' ne'; (obtain ⟨t9', hv9'⟩ := hv'); (subst hv9'); (replace hx' : m' (Str.ofString "k") = some (Value.int 2 t9') := hx')))
  k_with "mine turn0" => ((refine LCg.CompRest.succ ?_; intro v' I' oI' C' oC' D' m' h' tk' E' hv' hC' hx' F' N' off' ne'; (obtain ⟨t9', hv9'⟩ := hv'); (subst hv9'); (replace hx' : m' (Str.ofString "k") = some (Value.int 0 t9') := hx')))
  k_with "mine cend" => ((k_dflt (refine' compEnd_one (by k_asm) (by k_asm) (by k_ne) (by k_ne) (by k_ne) (by assumption) (by exact trivial) ?_)))
  k_with "mine turn1" => ((refine LCg.CompRest.succ ?_; intro v' I' oI' C' oC' D' m' h' tk' E' hv' hC' hx' F' N' off' ne'; (obtain ⟨t9', hv9'⟩ := hv'); (subst hv9'); (replace hx' : m' (Str.ofString "k") = some (Value.int 1 t9') := hx')))
  k_with "stepsD" => (repeat' (((fail_if_success (with_reducible show LCg.CompEnd _ _ _ _ _ _ _ _ _ _ _ _ _ _)); first | walk1 | (dsimp only; walk1)); (try dsimp only)))
  k_with "mine kargs" => (((case k1 | k2 | k3 | k4 | k5 => k_asm); (case kK => first | exact rfl | assumption); (case kp => first | exact trivial | assumption); (case kd => ktr_room); (case ku => ktr_units)))
  k_with "mine kp" => (first | exact trivial | with_reducible assumption | assumption | omega | exact ⟨by with_reducible assumption, by with_reducible assumption⟩ | exact ⟨by solve_by_elim, by solve_by_elim⟩)
  k_with "steps" => (repeat' (((fail_if_success (with_reducible show wpAny _ _ (PySem.exec (PySem.Stmt.While _ _ _ _) _) _ _ _))); ((fail_if_success (with_reducible show wpAny _ _ (PySem.exec (PySem.Stmt.For _ _ _ _ _) _) _ _ _))); walk_at "mine stp"))
  k_with "tsz" => ((first | omega | (simp only [List.length_drop, List.length_take, List.length_append, List.length_cons, List.length_nil]; omega) | (simp only [List.length_drop, List.length_take, List.length_append, List.length_cons, List.length_nil] at *; omega)))
  k_with "subscriptTail Name Slice str ref" => ((k_here; (with_reducible show wpAny _ _ (subscriptTail _ (PySem.Expr.Slice _ _ none _) (Value.str (tx _) _) _) _ _ _); (rename Fr _ _ _ _ => kTF); (rename News _ _ _ _ => kTN); first | (refine' r_all (s := ⟨_, _, _, _, _⟩) kTF kTN (by walk_at "tsz") ?_; (intro _ _ _ _ _); (try dsimp only)) | (refine' r_drop (s := ⟨_, _, _, _, _⟩) kTF kTN (by omega) (by walk_at "tsz") ?_; (intro _ _ _ _ _); (try dsimp only)) | (refine' r_last (s := ⟨_, _, _, _, _⟩) kTF kTN (by omega) (by walk_at "tsz") ?_; (intro _ _ _ _ _); (try dsimp only)) | (refine' r_take (s := ⟨_, _, _, _, _⟩) kTF kTN (by omega) (by walk_at "tsz") ?_; (intro _ _ _ _ _); (try dsimp only)) | (refine' r_back (s := ⟨_, _, _, _, _⟩) kTF kTN (by omega) (by walk_at "tsz") ?_; (intro _ _ _ _ _); (try dsimp only)) | (refine' r_mid (s := ⟨_, _, _, _, _⟩) kTF kTN (by omega) (by walk_at "tsz") ?_; (intro _ _ _ _ _); (try dsimp only))))
  k_with "mine item" => ((k_here; (with_reducible show wpAny _ _ (subscriptTail _ _ (Value.str (tx _) _) (Value.int _ _)) _ _ _); first | (refine' r_item (by omega) (by walk_at "tsz") (by walk_at "tsz") ?_; (intro _ _); (try dsimp only)) | (refine' r_itemN (by omega) (by walk_at "tsz") (by walk_at "tsz") ?_; (intro _ _); (try dsimp only))))
  k_with "subscriptTail Name Name str int" => (walk_at "mine item")
  k_with "subscriptTail Name BinOp str int" => (walk_at "mine item")
  k_with "subscriptTail Name Constant str int" => (walk_at "mine item")
  k_with "call builtin:len" => ((k_here; (with_reducible show wpAny _ _ (call (Value.builtin "len") [Value.str (tx _) _]) _ _ _); refine' r_len (by walk_at "tsz") ?_; (intro _ _); (try dsimp only)))
  k_with "truthy str" => ((k_here; (with_reducible show wpAny _ _ (PySem.truthy (Value.str (tx _) _)) _ _ _); (first | (with_reducible refine' r_truthyD (by k_dflt (walk_at "tsz")) ?_ ?_) | (with_reducible refine' r_truthyT (by k_dflt (walk_at "tsz")) ?_ ?_) | (with_reducible refine' r_truthyC (by k_dflt (walk_at "tsz")) ?_ ?_)); (all_goals (intro _ _)); (all_goals (try dsimp only))))
  k_with "compareOp Eq str str" => ((k_here; (first | (with_reducible refine' r_eq1 ?_ ?_) | (with_reducible refine' r_eqC ?_ ?_)); (all_goals (intro _)); (all_goals (try dsimp only))))
  k_with "compareOp NotEq str str" => ((k_here; (first | (with_reducible refine' r_ne1 ?_ ?_) | (with_reducible refine' r_neC ?_ ?_)); (all_goals (intro _)); (all_goals (try dsimp only))))
  k_with "binaryOp Add str str" => ((k_here; (with_reducible show wpAny _ _ (binaryOp PySem.Operator.Add (Value.str (tx _) _) (Value.str (tx _) _)) _ _ _); refine' r_add (by walk_at "tsz") ?_; (intro _ _); (try dsimp only)))
  k_with "inplaceOp Add str str" => ((k_here; (with_reducible show wpAny _ _ (inplaceOp PySem.Operator.Add (Value.str (tx _) _) (Value.str (tx _) _)) _ _ _); refine' r_iadd (by walk_at "tsz") ?_; (intro _ _); (try dsimp only)))
  k_with "call builtin:str.lower" => ((k_here; (with_reducible show wpAny _ _ (call (Value.builtin "str.lower") [Value.str (tx _) _]) _ _ _); refine my_lower (by omega) ?_; intro _ _; (try dsimp only)))
  k_with "stepsN" => (repeat' (((fail_if_success (with_reducible show InvEndN _ _ _ _ _ _ _))); walk_at "mine stp"))
  exact trivial
section
set_option maxRecDepth 100000
set_option maxHeartbeats 8000000
section
local macro_rules | `(tactic| k_all) => `(tactic| exact allNe_lt (by assumption))

theorem imode_ok (w : World) (p : Program) (loose : List Str) (mean : ExcName → Option Value) (mg mb : Str → Option Value) (news : List (Addr × Obj)) (x : Int) (t : Tok) :
   FnOk w p loose mean mg mb 1 90 news True [Value.int x t] (fun v => ∃ t, v = Value.int (Builtin.bitAnd x 4095) t) := by
  dsimp only [FnOk]; intros; rename_i hret
  refine wpAny_call ?_
  k_dflt cell_enter
  walk_at "steps"
  all_goals (refine hret _ _ _ (ktn_int rfl) (by k_asm) (by k_asm))
theorem lines_7 : True := by
  k_with "call ref" => ((k_here; k_dflt (first | o_head (ifmt_ok _ _ _ _ _ _ _ _ _) | o_head (imode_ok _ _ _ _ _ _ _ _ _)); (intro v9 h9 tk9 hp9 F9 N9); (obtain ⟨t9, e9⟩ := hp9); (subst e9); (try dsimp only); (try k_fold)))
  exact trivial
theorem isreg_ok (w : World) (p : Program) (loose : List Str) (mean : ExcName → Option Value) (mg mb : Str → Option Value) (news : List (Addr × Obj)) (x : Int) (t : Tok) :
   FnOk w p loose mean mg mb 2 104 news True [Value.int x t] (fun v => v = Value.bool (decide (Builtin.bitAnd x 61440 = 32768))) := by
  dsimp only [FnOk]; intros; rename_i hret
  refine wpAny_call ?_
  k_dflt cell_enter
  walk_at "steps"
  all_goals (refine hret _ _ _ ?_ (by k_asm) (by k_asm); rfl)
theorem lines_8 : True := by
  k_with "CompSrc" => ((k_here; k_dflt (refine LCg.CompSrc.range (by rfl) (by k_asm) (by k_asm) (by assumption) (by first | decide | rfl) (by first | rfl | decide) (by first | size_fits | exact Nat.le_of_ble_eq_true rfl) ?_; intro g'; lcg_lit)))
  exact trivial
def cf (x : Int) (k : Nat) : Int := (((Builtin.bitAnd x 4095).fdiv (8 ^ (2 - k))).fmod 8).fdiv 2
def cr (x : Int) (k : Nat) : Int := ((Builtin.bitAnd x 4095).fdiv (8 ^ (2 - k))).fmod 2 + (((Builtin.bitAnd x 4095).fdiv (2 ^ (11 - k))).fmod 2) * 2
abbrev tupOf (x : Int) (k : Nat) (t u : Tok) : Obj := { cls := .type "tuple", data := .seq #[.int (cf x k) t, .int (cr x k) u] }
abbrev FnOkC (w : World) (p : Program) (loose : List Str) (mean : ExcName → Option Value) (mg mb : Str → Option Value) (d : Nat) (f : Addr) (news : List (Addr × Obj)) (pre : Prop) (vs : List Value) (x : Int) : Prop :=
  ∀ (dp un : Nat) (gd : Option (List Code)) (cn : Str) (cs : Scope) (a : Addr) (ccd : Value) (cl : List (Str × Addr)) (outer : List Env) (A₀ : Around) (base h₀ : Heap) (L : Addr) (m : Str → Option Value) (s : Shared) (Q E : Value → Shared → Prop),
    Below A₀ base outer h₀ → Fr h₀ L s.heap m → (hd.heap_1 w.params).In h₀ → News h₀ L s.heap news → Top p loose mean mg mb h₀ → cs.kind = .function →
    pre → dp + d < recursionLimit → un + 8 * d < cLine →
    (∀ (D T0 T1 T2 : Addr) (t0 u0 t1 u1 t2 u2 : Tok) (h' : Heap) (tk' : Nat), Fr h₀ L h' m → News h₀ L h' ((D, LCg.lst [.ref T0, .ref T1, .ref T2]) :: (T2, tupOf x 2 t2 u2) :: (T1, tupOf x 1 t1 u1) :: (T0, tupOf x 0 t0 u0) :: news) → Q (.ref D) { s with heap := h', toks := tk' }) →
      wpAny (model PR w) (ktrTop dp un gd cn cs L a ccd cl outer) (call (.ref f) vs) Q E s
theorem cl_ok (w : World) (p : Program) (loose : List Str) (mean : ExcName → Option Value) (mg mb : Str → Option Value) (news : List (Addr × Obj)) (x : Int) (t : Tok) :
   FnOkC w p loose mean mg mb 3 149 news (0 ≤ x ∧ x < 262144) [Value.int x t] x := by
  dsimp only [FnOkC]; intros; rename_i hret
  (refine wpAny_call ?_; k_dflt (refine' code_defC ?k1 ?k2 ?k3 ?k4 ?k5 ?kA ?kF ?kK ?k6 ?k7 ?k8 ?k9 ?kB ?kD ?_ ?c2 ?c3 ?c4; (case kA | kF => exact rfl); (case kK => first | exact rfl | assumption); (case k1 | k2 | k3 | k4 | k5 => k_asm); (case k6 | k7 => k_is); (case k8 => ktr_room); (case k9 => exact BindsTo.of_eq rfl); (case kB => exact rfl); (case kD => decide +kernel); (case c2 | c3 | c4 => exact rfl); k_whole; intro g' L' h' tk' cells' FG' F' N' Y' B' X' T' l1; (have l2 := allLt_succ 1 l1); (have l3 := allLt_succ 2 l1); (try k_lt l1); k_cells Y'; (try simp only [List.cons_append, List.nil_append] at N'); (try dsimp only); (try k_lift B'); (try k_fold)))
  walk_at "stepsC"
  k_dflt (walk_at "mine turn0")
  dsimp only
  walk_at "stepsD"
  walk_at "mine cend"
  k_dflt (walk_at "mine turn1")
  dsimp only
  walk_at "stepsD"
  walk_at "mine cend"
  k_dflt (walk_at "mine turn2")
  dsimp only
  walk_at "stepsD"
  walk_at "mine cend"
  walk_at "stepsD"
  rename Fr _ _ _ _ => kF
  rename News _ _ _ _ => kN
  exact hret _ _ _ _ _ _ _ _ _ _ _ _ kF (news_drop5 kN)
end
end
theorem lines_9 : True := by
  k_with_none
  w_top off
  k_with "mine stp" => (first | (k_unfold; (try dsimp only)) | (k_end; wrow_close) | walk1 | (dsimp only; walk1) | (leave1; walk_say "STEP leave1"; try dsimp only) | fail "no step")
  k_with "stepsP" => (repeat' (((fail_if_success (with_reducible show wpAny _ _ (pyIter _) _ _ _))); ((fail_if_success (with_reducible show TurnEnd _ _ _ _ _ _ _ _))); walk_at "mine stp"))
  k_with "stepsC" => (repeat' (((fail_if_success (with_reducible show LCg.CompRest _ _ _ _ _ _ _ _ _ _ _ _ _ _ _ _ _ _ _)); (fail_if_success (with_reducible show LCg.CompEnd _ _ _ _ _ _ _ _ _ _ _ _ _ _))); walk_at "mine stp"))
  k_with "mine turn2" => ((refine LCg.CompRest.succ ?_; intro v' I' oI' C' oC' D' m' h' tk' E' hv' hC' hx' F' N' off' ne'; (obtain ⟨t9', hv9'⟩ := hv'); (subst hv9'); (replace hx' : m' (Str.ofString "k") = some (Value.int 2 t9') := hx')))
  k_with "mine turn0" => ((refine LCg.CompRest.succ ?_; intro v' I' oI' C' oC' D' m' h' tk' E' hv' hC' hx' F' N' off' ne'; (obtain ⟨t9', hv9'⟩ := hv'); (subst hv9'); (replace hx' : m' (Str.ofString "k") = some (Value.int 0 t9') := hx')))
  k_with "mine cend" => ((k_dflt (refine' compEnd_one (by k_asm) (by k_asm) (by k_ne) (by k_ne) (by k_ne) (by assumption) (by exact trivial) ?_)))
  k_with "mine turn1" => ((refine LCg.CompRest.succ ?_; intro v' I' oI' C' oC' D' m' h' tk' E' hv' hC' hx' F' N' off' ne'; (obtain ⟨t9', hv9'⟩ := hv'); (subst hv9'); (replace hx' : m' (Str.ofString "k") = some (Value.int 1 t9') := hx')))
  k_with "stepsD" => (repeat' (((fail_if_success (with_reducible show LCg.CompEnd _ _ _ _ _ _ _ _ _ _ _ _ _ _)); first | walk1 | (dsimp only; walk1)); (try dsimp only)))
  k_with "mine kargs" => (((case k1 | k2 | k3 | k4 | k5 => k_asm); (case kK => first | exact rfl | assumption); (case kp => first | exact trivial | assumption); (case kd => ktr_room); (case ku => ktr_units)))
  k_with "mine kp" => (first | exact trivial | with_reducible assumption | assumption | omega | exact ⟨by with_reducible assumption, by with_reducible assumption⟩ | exact ⟨by solve_by_elim, by solve_by_elim⟩)
  k_with "steps" => (repeat' (((fail_if_success (with_reducible show wpAny _ _ (PySem.exec (PySem.Stmt.While _ _ _ _) _) _ _ _))); ((fail_if_success (with_reducible show wpAny _ _ (PySem.exec (PySem.Stmt.For _ _ _ _ _) _) _ _ _))); walk_at "mine stp"))
  k_with "tsz" => ((first | omega | (simp only [List.length_drop, List.length_take, List.length_append, List.length_cons, List.length_nil]; omega) | (simp only [List.length_drop, List.length_take, List.length_append, List.length_cons, List.length_nil] at *; omega)))
  k_with "subscriptTail Name Slice str ref" => ((k_here; (with_reducible show wpAny _ _ (subscriptTail _ (PySem.Expr.Slice _ _ none _) (Value.str (tx _) _) _) _ _ _); (rename Fr _ _ _ _ => kTF); (rename News _ _ _ _ => kTN); first | (refine' r_all (s := ⟨_, _, _, _, _⟩) kTF kTN (by walk_at "tsz") ?_; (intro _ _ _ _ _); (try dsimp only)) | (refine' r_drop (s := ⟨_, _, _, _, _⟩) kTF kTN (by omega) (by walk_at "tsz") ?_; (intro _ _ _ _ _); (try dsimp only)) | (refine' r_last (s := ⟨_, _, _, _, _⟩) kTF kTN (by omega) (by walk_at "tsz") ?_; (intro _ _ _ _ _); (try dsimp only)) | (refine' r_take (s := ⟨_, _, _, _, _⟩) kTF kTN (by omega) (by walk_at "tsz") ?_; (intro _ _ _ _ _); (try dsimp only)) | (refine' r_back (s := ⟨_, _, _, _, _⟩) kTF kTN (by omega) (by walk_at "tsz") ?_; (intro _ _ _ _ _); (try dsimp only)) | (refine' r_mid (s := ⟨_, _, _, _, _⟩) kTF kTN (by omega) (by walk_at "tsz") ?_; (intro _ _ _ _ _); (try dsimp only))))
  k_with "mine item" => ((k_here; (with_reducible show wpAny _ _ (subscriptTail _ _ (Value.str (tx _) _) (Value.int _ _)) _ _ _); first | (refine' r_item (by omega) (by walk_at "tsz") (by walk_at "tsz") ?_; (intro _ _); (try dsimp only)) | (refine' r_itemN (by omega) (by walk_at "tsz") (by walk_at "tsz") ?_; (intro _ _); (try dsimp only))))
  k_with "subscriptTail Name Name str int" => (walk_at "mine item")
  k_with "subscriptTail Name BinOp str int" => (walk_at "mine item")
  k_with "subscriptTail Name Constant str int" => (walk_at "mine item")
  k_with "call builtin:len" => ((k_here; (with_reducible show wpAny _ _ (call (Value.builtin "len") [Value.str (tx _) _]) _ _ _); refine' r_len (by walk_at "tsz") ?_; (intro _ _); (try dsimp only)))
  k_with "truthy str" => ((k_here; (with_reducible show wpAny _ _ (PySem.truthy (Value.str (tx _) _)) _ _ _); (first | (with_reducible refine' r_truthyD (by k_dflt (walk_at "tsz")) ?_ ?_) | (with_reducible refine' r_truthyT (by k_dflt (walk_at "tsz")) ?_ ?_) | (with_reducible refine' r_truthyC (by k_dflt (walk_at "tsz")) ?_ ?_)); (all_goals (intro _ _)); (all_goals (try dsimp only))))
  k_with "compareOp Eq str str" => ((k_here; (first | (with_reducible refine' r_eq1 ?_ ?_) | (with_reducible refine' r_eqC ?_ ?_)); (all_goals (intro _)); (all_goals (try dsimp only))))
  k_with "compareOp NotEq str str" => ((k_here; (first | (with_reducible refine' r_ne1 ?_ ?_) | (with_reducible refine' r_neC ?_ ?_)); (all_goals (intro _)); (all_goals (try dsimp only))))
  k_with "binaryOp Add str str" => ((k_here; (with_reducible show wpAny _ _ (binaryOp PySem.Operator.Add (Value.str (tx _) _) (Value.str (tx _) _)) _ _ _); refine' r_add (by walk_at "tsz") ?_; (intro _ _); (try dsimp only)))
  k_with "inplaceOp Add str str" => ((k_here; (with_reducible show wpAny _ _ (inplaceOp PySem.Operator.Add (Value.str (tx _) _) (Value.str (tx _) _)) _ _ _); refine' r_iadd (by walk_at "tsz") ?_; (intro _ _); (try dsimp only)))
  k_with "call builtin:str.lower" => ((k_here; (with_reducible show wpAny _ _ (call (Value.builtin "str.lower") [Value.str (tx _) _]) _ _ _); refine my_lower (by omega) ?_; intro _ _; (try dsimp only)))
  k_with "stepsN" => (repeat' (((fail_if_success (with_reducible show InvEndN _ _ _ _ _ _ _))); walk_at "mine stp"))
  exact trivial
section
set_option maxRecDepth 100000
set_option maxHeartbeats 8000000
section
theorem lines_10 : True := by
  k_with "call ref" => ((k_here; k_dflt (o_head (ifmt_ok _ _ _ _ _ _ _ _ _)); (intro v9 h9 tk9 hp9 F9 N9); (obtain ⟨t9, e9⟩ := hp9); (subst e9); (try dsimp only); (try k_fold)))
  k_with "call ref" => ((k_here; k_dflt (o_head (isreg_ok _ _ _ _ _ _ _ _ _)); (intro v9 h9 tk9 e9 F9 N9); (subst e9); (try dsimp only); (try k_fold)))
  k_with "call ref" => ((k_here; k_dflt (refine' (cl_ok _ _ _ _ _ _ _ _ _) _ _ _ _ _ _ _ _ _ _ _ _ _ _ _ _ _ (by k_asm) (by k_asm) (by k_asm) (by k_asm) (by k_asm) (by first | exact rfl | assumption) (by first | exact trivial | assumption) (by ktr_room) (by ktr_units) ?_); (intro D9 T9 T8 T7 t1 t2 t3 t4 t5 t6 h9 tk9 F9 N9); (try dsimp only); (try k_fold)))
  exact trivial
def knownB (x : Int) : Bool := [1, 2, 4, 6, 8, 10, 12].any fun n => n == (Builtin.bitAnd x 61440).fdiv 4096
theorem lines_11 : True := by
  k_with "stepsG" => (repeat' (walk_at "mine stp"))
  exact trivial
theorem known_ok (w : World) (p : Program) (loose : List Str) (mean : ExcName → Option Value) (mg mb : Str → Option Value) (news : List (Addr × Obj)) (x : Int) (t : Tok) :
   FnOk w p loose mean mg mb 2 156 news True [Value.int x t] (fun v => v = Value.bool (knownB x)) := by
  dsimp only [FnOk]; intros; rename_i hret
  refine wpAny_call ?_
  k_dflt cell_enter
  walk_at "steps"
  exact hret _ _ _ rfl (by k_asm) (cb_drop (by k_asm) fun p hp => .tail _ hp)
def figW (f : Int) : Int := if f = 0 then 0 else if f = 3 then 2 else 1
def shT (x : Int) (k : Nat) : Int := figW (cf x k) + (if 0 < cr x k then 1 else 0)
def shSum (x : Int) : Nat → Int
  | 0 => 0
  | i + 1 => shSum x i + shT x i
def M3 (m : Str → Option Value) (vc vf vr : Option Value) : Str → Option Value := fun y => if y = Str.ofString "run" then vr else if y = Str.ofString "figure" then vf else if y = Str.ofString "count" then vc else m y
theorem M3_eq {m m' : Str → Option Value} (h : ∀ y, y ≠ Str.ofString "run" → y ≠ Str.ofString "figure" → y ≠ Str.ofString "count" → m' y = m y) : m' = M3 m (m' (Str.ofString "count")) (m' (Str.ofString "figure")) (m' (Str.ofString "run")) := by
  funext y
  unfold M3
  by_cases h1 : y = Str.ofString "run"
  · rw [if_pos h1, h1]
  rw [if_neg h1]
  by_cases h2 : y = Str.ofString "figure"
  · rw [if_pos h2, h2]
  rw [if_neg h2]
  by_cases h3 : y = Str.ofString "count"
  · rw [if_pos h3, h3]
  rw [if_neg h3]
  exact h y h1 h2 h3
def ShJ (m : Str → Option Value) (news : List (Addr × Obj)) (x base : Int) (i : Nat) (m' : Str → Option Value) (n' : List (Addr × Obj)) : Prop :=
  n' = news ∧ ∃ t vf vr, m' = M3 m (some (.int (base + shSum x i) t)) vf vr
section
open PySem.Calls PySem.Spec
variable {prog : Program} {w : World} {A : Around} {E : Value → Shared → Prop} {s : Shared} {h₀ : Heap}
theorem loop_sh {env : Env} {D T0 T1 T2 : Addr} {t0 u0 t1 u1 t2 u2 tb : Tok} {x base : Int} {target : Expr} {body orelse : List Stmt} {Q : Flow → Shared → Prop} {m : Str → Option Value} {nw : List (Addr × Obj)}
    (hh : A.handled = none) (F : Fr h₀ env.locals s.heap m) (N : News h₀ env.locals s.heap ((D, LCg.lst [.ref T0, .ref T1, .ref T2]) :: (T2, tupOf x 2 t2 u2) :: (T1, tupOf x 1 t1 u1) :: (T0, tupOf x 0 t0 u0) :: nw))
    (hb : m (Str.ofString "count") = some (.int base tb))
    (step : ∀ (i : Nat) T t u c vf vr I o h₁ tk₁, i < 3 → IsTup h₁ T #[.int (cf x i) t, .int (cr x i) u] → (∀ p ∈ (D, LCg.lst [.ref T0, .ref T1, .ref T2]) :: (T2, tupOf x 2 t2 u2) :: (T1, tupOf x 1 t1 u1) :: (T0, tupOf x 0 t0 u0) :: nw, p.1 < I) → o.cls = .type "list_iterator" →
      Fr h₀ env.locals h₁ (M3 m (some (.int (base + shSum x i) c)) vf vr) → News h₀ env.locals h₁ ((I, o) :: (D, LCg.lst [.ref T0, .ref T1, .ref T2]) :: (T2, tupOf x 2 t2 u2) :: (T1, tupOf x 1 t1 u1) :: (T0, tupOf x 0 t0 u0) :: nw) →
      wpAny (model prog w) A (assign target env (.ref T)) (fun _ s₂ => wpAny (model prog w) A (execs body env) (TurnEnd h₀ env.locals [(I, o)] s (ShJ m ((D, LCg.lst [.ref T0, .ref T1, .ref T2]) :: (T2, tupOf x 2 t2 u2) :: (T1, tupOf x 1 t1 u1) :: (T0, tupOf x 0 t0 u0) :: nw) x base (i + 1)) Q) E s₂) E { s with heap := h₁, toks := tk₁ })
    (done : ∀ c vf vr h' tk, Fr h₀ env.locals h' (M3 m (some (.int (base + shSum x 3) c)) vf vr) → News h₀ env.locals h' ((D, LCg.lst [.ref T0, .ref T1, .ref T2]) :: (T2, tupOf x 2 t2 u2) :: (T1, tupOf x 1 t1 u1) :: (T0, tupOf x 0 t0 u0) :: nw) → wpAny (model prog w) A (execs orelse env) Q E { s with heap := h', toks := tk })
    (hE : PassesOwn (model prog w) A env E) :
    wpAny (model prog w) A (pyIter (.ref D)) (fun it s₂ => codeAny (model prog w) A (.forLoop target it body orelse env) (fun r s' => match r with | .ok f => Q f s' | .error e => cameBackBy (model prog w) A env E e s') s₂) E s := by
  refine loop_listL (items := #[.ref T0, .ref T1, .ref T2]) (.head _) rfl rfl hh F N (fun i m' => ∃ t vf vr, m' = M3 m (some (.int (base + shSum x i) t)) vf vr) ?_ ?_ ?_ hE
  · have e := M3_eq (m := m) (m' := m) (fun _ _ _ _ => rfl)
    rw [hb] at e
    exact ⟨tb, _, _, by rw [show base + shSum x 0 = base from Int.add_zero _]; exact e⟩
  · rintro i v m₁ I o h₁ tk₁ hv ⟨t, vf, vr, em⟩ hlt hc F₁ N₁
    subst em
    match i, hv with
    | 0, hv =>
      have hv : Value.ref T0 = v := by simpa using hv
      subst hv
      exact step 0 T0 t0 u0 t vf vr I o h₁ tk₁ (by decide) ⟨_, (N₁ (T0, tupOf x 0 t0 u0) (by simp)).1, rfl, _, rfl⟩ hlt hc F₁ N₁
    | 1, hv =>
      have hv : Value.ref T1 = v := by simpa using hv
      subst hv
      exact step 1 T1 t1 u1 t vf vr I o h₁ tk₁ (by decide) ⟨_, (N₁ (T1, tupOf x 1 t1 u1) (by simp)).1, rfl, _, rfl⟩ hlt hc F₁ N₁
    | 2, hv =>
      have hv : Value.ref T2 = v := by simpa using hv
      subst hv
      exact step 2 T2 t2 u2 t vf vr I o h₁ tk₁ (by decide) ⟨_, (N₁ (T2, tupOf x 2 t2 u2) (by simp)).1, rfl, _, rfl⟩ hlt hc F₁ N₁
    | i + 3, hv => exact absurd hv (by simp)
  · rintro m' h' tk ⟨t, vf, vr, em⟩ F' N'
    subst em
    exact done t vf vr h' tk F' N'
end
theorem cf_eq (x : Int) (k : Nat) : cf x k = Builtin.bitAnd x 4095 / 8 ^ (2 - k) % 8 / 2 := by
  have h : (0 : Int) ≤ 8 ^ (2 - k) := Int.le_of_lt (Int.pow_pos (by decide))
  unfold cf
  rw [Int.fdiv_eq_ediv_of_nonneg _ h, Int.fmod_eq_emod_of_nonneg _ (by decide), Int.fdiv_eq_ediv_of_nonneg _ (by decide)]
theorem cr_eq (x : Int) (k : Nat) : cr x k = Builtin.bitAnd x 4095 / 8 ^ (2 - k) % 2 + Builtin.bitAnd x 4095 / 2 ^ (11 - k) % 2 * 2 := by
  have h : (0 : Int) ≤ 8 ^ (2 - k) := Int.le_of_lt (Int.pow_pos (by decide))
  have h' : (0 : Int) ≤ 2 ^ (11 - k) := Int.le_of_lt (Int.pow_pos (by decide))
  unfold cr
  rw [Int.fdiv_eq_ediv_of_nonneg _ h, Int.fmod_eq_emod_of_nonneg _ (by decide), Int.fdiv_eq_ediv_of_nonneg _ h', Int.fmod_eq_emod_of_nonneg _ (by decide)]
theorem cf_bounds (x : Int) (k : Nat) : 0 ≤ cf x k ∧ cf x k ≤ 3 := by
  rw [cf_eq]; generalize Builtin.bitAnd x 4095 / 8 ^ (2 - k) = y; omega
theorem cr_bounds (x : Int) (k : Nat) : 0 ≤ cr x k ∧ cr x k ≤ 3 := by
  rw [cr_eq]; generalize Builtin.bitAnd x 4095 / 8 ^ (2 - k) = y; generalize Builtin.bitAnd x 4095 / 2 ^ (11 - k) = z; omega
section
variable {prog : Program} {w : World} {A : Around} {E : Value → Shared → Prop} {s : Shared}
theorem r_tup4 {value slice : PySem.Expr} {D : Addr} {a b c d u : Tok} {f : Int} {Q : Value → Shared → Prop} (ht : IsTup s.heap D #[.int 0 a, .int 1 b, .int 1 c, .int 2 d]) (h0 : 0 ≤ f) (h3 : f ≤ 3) (h : ∀ t, Q (.int (figW f) t) s)
    (hs : subscripted slice false (.ref D) (.int f u) = operate [.ref D, .int f u] (getItem (.ref D) (.int f u))) (hg : ∀ r, letTemporaryGo value (.ref D) r = pure ()) :
    wpAny (model prog w) A (subscriptTail value slice (.ref D) (.int f u)) Q E s := by
  have hf : f = 0 ∨ f = 1 ∨ f = 2 ∨ f = 3 := by omega
  rcases hf with e | e | e | e <;> subst e
  · exact item_tuple ht (by decide) (by decide) (j := 0) rfl rfl (h a) hs hg
  · exact item_tuple ht (by decide) (by decide) (j := 1) rfl rfl (h b) hs hg
  · exact item_tuple ht (by decide) (by decide) (j := 2) rfl rfl (h c) hs hg
  · exact item_tuple ht (by decide) (by decide) (j := 3) rfl rfl (h d) hs hg
end
theorem sh_end {h₀ h' : Heap} {L : Addr} {m m' : Str → Option Value} {news : List (Addr × Obj)} {s : Shared} {Q : Flow → Shared → Prop} {tk i : Nat} {x base c : Int} {t : Tok} {q q' : Addr × Obj} (F : Fr h₀ L h' m') (N : News h₀ L h' (q' :: q :: news))
    (hm : ∀ y, y ≠ Str.ofString "run" → y ≠ Str.ofString "figure" → y ≠ Str.ofString "count" → m' y = m y) (hc : m' (Str.ofString "count") = some (.int c t)) (hs : c = base + shSum x (i + 1)) :
    TurnEnd h₀ L [q] s (ShJ m news x base (i + 1)) Q .next { s with heap := h', toks := tk } :=
  TurnEnd.next news F (fun p hp => N p (.tail _ hp)) ⟨rfl, by
    have e := M3_eq hm
    rw [hc, hs] at e
    exact ⟨t, _, _, e⟩⟩
theorem sh_sum1 {x base : Int} {i : Nat} (h : 0 < cr x i) : base + shSum x i + figW (cf x i) + 1 = base + shSum x (i + 1) := by
  show _ = base + (shSum x i + (figW (cf x i) + (if 0 < cr x i then 1 else 0)))
  rw [if_pos h]; omega
theorem sh_sum0 {x base : Int} {i : Nat} (h : ¬ 0 < cr x i) : base + shSum x i + figW (cf x i) = base + shSum x (i + 1) := by
  show _ = base + (shSum x i + (figW (cf x i) + (if 0 < cr x i then 1 else 0)))
  rw [if_neg h]; omega
theorem lines_12 : True := by
  k_with "subscriptTail Name Name ref int" => ((k_here; k_dflt (refine' r_tup4 (by refine News.isTup (by k_asm) (by k_mem)) (by exact (cf_bounds _ _).1) (by exact (cf_bounds _ _).2) ?_ (by with_unfolding_all rfl) (by intro _; with_unfolding_all rfl)); (intro t8); (try dsimp only)))
  exact trivial
theorem sh_ok (w : World) (p : Program) (loose : List Str) (mean : ExcName → Option Value) (mg mb : Str → Option Value) (news : List (Addr × Obj)) (x : Int) (t : Tok) :
   FnOk w p loose mean mg mb 4 163 news (0 ≤ x ∧ x < 262144) [Value.int x t] (fun v => ∃ t, v = Value.int ((if Builtin.bitAnd x 61440 = 32768 then 0 else 1) + shSum x 3) t) := by
  dsimp only [FnOk]; intros; rename_i hret
  refine wpAny_call ?_
  k_dflt cell_enter
  walk_at "steps"
  · refine' wpAny_For ?_ ?hsA
    case hsA => intro _; rfl
    walk_at "stepsP"
    (rename Fr _ _ _ _ => kF)
    (rename News _ _ _ _ => kN)
    refine' loop_sh (s := ⟨_, _, _, _, _⟩) ?hhA ?hFA ?hNA ?hbA ?stepA ?doneA ?hEA
    case hhA => rfl
    case hFA => exact kF
    case hNA => exact kN
    case hbA => exact rfl
    case hEA => passes_own
    case stepA =>
      intro i T t1 u1 c vf vr I o h1 tk1 hi hT hlt hc F2 N2
      clear kF kN
      unfold M3 at F2
      (try k_lt hlt)
      walk_at "stepsP"
      · (rename Fr _ _ _ _ => kF; rename News _ _ _ _ => kN)
        refine' sh_end (s := ⟨_, _, _, _, _⟩) kF kN ?M1A ?C1A ?S1A
        case M1A => intro y e1 e2 e3; simp only [if_neg e1, if_neg e2, if_neg e3]
        case C1A => exact rfl
        case S1A => first | exact sh_sum1 (by assumption) | exact sh_sum0 (by omega)
      · (rename Fr _ _ _ _ => kF; rename News _ _ _ _ => kN)
        refine' sh_end (s := ⟨_, _, _, _, _⟩) kF kN ?M2A ?C2A ?S2A
        case M2A => intro y e1 e2 e3; simp only [if_neg e1, if_neg e2, if_neg e3]
        case C2A => exact rfl
        case S2A => first | exact sh_sum1 (by assumption) | exact sh_sum0 (by omega)
    case doneA =>
      intro c vf vr h1 tk1 F2 N2
      clear kF kN
      unfold M3 at F2
      walk_at "stepsP"
      exact hret _ _ _ ⟨_, by first | (rw [if_pos (by assumption)]) | (rw [if_neg (by assumption)])⟩ (by k_asm) (cb_drop (by k_asm) fun p hp => .tail _ (.tail _ (.tail _ (.tail _ hp))))
  · refine' wpAny_For ?_ ?hsB
    case hsB => intro _; rfl
    walk_at "stepsP"
    (rename Fr _ _ _ _ => kF)
    (rename News _ _ _ _ => kN)
    refine' loop_sh (s := ⟨_, _, _, _, _⟩) ?hhB ?hFB ?hNB ?hbB ?stepB ?doneB ?hEB
    case hhB => rfl
    case hFB => exact kF
    case hNB => exact kN
    case hbB => exact rfl
    case hEB => passes_own
    case stepB =>
      intro i T t1 u1 c vf vr I o h1 tk1 hi hT hlt hc F2 N2
      clear kF kN
      unfold M3 at F2
      (try k_lt hlt)
      walk_at "stepsP"
      · (rename Fr _ _ _ _ => kF; rename News _ _ _ _ => kN)
        refine' sh_end (s := ⟨_, _, _, _, _⟩) kF kN ?M1B ?C1B ?S1B
        case M1B => intro y e1 e2 e3; simp only [if_neg e1, if_neg e2, if_neg e3]
        case C1B => exact rfl
        case S1B => first | exact sh_sum1 (by assumption) | exact sh_sum0 (by omega)
      · (rename Fr _ _ _ _ => kF; rename News _ _ _ _ => kN)
        refine' sh_end (s := ⟨_, _, _, _, _⟩) kF kN ?M2B ?C2B ?S2B
        case M2B => intro y e1 e2 e3; simp only [if_neg e1, if_neg e2, if_neg e3]
        case C2B => exact rfl
        case S2B => first | exact sh_sum1 (by assumption) | exact sh_sum0 (by omega)
    case doneB =>
      intro c vf vr h1 tk1 F2 N2
      clear kF kN
      unfold M3 at F2
      walk_at "stepsP"
      exact hret _ _ _ ⟨_, by first | (rw [if_pos (by assumption)]) | (rw [if_neg (by assumption)])⟩ (by k_asm) (cb_drop (by k_asm) fun p hp => .tail _ (.tail _ (.tail _ (.tail _ hp))))
end
end
section
set_option maxRecDepth 100000
section
def clsP (a b : Int) (k : Nat) : Prop := Builtin.bitAnd (cf a k) (cf b k) = cf a k ∧ (0 < cr a k → cr a k = cr b k)
def kindP (a b : Int) : Prop := Builtin.bitAnd a 61440 = 32768 ∨ (knownB a = knownB b ∧ (knownB a = true → Builtin.bitAnd a 61440 = Builtin.bitAnd b 61440))
def insideP (a b : Int) : Prop := kindP a b ∧ ∀ k : Nat, k < 3 → clsP a b k
def shown (x : Int) : Int := (if Builtin.bitAnd x 61440 = 32768 then 0 else 1) + shSum x 3
theorem and_one (n a : Nat) : n &&& 2 ^ a = 2 ^ a ↔ n.testBit a = true := by
  constructor
  · intro h
    have := congrArg (Nat.testBit · a) h
    simpa [Nat.testBit_and, Nat.testBit_two_pow] using this
  · intro h
    apply Nat.eq_of_testBit_eq
    intro i
    rw [Nat.testBit_and, Nat.testBit_two_pow]
    by_cases e : a = i
    · subst e; simp [h]
    · simp [e]
theorem and_two (n a b : Nat) : n &&& (2 ^ a ||| 2 ^ b) = 2 ^ a ||| 2 ^ b ↔ n.testBit a = true ∧ n.testBit b = true := by
  constructor
  · intro h
    have h1 := congrArg (Nat.testBit · a) h
    have h2 := congrArg (Nat.testBit · b) h
    simp only [Nat.testBit_and, Nat.testBit_or, Nat.testBit_two_pow] at h1 h2
    simp at h1 h2
    exact ⟨h1, h2⟩
  · rintro ⟨h1, h2⟩
    apply Nat.eq_of_testBit_eq
    intro i
    rw [Nat.testBit_and, Nat.testBit_or, Nat.testBit_two_pow, Nat.testBit_two_pow]
    by_cases e : a = i
    · subst e; simp [h1]
    · by_cases e2 : b = i
      · subst e2; simp [h2]
      · simp [e, e2]
theorem bit_iff {x : Int} (hx : 0 ≤ x) (a : Nat) : x.toNat.testBit a = true ↔ x / 2 ^ a % 2 = 1 := by
  obtain ⟨n, rfl⟩ := Int.eq_ofNat_of_zero_le hx
  rw [Int.toNat_natCast, Nat.testBit_eq_decide_div_mod_eq, decide_eq_true_iff]
  have : ((n : Int) / 2 ^ a % 2) = ((n / 2 ^ a % 2 : Nat) : Int) := by simp
  rw [this]; omega
theorem bit1 {x : Int} (hx : 0 ≤ x) (m a : Nat) (hm : m = 2 ^ a) : Builtin.bitAnd x (m : Int) = (m : Int) ↔ x / 2 ^ a % 2 = 1 := by
  rw [bitAnd_pp hx (by omega), Int.toNat_natCast, ← bit_iff hx a, ← and_one, hm]; omega
theorem bit2 {x : Int} (hx : 0 ≤ x) (m a b : Nat) (hm : m = 2 ^ a ||| 2 ^ b) : Builtin.bitAnd x (m : Int) = (m : Int) ↔ (x / 2 ^ a % 2 = 1 ∧ x / 2 ^ b % 2 = 1) := by
  rw [bitAnd_pp hx (by omega), Int.toNat_natCast, ← bit_iff hx a, ← bit_iff hx b, ← and_two, hm]; omega
theorem mask12 (x : Int) : Builtin.bitAnd x 4095 = x % 4096 := kbt_mask x 12
theorem mode_q {x : Int} (hx : 0 ≤ x) : Builtin.bitAnd x 61440 = 4096 * (x / 4096 % 16) := by
  obtain ⟨n, rfl⟩ := Int.eq_ofNat_of_zero_le hx
  rw [bitAnd_pp hx (by omega)]
  have e : n &&& 61440 = 4096 * (n / 4096 % 16) := by
    apply Nat.eq_of_testBit_eq
    intro i
    rw [show (61440 : Nat) = 2 ^ 12 * (2 ^ 4 - 1) from rfl, show (4096 : Nat) = 2 ^ 12 from rfl, show (16 : Nat) = 2 ^ 4 from rfl, Nat.testBit_and, Nat.testBit_two_pow_mul, Nat.testBit_two_pow_mul, Nat.testBit_two_pow_sub_one, Nat.testBit_mod_two_pow, Nat.testBit_div_two_pow]
    by_cases h : 12 ≤ i
    · rw [show i - 12 + 12 = i by omega]
      simp [h, Bool.and_comm]
    · simp [h]
  rw [show Int.toNat 61440 = 61440 from rfl, Int.toNat_natCast, e]
  omega
def rdS (f : Int) : Nat := if 2 ≤ f then 114 else 45
def wrS (f : Int) : Nat := if f % 2 = 1 then 119 else 45
def rnS (s t : Nat) (c : Int) : Nat := if c = 3 then s else if c = 2 then t else if c = 1 then 120 else 45
def kdS (q : Int) : Nat := if q = 10 then 108 else if q = 12 then 115 else if q = 8 then 45 else if q = 6 then 98 else if q = 4 then 100 else if q = 2 then 99 else if q = 1 then 112 else 63
def kq (x : Int) : Int := x / 4096 % 16
theorem dm8 (y : Int) : y % 8 / 2 = 2 * (y / 4 % 2) + y / 2 % 2 := by omega
theorem cut12 (x : Int) (a b : Int) (ha : 0 < a) (hab : a * b = 4096) : x % 4096 / a = x / a % b := by
  have h := Int.emod_add_mul_ediv x (a * b)
  have hb : 0 < b := by
    rcases Int.lt_trichotomy b 0 with h0 | h0 | h0
    · have := Int.mul_neg_of_pos_of_neg ha h0; omega
    · rw [h0, Int.mul_zero] at hab; omega
    · exact h0
  have e1 : x / a / b = x / (a * b) := Int.ediv_ediv_of_nonneg (Int.le_of_lt ha)
  have e2 : x / a % b = x / a - b * (x / a / b) := by
    have := Int.emod_add_mul_ediv (x / a) b; omega
  rw [e2, e1, ← hab]
  have e3 : x % (a * b) = x + a * (-(b * (x / (a * b)))) := by
    rw [Int.mul_neg, ← Int.mul_assoc]; omega
  rw [e3, Int.add_mul_ediv_left _ _ (Int.ne_of_gt ha)]
  omega
theorem dd (x a b c : Int) (ha : 0 ≤ a) (h : a * b = c) : x / a / b = x / c := by rw [Int.ediv_ediv_of_nonneg ha, h]
theorem mod8 (y b : Int) (h : 8 ∣ b) : y % b % 8 = y % 8 := Int.emod_emod_of_dvd y h
theorem mod2 (y b : Int) (h : 2 ∣ b) : y % b % 2 = y % 2 := Int.emod_emod_of_dvd y h
theorem cf_bits {x : Int} {k : Nat} (hk : k < 3) : cf x k = 2 * (x / 2 ^ (8 - 3 * k) % 2) + x / 2 ^ (7 - 3 * k) % 2 := by
  rw [cf_eq, mask12]
  have : k = 0 ∨ k = 1 ∨ k = 2 := by omega
  rcases this with rfl | rfl | rfl
  · show x % 4096 / 64 % 8 / 2 = 2 * (x / 256 % 2) + x / 128 % 2
    rw [cut12 x 64 64 (by decide) (by decide), mod8 _ _ (by decide), dm8, dd x 64 4 256 (by decide) (by decide), dd x 64 2 128 (by decide) (by decide)]
  · show x % 4096 / 8 % 8 / 2 = 2 * (x / 32 % 2) + x / 16 % 2
    rw [cut12 x 8 512 (by decide) (by decide), mod8 _ _ (by decide), dm8, dd x 8 4 32 (by decide) (by decide), dd x 8 2 16 (by decide) (by decide)]
  · show x % 4096 / 1 % 8 / 2 = 2 * (x / 4 % 2) + x / 2 % 2
    rw [cut12 x 1 4096 (by decide) (by decide), mod8 _ _ (by decide), dm8, Int.ediv_one]
theorem cr_bits {x : Int} {k : Nat} (hk : k < 3) : cr x k = x / 2 ^ (6 - 3 * k) % 2 + 2 * (x / 2 ^ (11 - k) % 2) := by
  rw [cr_eq, mask12]
  have : k = 0 ∨ k = 1 ∨ k = 2 := by omega
  rcases this with rfl | rfl | rfl
  · show x % 4096 / 64 % 2 + x % 4096 / 2048 % 2 * 2 = x / 64 % 2 + 2 * (x / 2048 % 2)
    rw [cut12 x 64 64 (by decide) (by decide), mod2 _ _ (by decide), cut12 x 2048 2 (by decide) (by decide), mod2 _ _ (by decide), Int.mul_comm]
  · show x % 4096 / 8 % 2 + x % 4096 / 1024 % 2 * 2 = x / 8 % 2 + 2 * (x / 1024 % 2)
    rw [cut12 x 8 512 (by decide) (by decide), mod2 _ _ (by decide), cut12 x 1024 4 (by decide) (by decide), mod2 _ _ (by decide), Int.mul_comm]
  · show x % 4096 / 1 % 2 + x % 4096 / 512 % 2 * 2 = x / 1 % 2 + 2 * (x / 512 % 2)
    rw [cut12 x 1 4096 (by decide) (by decide), mod2 _ _ (by decide), cut12 x 512 8 (by decide) (by decide), mod2 _ _ (by decide), Int.mul_comm]
theorem sel1 {x : Int} (hx : 0 ≤ x) (i m a c : Nat) (hi : i ≠ 0) (hm : m = 2 ^ a) : selT i x [((m : Int), c)] = if x / 2 ^ a % 2 = 1 then c else 45 := by
  simp only [selT, if_neg hi, bit1 hx m a hm]
theorem sel3 {x : Int} (hx : 0 ≤ x) (i m m1 m2 a b c d : Nat) (hi : i ≠ 0) (hm : m = 2 ^ a ||| 2 ^ b) (h1 : m1 = 2 ^ a) (h2 : m2 = 2 ^ b) :
    selT i x [((m : Int), c), ((m1 : Int), d), ((m2 : Int), 120)] = rnS c d (x / 2 ^ b % 2 + 2 * (x / 2 ^ a % 2)) := by
  simp only [selT, if_neg hi, bit1 hx m1 a h1, bit1 hx m2 b h2, bit2 hx m a b hm, rnS]
  generalize x / 2 ^ a = y
  generalize x / 2 ^ b = z
  have h1 : y % 2 = 0 ∨ y % 2 = 1 := by omega
  have h2 : z % 2 = 0 ∨ z % 2 = 1 := by omega
  rcases h1 with h1 | h1 <;> rcases h2 with h2 | h2 <;> simp [h1, h2]
theorem m4096 (q k : Int) : 4096 * q = 4096 * k ↔ q = k := by omega
theorem kd_of (q : Int) : (if 4096 * q = 40960 then 108 else if 4096 * q = 49152 then 115 else if 4096 * q = 32768 then 45 else if 4096 * q = 24576 then 98 else if 4096 * q = 16384 then 100 else if 4096 * q = 8192 then 99 else if 4096 * q = 4096 then 112 else 63) = kdS q := by
  have h10 : (4096 * q = 40960) ↔ q = 10 := m4096 q 10
  have h12 : (4096 * q = 49152) ↔ q = 12 := m4096 q 12
  have h8 : (4096 * q = 32768) ↔ q = 8 := m4096 q 8
  have h6 : (4096 * q = 24576) ↔ q = 6 := m4096 q 6
  have h4 : (4096 * q = 16384) ↔ q = 4 := m4096 q 4
  have h2 : (4096 * q = 8192) ↔ q = 2 := m4096 q 2
  have h1 : (4096 * q = 4096) ↔ q = 1 := m4096 q 1
  simp only [kdS, h10, h12, h8, h6, h4, h2, h1]
theorem sel0 {x : Int} (hx : 0 ≤ x) : selT 0 x [(40960, 108), (49152, 115), (32768, 45), (24576, 98), (16384, 100), (8192, 99), (4096, 112)] = kdS (kq x) := by
  simp only [selT, if_true, mode_q hx]
  exact kd_of _
theorem rd_of (y z : Int) : rdS (2 * (y % 2) + z % 2) = if y % 2 = 1 then 114 else 45 := by
  unfold rdS; split <;> split <;> omega
theorem wr_of (y z : Int) : wrS (2 * (y % 2) + z % 2) = if z % 2 = 1 then 119 else 45 := by
  unfold wrS; split <;> split <;> omega
theorem listing_eq {x : Int} (hx : 0 ≤ x) : listing x = [kdS (kq x), rdS (cf x 0), wrS (cf x 0), rnS 115 83 (cr x 0), rdS (cf x 1), wrS (cf x 1), rnS 115 83 (cr x 1), rdS (cf x 2), wrS (cf x 2), rnS 116 84 (cr x 2)] := by
  rw [cf_bits (by decide : 0 < 3), cf_bits (by decide : 1 < 3), cf_bits (by decide : 2 < 3), cr_bits (by decide : 0 < 3), cr_bits (by decide : 1 < 3), cr_bits (by decide : 2 < 3)]
  simp only [rd_of, wr_of]
  rw [← sel0 hx]
  show [selT 0 x _, selT 1 x _, selT 2 x _, selT 3 x _, selT 4 x _, selT 5 x _, selT 6 x _, selT 7 x _, selT 8 x _, selT 9 x _] = _
  have e1 := sel1 hx 1 256 8 114 (by decide) rfl
  have e2 := sel1 hx 2 128 7 119 (by decide) rfl
  have e3 := sel3 hx 3 2112 2048 64 11 6 115 83 (by decide) rfl rfl rfl
  have e4 := sel1 hx 4 32 5 114 (by decide) rfl
  have e5 := sel1 hx 5 16 4 119 (by decide) rfl
  have e6 := sel3 hx 6 1032 1024 8 10 3 115 83 (by decide) rfl rfl rfl
  have e7 := sel1 hx 7 4 2 114 (by decide) rfl
  have e8 := sel1 hx 8 2 1 119 (by decide) rfl
  have e9 := sel3 hx 9 513 512 1 9 0 116 84 (by decide) rfl rfl rfl
  refine congr (congrArg _ rfl) ?_
  refine congr (congrArg _ e1) ?_
  refine congr (congrArg _ e2) ?_
  refine congr (congrArg _ e3) ?_
  refine congr (congrArg _ e4) ?_
  refine congr (congrArg _ e5) ?_
  refine congr (congrArg _ e6) ?_
  refine congr (congrArg _ e7) ?_
  refine congr (congrArg _ e8) ?_
  refine congr (congrArg _ e9) rfl
theorem four {f : Int} (h : 0 ≤ f ∧ f ≤ 3) : f = 0 ∨ f = 1 ∨ f = 2 ∨ f = 3 := by omega
theorem kq_b (x : Int) : 0 ≤ kq x ∧ kq x ≤ 15 := by unfold kq; omega
theorem cnt_listing {x : Int} (hx : 0 ≤ x) : cnt (listing x) = shown x := by
  have hf : ∀ f : Int, 0 ≤ f ∧ f ≤ 3 → nm (rdS f) + nm (wrS f) = figW f := by
    intro f h
    rcases four h with rfl | rfl | rfl | rfl <;> rfl
  have hr : ∀ s t : Nat, s ≠ 45 → t ≠ 45 → ∀ f : Int, 0 ≤ f ∧ f ≤ 3 → nm (rnS s t f) = if 0 < f then 1 else 0 := by
    intro s t hs ht f h
    rcases four h with rfl | rfl | rfl | rfl <;> simp [rnS, nm, hs, ht]
  have hk : nm (kdS (kq x)) = if Builtin.bitAnd x 61440 = 32768 then 0 else 1 := by
    rw [mode_q hx, show x / 4096 % 16 = kq x from rfl]
    generalize kq x = q
    unfold kdS
    by_cases h : q = 8
    · subst h; rfl
    · rw [if_neg (show ¬ 4096 * q = 32768 by omega)]
      rw [if_neg h]
      (repeat' split) <;> rfl
  have c0 := cf_bounds x 0
  have c1 := cf_bounds x 1
  have c2 := cf_bounds x 2
  have r0 := cr_bounds x 0
  have r1 := cr_bounds x 1
  have r2 := cr_bounds x 2
  rw [listing_eq hx]
  simp only [cnt, shown, shSum, shT, hk, hr 115 83 (by decide) (by decide) _ r0, hr 115 83 (by decide) (by decide) _ r1, hr 116 84 (by decide) (by decide) _ r2, ← hf _ c0, ← hf _ c1, ← hf _ c2]
  omega
theorem insL_cons {a b : Nat} {A B : List Nat} : insL (a :: A) (b :: B) ↔ (a = 45 ∨ a = b) ∧ insL A B := by
  constructor
  · intro h
    exact ⟨h 0 (by simp), fun k hk => h (k + 1) (by simpa using hk)⟩
  · rintro ⟨h1, h2⟩ k hk
    cases k with
    | zero => exact h1
    | succ k => exact h2 k (by simpa using hk)
theorem fig_iff {f g : Int} (hf : 0 ≤ f ∧ f ≤ 3) (hg : 0 ≤ g ∧ g ≤ 3) : ((rdS f = 45 ∨ rdS f = rdS g) ∧ (wrS f = 45 ∨ wrS f = wrS g)) ↔ Builtin.bitAnd f g = f := by
  rcases four hf with rfl | rfl | rfl | rfl <;> rcases four hg with rfl | rfl | rfl | rfl <;> decide
theorem run_iff {s t : Nat} (h1 : s ≠ 45 ∧ s ≠ 120) (h2 : t ≠ 45 ∧ t ≠ 120 ∧ t ≠ s) {f g : Int} (hf : 0 ≤ f ∧ f ≤ 3) (hg : 0 ≤ g ∧ g ≤ 3) : (rnS s t f = 45 ∨ rnS s t f = rnS s t g) ↔ (0 < f → f = g) := by
  obtain ⟨a1, a2⟩ := h1
  obtain ⟨b1, b2, b3⟩ := h2
  rcases four hf with rfl | rfl | rfl | rfl <;> rcases four hg with rfl | rfl | rfl | rfl <;> simp [rnS, a1, a2, b1, b2, b3, Ne.symm a2, Ne.symm b2, Ne.symm b3]
theorem kind_iff {x y : Int} (hx : 0 ≤ x) (hy : 0 ≤ y) : (kdS (kq x) = 45 ∨ kdS (kq x) = kdS (kq y)) ↔ kindP x y := by
  have key : ∀ p q : Fin 16, (kdS ((p.val : Nat) : Int) = 45 ∨ kdS ((p.val : Nat) : Int) = kdS ((q.val : Nat) : Int)) ↔
      ((p.val = 8) ∨ (([1, 2, 4, 6, 8, 10, 12].any fun n => n == p.val) = ([1, 2, 4, 6, 8, 10, 12].any fun n => n == q.val) ∧ (([1, 2, 4, 6, 8, 10, 12].any fun n => n == p.val) = true → p.val = q.val))) := by decide +kernel
  have hk : ∀ z : Int, 0 ≤ z → ∃ p : Fin 16, kq z = ((p.val : Nat) : Int) ∧ Builtin.bitAnd z 61440 = 4096 * ((p.val : Nat) : Int) ∧ knownB z = ([1, 2, 4, 6, 8, 10, 12].any fun n => n == p.val) := by
    intro z hz
    have hb := kq_b z
    obtain ⟨n, hn⟩ := Int.eq_ofNat_of_zero_le hb.1
    refine ⟨⟨n, by omega⟩, hn, ?_, ?_⟩
    · rw [mode_q hz, show z / 4096 % 16 = kq z from rfl, hn]
    · unfold knownB
      rw [mode_q hz, show z / 4096 % 16 = kq z from rfl, Int.fdiv_eq_ediv_of_nonneg _ (by decide), Int.mul_ediv_cancel_left _ (by decide), hn]
      have e : ∀ a : Nat, (((a : Int) == (n : Int)) : Bool) = (a == n) := fun a => by
        rw [Bool.eq_iff_iff]; simp; omega
      have e1 := e 1; have e2 := e 2; have e4 := e 4; have e6 := e 6; have e8 := e 8; have e10 := e 10; have e12 := e 12
      simp only [List.any_cons, List.any_nil]
      exact congr (congrArg or e1) (congr (congrArg or e2) (congr (congrArg or e4) (congr (congrArg or e6) (congr (congrArg or e8) (congr (congrArg or e10) (congr (congrArg or e12) rfl))))))
  obtain ⟨p, p1, p2, p3⟩ := hk x hx
  obtain ⟨q, q1, q2, q3⟩ := hk y hy
  rw [p1, q1, key]
  unfold kindP
  rw [p2, q2, p3, q3]
  have e1 : (4096 * ((p.val : Nat) : Int) = 32768) ↔ p.val = 8 := by omega
  have e2 : (4096 * ((p.val : Nat) : Int) = 4096 * ((q.val : Nat) : Int)) ↔ p.val = q.val := by omega
  rw [e1, e2]
theorem inside_listing {x y : Int} (hx : 0 ≤ x) (hy : 0 ≤ y) : insL (listing x) (listing y) ↔ insideP x y := by
  rw [listing_eq hx, listing_eq hy]
  simp only [insL_cons]
  have hn : insL [] [] ↔ True := ⟨fun _ => trivial, fun _ k hk => by simp at hk⟩
  rw [hn]
  have f0 := fig_iff (cf_bounds x 0) (cf_bounds y 0)
  have f1 := fig_iff (cf_bounds x 1) (cf_bounds y 1)
  have f2 := fig_iff (cf_bounds x 2) (cf_bounds y 2)
  have r0 := run_iff (s := 115) (t := 83) (by decide) (by decide) (cr_bounds x 0) (cr_bounds y 0)
  have r1 := run_iff (s := 115) (t := 83) (by decide) (by decide) (cr_bounds x 1) (cr_bounds y 1)
  have r2 := run_iff (s := 116) (t := 84) (by decide) (by decide) (cr_bounds x 2) (cr_bounds y 2)
  rw [kind_iff hx hy, r0, r1, r2]
  unfold insideP
  have h3 : (∀ k : Nat, k < 3 → clsP x y k) ↔ (clsP x y 0 ∧ clsP x y 1 ∧ clsP x y 2) := by
    constructor
    · intro h; exact ⟨h 0 (by decide), h 1 (by decide), h 2 (by decide)⟩
    · rintro ⟨h0, h1, h2⟩ k hk
      have : k = 0 ∨ k = 1 ∨ k = 2 := by omega
      rcases this with rfl | rfl | rfl <;> assumption
  rw [h3]
  unfold clsP
  rw [← f0, ← f1, ← f2]
  constructor
  · rintro ⟨k, a, b, c, d, e, f, g, h, i, _⟩
    exact ⟨k, ⟨⟨a, b⟩, c⟩, ⟨⟨d, e⟩, f⟩, ⟨⟨g, h⟩, i⟩⟩
  · rintro ⟨k, ⟨⟨a, b⟩, c⟩, ⟨⟨d, e⟩, f⟩, ⟨⟨g, h⟩, i⟩⟩
    exact ⟨k, a, b, c, d, e, f, g, h, i, trivial⟩
/-- the signs that a listing may bear -/
def okS : List Nat := [45, 63, 112, 99, 100, 98, 108, 115, 114, 119, 120, 83, 116, 84]
theorem kdS_ok (q : Int) : kdS q ∈ okS := by unfold kdS; (repeat' split) <;> decide
theorem rdS_ok (q : Int) : rdS q ∈ okS := by unfold rdS; (repeat' split) <;> decide
theorem wrS_ok (q : Int) : wrS q ∈ okS := by unfold wrS; (repeat' split) <;> decide
theorem rnS_ok {s t : Nat} (hs : s ∈ okS) (ht : t ∈ okS) (q : Int) : rnS s t q ∈ okS := by unfold rnS; (repeat' split) <;> first | assumption | decide
theorem listing_ok {x : Int} (hx : 0 ≤ x) : ∀ c ∈ listing x, c ∈ okS := by
  rw [listing_eq hx]
  simp only [List.forall_mem_cons, List.not_mem_nil, false_implies, implies_true, and_true]
  exact ⟨kdS_ok _, rdS_ok _, wrS_ok _, rnS_ok (by decide) (by decide) _, rdS_ok _, wrS_ok _, rnS_ok (by decide) (by decide) _, rdS_ok _, wrS_ok _, rnS_ok (by decide) (by decide) _⟩
theorem okS_lt {c : Nat} (h : c ∈ okS) : c < 128 := (by decide : ∀ c ∈ okS, c < 128) c h
theorem listing_len (x : Int) : (listing x).length = 10 := by simp [listing, tabs]
theorem cost_sym (a b : Nat) : costF a b = costF b a := by
  unfold costF
  by_cases h : a = b
  · subst h; rfl
  · rw [if_neg h, if_neg (Ne.symm h)]
    by_cases h2 : lo1 a = lo1 b
    · rw [if_pos h2, if_pos h2.symm]
    · rw [if_neg h2, if_neg (Ne.symm h2)]
theorem lo1_three {a b c : Nat} (h1 : lo1 a = lo1 b) (h2 : lo1 b = lo1 c) : a = b ∨ b = c ∨ a = c := by
  unfold lo1 at *
  (repeat' split at h1) <;> (repeat' split at h2) <;> omega
theorem cost_tri (a b c : Nat) : costF a c ≤ costF a b + costF b c := by
  unfold costF
  by_cases h1 : a = b
  · subst h1; rw [if_pos rfl]; omega
  by_cases h2 : b = c
  · subst h2; rw [if_pos (rfl : b = b)]; omega
  by_cases h3 : a = c
  · rw [if_pos h3]; split <;> split <;> (try split) <;> (try split) <;> omega
  rw [if_neg h1, if_neg h2, if_neg h3]
  by_cases e1 : lo1 a = lo1 b <;> by_cases e2 : lo1 b = lo1 c
  · exact absurd (lo1_three e1 e2) (by omega)
  · rw [if_pos e1, if_neg e2]; split <;> omega
  · rw [if_neg e1, if_pos e2]; split <;> omega
  · rw [if_neg e1, if_neg e2]; split <;> omega
theorem cost_lip (c a b : Nat) : costF c b - costF c a ≤ costF b a ∧ costF c a - costF c b ≤ costF b a := by
  have h1 := cost_tri c a b
  have h2 := cost_tri c b a
  rw [cost_sym a b] at h1
  omega
/-- the same with its first sign put behind all -/
def turnL : List Nat → List Nat
  | [] => []
  | c :: w => w ++ [c]
theorem turn_cost (c l0 l1 l2 l3 l4 l5 l6 l7 l8 l9 : Nat)
    (h0 : costF c l0 = 0 ∨ costF c l1 = 0 ∨ costF c l2 = 0)
    (h2 : costF c l0 = 2 ∨ costF c l1 = 2 ∨ costF c l2 = 2 ∨ costF c l3 = 2 ∨ costF c l4 = 2 ∨ costF c l5 = 2 ∨ costF c l6 = 2 ∨ costF c l7 = 2 ∨ costF c l8 = 2 ∨ costF c l9 = 2) :
    4 ≤ dsum [l0, l1, l2, l3, l4, l5, l6, l7, l8, l9] [l1, l2, l3, l4, l5, l6, l7, l8, l9, l0] := by
  simp only [dsum]
  have a0 := cost_lip c l0 l1
  have a1 := cost_lip c l1 l2
  have a2 := cost_lip c l2 l3
  have a3 := cost_lip c l3 l4
  have a4 := cost_lip c l4 l5
  have a5 := cost_lip c l5 l6
  have a6 := cost_lip c l6 l7
  have a7 := cost_lip c l7 l8
  have a8 := cost_lip c l8 l9
  have a9 := cost_lip c l9 l0
  generalize costF l1 l0 = b0 at *
  generalize costF l2 l1 = b1 at *
  generalize costF l3 l2 = b2 at *
  generalize costF l4 l3 = b3 at *
  generalize costF l5 l4 = b4 at *
  generalize costF l6 l5 = b5 at *
  generalize costF l7 l6 = b6 at *
  generalize costF l8 l7 = b7 at *
  generalize costF l9 l8 = b8 at *
  generalize costF l0 l9 = b9 at *
  generalize costF c l0 = d0 at *
  generalize costF c l1 = d1 at *
  generalize costF c l2 = d2 at *
  generalize costF c l3 = d3 at *
  generalize costF c l4 = d4 at *
  generalize costF c l5 = d5 at *
  generalize costF c l6 = d6 at *
  generalize costF c l7 = d7 at *
  generalize costF c l8 = d8 at *
  generalize costF c l9 = d9 at *
  rcases h0 with h0 | h0 | h0 <;> rcases h2 with h2 | h2 | h2 | h2 | h2 | h2 | h2 | h2 | h2 | h2 <;> omega
theorem cost_45 {c : Nat} (h : c ≠ 45) : costF 45 c = 2 := by
  unfold costF lo1
  rw [if_neg (Ne.symm h)]
  split <;> (try split) <;> omega
theorem dsum_sym : ∀ A B : List Nat, dsum A B = dsum B A
  | [], [] => rfl
  | [], _ :: _ => rfl
  | _ :: _, [] => rfl
  | a :: A, b :: B => by rw [dsum, dsum, dsum_sym A B, cost_sym]
theorem cnt_nn : ∀ A : List Nat, 0 ≤ cnt A
  | [] => Int.le_refl _
  | c :: r => Int.add_nonneg (nm_b c).1 (cnt_nn r)
theorem cnt_zero : ∀ {A : List Nat}, cnt A ≤ 0 → ∀ c ∈ A, c = 45
  | [], _, c, hc => nomatch hc
  | a :: r, h, c, hc => by
    have h1 := nm_b a
    have h2 := cnt_nn r
    rw [cnt] at h
    rcases List.mem_cons.mp hc with e | hc
    · rw [e]
      apply Classical.byContradiction
      intro ha
      rw [nm, if_neg ha] at h
      omega
    · exact cnt_zero (by omega) c hc
theorem turn_dsum {x : Int} (hx : 0 ≤ x) : (shown x ≤ 0 → dsum (listing x) (turnL (listing x)) = 0) ∧ (0 < shown x → 4 ≤ dsum (listing x) (turnL (listing x))) := by
  rw [← cnt_listing hx, listing_eq hx]
  have h1 : rdS (cf x 0) = 114 ∨ rdS (cf x 0) = 45 := by unfold rdS; split <;> simp
  have h2 : wrS (cf x 0) = 119 ∨ wrS (cf x 0) = 45 := by unfold wrS; split <;> simp
  generalize rdS (cf x 0) = l1 at *
  generalize wrS (cf x 0) = l2 at *
  generalize kdS (kq x) = l0
  generalize rdS (cf x 1) = l4
  generalize wrS (cf x 1) = l5
  generalize rdS (cf x 2) = l7
  generalize wrS (cf x 2) = l8
  generalize rnS 115 83 (cr x 0) = l3
  generalize rnS 115 83 (cr x 1) = l6
  generalize rnS 116 84 (cr x 2) = l9
  show (_ → dsum _ [l1, l2, l3, l4, l5, l6, l7, l8, l9, l0] = 0) ∧ (_ → 4 ≤ dsum _ [l1, l2, l3, l4, l5, l6, l7, l8, l9, l0])
  have hz : ∀ l : Nat, l = 45 ∨ costF 45 l = 2 := fun l => by
    by_cases h : l = 45
    · exact .inl h
    · exact .inr (cost_45 h)
  constructor
  · intro h
    have hn := cnt_zero h
    have e0 := hn l0 (.head _)
    have hn := fun c hc => hn c (.tail _ hc); have e1 := hn l1 (.head _)
    have hn := fun c hc => hn c (.tail _ hc); have e2 := hn l2 (.head _)
    have hn := fun c hc => hn c (.tail _ hc); have e3 := hn l3 (.head _)
    have hn := fun c hc => hn c (.tail _ hc); have e4 := hn l4 (.head _)
    have hn := fun c hc => hn c (.tail _ hc); have e5 := hn l5 (.head _)
    have hn := fun c hc => hn c (.tail _ hc); have e6 := hn l6 (.head _)
    have hn := fun c hc => hn c (.tail _ hc); have e7 := hn l7 (.head _)
    have hn := fun c hc => hn c (.tail _ hc); have e8 := hn l8 (.head _)
    have hn := fun c hc => hn c (.tail _ hc); have e9 := hn l9 (.head _)
    subst e0 e1 e2 e3 e4 e5 e6 e7 e8 e9
    exact dsum_same _
  · intro h
    rcases h1 with e1 | e1
    · refine turn_cost 114 _ _ _ _ _ _ _ _ _ _ (.inr (.inl (by rw [e1]; rfl))) (.inr (.inr (.inl ?_)))
      rcases h2 with e | e <;> rw [e] <;> rfl
    · subst e1
      refine turn_cost 45 _ _ _ _ _ _ _ _ _ _ (.inr (.inl rfl)) ?_
      have n0 := hz l0; have n2 := hz l2; have n3 := hz l3; have n4 := hz l4
      have n5 := hz l5; have n6 := hz l6; have n7 := hz l7; have n8 := hz l8; have n9 := hz l9
      apply Classical.byContradiction
      intro hc
      simp only [not_or] at hc
      obtain ⟨c0, c1, c2, c3, c4, c5, c6, c7, c8, c9⟩ := hc
      have e0 := n0.resolve_right c0; have e2 := n2.resolve_right c2; have e3 := n3.resolve_right c3; have e4 := n4.resolve_right c4
      have e5 := n5.resolve_right c5; have e6 := n6.resolve_right c6; have e7 := n7.resolve_right c7; have e8 := n8.resolve_right c8; have e9 := n9.resolve_right c9
      subst e0 e2 e3 e4 e5 e6 e7 e8 e9
      simp [cnt, nm] at h
theorem turn_getD (A : List Nat) : ∀ k, k + 1 < A.length → (turnL A).getD k 0 = A.getD (k + 1) 0 := by
  intro k hk
  cases A with
  | nil => simp at hk
  | cons c w =>
    simp only [List.length_cons] at hk
    show (w ++ [c]).getD k 0 = w.getD k 0
    exact getD_app1 (by omega)
theorem turn_len (A : List Nat) : (turnL A).length = A.length := by cases A <;> simp [turnL]
/-- the last line of the law -/
theorem turn_law {x r : Int} (hx : 0 ≤ x) (h : LevSpec (listing x) (turnL (listing x)) 4 r ∨ LevSpec (turnL (listing x)) (listing x) 4 r) : r = if 0 < shown x then 4 else 0 := by
  have hd := turn_dsum hx
  by_cases hs : 0 < shown x
  · rw [if_pos hs]
    have h4 := hd.2 hs
    rcases h with h | h
    · exact lev_turn h h4 (.inl (turn_getD _))
    · exact lev_turn h (by rw [dsum_sym]; exact h4) (.inr fun k hk => turn_getD _ k (by rw [turn_len] at hk; exact hk))
  · rw [if_neg hs]
    have h0 := hd.1 (by omega)
    rcases h with h | h
    · exact lev_same h h0
    · exact lev_same h (by rw [dsum_sym]; exact h0)
/-- what the law asks of a told distance -/
theorem told_law {x y r : Int} (hx : 0 ≤ x) (hy : 0 ≤ y) (h : LevSpec (listing x) (listing y) (2 * (shown y - shown x)) r) : 2 * (shown y - shown x) ≤ r ∧ (r = 2 * (shown y - shown x) ↔ insideP x y) := by
  rw [← inside_listing hx hy]
  exact lev_law h (by rw [cnt_listing hx, cnt_listing hy])
end
end
theorem lines_13 : True := by
  k_with_none
  w_top off
  k_with "mine stp" => (first | (k_unfold; (try dsimp only)) | (k_end; wrow_close) | walk1 | (dsimp only; walk1) | (leave1; walk_say "STEP leave1"; try dsimp only) | fail "no step")
  k_with "stepsP" => (repeat' (((fail_if_success (with_reducible show wpAny _ _ (pyIter _) _ _ _))); ((fail_if_success (with_reducible show TurnEnd _ _ _ _ _ _ _ _))); walk_at "mine stp"))
  k_with "stepsC" => (repeat' (((fail_if_success (with_reducible show LCg.CompRest _ _ _ _ _ _ _ _ _ _ _ _ _ _ _ _ _ _ _)); (fail_if_success (with_reducible show LCg.CompEnd _ _ _ _ _ _ _ _ _ _ _ _ _ _))); walk_at "mine stp"))
  k_with "mine turn2" => ((refine LCg.CompRest.succ ?_; intro v' I' oI' C' oC' D' m' h' tk' E' hv' hC' hx' F' N' off' ne'; (obtain ⟨t9', hv9'⟩ := hv'); (subst hv9'); (replace hx' : m' (Str.ofString "k") = some (Value.int 2 t9') := hx')))
  k_with "mine turn0" => ((refine LCg.CompRest.succ ?_; intro v' I' oI' C' oC' D' m' h' tk' E' hv' hC' hx' F' N' off' ne'; (obtain ⟨t9', hv9'⟩ := hv'); (subst hv9'); (replace hx' : m' (Str.ofString "k") = some (Value.int 0 t9') := hx')))
  k_with "mine cend" => ((k_dflt (refine' compEnd_one (by k_asm) (by k_asm) (by k_ne) (by k_ne) (by k_ne) (by assumption) (by exact trivial) ?_)))
  k_with "mine turn1" => ((refine LCg.CompRest.succ ?_; intro v' I' oI' C' oC' D' m' h' tk' E' hv' hC' hx' F' N' off' ne'; (obtain ⟨t9', hv9'⟩ := hv'); (subst hv9'); (replace hx' : m' (Str.ofString "k") = some (Value.int 1 t9') := hx')))
  k_with "stepsD" => (repeat' (((fail_if_success (with_reducible show LCg.CompEnd _ _ _ _ _ _ _ _ _ _ _ _ _ _)); first | walk1 | (dsimp only; walk1)); (try dsimp only)))
  k_with "mine kargs" => (((case k1 | k2 | k3 | k4 | k5 => k_asm); (case kK => first | exact rfl | assumption); (case kp => first | exact trivial | assumption); (case kd => ktr_room); (case ku => ktr_units)))
  k_with "mine kp" => (first | exact trivial | with_reducible assumption | assumption | omega | exact ⟨by with_reducible assumption, by with_reducible assumption⟩ | exact ⟨by solve_by_elim, by solve_by_elim⟩)
  k_with "steps" => (repeat' (((fail_if_success (with_reducible show wpAny _ _ (PySem.exec (PySem.Stmt.While _ _ _ _) _) _ _ _))); ((fail_if_success (with_reducible show wpAny _ _ (PySem.exec (PySem.Stmt.For _ _ _ _ _) _) _ _ _))); walk_at "mine stp"))
  k_with "tsz" => ((first | omega | (simp only [List.length_drop, List.length_take, List.length_append, List.length_cons, List.length_nil]; omega) | (simp only [List.length_drop, List.length_take, List.length_append, List.length_cons, List.length_nil] at *; omega)))
  k_with "subscriptTail Name Slice str ref" => ((k_here; (with_reducible show wpAny _ _ (subscriptTail _ (PySem.Expr.Slice _ _ none _) (Value.str (tx _) _) _) _ _ _); (rename Fr _ _ _ _ => kTF); (rename News _ _ _ _ => kTN); first | (refine' r_all (s := ⟨_, _, _, _, _⟩) kTF kTN (by walk_at "tsz") ?_; (intro _ _ _ _ _); (try dsimp only)) | (refine' r_drop (s := ⟨_, _, _, _, _⟩) kTF kTN (by omega) (by walk_at "tsz") ?_; (intro _ _ _ _ _); (try dsimp only)) | (refine' r_last (s := ⟨_, _, _, _, _⟩) kTF kTN (by omega) (by walk_at "tsz") ?_; (intro _ _ _ _ _); (try dsimp only)) | (refine' r_take (s := ⟨_, _, _, _, _⟩) kTF kTN (by omega) (by walk_at "tsz") ?_; (intro _ _ _ _ _); (try dsimp only)) | (refine' r_back (s := ⟨_, _, _, _, _⟩) kTF kTN (by omega) (by walk_at "tsz") ?_; (intro _ _ _ _ _); (try dsimp only)) | (refine' r_mid (s := ⟨_, _, _, _, _⟩) kTF kTN (by omega) (by walk_at "tsz") ?_; (intro _ _ _ _ _); (try dsimp only))))
  k_with "mine item" => ((k_here; (with_reducible show wpAny _ _ (subscriptTail _ _ (Value.str (tx _) _) (Value.int _ _)) _ _ _); first | (refine' r_item (by omega) (by walk_at "tsz") (by walk_at "tsz") ?_; (intro _ _); (try dsimp only)) | (refine' r_itemN (by omega) (by walk_at "tsz") (by walk_at "tsz") ?_; (intro _ _); (try dsimp only))))
  k_with "subscriptTail Name Name str int" => (walk_at "mine item")
  k_with "subscriptTail Name BinOp str int" => (walk_at "mine item")
  k_with "subscriptTail Name Constant str int" => (walk_at "mine item")
  k_with "call builtin:len" => ((k_here; (with_reducible show wpAny _ _ (call (Value.builtin "len") [Value.str (tx _) _]) _ _ _); refine' r_len (by walk_at "tsz") ?_; (intro _ _); (try dsimp only)))
  k_with "truthy str" => ((k_here; (with_reducible show wpAny _ _ (PySem.truthy (Value.str (tx _) _)) _ _ _); (first | (with_reducible refine' r_truthyD (by k_dflt (walk_at "tsz")) ?_ ?_) | (with_reducible refine' r_truthyT (by k_dflt (walk_at "tsz")) ?_ ?_) | (with_reducible refine' r_truthyC (by k_dflt (walk_at "tsz")) ?_ ?_)); (all_goals (intro _ _)); (all_goals (try dsimp only))))
  k_with "compareOp Eq str str" => ((k_here; (first | (with_reducible refine' r_eq1 ?_ ?_) | (with_reducible refine' r_eqC ?_ ?_)); (all_goals (intro _)); (all_goals (try dsimp only))))
  k_with "compareOp NotEq str str" => ((k_here; (first | (with_reducible refine' r_ne1 ?_ ?_) | (with_reducible refine' r_neC ?_ ?_)); (all_goals (intro _)); (all_goals (try dsimp only))))
  k_with "binaryOp Add str str" => ((k_here; (with_reducible show wpAny _ _ (binaryOp PySem.Operator.Add (Value.str (tx _) _) (Value.str (tx _) _)) _ _ _); refine' r_add (by walk_at "tsz") ?_; (intro _ _); (try dsimp only)))
  k_with "inplaceOp Add str str" => ((k_here; (with_reducible show wpAny _ _ (inplaceOp PySem.Operator.Add (Value.str (tx _) _) (Value.str (tx _) _)) _ _ _); refine' r_iadd (by walk_at "tsz") ?_; (intro _ _); (try dsimp only)))
  k_with "call builtin:str.lower" => ((k_here; (with_reducible show wpAny _ _ (call (Value.builtin "str.lower") [Value.str (tx _) _]) _ _ _); refine my_lower (by omega) ?_; intro _ _; (try dsimp only)))
  k_with "stepsN" => (repeat' (((fail_if_success (with_reducible show InvEndN _ _ _ _ _ _ _))); walk_at "mine stp"))
  exact trivial
section
set_option maxRecDepth 100000
set_option maxHeartbeats 8000000
section
theorem lines_14 : True := by
  k_with "call ref" => ((k_here; k_dflt (o_head (ifmt_ok _ _ _ _ _ _ _ _ _)); (intro v9 h9 tk9 hp9 F9 N9); (obtain ⟨t9, e9⟩ := hp9); (subst e9); (try dsimp only); (try k_fold)))
  k_with "call ref" => ((k_here; k_dflt (first | o_head (isreg_ok _ _ _ _ _ _ _ _ _) | o_head (known_ok _ _ _ _ _ _ _ _ _)); (intro v9 h9 tk9 e9 F9 N9); (subst e9); (try dsimp only); (try k_fold)))
  k_with "call ref" => ((k_here; k_dflt (refine' (cl_ok _ _ _ _ _ _ _ _ _) _ _ _ _ _ _ _ _ _ _ _ _ _ _ _ _ _ (by k_asm) (by k_asm) (by k_asm) (by k_asm) (by k_asm) (by first | exact rfl | assumption) (by first | exact trivial | assumption) (by ktr_room) (by ktr_units) ?_); (intro D9 T9 T8 T7 t1 t2 t3 t4 t5 t6 h9 tk9 F9 N9); (try dsimp only); (try k_fold)))
  exact trivial
theorem in_kind {x y : Int} (h : ¬ kindP x y) : (false = true ↔ insideP x y) := ⟨fun e => (nomatch e), fun e => absurd e.1 h⟩
theorem in_cls {x y : Int} (k : Nat) (hk : k < 3) (h : ¬ clsP x y k) : (false = true ↔ insideP x y) := ⟨fun e => (nomatch e), fun e => absurd (e.2 k hk) h⟩
theorem in_yes {x y : Int} (h1 : kindP x y) (h : ∀ k : Nat, k < 3 → clsP x y k) : (true = true ↔ insideP x y) := ⟨fun _ => ⟨h1, h⟩, fun _ => rfl⟩
theorem cls_next {x y : Int} {i : Nat} (h : ∀ k : Nat, k < i → clsP x y k) (hi : clsP x y i) : ∀ k : Nat, k < i + 1 → clsP x y k := fun k hk => by
  rcases Nat.lt_succ_iff_lt_or_eq.mp hk with h1 | h1
  · exact h k h1
  · exact h1 ▸ hi
theorem kind_reg {x y : Int} (h : Builtin.bitAnd x 61440 = 32768) : kindP x y := .inl h
theorem kind_fmt {x y : Int} (h : (knownB x != knownB y) = false) (h2 : Builtin.bitAnd x 61440 = Builtin.bitAnd y 61440) : kindP x y := .inr ⟨by simpa using h, fun _ => h2⟩
theorem kind_unk {x y : Int} (h : (knownB x != knownB y) = false) (h2 : knownB x = false) : kindP x y := .inr ⟨by simpa using h, fun e => by rw [h2] at e; cases e⟩
theorem not_kind1 {x y : Int} (h0 : ¬ Builtin.bitAnd x 61440 = 32768) (h : (knownB x != knownB y) = true) : ¬ kindP x y := fun e => e.elim h0 fun e => by simp [e.1] at h
theorem not_kind2 {x y : Int} (h0 : ¬ Builtin.bitAnd x 61440 = 32768) (h : knownB x = true) (h2 : Builtin.bitAnd x 61440 ≠ Builtin.bitAnd y 61440) : ¬ kindP x y := fun e => e.elim h0 fun e => h2 (e.2 h)
def M1 (m : Str → Option Value) (vk : Option Value) : Str → Option Value := fun y => if y = Str.ofString "k" then vk else m y
theorem M1_eq {m m' : Str → Option Value} (h : ∀ y, y ≠ Str.ofString "k" → m' y = m y) : m' = M1 m (m' (Str.ofString "k")) := by
  funext y
  unfold M1
  by_cases h1 : y = Str.ofString "k"
  · rw [if_pos h1, h1]
  rw [if_neg h1]
  exact h y h1
theorem in_end {h₀ h' : Heap} {L : Addr} {m m' : Str → Option Value} {news : List (Addr × Obj)} {s : Shared} {Q : Flow → Shared → Prop} {tk i : Nat} {x y : Int} {q : Addr × Obj} (F : Fr h₀ L h' m') (N : News h₀ L h' (q :: news))
    (hm : ∀ y, y ≠ Str.ofString "k" → m' y = m y) (h : ∀ k : Nat, k < i → clsP x y k) (hi : clsP x y i) :
    TurnEnd h₀ L [q] s (fun m' news' => news' = news ∧ ∃ vk, m' = M1 m vk ∧ ∀ k : Nat, k < i + 1 → clsP x y k) Q .next { s with heap := h', toks := tk } :=
  TurnEnd.next news F N ⟨rfl, _, M1_eq hm, cls_next h hi⟩
section
open PySem.Calls PySem.Spec
variable {prog : Program} {w : World} {A : Around} {E : Value → Shared → Prop} {s : Shared} {h₀ : Heap}
theorem loop_in {x y : Int} {env : Env} {T : Addr} {rt ru rv : Tok} {xn : Str} {xpos : Pos} {body orelse : List Stmt} {Q : Flow → Shared → Prop} {m : Str → Option Value} {news : List (Addr × Obj)}
    (hT : IsRange s.heap T 0 3 1 rt ru rv) (hh : A.handled = none) (F : Fr h₀ env.locals s.heap m) (N : News h₀ env.locals s.heap news)
    (step : ∀ (i : Nat) t vk I o h₁ tk₁, i < 3 → (∀ k : Nat, k < i → clsP x y k) → (∀ p ∈ news, p.1 < I) → o.cls = .type "range_iterator" → Fr h₀ env.locals h₁ (M1 m vk) → News h₀ env.locals h₁ ((I, o) :: news) →
      wpAny (model prog w) A (assign (.Name xn xpos) env (.int (i : Int) t)) (fun _ s₂ => wpAny (model prog w) A (execs body env) (TurnEnd h₀ env.locals [(I, o)] s (fun m' news' => news' = news ∧ ∃ vk, m' = M1 m vk ∧ ∀ k : Nat, k < i + 1 → clsP x y k) Q) E s₂) E { s with heap := h₁, toks := tk₁ })
    (done : ∀ vk h' tk, (∀ k : Nat, k < 3 → clsP x y k) → Fr h₀ env.locals h' (M1 m vk) → News h₀ env.locals h' news → wpAny (model prog w) A (execs orelse env) Q E { s with heap := h', toks := tk })
    (hE : PassesOwn (model prog w) A env E) :
    wpAny (model prog w) A (pyIter (.ref T)) (fun it s₂ => codeAny (model prog w) A (.forLoop (.Name xn xpos) it body orelse env) (fun r s' => match r with | .ok f => Q f s' | .error e => cameBackBy (model prog w) A env E e s') s₂) E s := by
  refine loop_range3 hT hh F N (fun i m' => ∃ vk, m' = M1 m vk ∧ ∀ k : Nat, k < i → clsP x y k) ⟨_, M1_eq fun _ _ => rfl, fun k hk => absurd hk (Nat.not_lt_zero _)⟩ ?_ ?_ hE
  · rintro i v t m₁ I o h₁ tk₁ hi hv ⟨vk, em, hcl⟩ hlt hc F₁ N₁
    subst em hv
    exact step i t vk I o h₁ tk₁ hi hcl hlt hc F₁ N₁
  · rintro m' h' tk ⟨vk, em, hcl⟩ F' N'
    subst em
    exact done vk h' tk hcl F' N'
end
section
variable {prog : Program} {w : World} {A : Around} {E : Value → Shared → Prop} {s : Shared} {h₀ : Heap} {L : Addr} {news : List (Addr × Obj)}
theorem r_cls {value slice : PySem.Expr} {D T0 T1 T2 : Addr} {uu t0 u0 t1 u1 t2 u2 : Tok} {x : Int} {i : Nat} {Q : Value → Shared → Prop} (hi : i < 3) (N : News h₀ L s.heap news) (hD : (D, LCg.lst [.ref T0, .ref T1, .ref T2]) ∈ news)
    (h0 : (T0, tupOf x 0 t0 u0) ∈ news) (h1 : (T1, tupOf x 1 t1 u1) ∈ news) (h2 : (T2, tupOf x 2 t2 u2) ∈ news) (h : ∀ T t u, IsTup s.heap T #[.int (cf x i) t, .int (cr x i) u] → Q (.ref T) s)
    (hs : subscripted slice false (.ref D) (.int (i : Int) uu) = operate [.ref D, .int (i : Int) uu] (getItem (.ref D) (.int (i : Int) uu))) (hg : ∀ r, letTemporaryGo value (.ref D) r = pure ()) :
    wpAny (model prog w) A (subscriptTail value slice (.ref D) (.int (i : Int) uu)) Q E s := by
  have hL : s.heap.IsList D #[.ref T0, .ref T1, .ref T2] := News.isList N hD
  have e : i = 0 ∨ i = 1 ∨ i = 2 := by omega
  rcases e with rfl | rfl | rfl
  · exact item_list hL (by decide) (by decide) rfl (h T0 t0 u0 (News.isTup N h0)) hs hg
  · exact item_list hL (by decide) (by decide) rfl (h T1 t1 u1 (News.isTup N h1)) hs hg
  · exact item_list hL (by decide) (by decide) rfl (h T2 t2 u2 (News.isTup N h2)) hs hg
theorem r_two0 {value slice : PySem.Expr} {D : Addr} {u : Tok} {a b : Value} {Q : Value → Shared → Prop} (ht : IsTup s.heap D #[a, b]) (h : Q a s)
    (hs : subscripted slice false (.ref D) (.int 0 u) = operate [.ref D, .int 0 u] (getItem (.ref D) (.int 0 u))) :
    wpAny (model prog w) A (subscriptTail value slice (.ref D) (.int 0 u)) Q E s := item_tupleT (l := [a, b]) ht (by decide) (by decide) (j := 0) rfl rfl h hs
theorem r_two1 {value slice : PySem.Expr} {D : Addr} {u : Tok} {a b : Value} {Q : Value → Shared → Prop} (ht : IsTup s.heap D #[a, b]) (h : Q b s)
    (hs : subscripted slice false (.ref D) (.int 1 u) = operate [.ref D, .int 1 u] (getItem (.ref D) (.int 1 u))) :
    wpAny (model prog w) A (subscriptTail value slice (.ref D) (.int 1 u)) Q E s := item_tupleT (l := [a, b]) ht (by decide) (by decide) (j := 1) rfl rfl h hs
end
theorem lines_15 : True := by
  k_with "subscriptTail Name Name ref int" => ((k_here; k_dflt (refine' r_cls (by with_reducible assumption) (by k_asm) (by k_mem) (by k_mem) (by k_mem) (by k_mem) ?_ (by with_unfolding_all rfl) (by intro _; with_unfolding_all rfl)); (intro vT9 vt9 vu9 hT9); (try dsimp only at hT9); (try dsimp only)))
  k_with "subscriptTail Subscript" => ((k_here; (first | with_reducible refine' r_two0 (by with_reducible assumption) ?_ (by with_unfolding_all rfl) | with_reducible refine' r_two1 (by with_reducible assumption) ?_ (by with_unfolding_all rfl)); (try dsimp only)))
  exact trivial
/-- a statement that goes on where C holds, else hands back v -/
def CutFlow (h₀ : Heap) (L : Addr) (m : Str → Option Value) (news : List (Addr × Obj)) (s : Shared) (C : Prop) (v : Value) (f : Flow) (s₂ : Shared) : Prop :=
  ∃ h' tk, s₂ = { s with heap := h', toks := tk } ∧ Fr h₀ L h' m ∧ News h₀ L h' news ∧ ((f = .next ∧ C) ∨ (f = .ret v ∧ ¬ C))
section
variable {A : Around} {E : Value → Shared → Prop} {s : Shared} {h₀ : Heap} {L : Addr} {m : Str → Option Value} {news : List (Addr × Obj)}
theorem CutFlow.yes {h' : Heap} {tk : Nat} {C : Prop} {v : Value} (F : Fr h₀ L h' m) (N : News h₀ L h' news) (hc : C) : CutFlow h₀ L m news s C v .next { s with heap := h', toks := tk } := ⟨h', tk, rfl, F, N, .inl ⟨rfl, hc⟩⟩
theorem CutFlow.no {h' : Heap} {tk : Nat} {C : Prop} {v : Value} (F : Fr h₀ L h' m) (N : News h₀ L h' news) (hc : ¬ C) : CutFlow h₀ L m news s C v (.ret v) { s with heap := h', toks := tk } := ⟨h', tk, rfl, F, N, .inr ⟨rfl, hc⟩⟩
theorem cut_flow {M : Model} {tr : Sem Flow} {Q : Flow → Shared → Prop} (_F : Fr h₀ L s.heap m) (_N : News h₀ L s.heap news) (C : Prop) (v : Value)
    (h1 : wpAny M A tr (CutFlow h₀ L m news s C v) E s)
    (ht : C → ∀ h' tk, Fr h₀ L h' m → News h₀ L h' news → Q .next { s with heap := h', toks := tk })
    (hf : ¬ C → ∀ h' tk, Fr h₀ L h' m → News h₀ L h' news → Q (.ret v) { s with heap := h', toks := tk }) : wpAny M A tr Q E s := by
  refine wpAny_mono h1 (fun f s₂ h => ?_) fun _ _ e => e
  obtain ⟨h', tk, rfl, F', N', h⟩ := h
  rcases h with ⟨rfl, hc⟩ | ⟨rfl, hc⟩
  · exact ht hc h' tk F' N'
  · exact hf hc h' tk F' N'
end
theorem in_ok (w : World) (p : Program) (loose : List Str) (mean : ExcName → Option Value) (mg mb : Str → Option Value) (news : List (Addr × Obj)) (x y : Int) (t u : Tok) :
   FnOk w p loose mean mg mb 4 170 news ((0 ≤ x ∧ x < 262144) ∧ (0 ≤ y ∧ y < 262144)) [Value.int x t, Value.int y u] (fun v => ∃ r, v = Value.bool r ∧ (r = true ↔ insideP x y)) := by
  dsimp only [FnOk]; intros; rename_i hp _ _ hret
  obtain ⟨hx, hy⟩ := hp
  refine wpAny_call ?_
  k_dflt cell_enter
  walk1
  walk1
  (rename Fr _ _ _ _ => kF)
  (rename News _ _ _ _ => kN)
  refine cut_flow (s := ⟨_, _, _, _, _⟩) kF kN (kindP x y) (.bool false) ?_ ?_ ?_
  · clear hret
    walk_at "steps"
    all_goals (try dsimp only)
    all_goals first
      | exact CutFlow.yes (s := ⟨_, _, _, _, _⟩) (by k_asm) (by k_asm) (kind_reg (by assumption))
      | exact CutFlow.yes (s := ⟨_, _, _, _, _⟩) (by k_asm) (by k_asm) (kind_fmt (by assumption) (by assumption))
      | exact CutFlow.yes (s := ⟨_, _, _, _, _⟩) (by k_asm) (by k_asm) (kind_unk (by assumption) (by assumption))
      | exact CutFlow.no (s := ⟨_, _, _, _, _⟩) (by k_asm) (by k_asm) (not_kind1 (by assumption) (by assumption))
      | exact CutFlow.no (s := ⟨_, _, _, _, _⟩) (by k_asm) (by k_asm) (not_kind2 (by assumption) (by assumption) (by assumption))
  · intro hK h1 tk1 F1 N1
    clear kF kN
    walk_at "steps"
    refine' wpAny_For ?_ ?hsA
    case hsA => intro _; rfl
    walk_at "stepsP"
    (rename Fr _ _ _ _ => kF)
    (rename News _ _ _ _ => kN)
    (rename IsRange _ _ _ _ _ _ _ _ => kR)
    refine' loop_in (x := x) (y := y) (s := ⟨_, _, _, _, _⟩) kR ?hhA ?hFA ?hNA ?stepA ?doneA ?hEA
    case hhA => rfl
    case hFA => exact kF
    case hNA => exact kN
    case hEA => passes_own
    case stepA =>
      intro i t1 vk I o h1 tk1 hi hcl hlt hc F2 N2
      clear kF kN
      unfold M1 at F2
      dsimp only
      walk_at "stepsP"
      all_goals (try ((fail_if_success (with_reducible show TurnEnd _ _ _ _ _ _ Flow.next _)); (dsimp only); (try dsimp only [TurnEnd]); walk_at "stepsP"))
      all_goals (rename Fr _ _ _ _ => kF; rename News _ _ _ _ => kN)
      all_goals first
        | exact in_end (s := ⟨_, _, _, _, _⟩) kF kN (by intro y e1; simp only [if_neg e1]) hcl ⟨by assumption, fun _ => by assumption⟩
        | exact in_end (s := ⟨_, _, _, _, _⟩) kF kN (by intro y e1; simp only [if_neg e1]) hcl ⟨by assumption, fun h => absurd h (by assumption)⟩
        | exact hret _ _ _ ⟨false, rfl, in_cls i hi fun e => absurd e.1 (by assumption)⟩ (by k_asm) (cb_drop (by k_asm) fun p hp => by repeat (first | exact hp | apply List.Mem.tail))
        | exact hret _ _ _ ⟨false, rfl, in_cls i hi fun e => absurd (e.2 (by assumption)) (by assumption)⟩ (by k_asm) (cb_drop (by k_asm) fun p hp => by repeat (first | exact hp | apply List.Mem.tail))
    case doneA =>
      intro vk h1 tk1 hcl F2 N2
      clear kF kN
      unfold M1 at F2
      walk_at "stepsP"
      exact hret _ _ _ ⟨true, rfl, in_yes hK hcl⟩ (by k_asm) (cb_drop (by k_asm) fun p hp => by repeat (first | exact hp | apply List.Mem.tail))
  · intro hK h1 tk1 F1 N1
    clear kF kN
    walk_at "steps"
    exact hret _ _ _ ⟨false, rfl, in_kind hK⟩ (by k_asm) (by k_asm)
end
end
section
open PySem.Builtin.Str PySem.Calls PySem.Spec
set_option maxRecDepth 100000
section
/-- a list's texts -/
def Texts (us : List Value) (ts : List (List Nat)) : Prop := ∃ l : List (Str × Tok), us = strValues l ∧ l.map (·.1) = ts.map tx
theorem Texts.nil : Texts [] [] := ⟨[], rfl, rfl⟩
theorem Texts.snoc {us : List Value} {ts : List (List Nat)} {c : List Nat} {t : Tok} (h : Texts us ts) : Texts (us ++ [Value.str (tx c) t]) (ts ++ [c]) := by
  obtain ⟨l, rfl, h⟩ := h
  refine ⟨l ++ [(tx c, t)], by simp [strValues], by simp [h]⟩
theorem Texts.len {us : List Value} {ts : List (List Nat)} (h : Texts us ts) : us.length = ts.length := by
  obtain ⟨l, e, h⟩ := h
  have := congrArg List.length h
  subst e
  simpa [strValues] using this
theorem Texts.get {us : List Value} {ts : List (List Nat)} (h : Texts us ts) {i : Nat} (hi : i < ts.length) : ∃ t, us[i]? = some (.str (tx (ts.getD i [])) t) := by
  obtain ⟨l, rfl, h⟩ := h
  have hl : i < l.length := by
    have := congrArg List.length h
    simp at this; omega
  have h2 := congrArg (·[i]?) h
  simp only [List.getElem?_map] at h2
  rw [List.getElem?_eq_getElem hl, List.getElem?_eq_getElem hi] at h2
  simp only [Option.map_some, Option.some.injEq] at h2
  refine ⟨l[i].2, ?_⟩
  rw [List.getD_eq_getElem?_getD, List.getElem?_eq_getElem hi, Option.getD_some, ← h2]
  simp [strValues, hl]
section
variable {prog : Program} {w : World} {A : Around} {E : Value → Shared → Prop} {s : Shared} {h₀ : Heap} {L : Addr} {news : List (Addr × Obj)}
theorem r_itemT {value slice : PySem.Expr} {D : Addr} {u : Tok} {us : List Value} {c : Nat} {ts : List (List Nat)} {i : Int} {Q : Value → Shared → Prop} (N : News h₀ L s.heap news) (hD : (D, W.listOf us.toArray c) ∈ news)
    (hT : Texts us ts) (h0 : 0 ≤ i) (h1 : i < ts.length) (hz : ts.length ≤ 1000) (h : ∀ t, Q (.str (tx (ts.getD i.toNat [])) t) s)
    (hs : subscripted slice false (.ref D) (.int i u) = operate [.ref D, .int i u] (getItem (.ref D) (.int i u))) (hg : ∀ r, letTemporaryGo value (.ref D) r = pure ()) :
    wpAny (model prog w) A (subscriptTail value slice (.ref D) (.int i u)) Q E s := by
  obtain ⟨t, ht⟩ := hT.get (i := i.toNat) (by omega)
  exact item_list (News.isList N hD) h0 (by omega) (by simpa using ht) (h t) hs hg
theorem r_lenT {D : Addr} {us : List Value} {c : Nat} {ts : List (List Nat)} {Q : Value → Shared → Prop} (N : News h₀ L s.heap news) (hD : (D, W.listOf us.toArray c) ∈ news) (hT : Texts us ts) (hz : ts.length ≤ 1000)
    (h : ∀ t k, Q (.int ts.length t) { s with toks := k }) : wpAny (model prog w) A (call (.builtin "len") [.ref D]) Q E s := by
  have e : us.toArray.size = ts.length := by rw [List.size_toArray, hT.len]
  refine len_list (News.isList N hD) (by omega) ?_
  rw [e]; exact h _ _
theorem r_joinX {D : Addr} {us : List Value} {ts : List (List Nat)} {n : Nat} {t : Tok} {Q : Value → Shared → Prop} (N : News h₀ L s.heap news) (hm : (D, W.listOf us.toArray n) ∈ news) (hT : Texts us ts) (hB : ∀ y ∈ ts, y.length ≤ 100) (hz : ts.length ≤ 1000)
    (h : ∀ t' k, Q (.str (tx ts.flatten) t') { s with toks := k }) : wpAny (model prog w) A (call (.builtin "str.join") [.str (PySem.Str.ofString "") t, .ref D]) Q E s := by
  obtain ⟨l, rfl, hl⟩ := hT
  exact r_joinT N hm hl hB hz h
theorem r_field {X : List Nat} {t : Tok} {Q : Value → Shared → Prop} (hz : X.length ≤ 100000) (h : ∀ t' k, Q (.str (tx X) t') { s with toks := k }) : wpAny (model prog w) A (formatField (.str (tx X) t) Str.empty) Q E s :=
  wpAny_formatField_str (h _ _) (h _ _) (fits_of hz)
theorem r_eqS {a b : Str} {t u : Tok} {Q : Value → Shared → Prop} (h1 : a = b → Q (.bool true) s) (h2 : a ≠ b → Q (.bool false) s) : wpAny (model prog w) A (compareOp .Eq (.str a t) (.str b u)) Q E s := by
  refine eq_str ?_
  by_cases h : a = b
  · rw [beq_iff_eq.mpr h]; exact h1 h
  · rw [beq_eq_false_iff_ne.mpr h]; exact h2 h
theorem r_neS {a b : Str} {t u : Tok} {Q : Value → Shared → Prop} (h1 : a = b → Q (.bool false) s) (h2 : a ≠ b → Q (.bool true) s) : wpAny (model prog w) A (compareOp .NotEq (.str a t) (.str b u)) Q E s := by
  refine ne_str ?_
  by_cases h : a = b
  · rw [show (a != b) = false by simp [h]]; exact h1 h
  · rw [show (a != b) = true by simp [h]]; exact h2 h
end
section
variable {prog : Program} {w : World} {A : Around} {E : Value → Shared → Prop} {Q : Flow → Shared → Prop} {s : Shared} {env : Env} {h₀ : Heap} {L : Addr}
/-- a while, told by what holds of the frame's names and the ledger -/
theorem while_J {test : Expr} {body : List Stmt} {pos : Pos} {m : Str → Option Value} {news : List (Addr × Obj)} (F : Fr h₀ L s.heap m) (N : News h₀ L s.heap news) (J : (Str → Option Value) → Nat → (Str → Option Value) → List (Addr × Obj) → Prop) {n₀ : Nat}
    (hJ : J m n₀ m news)
    (turn : ∀ n m₁ news₁ h₁ tk₁, Fr h₀ L h₁ m₁ → News h₀ L h₁ news₁ → J m n m₁ news₁ →
      wpAny (model prog w) A (isTrue test env (eval test env)) (fun b s₂ =>
        if b = true then wpAny (model prog w) A (execs body env) (WhileStep2 h₀ L s (J m) Q n) E s₂ else Q .next s₂) E { s with heap := h₁, toks := tk₁ })
    (hE : PassesOwn (model prog w) A env E) :
    wpAny (model prog w) A (exec (.While test body [] pos) env) Q E s := While_inv2 (J m) F N hJ turn hE
theorem while_JD {test : Expr} {body : List Stmt} {pos : Pos} {m : Str → Option Value} {D : Addr} {o : Obj} {news : List (Addr × Obj)} (F : Fr h₀ L s.heap m) (N : News h₀ L s.heap ((D, o) :: news)) (J : Addr → List (Addr × Obj) → (Str → Option Value) → Nat → (Str → Option Value) → List (Addr × Obj) → Prop) {n₀ : Nat}
    (hJ : J D news m n₀ m ((D, o) :: news))
    (turn : ∀ n m₁ news₁ h₁ tk₁, Fr h₀ L h₁ m₁ → News h₀ L h₁ news₁ → J D news m n m₁ news₁ →
      wpAny (model prog w) A (isTrue test env (eval test env)) (fun b s₂ =>
        if b = true then wpAny (model prog w) A (execs body env) (WhileStep2 h₀ L s (J D news m) Q n) E s₂ else Q .next s₂) E { s with heap := h₁, toks := tk₁ })
    (hE : PassesOwn (model prog w) A env E) :
    wpAny (model prog w) A (exec (.While test body [] pos) env) Q E s := While_inv2 (J D news m) F N hJ turn hE
theorem while_JP {test : Expr} {body : List Stmt} {pos : Pos} {m : Str → Option Value} {D : Addr} {o : Obj} {q1 q2 : Addr × Obj} {news : List (Addr × Obj)} (F : Fr h₀ L s.heap m) (N : News h₀ L s.heap (q1 :: q2 :: (D, o) :: news)) (J : Addr × Obj → Addr × Obj → Addr → List (Addr × Obj) → (Str → Option Value) → Nat → (Str → Option Value) → List (Addr × Obj) → Prop) {n₀ : Nat}
    (hJ : J q1 q2 D news m n₀ m (q1 :: q2 :: (D, o) :: news))
    (turn : ∀ n m₁ news₁ h₁ tk₁, Fr h₀ L h₁ m₁ → News h₀ L h₁ news₁ → J q1 q2 D news m n m₁ news₁ →
      wpAny (model prog w) A (isTrue test env (eval test env)) (fun b s₂ =>
        if b = true then wpAny (model prog w) A (execs body env) (WhileStep2 h₀ L s (J q1 q2 D news m) Q n) E s₂ else Q .next s₂) E { s with heap := h₁, toks := tk₁ })
    (hE : PassesOwn (model prog w) A env E) :
    wpAny (model prog w) A (exec (.While test body [] pos) env) Q E s := While_inv2 (J q1 q2 D news m) F N hJ turn hE
theorem while_skip {test : Expr} {body : List Stmt} {pos : Pos}
    (h : wpAny (model prog w) A (isTrue test env (eval test env)) (fun b s₂ => if b = true then False else Q .next s₂) E s) (hE : PassesOwn (model prog w) A env E) :
    wpAny (model prog w) A (exec (.While test body [] pos) env) Q E s := by
  refine wpAny_While (codeAny_whileLoop (fun _ s' => s' = s) ?_ 0 rfl)
  rintro n s' rfl
  refine wpAny_mono h (fun b s₂ h₂ => ?_) hE
  cases b with
  | false =>
    simp only [Bool.false_eq_true, if_false] at h₂ ⊢
    exact wpAny_execs_nil h₂
  | true => simp at h₂
theorem while_end {J : Nat → (Str → Option Value) → List (Addr × Obj) → Prop} {n n' : Nat} {h' : Heap} {tk : Nat} {m' : Str → Option Value} {news' : List (Addr × Obj)} (F : Fr h₀ L h' m') (N : News h₀ L h' news') (hn : n' < n) (hJ : J n' m' news') :
    WhileStep2 h₀ L s J Q n .next { s with heap := h', toks := tk } := ⟨h', tk, m', news', n', rfl, F, N, hn, hJ⟩
end
theorem tx_lit {X L : List Nat} {c : Str} (h : c = tx L) : (tx X = c) ↔ X = L := by rw [h, tx_inj]
theorem lit_e {X : List Nat} : (tx X = Str.ofString "") ↔ X = [] := tx_lit rfl
theorem lit_dash {X : List Nat} : (tx X = Str.ofString "-") ↔ X = [45] := tx_lit rfl
theorem lit_q {X : List Nat} : (tx X = Str.ofString "?") ↔ X = [63] := tx_lit rfl
theorem lit_set {X : List Nat} : (tx X = Str.ofString "[?]") ↔ X = [91, 63, 93] := tx_lit rfl
theorem lit_dot {X : List Nat} : (tx X = Str.ofString ".") ↔ X = [46] := tx_lit rfl
theorem lit_star {X : List Nat} : (tx X = Str.ofString "*") ↔ X = [42] := tx_lit rfl
theorem lit_open {X : List Nat} : (tx X = Str.ofString "[") ↔ X = [91] := tx_lit rfl
theorem lit_close {X : List Nat} : (tx X = Str.ofString "]") ↔ X = [93] := tx_lit rfl
theorem lit_bang {X : List Nat} : (tx X = Str.ofString "!") ↔ X = [33] := tx_lit rfl
theorem lit_hat {X : List Nat} : (tx X = Str.ofString "^") ↔ X = [94] := tx_lit rfl
theorem lit_head {X : List Nat} : (tx X = Str.ofString "(?s:") ↔ X = [40, 63, 115, 58] := tx_lit rfl
theorem lit_tail {X : List Nat} : (tx X = Str.ofString ")\\Z") ↔ X = [41, 92, 90] := tx_lit rfl
theorem one_eq {a b : Nat} : (tx [a] = tx [b]) ↔ a = b := by rw [tx_inj]; simp
theorem one_iff {a b : Nat} : ([a] = [b]) ↔ a = b := by simp
/-- an item of the law's list -/
def itm (c : Nat) : List Nat := if c = 45 then [] else [c]
/-- a piece of translate's text -/
def prt (c : Nat) : List Nat := if c = 45 then [46] else if c = 63 then [91, 63, 93] else [c]
/-- a piece of the pattern -/
def pat (c : Nat) : List Nat := if c = 45 then [63] else if c = 63 then [91, 63, 93] else [c]
def catOf (f : Nat → List Nat) (A : List Nat) : List Nat := (A.map f).flatten
end
end
section
open PySem.Calls
open Sem (wp)
set_option maxRecDepth 100000
section
section
variable {prog : Program} {w : World} {A : Around} {E : Value → Shared → Prop} {s : Shared} {h₀ : Heap} {L D B : Addr} {m : Str → Option Value} {news news' : List (Addr × Obj)}
theorem r_bindApp {its : Array Value} {n : Nat} {Q : Value → Shared → Prop} (F : Fr h₀ L s.heap m) (N : News h₀ L s.heap news) (hD : (D, W.listOf its n) ∈ news)
    (h : ∀ B h', Fr h₀ L h' m → News h₀ L h' ((B, bmObj D) :: news) → (∀ p ∈ news, p.1 < B) → Q (.ref B) { s with heap := h', toks := s.toks + 1 }) :
    wpAny (model prog w) A (getAttr (.ref D) (Str.ofString "append") true) Q E s := by
  obtain ⟨hp, g, d, t, os⟩ := s
  exact ba_attr (N _ hD).1 (h _ _ (F.push _) (N.push F _) fun p hp => Heap.lt_size (N p hp).1)
theorem r_callApp {us : List Value} {n : Nat} {x : Value} {Q : Value → Shared → Prop} (F : Fr h₀ L s.heap m) (N : News h₀ L s.heap news) (hB : (B, bmObj D) ∈ news) (U : Upd D (W.listOf us.toArray n) (W.listOf (us ++ [x]).toArray (n + 1)) news news') (hz : us.length ≤ 1000)
    (h : ∀ h', Fr h₀ L h' m → News h₀ L h' news' → Q .none { s with heap := h' }) : wpAny (model prog w) A (call (.ref B) [x]) Q E s := by
  obtain ⟨hp, g, d, t, os⟩ := s
  have hBo := (N _ hB).1
  obtain ⟨pre, post, rfl, rfl, a, b⟩ := U.split
  have z := N (D, W.listOf us.toArray n) (List.mem_append.mpr (.inr (.head _)))
  have e : us.toArray.push x = (us ++ [x]).toArray := by simp
  refine call_bm hBo z.1 (by simp only [List.size_toArray]; exact Nat.le_trans hz (by decide)) ?_
  refine h _ (F.change (Heap.SameBut.update ..) z.2.1 z.2.2) (news_set N a b (Heap.SameBut.update ..) ?_)
  rw [Heap.get?_update_self _ z.1 (by rw [mapSeq_push]; rfl), mapSeq_push, e]
def BmAt (B D : Addr) (h : Heap) : Prop := h.get? B = some (bmObj D)
theorem bm_at {h : Heap} (N : News h₀ L h news) (hm : (B, bmObj D) ∈ news) : BmAt B D h := (N _ hm).1
theorem callWith_app {pos : Pos} {first : List Value} {env : Env} {e : Expr} {rest : List Expr} {M : Model} {Q : Value → Shared → Prop} (_N : News h₀ L s.heap news) (_hm : (B, bmObj D) ∈ news)
    (h : wpAny M A (spliced (backTo pos (starEach (e :: rest) env))) (fun vs s₁ => BmAt B D s₁.heap ∧ wpAny M A (call (.ref B) (first ++ vs)) Q E s₁) E s)
    (he : starEach (e :: rest) env = (false, eval e env) :: starEach rest env := by rfl) (hplain : (backTo pos (starEach rest env)).any (·.1) = false := by rfl) :
    wpAny M A (callWith pos (.ref B) first (backTo pos (starEach (e :: rest) env)) []) Q E s := by
  rw [he] at h ⊢
  refine callWith_of (by show ((false || (backTo pos (starEach rest env)).any (·.1)) || false) = false; rw [hplain]; rfl) (P := fun h => BmAt B D h) (fun h X => ⟨.machine, .inr (.inl rfl), (Looks.ld (part := none) X).andThen .now⟩) (evalArgs_plain h)
end
end
end
section
open PySem.Calls
open Sem (wp)
set_option maxRecDepth 100000
namespace Mine.Tr1
theorem fillme (P : Params) : hd.heap_1 P = hd.heap_1 P ∧ PySem.Challenge.rw_rt0042_01 = PySem.Challenge.rw_rt0042_01 := by
  k_fill
  exact ⟨rfl, rfl⟩
end Mine.Tr1
section
def keyOk (e : DictEntry) : Bool := match e.key with | .int k _ => e.hash == hashInt k | _ => false
theorem keys_of {prog : Program} {w : World} {es : Array DictEntry} (h : es.all keyOk = true) : KeysOf (intKind prog w) es := by
  intro e he
  have := Array.all_eq_true'.mp h e he
  unfold keyOk at this
  split at this
  · rename_i k t hk
    exact ⟨k, by rw [hk]; show Value.isInt k (.int k t) = true; simp [Value.isInt], by exact beq_iff_eq.mp this⟩
  · cases this
section
variable {prog : Program} {w : World} {A : Around} {E : Value → Shared → Prop} {s : Shared} {P : Params}
theorem chars_map {h : Heap} (X : (hd.heap_1 P).In h) : ∃ f, h.MapOf (intKind prog w) 59 f ∧ ∀ c ∈ okS, c ≠ 45 → c ≠ 63 → f ((c : Nat) : Int) = none := by
  refine ⟨_, ⟨_, _, _, X 59 _ rfl, ⟨rfl, rfl, rfl⟩, rfl, keys_of (by decide +kernel), fun k => rfl⟩, ?_⟩
  dsimp only [intKind]
  decide +kernel
theorem tl_miss {c : Nat} {Q : Builtin.Str.Mapped → Shared → Prop} (hc : c ∈ okS ∧ c ≠ 45 ∧ c ≠ 63) (hh : A.handled = none) (X : (hd.heap_1 P).In s.heap)
    (h : ∀ h' k, (∀ b o, s.heap.get? b = some o → h'.get? b = some o) → Q .keep { s with heap := h', toks := k }) : wpAny (model prog w) A (Builtin.Str.tableLookup (.ref 59) c) Q E s := by
  obtain ⟨f, hf, hn⟩ := chars_map (prog := prog) (w := w) X
  unfold Builtin.Str.tableLookup
  refine wpAny_bind (wpAny_attempt (wpAny_bind (wpAny_mkInt ?_)))
  refine wpAny_getItem_missing_of (knd := intKind prog w) (k := ((c : Nat) : Int)) (intKind_is prog w _ _) (by decide) hh hf (hn c hc.1 hc.2.1 hc.2.2) fun h' e hE => ?_
  dsimp only
  obtain ⟨ob, u, ho, hcl, _⟩ := hE.there
  have hT : (⟨h', s.gens, s.drawn, s.toks + 1 + 1, s.os⟩ : Shared).TypeIs (.ref e) "KeyError" := ⟨_, ho, hcl⟩
  have hs : isSubtype (.type "KeyError") (.type "LookupError") = pure true := by rw [isSubtype_type]; kernel_rfl
  have hk := h h' (s.toks + 1 + 1) hE.keeps
  clear h X hf hn
  refine wpAny_bind (wpAny_isInstance hT hs ?_)
  rw [if_pos rfl]
  exact wpAny_bind (wpAny_rule (wpAny_pure hk))
theorem gm_translate {M : Model} {x : Str} {t : Tok} {pl : Sem Bool} {Q : Value × List Value → Shared → Prop} (h : Q (.builtin "str.translate", [.str x t]) s) : wpAny M A (getMethod (.str x t) "translate" pl) Q E s :=
  by with_reducible exact GM.of (.str x t) (typeIs_str _ _ _) F.slot_str_translate F.type_str_translate GM.noRef h
theorem r_translate {c : Nat} {t : Tok} {Q : Value → Shared → Prop} (hc : c ∈ okS ∧ c ≠ 45 ∧ c ≠ 63) (hh : A.handled = none) (X : (hd.heap_1 P).In s.heap)
    (h : ∀ h' t' k, (∀ b o, s.heap.get? b = some o → h'.get? b = some o) → Q (.str (tx [c]) t') { s with heap := h', toks := k }) :
    wpAny (model prog w) A (call (.builtin "str.translate") [.str (tx [c]) t, .ref 59]) Q E s := by
  refine wpAny_call_entry F.slot_str_translate (typeIs_str _ _ _) F.entry_str_translate ?_ (F.args_str_translate_2 _ _)
  have hlt := okS_lt hc.1
  have e1 : ((tx [c]).cps.all fun x => decide (x < 128)) = true := by
    show ([c].toArray.all fun x => decide (x < 128)) = true
    simp [hlt]
  have T : ∀ Q', _ := fun Q' => tl_miss (prog := prog) (w := w) (P := P) (A := A.in1) (E := E) (s := s) (Q := Q') hc hh X
  clear hc hh X
  unfold Builtin.«str.translate»
  repeat (any_goals (first | assumption | ((fail_if_success (with_reducible show wpAny _ _ (Builtin.Str.tableLookup _ _) _ _ _)); wp_step)))
  refine T _ fun h' k hk => ?_
  have hq := fun t' k' => h h' t' k' hk
  clear T h
  dsimp only
  repeat (any_goals (first | assumption | wp_step))
  exact ⟨_, rfl, hq _ _⟩
end
end
end
section
open PySem.Calls PySem.Builtin.Re
open Sem (wp)
set_option maxRecDepth 100000
section
def reCode : Array Nat := #[14, 14, 4, 1, 1, 9, 0, 64, 0, 1342177280, 0, 0, 0, 0, 0, 17, 0, 13, 11, 9, 0, 64, 0, 1342177280, 0, 0, 0, 0, 0, 17, 1, 1]
def reM : Sre.M := Sre.forSearch reCode #[63] 1 0 1 false
theorem reM_run : (reM.runFor 4).outcome = some .failed := by rfl
theorem drive_one {prog : Program} {w : World} {A : Around} {E : Value → Shared → Prop} {s : Shared} {Q : Sre.M → Shared → Prop} {n : Nat} {m : Sre.M} (h1 : (m.runFor 4).outcome.isSome = true) (h : Q (m.runFor 4) s) : wpAny (model prog w) A (reDrive (n + 1) m) Q E s := by
  unfold reDrive
  show wpAny _ _ (if (m.runFor 4).outcome.isSome = true then pure (m.runFor 4) else _) _ _ _
  rw [if_pos h1]
  exact wpAny_pure h
section
variable {prog : Program} {w : World} {A : Around} {E : Value → Shared → Prop} {s : Shared}
theorem forIn_rules {α : Type} {f : α → PUnit → Sem (ForInStep PUnit)} (hf : ∀ (a : α) (r : PUnit) (Q : ForInStep PUnit → Shared → Prop), Q (.yield ⟨⟩) s → wpAny (model prog w) A (f a r) Q E s) :
    ∀ (l : List α) (r : PUnit) (Q : PUnit → Shared → Prop), Q ⟨⟩ s → wpAny (model prog w) A (forIn l r f) Q E s
  | [], r, Q, h => wpAny_pure h
  | a :: l, r, Q, h => by
    rw [List.forIn_cons]
    exact wpAny_bind (hf a r _ (forIn_rules hf l ⟨⟩ Q h))
theorem run_none {Q : Option Sre.M → Shared → Prop} (h : Q none s) : wpAny (model prog w) A (reRunToEnd reM) Q E s := by
  unfold reRunToEnd
  refine wpAny_bind ?_
  rw [show (2 ^ 64 : Nat) = 18446744073709551615 + 1 from rfl]
  refine drive_one (by rw [reM_run]; rfl) ?_
  refine wpAny_bind (forIn_rules (fun a r Q' h' => ?_) _ _ _ ?_)
  · split
    · exact wpAny_bind (wpAny_rule (wpAny_pure h'))
    · exact wpAny_pure h'
  · rw [reM_run]
    exact wpAny_pure h
theorem slot_re_sub : Slot "re.Pattern" "sub" "re.Pattern.sub" :=
  .of (owner := "re.Pattern") (n := "sub") (by rw [typeLookup_type, builtinLookup_eq_fast]; kernel_rfl) (by decide +kernel) (by decide +kernel) (by decide +kernel)
    (by first | exact .inl (by decide +kernel) | exact .inr (by decide +kernel)) (by rw [isSubtype_type]; kernel_rfl)
theorem type_re_sub : typeOf (.builtin "re.Pattern.sub") = pure (.type "method_descriptor") := by show builtinType _ = _; rw [builtinType_eq_fast]; kernel_rfl
theorem entry_re_sub : entryFor table "re.Pattern.sub" = some Builtin.«re.Pattern.sub» := entryFor_of_tree (by kernel_rfl)
theorem entry_re_loop : entryFor table "re.Pattern.sub.loop" = some Builtin.«re.Pattern.sub.loop» := entryFor_of_tree (by kernel_rfl)
theorem plainAttrs_re : PlainAttrs "re.Pattern" :=
  ⟨⟨"object.__getattribute__", by rw [typeLookup_type, builtinLookup_eq_fast]; kernel_rfl, by decide +kernel⟩, by rw [typeLookup_type, builtinLookup_eq_fast]; kernel_rfl⟩
theorem args_re_sub (a b c : Value) : argsOk "re.Pattern.sub" ⟨[a, b, c], []⟩ := by unfold argsOk; kernel_rfl
theorem fn_call : typeLookup (.type "function") "__call__" = pure (some (.builtin "function.__call__")) := (by rw [typeLookup_type, builtinLookup_eq_fast]; kernel_rfl)
theorem gm_sub {a : Addr} {pl : Sem Bool} {Q : Value × List Value → Shared → Prop} {o : Obj} (ho : s.heap.get? a = some o) (hc : o.cls = .type "re.Pattern") (hd : o.dict = none) (h : Q (.builtin "re.Pattern.sub", [.ref a]) s) : wpAny (model prog w) A (getMethod (.ref a) "sub" pl) Q E s :=
  getMethod_builtin ⟨o, ho, hc⟩ plainAttrs_re slot_re_sub type_re_sub (fun b e => by cases e; exact ⟨o, ho, hd⟩) h
variable {P : Params}
abbrev patObj : Obj := { cls := .type "re.Pattern", data := .fields #[.str (Str.ofString "([&~|])") 321, .int 32 356, .int 1 0, .none, .none, .ref 49, .int 0 0] }
abbrev codeArr : Array Value := #[.int 14 0, .int 14 0, .int 4 0, .int 1 0, .int 1 0, .int 9 0, .int 0 0, .int 64 0, .int 0 0, .int 1342177280 0, .int 0 0, .int 0 0, .int 0 0, .int 0 0, .int 0 0, .int 17 0, .int 0 0, .int 13 0, .int 11 0, .int 9 0, .int 0 0, .int 64 0, .int 0 0, .int 1342177280 0, .int 0 0, .int 0 0, .int 0 0, .int 0 0, .int 0 0, .int 17 0, .int 1 0, .int 1 0]
abbrev codeObj : Obj := { cls := .type "tuple", data := .seq codeArr }
theorem code_eq : Array.map (fun x : Int => x.toNat) (Array.map reRawOf codeArr) = reCode := by decide +kernel
def tgt (t : Tok) : ReTarget := { pattern := .ref 50, string := .str (tx [63]) t, code := reCode, text := #[63], kind := 0, groups := 1, pos := 0, lim := 1 }
theorem r_target {hp : Heap} {g : Array GenState} {d : Drawn} {tk : Nat} {os : OsState} {t : Tok} {Q : ReTarget → Shared → Prop} (h50 : hp.get? 50 = some patObj) (h49 : hp.get? 49 = some codeObj) (h : Q (tgt t) ⟨hp, g, d, tk, os⟩) :
    wpAny (model prog w) A (reWholeTarget (.ref 50) (.str (tx [63]) t)) Q E ⟨hp, g, d, tk, os⟩ := by
  unfold reWholeTarget reRawItems
  repeat (any_goals (first | assumption | wp_step))
  (try simp only [Option.getD_some])
  rw [code_eq]
  exact h
end
end
end
section
open PySem.Calls PySem.Builtin.Re
open Sem (wp)
set_option maxRecDepth 100000
section
section
variable {prog : Program} {w : World} {A : Around} {E : Value → Shared → Prop} {s : Shared} {P : Params}
theorem r_loop {hp : Heap} {g : Array GenState} {d : Drawn} {tk : Nat} {os : OsState} {D f : Addr} {t : Tok} {R : Result → Shared → Prop} (h50 : hp.get? 50 = some patObj) (h49 : hp.get? 49 = some codeObj) (hl : hp.get? D = some { cls := .type "list", data := .seq #[] })
    (hq : ∀ h' t' k, Heap.SameBut D hp h' → R (.ok (.ret (.str (tx [63]) t'))) ⟨h', g, d, k, os⟩) :
    codeAny (model prog w) A (.builtin "re.Pattern.sub.loop" ⟨[.ref 50, .str (tx [63]) t, .ref f, rawInt 1, rawInt 0, rawInt 0, rawInt 0, rawInt 0, .bool false, .ref D, .bool false], []⟩) R ⟨hp, g, d, tk, os⟩ := by
  refine codeAny_builtin entry_re_loop ?_
  generalize A.under _ = B
  unfold Builtin.«re.Pattern.sub.loop» rawInt
  repeat (any_goals (first | assumption | ((fail_if_success (with_reducible show wpAny _ _ (reWholeTarget _ _) _ _ _)); wp_step)))
  refine r_target h50 h49 ?_
  dsimp only
  repeat (any_goals (first | assumption | ((fail_if_success (with_reducible show wpAny _ _ (reNextFound _ _ _) _ _ _)); wp_step)))
  show wpAny _ _ (reRunToEnd reM) _ _ _
  refine run_none ?_
  unfold tgt
  dsimp only
  repeat (any_goals (first | assumption | ((fail_if_success (with_reducible show wpAny _ _ (call _ _ _) _ _ _)); wp_step)))
  have e0 : ({ cps := #[63].extract 0 0 } : Str) = Str.ofString "" := by decide +kernel
  have e1 : ({ cps := #[63].extract (Int.toNat 0) 1 } : Str) = tx [63] := by decide +kernel
  rw [e0, e1]
  have hJ : Heap.IsList (hp.update D (Obj.mapSeq fun x => x.push (Value.str (tx [63]) tk))) D (strValues [(tx [63], tk)]).toArray :=
    ⟨_, Heap.get?_update_self _ hl (by rw [mapSeq_push]; rfl), by rw [mapSeq_push], _, by rw [mapSeq_push]; rfl⟩
  show wpAny _ _ (call (.builtin "str.join") [.str (Str.ofString "") (tk + 1), .ref D]) _ _ _
  refine SC.join (l := [(tx [63], tk)]) (texts := [tx [63]]) hJ rfl (by decide +kernel) fun t' k => ?_
  rw [if_neg (by decide)]
  refine wpAny_pure ?_
  rw [show Txt.join (Str.ofString "") [tx [63]] = tx [63] from join_tx [[63]]]
  exact hq _ t' k (Heap.SameBut.update ..)
theorem r_sub {f : Addr} {fo : Obj} {t : Tok} {Q : Value → Shared → Prop} (X : (hd.heap_1 P).In s.heap) (hf : s.heap.get? f = some fo) (hfc : fo.cls = .type "function")
    (h : ∀ h' t' k, (∀ b o, s.heap.get? b = some o → h'.get? b = some o) → Q (.str (tx [63]) t') { s with heap := h', toks := k }) :
    wpAny (model prog w) A (call (.builtin "re.Pattern.sub") [.ref 50, .ref f, .str (tx [63]) t]) Q E s := by
  have h50 : s.heap.get? 50 = some patObj := X 50 _ rfl
  have h49 : s.heap.get? 49 = some codeObj := X 49 _ rfl
  clear X
  obtain ⟨hp, g, d, tk, os⟩ := s
  dsimp only at *
  refine wpAny_call (codeAny_call_builtin slot_re_sub.plain entry_re_sub (slot_re_sub.check _ _ _ _ _ _ _ _ ⟨_, h50, rfl⟩ (args_re_sub _ _ _) ?_))
  have hT : (⟨hp, g, d, tk, os⟩ : Shared).TypeIs (.ref f) "function" := ⟨_, hf, hfc⟩
  have f1 := fn_call
  have f2 : isSubtype (.type "str") (.type "bytearray") = pure false := by rw [isSubtype_type]; kernel_rfl
  unfold Builtin.«re.Pattern.sub» Builtin.Re.reSubstitute
  repeat (any_goals (first | assumption | ((fail_if_success (with_reducible show wpAny _ _ (reWholeTarget _ _) _ _ _)); wp_step)))
  refine r_target h50 h49 ?_
  dsimp only
  repeat (any_goals (first | assumption | wp_step))
  refine ⟨Code.quiet_builtin _ (by decide +kernel), ?_⟩
  have hlt := Heap.lt_size h50
  have hlt' := Heap.lt_size h49
  refine r_loop (Heap.get?_push_of_some _ h50) (Heap.get?_push_of_some _ h49) (Heap.get?_push_size _ rfl) fun h' t' k hs => ?_
  exact h h' t' k fun b o hb => (hs.2 b (Nat.ne_of_lt (Heap.lt_size hb))).trans (Heap.get?_push_of_some _ hb)
end
end
end
section
open PySem.Calls
set_option maxRecDepth 100000
section
section
variable {prog : Program} {w : World} {A : Around} {E : Value → Shared → Prop} {s : Shared} {h₀ : Heap} {L l : Addr} {m : Str → Option Value} {news : List (Addr × Obj)}
theorem pick_ints {vs : List Value} {ns : List Int} (hi : IntsAre vs ns) (lo up st : Option Int) : AllInts (slicePick vs.toArray lo up st) := by
  intro v hv
  unfold slicePick at hv
  have hv : v ∈ List.filterMap (vs.toArray[·]?) (sliceRange (sliceBounds lo up st vs.toArray.size).1 (sliceBounds lo up st vs.toArray.size).2.1 (sliceBounds lo up st vs.toArray.size).2.2) := by simpa using hv
  obtain ⟨i, _, e⟩ := List.mem_filterMap.mp hv
  exact hi.allInts v (Array.mem_of_getElem? e)
theorem r_slice3 {value slice : PySem.Expr} {vs : List Value} {ns : List Int} {i j k : Int} {ti tj tk : Tok} {ops : List Value} {Q : Value → Shared → Prop}
    (F : Fr h₀ L s.heap m) (N : News h₀ L s.heap news) (hl : s.heap.IsList l vs.toArray) (hi : IntsAre vs ns) (hz : ns.length ≤ 1000) (h0 : k ≠ 0)
    (h : ∀ D items h', AllInts items → Fr h₀ L h' m → News h₀ L h' ((D, { cls := .type "list", data := .seq items }) :: news) → (∀ p ∈ news, p.1 < D) → Q (.ref D) { s with heap := h' })
    (hs : subscripted slice false (.ref l) (.ref s.heap.objs.size) = operate ops (getItem (.ref l) (.ref s.heap.objs.size)))
    (ht : ∀ r, letTemporaryGo value (.ref l) r = pure ()) :
    wpAny (model prog w) A (subscriptTail value slice (.ref l) (.ref s.heap.objs.size)) Q E { s with heap := s.heap.push { cls := .type "slice", data := .fields #[.int i ti, .int j tj, .int k tk] } } :=
  slice_list3 F N hl (.int _ _) (.int _ _) (.int _ _) (by simpa using h0) (fun h' F' N' => h _ _ h' (pick_ints hi _ _ _) F' N' fun p hp => Nat.lt_succ_of_lt (Heap.lt_size (N p hp).1)) hs ht
    (by have e := hi.length; rw [List.size_toArray, e]; exact Nat.le_trans hz (by decide))
theorem r_sumL {D : Addr} {items : Array Value} {Q : Value → Shared → Prop} (hh : A.handled = none) (F : Fr h₀ L s.heap m) (N : News h₀ L s.heap news) (hm : (D, { cls := .type "list", data := .seq items }) ∈ news) (hA : AllInts items)
    (h : ∀ z t h' k, Fr h₀ L h' m → News h₀ L h' news → Q (.int z t) { s with heap := h', toks := k }) : wpAny (model prog w) A (call (.builtin "sum") [.ref D]) Q E s := by
  obtain ⟨xs, rfl⟩ := hA.items
  exact PySem.sum_intListG hh (News.isList N hm) fun h' tk t' hk => h _ _ h' tk (F.keeps hk) (N.grown hk)
end
end
end
section
open PySem PySem.W PySem.W.X PyProof.Rows
set_option maxRecDepth 100000

theorem lines_16 : True := by
  k_with_none
  w_top off
  k_with "mine stp" => (first | (k_unfold; (try dsimp only)) | (k_end; wrow_close) | walk1 | (dsimp only; walk1) | (leave1; walk_say "STEP leave1"; try dsimp only) | fail "no step")
  k_with "stepsP" => (repeat' (((fail_if_success (with_reducible show wpAny _ _ (pyIter _) _ _ _))); ((fail_if_success (with_reducible show TurnEnd _ _ _ _ _ _ _ _))); walk_at "mine stp"))
  k_with "stepsC" => (repeat' (((fail_if_success (with_reducible show LCg.CompRest _ _ _ _ _ _ _ _ _ _ _ _ _ _ _ _ _ _ _)); (fail_if_success (with_reducible show LCg.CompEnd _ _ _ _ _ _ _ _ _ _ _ _ _ _))); walk_at "mine stp"))
  k_with "mine turn2" => ((refine LCg.CompRest.succ ?_; intro v' I' oI' C' oC' D' m' h' tk' E' hv' hC' hx' F' N' off' ne'; (obtain ⟨t9', hv9'⟩ := hv'); (subst hv9'); (replace hx' : m' (Str.ofString "k") = some (Value.int 2 t9') := hx')))
  k_with "mine turn0" => ((refine LCg.CompRest.succ ?_; intro v' I' oI' C' oC' D' m' h' tk' E' hv' hC' hx' F' N' off' ne'; (obtain ⟨t9', hv9'⟩ := hv'); (subst hv9'); (replace hx' : m' (Str.ofString "k") = some (Value.int 0 t9') := hx')))
  k_with "mine cend" => ((k_dflt (refine' compEnd_one (by k_asm) (by k_asm) (by k_ne) (by k_ne) (by k_ne) (by assumption) (by exact trivial) ?_)))
  k_with "mine turn1" => ((refine LCg.CompRest.succ ?_; intro v' I' oI' C' oC' D' m' h' tk' E' hv' hC' hx' F' N' off' ne'; (obtain ⟨t9', hv9'⟩ := hv'); (subst hv9'); (replace hx' : m' (Str.ofString "k") = some (Value.int 1 t9') := hx')))
  k_with "stepsD" => (repeat' (((fail_if_success (with_reducible show LCg.CompEnd _ _ _ _ _ _ _ _ _ _ _ _ _ _)); first | walk1 | (dsimp only; walk1)); (try dsimp only)))
  k_with "mine kargs" => (((case k1 | k2 | k3 | k4 | k5 => k_asm); (case kK => first | exact rfl | assumption); (case kp => first | exact trivial | assumption); (case kd => ktr_room); (case ku => ktr_units)))
  k_with "mine kp" => (first | exact trivial | with_reducible assumption | assumption | omega | exact ⟨by with_reducible assumption, by with_reducible assumption⟩ | exact ⟨by solve_by_elim, by solve_by_elim⟩)
  k_with "steps" => (repeat' (((fail_if_success (with_reducible show wpAny _ _ (PySem.exec (PySem.Stmt.While _ _ _ _) _) _ _ _))); ((fail_if_success (with_reducible show wpAny _ _ (PySem.exec (PySem.Stmt.For _ _ _ _ _) _) _ _ _))); walk_at "mine stp"))
  k_with "tsz" => ((first | omega | (simp only [List.length_drop, List.length_take, List.length_append, List.length_cons, List.length_nil]; omega) | (simp only [List.length_drop, List.length_take, List.length_append, List.length_cons, List.length_nil] at *; omega)))
  k_with "subscriptTail Name Slice str ref" => ((k_here; (with_reducible show wpAny _ _ (subscriptTail _ (PySem.Expr.Slice _ _ none _) (Value.str (tx _) _) _) _ _ _); (rename Fr _ _ _ _ => kTF); (rename News _ _ _ _ => kTN); first | (refine' r_all (s := ⟨_, _, _, _, _⟩) kTF kTN (by walk_at "tsz") ?_; (intro _ _ _ _ _); (try dsimp only)) | (refine' r_drop (s := ⟨_, _, _, _, _⟩) kTF kTN (by omega) (by walk_at "tsz") ?_; (intro _ _ _ _ _); (try dsimp only)) | (refine' r_last (s := ⟨_, _, _, _, _⟩) kTF kTN (by omega) (by walk_at "tsz") ?_; (intro _ _ _ _ _); (try dsimp only)) | (refine' r_take (s := ⟨_, _, _, _, _⟩) kTF kTN (by omega) (by walk_at "tsz") ?_; (intro _ _ _ _ _); (try dsimp only)) | (refine' r_back (s := ⟨_, _, _, _, _⟩) kTF kTN (by omega) (by walk_at "tsz") ?_; (intro _ _ _ _ _); (try dsimp only)) | (refine' r_mid (s := ⟨_, _, _, _, _⟩) kTF kTN (by omega) (by walk_at "tsz") ?_; (intro _ _ _ _ _); (try dsimp only))))
  k_with "mine item" => ((k_here; (with_reducible show wpAny _ _ (subscriptTail _ _ (Value.str (tx _) _) (Value.int _ _)) _ _ _); first | (refine' r_item (by omega) (by walk_at "tsz") (by walk_at "tsz") ?_; (intro _ _); (try dsimp only)) | (refine' r_itemN (by omega) (by walk_at "tsz") (by walk_at "tsz") ?_; (intro _ _); (try dsimp only))))
  k_with "subscriptTail Name Name str int" => (walk_at "mine item")
  k_with "subscriptTail Name BinOp str int" => (walk_at "mine item")
  k_with "subscriptTail Name Constant str int" => (walk_at "mine item")
  k_with "call builtin:len" => ((k_here; (with_reducible show wpAny _ _ (call (Value.builtin "len") [Value.str (tx _) _]) _ _ _); refine' r_len (by walk_at "tsz") ?_; (intro _ _); (try dsimp only)))
  k_with "truthy str" => ((k_here; (with_reducible show wpAny _ _ (PySem.truthy (Value.str (tx _) _)) _ _ _); (first | (with_reducible refine' r_truthyD (by k_dflt (walk_at "tsz")) ?_ ?_) | (with_reducible refine' r_truthyT (by k_dflt (walk_at "tsz")) ?_ ?_) | (with_reducible refine' r_truthyC (by k_dflt (walk_at "tsz")) ?_ ?_)); (all_goals (intro _ _)); (all_goals (try dsimp only))))
  k_with "compareOp Eq str str" => ((k_here; (first | (with_reducible refine' r_eq1 ?_ ?_) | (with_reducible refine' r_eqC ?_ ?_)); (all_goals (intro _)); (all_goals (try dsimp only))))
  k_with "compareOp NotEq str str" => ((k_here; (first | (with_reducible refine' r_ne1 ?_ ?_) | (with_reducible refine' r_neC ?_ ?_)); (all_goals (intro _)); (all_goals (try dsimp only))))
  k_with "binaryOp Add str str" => ((k_here; (with_reducible show wpAny _ _ (binaryOp PySem.Operator.Add (Value.str (tx _) _) (Value.str (tx _) _)) _ _ _); refine' r_add (by walk_at "tsz") ?_; (intro _ _); (try dsimp only)))
  k_with "inplaceOp Add str str" => ((k_here; (with_reducible show wpAny _ _ (inplaceOp PySem.Operator.Add (Value.str (tx _) _) (Value.str (tx _) _)) _ _ _); refine' r_iadd (by walk_at "tsz") ?_; (intro _ _); (try dsimp only)))
  k_with "call builtin:str.lower" => ((k_here; (with_reducible show wpAny _ _ (call (Value.builtin "str.lower") [Value.str (tx _) _]) _ _ _); refine my_lower (by omega) ?_; intro _ _; (try dsimp only)))
  k_with "stepsN" => (repeat' (((fail_if_success (with_reducible show InvEndN _ _ _ _ _ _ _))); walk_at "mine stp"))
  k_with "tl" => ((with_reducible assumption))
  k_with "mine itemT" => ((k_here; (with_reducible show wpAny _ _ (subscriptTail _ _ (Value.ref _) (Value.int _ _)) _ _ _); k_dflt (refine' r_itemT (by k_asm) (by first | k_mem | (repeat (first | with_reducible assumption | refine List.mem_cons_of_mem _ ?_))) (by with_reducible assumption) (by omega) (by walk_at "tsz") (by walk_at "tsz") ?_ (by with_unfolding_all rfl) (by intro _; with_unfolding_all rfl)); (intro _); (try dsimp only)))
  k_with "subscriptTail Name Name ref int" => (walk_at "mine itemT")
  k_with "subscriptTail Name" => (walk_at "mine itemT")
  k_with "call builtin:len" => ((k_here; (with_reducible show wpAny _ _ (call (Value.builtin "len") [Value.ref _]) _ _ _); k_dflt (refine' r_lenT (by k_asm) (by first | k_mem | (repeat (first | with_reducible assumption | refine List.mem_cons_of_mem _ ?_))) (by with_reducible assumption) (by walk_at "tsz") ?_); (intro _ _); (try dsimp only)))
  k_with "lits" => ((try simp only [lit_e, lit_dash, lit_q, lit_set, lit_dot, lit_star, lit_open, lit_close, lit_bang, lit_hat, lit_head, lit_tail, one_eq, ne_eq] at *))
  k_with "compareOp Eq str str" => ((k_here; (with_reducible refine' r_eqS ?_ ?_); (all_goals (intro hS9)); (all_goals (try simp only [lit_e, lit_dash, lit_q, lit_set, lit_dot, lit_star, lit_open, lit_close, lit_bang, lit_hat, lit_head, lit_tail, tx_inj, ne_eq] at hS9)); (all_goals (try dsimp only))))
  k_with "compareOp NotEq str str" => ((k_here; (with_reducible refine' r_neS ?_ ?_); (all_goals (intro hS9)); (all_goals (try simp only [lit_e, lit_dash, lit_q, lit_set, lit_dot, lit_star, lit_open, lit_close, lit_bang, lit_hat, lit_head, lit_tail, tx_inj, ne_eq] at hS9)); (all_goals (try dsimp only))))
  k_with "call builtin:list.append" => ((k_here; (with_reducible show wpAny _ _ (call (Value.builtin _) [Value.ref _, _]) _ _ _); k_dflt (refine' r_append (by k_asm) (by k_asm) (by k_upd) (by omega) ?_; k_whole); intro h' F' N'; (try k_sweep)))
  k_with "stepsW" => (repeat' (((fail_if_success (with_reducible show wpAny _ _ (PySem.exec (PySem.Stmt.While _ _ _ _) _) _ _ _))); ((fail_if_success (with_reducible show WhileStep2 _ _ _ _ _ _ _ _))); walk_at "mine stp"))
  k_with "call builtin:str.join" => ((k_here; (with_reducible show wpAny _ _ (call (Value.builtin "str.join") [Value.str _ _, Value.ref _]) _ _ _); k_dflt (refine' r_joinX (by k_asm) (by k_mem) (by with_reducible assumption) (by with_reducible assumption) (by omega) ?_); (intro _ _); (try dsimp only)))
  k_with "formatField str" => ((k_here; (with_reducible show wpAny _ _ (formatField (Value.str (tx _) _) _) _ _ _); k_dflt (refine' r_field (by walk_at "tsz") ?_); (intro _ _); (try dsimp only)))
  k_with "formatField" => ((k_here; (with_reducible show wpAny _ _ (formatField (Value.str (tx _) _) _) _ _ _); k_dflt (refine' r_field (by walk_at "tsz") ?_); (intro _ _); (try dsimp only)))
  exact trivial
section
set_option maxRecDepth 100000
set_option maxHeartbeats 8000000
section
def MK (m : Str → Option Value) (v0 : Option Value) : Str → Option Value := fun y => if y = Str.ofString "k" then v0 else m y
theorem MK_eq {m m' : Str → Option Value} (h : ∀ y, y ≠ Str.ofString "k" → m' y = m y) : m' = MK m (m' (Str.ofString "k")) := by
  funext y
  unfold MK
  by_cases h0 : y = Str.ofString "k"
  · rw [if_pos h0, h0]
  rw [if_neg h0]
  exact h y h0
theorem tk_end {h₀ h' : Heap} {L : Addr} {m m' : Str → Option Value} {news : List (Addr × Obj)} {s : Shared} {Q : Flow → Shared → Prop} {tk i : Nat} {A B : List Nat} {q : Addr × Obj} (F : Fr h₀ L h' m') (N : News h₀ L h' (q :: news))
    (hm : ∀ y, y ≠ Str.ofString "k" → m' y = m y) (h : ∀ k : Nat, k < i → (A.getD k 0 = 45 ∨ A.getD k 0 = B.getD k 0)) (hi : A.getD i 0 = 45 ∨ A.getD i 0 = B.getD i 0) :
    TurnEnd h₀ L [q] s (fun m' news' => news' = news ∧ ∃ vk, m' = MK m vk ∧ ∀ k : Nat, k < i + 1 → (A.getD k 0 = 45 ∨ A.getD k 0 = B.getD k 0)) Q .next { s with heap := h', toks := tk } :=
  TurnEnd.next news F N ⟨rfl, _, MK_eq hm, fun k hk => by
    rcases Nat.lt_succ_iff_lt_or_eq.mp hk with h1 | h1
    · exact h k h1
    · exact h1 ▸ hi⟩
theorem itm_at {A : List Nat} {i : Nat} (hi : i < A.length) : (A.map itm).getD i [] = itm (A.getD i 0) := by
  rw [List.getD_eq_getElem?_getD, List.getElem?_map, List.getD_eq_getElem?_getD, List.getElem?_eq_getElem hi]; rfl
theorem itm_no {c d : Nat} (h1 : ¬ itm c = []) (h2 : ¬ itm c = [d]) : ¬ (c = 45 ∨ c = d) := by
  unfold itm at *
  split at h1 <;> simp_all
theorem itm_yes {c d : Nat} (h : itm c = [d]) : c = 45 ∨ c = d := by
  unfold itm at h
  split at h <;> simp_all
theorem itm_none {c d : Nat} (h : itm c = []) : c = 45 ∨ c = d := by
  unfold itm at h
  split at h <;> simp_all
theorem tk_none {A B : List Nat} {i : Nat} (hi : i < A.length) (h : (A.map itm).getD ((i : Int)).toNat [] = []) : A.getD i 0 = 45 ∨ A.getD i 0 = B.getD i 0 := by
  rw [Int.toNat_natCast, itm_at hi] at h; exact itm_none h
theorem tk_yes {A B : List Nat} {i : Nat} (hi : i < A.length) (h : (A.map itm).getD ((i : Int)).toNat [] = [B.getD ((i : Int)).toNat 0]) : A.getD i 0 = 45 ∨ A.getD i 0 = B.getD i 0 := by
  rw [Int.toNat_natCast, itm_at hi] at h; exact itm_yes h
theorem tk_no {A B : List Nat} {i : Nat} (hi : i < A.length) (h1 : ¬ (A.map itm).getD ((i : Int)).toNat [] = []) (h2 : ¬ (A.map itm).getD ((i : Int)).toNat [] = [B.getD ((i : Int)).toNat 0]) : (false = true ↔ insL A B) := by
  rw [Int.toNat_natCast, itm_at hi] at h1 h2
  exact ⟨fun e => (nomatch e), fun e => absurd (e i hi) (itm_no h1 h2)⟩
theorem takes_ok (w : World) (p : Program) (loose : List Str) (mean : ExcName → Option Value) (mg mb : Str → Option Value) (news : List (Addr × Obj)) (D : Addr) (us : List Value) (c : Nat) (A B : List Nat) (t : Tok)
    (hm : (D, W.listOf us.toArray c) ∈ news) (hT : Texts us (A.map itm)) (hl : A.length = B.length) (h40 : A.length ≤ 40) :
   FnOk w p loose mean mg mb 1 184 news True [Value.ref D, Value.str (tx B) t] (fun v => ∃ r, v = Value.bool r ∧ (r = true ↔ insL A B)) := by
  dsimp only [FnOk]; intros; rename_i hret
  have hlm : (A.map itm).length = A.length := List.length_map _
  refine wpAny_call ?_
  k_dflt cell_enter
  walk_at "steps"
  · exact absurd (show ((List.map itm A).length : Int) = (B.length : Int) by omega) (by assumption)
  · refine' wpAny_For ?_ ?hsA
    case hsA => intro _; rfl
    walk_at "stepsP"
    (rename Fr _ _ _ _ => kF)
    (rename News _ _ _ _ => kN)
    (rename IsRange _ _ _ _ _ _ _ _ => kR)
    rw [hlm] at kR
    refine' loop_rangeJ (n := A.length) (s := ⟨_, _, _, _, _⟩) kR ?hzA ?hhA ?hFA ?hNA (fun m i m' => ∃ vk, m' = MK m vk ∧ ∀ k : Nat, k < i → (A.getD k 0 = 45 ∨ A.getD k 0 = B.getD k 0)) ?h0A ?stepA ?doneA ?hEA
    case hzA => omega
    case hhA => rfl
    case hFA => exact kF
    case hNA => exact kN
    case h0A => exact ⟨_, MK_eq fun _ _ => rfl, fun k hk => absurd hk (Nat.not_lt_zero _)⟩
    case hEA => passes_own
    case stepA =>
      rintro i v t1 m1 I o h1 tk1 hi hv ⟨vk, rfl, hcl⟩ hlt hc F2 N2
      subst hv
      clear kF kN
      unfold MK at F2
      dsimp only
      walk_at "stepsP"
      all_goals (try ((fail_if_success (with_reducible show TurnEnd _ _ _ _ _ _ Flow.next _)); (dsimp only); (try dsimp only [TurnEnd]); walk_at "stepsP"))
      all_goals (rename Fr _ _ _ _ => kF; rename News _ _ _ _ => kN)
      all_goals first
        | exact tk_end (s := ⟨_, _, _, _, _⟩) kF kN (by intro y e1; simp only [if_neg e1]) hcl (tk_none hi (by assumption))
        | exact tk_end (s := ⟨_, _, _, _, _⟩) kF kN (by intro y e1; simp only [if_neg e1]) hcl (tk_yes hi (by assumption))
        | exact hret _ _ _ ⟨false, rfl, tk_no hi (by assumption) (by assumption)⟩ (by k_asm) (cb_drop (by k_asm) fun p hp => by repeat (first | exact hp | apply List.Mem.tail))
    case doneA =>
      rintro m1 h1 tk1 ⟨vk, rfl, hcl⟩ F2 N2
      clear kF kN
      unfold MK at F2
      walk_at "stepsP"
      exact hret _ _ _ ⟨true, rfl, ⟨fun _ => hcl, fun _ => rfl⟩⟩ (by k_asm) (cb_drop (by k_asm) fun p hp => by repeat (first | exact hp | apply List.Mem.tail))
end
end
theorem lines_17 : True := by
  k_with_none
  w_top off
  k_with "mine stp" => (first | (k_unfold; (try dsimp only)) | (k_end; wrow_close) | walk1 | (dsimp only; walk1) | (leave1; walk_say "STEP leave1"; try dsimp only) | fail "no step")
  k_with "stepsP" => (repeat' (((fail_if_success (with_reducible show wpAny _ _ (pyIter _) _ _ _))); ((fail_if_success (with_reducible show TurnEnd _ _ _ _ _ _ _ _))); walk_at "mine stp"))
  k_with "stepsC" => (repeat' (((fail_if_success (with_reducible show LCg.CompRest _ _ _ _ _ _ _ _ _ _ _ _ _ _ _ _ _ _ _)); (fail_if_success (with_reducible show LCg.CompEnd _ _ _ _ _ _ _ _ _ _ _ _ _ _))); walk_at "mine stp"))
  k_with "mine turn2" => ((refine LCg.CompRest.succ ?_; intro v' I' oI' C' oC' D' m' h' tk' E' hv' hC' hx' F' N' off' ne'; (obtain ⟨t9', hv9'⟩ := hv'); (subst hv9'); (replace hx' : m' (Str.ofString "k") = some (Value.int 2 t9') := hx')))
  k_with "mine turn0" => ((refine LCg.CompRest.succ ?_; intro v' I' oI' C' oC' D' m' h' tk' E' hv' hC' hx' F' N' off' ne'; (obtain ⟨t9', hv9'⟩ := hv'); (subst hv9'); (replace hx' : m' (Str.ofString "k") = some (Value.int 0 t9') := hx')))
  k_with "mine cend" => ((k_dflt (refine' compEnd_one (by k_asm) (by k_asm) (by k_ne) (by k_ne) (by k_ne) (by assumption) (by exact trivial) ?_)))
  k_with "mine turn1" => ((refine LCg.CompRest.succ ?_; intro v' I' oI' C' oC' D' m' h' tk' E' hv' hC' hx' F' N' off' ne'; (obtain ⟨t9', hv9'⟩ := hv'); (subst hv9'); (replace hx' : m' (Str.ofString "k") = some (Value.int 1 t9') := hx')))
  k_with "stepsD" => (repeat' (((fail_if_success (with_reducible show LCg.CompEnd _ _ _ _ _ _ _ _ _ _ _ _ _ _)); first | walk1 | (dsimp only; walk1)); (try dsimp only)))
  k_with "mine kargs" => (((case k1 | k2 | k3 | k4 | k5 => k_asm); (case kK => first | exact rfl | assumption); (case kp => first | exact trivial | assumption); (case kd => ktr_room); (case ku => ktr_units)))
  k_with "mine kp" => (first | exact trivial | with_reducible assumption | assumption | omega | exact ⟨by with_reducible assumption, by with_reducible assumption⟩ | exact ⟨by solve_by_elim, by solve_by_elim⟩)
  k_with "steps" => (repeat' (((fail_if_success (with_reducible show wpAny _ _ (PySem.exec (PySem.Stmt.While _ _ _ _) _) _ _ _))); ((fail_if_success (with_reducible show wpAny _ _ (PySem.exec (PySem.Stmt.For _ _ _ _ _) _) _ _ _))); walk_at "mine stp"))
  k_with "tsz" => ((first | omega | (simp only [List.length_drop, List.length_take, List.length_append, List.length_cons, List.length_nil]; omega) | (simp only [List.length_drop, List.length_take, List.length_append, List.length_cons, List.length_nil] at *; omega)))
  k_with "subscriptTail Name Slice str ref" => ((k_here; (with_reducible show wpAny _ _ (subscriptTail _ (PySem.Expr.Slice _ _ none _) (Value.str (tx _) _) _) _ _ _); (rename Fr _ _ _ _ => kTF); (rename News _ _ _ _ => kTN); first | (refine' r_all (s := ⟨_, _, _, _, _⟩) kTF kTN (by walk_at "tsz") ?_; (intro _ _ _ _ _); (try dsimp only)) | (refine' r_drop (s := ⟨_, _, _, _, _⟩) kTF kTN (by omega) (by walk_at "tsz") ?_; (intro _ _ _ _ _); (try dsimp only)) | (refine' r_last (s := ⟨_, _, _, _, _⟩) kTF kTN (by omega) (by walk_at "tsz") ?_; (intro _ _ _ _ _); (try dsimp only)) | (refine' r_take (s := ⟨_, _, _, _, _⟩) kTF kTN (by omega) (by walk_at "tsz") ?_; (intro _ _ _ _ _); (try dsimp only)) | (refine' r_back (s := ⟨_, _, _, _, _⟩) kTF kTN (by omega) (by walk_at "tsz") ?_; (intro _ _ _ _ _); (try dsimp only)) | (refine' r_mid (s := ⟨_, _, _, _, _⟩) kTF kTN (by omega) (by walk_at "tsz") ?_; (intro _ _ _ _ _); (try dsimp only))))
  k_with "mine item" => ((k_here; (with_reducible show wpAny _ _ (subscriptTail _ _ (Value.str (tx _) _) (Value.int _ _)) _ _ _); first | (refine' r_item (by omega) (by walk_at "tsz") (by walk_at "tsz") ?_; (intro _ _); (try dsimp only)) | (refine' r_itemN (by omega) (by walk_at "tsz") (by walk_at "tsz") ?_; (intro _ _); (try dsimp only))))
  k_with "subscriptTail Name Name str int" => (walk_at "mine item")
  k_with "subscriptTail Name BinOp str int" => (walk_at "mine item")
  k_with "subscriptTail Name Constant str int" => (walk_at "mine item")
  k_with "call builtin:len" => ((k_here; (with_reducible show wpAny _ _ (call (Value.builtin "len") [Value.str (tx _) _]) _ _ _); refine' r_len (by walk_at "tsz") ?_; (intro _ _); (try dsimp only)))
  k_with "truthy str" => ((k_here; (with_reducible show wpAny _ _ (PySem.truthy (Value.str (tx _) _)) _ _ _); (first | (with_reducible refine' r_truthyD (by k_dflt (walk_at "tsz")) ?_ ?_) | (with_reducible refine' r_truthyT (by k_dflt (walk_at "tsz")) ?_ ?_) | (with_reducible refine' r_truthyC (by k_dflt (walk_at "tsz")) ?_ ?_)); (all_goals (intro _ _)); (all_goals (try dsimp only))))
  k_with "compareOp Eq str str" => ((k_here; (first | (with_reducible refine' r_eq1 ?_ ?_) | (with_reducible refine' r_eqC ?_ ?_)); (all_goals (intro _)); (all_goals (try dsimp only))))
  k_with "compareOp NotEq str str" => ((k_here; (first | (with_reducible refine' r_ne1 ?_ ?_) | (with_reducible refine' r_neC ?_ ?_)); (all_goals (intro _)); (all_goals (try dsimp only))))
  k_with "binaryOp Add str str" => ((k_here; (with_reducible show wpAny _ _ (binaryOp PySem.Operator.Add (Value.str (tx _) _) (Value.str (tx _) _)) _ _ _); refine' r_add (by walk_at "tsz") ?_; (intro _ _); (try dsimp only)))
  k_with "inplaceOp Add str str" => ((k_here; (with_reducible show wpAny _ _ (inplaceOp PySem.Operator.Add (Value.str (tx _) _) (Value.str (tx _) _)) _ _ _); refine' r_iadd (by walk_at "tsz") ?_; (intro _ _); (try dsimp only)))
  k_with "call builtin:str.lower" => ((k_here; (with_reducible show wpAny _ _ (call (Value.builtin "str.lower") [Value.str (tx _) _]) _ _ _); refine my_lower (by omega) ?_; intro _ _; (try dsimp only)))
  k_with "stepsN" => (repeat' (((fail_if_success (with_reducible show InvEndN _ _ _ _ _ _ _))); walk_at "mine stp"))
  k_with "tl" => ((with_reducible assumption))
  k_with "mine itemT" => ((k_here; (with_reducible show wpAny _ _ (subscriptTail _ _ (Value.ref _) (Value.int _ _)) _ _ _); k_dflt (refine' r_itemT (by k_asm) (by first | k_mem | (repeat (first | with_reducible assumption | refine List.mem_cons_of_mem _ ?_))) (by with_reducible assumption) (by omega) (by walk_at "tsz") (by walk_at "tsz") ?_ (by with_unfolding_all rfl) (by intro _; with_unfolding_all rfl)); (intro _); (try dsimp only)))
  k_with "subscriptTail Name Name ref int" => (walk_at "mine itemT")
  k_with "subscriptTail Name" => (walk_at "mine itemT")
  k_with "call builtin:len" => ((k_here; (with_reducible show wpAny _ _ (call (Value.builtin "len") [Value.ref _]) _ _ _); k_dflt (refine' r_lenT (by k_asm) (by first | k_mem | (repeat (first | with_reducible assumption | refine List.mem_cons_of_mem _ ?_))) (by with_reducible assumption) (by walk_at "tsz") ?_); (intro _ _); (try dsimp only)))
  k_with "lits" => ((try simp only [lit_e, lit_dash, lit_q, lit_set, lit_dot, lit_star, lit_open, lit_close, lit_bang, lit_hat, lit_head, lit_tail, one_eq, ne_eq] at *))
  k_with "compareOp Eq str str" => ((k_here; (with_reducible refine' r_eqS ?_ ?_); (all_goals (intro hS9)); (all_goals (try simp only [lit_e, lit_dash, lit_q, lit_set, lit_dot, lit_star, lit_open, lit_close, lit_bang, lit_hat, lit_head, lit_tail, tx_inj, ne_eq] at hS9)); (all_goals (try dsimp only))))
  k_with "compareOp NotEq str str" => ((k_here; (with_reducible refine' r_neS ?_ ?_); (all_goals (intro hS9)); (all_goals (try simp only [lit_e, lit_dash, lit_q, lit_set, lit_dot, lit_star, lit_open, lit_close, lit_bang, lit_hat, lit_head, lit_tail, tx_inj, ne_eq] at hS9)); (all_goals (try dsimp only))))
  k_with "call builtin:list.append" => ((k_here; (with_reducible show wpAny _ _ (call (Value.builtin _) [Value.ref _, _]) _ _ _); k_dflt (refine' r_append (by k_asm) (by k_asm) (by k_upd) (by omega) ?_; k_whole); intro h' F' N'; (try k_sweep)))
  k_with "stepsW" => (repeat' (((fail_if_success (with_reducible show wpAny _ _ (PySem.exec (PySem.Stmt.While _ _ _ _) _) _ _ _))); ((fail_if_success (with_reducible show WhileStep2 _ _ _ _ _ _ _ _))); walk_at "mine stp"))
  k_with "call builtin:str.join" => ((k_here; (with_reducible show wpAny _ _ (call (Value.builtin "str.join") [Value.str _ _, Value.ref _]) _ _ _); k_dflt (refine' r_joinX (by k_asm) (by k_mem) (by with_reducible assumption) (by with_reducible assumption) (by omega) ?_); (intro _ _); (try dsimp only)))
  k_with "formatField str" => ((k_here; (with_reducible show wpAny _ _ (formatField (Value.str (tx _) _) _) _ _ _); k_dflt (refine' r_field (by walk_at "tsz") ?_); (intro _ _); (try dsimp only)))
  k_with "formatField" => ((k_here; (with_reducible show wpAny _ _ (formatField (Value.str (tx _) _) _) _ _ _); k_dflt (refine' r_field (by walk_at "tsz") ?_); (intro _ _); (try dsimp only)))
  exact trivial
section
set_option maxRecDepth 100000
set_option maxHeartbeats 8000000
section
def MI (m : Str → Option Value) (v0 : Option Value) : Str → Option Value := fun y => if y = Str.ofString "at" then v0 else m y
theorem MI_eq {m m' : Str → Option Value} (h : ∀ y, y ≠ Str.ofString "at" → m' y = m y) : m' = MI m (m' (Str.ofString "at")) := by
  funext y
  unfold MI
  by_cases h0 : y = Str.ofString "at"
  · rw [if_pos h0, h0]
  rw [if_neg h0]
  exact h y h0
theorem cat_take (f : Nat → List Nat) (A : List Nat) (k : Nat) : catOf f A = catOf f (A.take k) ++ catOf f (A.drop k) := by
  unfold catOf
  rw [← List.flatten_append, ← List.map_append, List.take_append_drop]
theorem cat_cons (f : Nat → List Nat) (c : Nat) (A : List Nat) : catOf f (c :: A) = f c ++ catOf f A := by
  unfold catOf; rw [List.map_cons, List.flatten_cons]
theorem drop_at {A : List Nat} {k : Nat} (hk : k < A.length) : A.drop k = A.getD k 0 :: A.drop (k + 1) := by
  rw [List.drop_eq_getElem_cons hk, List.getD_eq_getElem?_getD, List.getElem?_eq_getElem hk]; rfl
theorem take_at {A : List Nat} {k : Nat} (hk : k < A.length) : A.take (k + 1) = A.take k ++ [A.getD k 0] := by
  rw [List.take_add_one, List.getD_eq_getElem?_getD, List.getElem?_eq_getElem hk]; rfl
theorem cat_snoc (f : Nat → List Nat) {A : List Nat} {k : Nat} (hk : k < A.length) : catOf f (A.take (k + 1)) = catOf f (A.take k) ++ f (A.getD k 0) := by
  rw [take_at hk]; unfold catOf; simp
theorem cat_len (f : Nat → List Nat) (hf : ∀ c, (f c).length ≤ 3) : ∀ A : List Nat, (catOf f A).length ≤ 3 * A.length
  | [] => by simp [catOf]
  | c :: r => by rw [cat_cons, List.length_append, List.length_cons]; have := cat_len f hf r; have := hf c; omega
theorem prt_len (c : Nat) : 1 ≤ (prt c).length ∧ (prt c).length ≤ 3 := by unfold prt; (repeat' split) <;> simp
def txtOf (A : List Nat) : List Nat := [40, 63, 115, 58] ++ catOf prt A ++ [41, 92, 90]
def posI (A : List Nat) (k : Nat) : Nat := 4 + (catOf prt (A.take k)).length
theorem txt_len (A : List Nat) : (txtOf A).length = 7 + (catOf prt A).length := by unfold txtOf; simp only [List.length_append, List.length_cons, List.length_nil]; omega
theorem txt_head (A : List Nat) : (txtOf A).take (4 : Int).toNat = [40, 63, 115, 58] := rfl
theorem txt_tail (A : List Nat) : (txtOf A).drop ((txtOf A).length - (-(-3 : Int)).toNat) = [41, 92, 90] := by
  rw [txt_len, show (-(-3 : Int)).toNat = 3 from rfl]
  unfold txtOf
  rw [List.drop_append_of_le_length (by simp only [List.length_append, List.length_cons, List.length_nil]; omega), List.drop_of_length_le (by simp only [List.length_append, List.length_cons, List.length_nil]; omega)]
  rfl
theorem txt_drop (A : List Nat) (k : Nat) : (txtOf A).drop (posI A k) = catOf prt (A.drop k) ++ [41, 92, 90] := by
  unfold txtOf posI
  rw [cat_take prt A k, List.append_assoc, List.append_assoc, ← List.append_assoc, List.drop_append, List.drop_of_length_le (by simp only [List.length_append, List.length_cons, List.length_nil]; omega)]
  simp only [List.length_append, List.length_cons, List.length_nil, List.nil_append]
  rw [show 4 + (catOf prt (A.take k)).length - (0 + 1 + 1 + 1 + 1 + (catOf prt (A.take k)).length) = 0 by omega]
  rfl
theorem txt_more {A : List Nat} {k : Nat} (hk : k ≤ A.length) : ((posI A k : Nat) : Int) < (txtOf A).length - 3 ↔ k < A.length := by
  rw [txt_len, cat_take prt A k, List.length_append]
  unfold posI
  by_cases h : k < A.length
  · rw [drop_at h, cat_cons, List.length_append]
    have := (prt_len (A.getD k 0)).1
    exact ⟨fun _ => h, fun _ => by omega⟩
  · have : k = A.length := by omega
    subst this
    rw [List.drop_length]
    have : (catOf prt []).length = 0 := rfl
    exact ⟨fun h => by omega, fun h => by omega⟩
theorem pos_succ {A : List Nat} {k : Nat} (hk : k < A.length) : posI A (k + 1) = posI A k + (prt (A.getD k 0)).length := by
  unfold posI; rw [cat_snoc prt hk, List.length_append]; omega
def ItJ (A : List Nat) (D : Addr) (news : List (Addr × Obj)) (m : Str → Option Value) (n : Nat) (m' : Str → Option Value) (nw' : List (Addr × Obj)) : Prop :=
  ∃ k us c t, k ≤ A.length ∧ n = A.length - k ∧ m' = MI m (some (.int ((posI A k : Nat) : Int) t)) ∧ nw' = (D, W.listOf (List.toArray us) c) :: news ∧ Texts us ((A.take k).map itm)
theorem txt_at {A : List Nat} {k : Nat} (hk : k < A.length) : (txtOf A).drop (posI A k) = prt (A.getD k 0) ++ (catOf prt (A.drop (k + 1)) ++ [41, 92, 90]) := by
  rw [txt_drop, drop_at hk, cat_cons, List.append_assoc]
theorem getD_drop (X : List Nat) (p : Nat) : X.getD p 0 = (X.drop p).getD 0 0 := by
  rw [List.getD_eq_getElem?_getD, List.getD_eq_getElem?_getD, List.getElem?_drop]; rfl
theorem it_k {A : List Nat} {k : Nat} (hA : ∀ c ∈ A, c ∈ okS) (hk : k < A.length) : A.getD k 0 ∈ okS := by
  refine hA _ ?_
  rw [List.getD_eq_getElem?_getD, List.getElem?_eq_getElem hk]
  exact List.getElem_mem hk
theorem it_63 {A : List Nat} {k : Nat} (hA : ∀ c ∈ A, c ∈ okS) (hk : k < A.length) (h : List.take (((posI A k : Nat) : Int) + 3 - ((posI A k : Nat) : Int)).toNat (List.drop ((posI A k : Nat) : Int).toNat (txtOf A)) = [91, 63, 93]) : A.getD k 0 = 63 := by
  rw [show (((posI A k : Nat) : Int) + 3 - ((posI A k : Nat) : Int)).toNat = 3 by omega, Int.toNat_natCast, txt_at hk] at h
  have hc := it_k hA hk
  generalize A.getD k 0 = c at *
  unfold prt at h
  by_cases e1 : c = 45
  · subst e1; simp at h
  by_cases e2 : c = 63
  · exact e2
  rw [if_neg e1, if_neg e2] at h
  simp at h
  rw [h.1] at hc
  exact absurd hc (by decide)
theorem it_not63 {A : List Nat} {k : Nat} (hk : k < A.length) (h : ¬ List.take (((posI A k : Nat) : Int) + 3 - ((posI A k : Nat) : Int)).toNat (List.drop ((posI A k : Nat) : Int).toNat (txtOf A)) = [91, 63, 93]) : A.getD k 0 ≠ 63 := by
  intro e
  rw [show (((posI A k : Nat) : Int) + 3 - ((posI A k : Nat) : Int)).toNat = 3 by omega, Int.toNat_natCast, txt_at hk, e] at h
  exact h rfl
theorem it_get {A : List Nat} {k : Nat} (hk : k < A.length) (h : A.getD k 0 ≠ 63) : (txtOf A).getD ((posI A k : Nat) : Int).toNat 0 = if A.getD k 0 = 45 then 46 else A.getD k 0 := by
  rw [Int.toNat_natCast, getD_drop, txt_at hk]
  generalize A.getD k 0 = c at *
  unfold prt
  by_cases e1 : c = 45
  · rw [if_pos e1, if_pos e1]; rfl
  · rw [if_neg e1, if_neg h, if_neg e1]; rfl
theorem it_45 {A : List Nat} {k : Nat} (hA : ∀ c ∈ A, c ∈ okS) (hk : k < A.length) (h1 : A.getD k 0 ≠ 63) (h : [(txtOf A).getD ((posI A k : Nat) : Int).toNat 0] = [46]) : A.getD k 0 = 45 := by
  rw [it_get hk h1] at h
  have hc := it_k hA hk
  generalize A.getD k 0 = c at *
  by_cases e1 : c = 45
  · exact e1
  · rw [if_neg e1] at h
    simp at h
    subst h
    exact absurd hc (by decide)
theorem it_not45 {A : List Nat} {k : Nat} (hk : k < A.length) (h1 : A.getD k 0 ≠ 63) (h : ¬ [(txtOf A).getD ((posI A k : Nat) : Int).toNat 0] = [46]) : A.getD k 0 ≠ 45 := by
  intro e
  rw [it_get hk h1, if_pos e] at h
  exact h rfl
theorem letters_in : ∀ c ∈ okS, c ≠ 45 → c ≠ 63 → (Builtin.Str.occurrences (Str.ofString "pcdblsrwxStT") (tx [c]) 0 (Str.ofString "pcdblsrwxStT").length 1).isEmpty = false := by decide +kernel
theorem it_bad {A : List Nat} {k : Nat} (hA : ∀ c ∈ A, c ∈ okS) (hk : k < A.length) (h1 : A.getD k 0 ≠ 63) (h2 : A.getD k 0 ≠ 45)
    (h : (Builtin.Str.occurrences (Str.ofString "pcdblsrwxStT") (tx [(txtOf A).getD ((posI A k : Nat) : Int).toNat 0]) 0 (Str.ofString "pcdblsrwxStT").length 1).isEmpty = true) : False := by
  rw [it_get hk h1, if_neg h2, letters_in _ (it_k hA hk) h2 h1] at h
  cases h
theorem it_end {h₀ h' : Heap} {L D : Addr} {m m' : Str → Option Value} {news : List (Addr × Obj)} {s : Shared} {Q : Flow → Shared → Prop} {tk k c : Nat} {A X : List Nat} {us : List Value} {p : Int} {t t2 : Tok} (F : Fr h₀ L h' m') (N : News h₀ L h' ((D, W.listOf (us ++ [Value.str (tx X) t]).toArray c) :: news))
    (hm : ∀ y, y ≠ Str.ofString "at" → m' y = m y) (ha : m' (Str.ofString "at") = some (.int p t2)) (hk : k < A.length) (hp : p = ((posI A k : Nat) : Int) + ((prt (A.getD k 0)).length : Nat)) (hT : Texts us ((A.take k).map itm)) (hX : X = itm (A.getD k 0)) :
    WhileStep2 h₀ L s (ItJ A D news m) Q (A.length - k) .next { s with heap := h', toks := tk } := by
  refine while_end (n' := A.length - (k + 1)) F N (by omega) ⟨k + 1, _, _, t2, hk, rfl, ?_, rfl, ?_⟩
  · have e := MI_eq hm
    rw [ha, hp] at e
    rw [pos_succ hk, Int.natCast_add]
    exact e
  · rw [take_at hk, List.map_append, hX]
    exact hT.snoc
theorem items_ok (w : World) (p : Program) (loose : List Str) (mean : ExcName → Option Value) (mg mb : Str → Option Value) (news : List (Addr × Obj)) (A : List Nat) (t : Tok)
    (hA : ∀ c ∈ A, c ∈ okS) (h40 : A.length ≤ 40) :
   FnOkL w p loose mean mg mb 1 177 news True [Value.str (tx (txtOf A)) t] (fun us => Texts us (A.map itm)) := by
  dsimp only [FnOkL]; intros; rename_i hret
  have hX : (txtOf A).length ≤ 200 := by rw [txt_len]; have := cat_len prt (fun c => (prt_len c).2) A; omega
  have hX7 : 7 ≤ (txtOf A).length := by rw [txt_len]; omega
  refine wpAny_call ?_
  k_dflt cell_enter
  walk_at "steps"
  rotate_left
  · exact absurd (txt_tail A) (by assumption)
  · exact absurd (txt_head A) (by assumption)
  (rename Fr _ _ _ _ => kF)
  (rename News _ _ _ _ => kN)
  refine' while_JD (s := ⟨_, _, _, _, _⟩) kF kN (ItJ A) (n₀ := A.length) ?hJA ?turnA ?hEA
  case hEA => passes_own
  case hJA => exact ⟨0, [], 0, _, Nat.zero_le _, rfl, MI_eq fun _ _ => rfl, rfl, Texts.nil⟩
  case turnA =>
    rintro n m1 nw1 h1 tk1 F1 N1 ⟨k, us, c, ta, hk, rfl, rfl, rfl, hT⟩
    (try clear kF); (try clear kN)
    unfold MI at F1
    have hus : us.length ≤ 40 := by rw [hT.len, List.length_map, List.length_take]; omega
    have hpos : posI A k ≤ 200 := by unfold posI; have := cat_len prt (fun c => (prt_len c).2) (A.take k); rw [List.length_take] at this; omega
    walk_at "stepsW"
    all_goals (rename Fr _ _ _ _ => kF; rename News _ _ _ _ => kN)
    · have hk := (txt_more hk).mp (by assumption)
      have hc := it_63 hA hk (by assumption)
      exact it_end (s := ⟨_, _, _, _, _⟩) (X := [63]) kF kN (by intro y e1; simp only [if_neg e1]) rfl hk (by rw [hc]; rfl) hT (by rw [hc]; rfl)
    · have hk := (txt_more hk).mp (by assumption)
      have h63 := it_not63 hk (by assumption)
      have hc := it_45 hA hk h63 (by assumption)
      exact it_end (s := ⟨_, _, _, _, _⟩) (X := []) kF kN (by intro y e1; simp only [if_neg e1]) rfl hk (by rw [hc]; rfl) hT (by rw [hc]; rfl)
    · have hk := (txt_more hk).mp (by assumption)
      have h63 := it_not63 hk (by assumption)
      have h45 := it_not45 hk h63 (by assumption)
      exact (it_bad hA hk h63 h45 (by assumption)).elim
    · have hk := (txt_more hk).mp (by assumption)
      have h63 := it_not63 hk (by assumption)
      have h45 := it_not45 hk h63 (by assumption)
      (try dsimp only)
      exact it_end (s := ⟨_, _, _, _, _⟩) kF kN (by intro y e1; simp only [if_neg e1]) rfl hk (by unfold prt; rw [if_neg h45, if_neg h63]; rfl) hT (by rw [it_get hk h63]; unfold itm; rw [if_neg h45, if_neg h45])
    · have hk : k = A.length := by
        apply Classical.byContradiction
        intro h
        have := (txt_more hk).mpr (by omega)
        contradiction
      refine hret _ us _ _ _ ?_ (by k_asm) kN (by assumption)
      rw [hk, List.take_length] at hT
      exact hT
end
end
theorem lines_18 : True := by
  k_with_none
  w_top off
  k_with "mine stp" => (first | (k_unfold; (try dsimp only)) | (k_end; wrow_close) | walk1 | (dsimp only; walk1) | (leave1; walk_say "STEP leave1"; try dsimp only) | fail "no step")
  k_with "stepsP" => (repeat' (((fail_if_success (with_reducible show wpAny _ _ (pyIter _) _ _ _))); ((fail_if_success (with_reducible show TurnEnd _ _ _ _ _ _ _ _))); walk_at "mine stp"))
  k_with "stepsC" => (repeat' (((fail_if_success (with_reducible show LCg.CompRest _ _ _ _ _ _ _ _ _ _ _ _ _ _ _ _ _ _ _)); (fail_if_success (with_reducible show LCg.CompEnd _ _ _ _ _ _ _ _ _ _ _ _ _ _))); walk_at "mine stp"))
  k_with "mine turn2" => ((refine LCg.CompRest.succ ?_; intro v' I' oI' C' oC' D' m' h' tk' E' hv' hC' hx' F' N' off' ne'; (obtain ⟨t9', hv9'⟩ := hv'); (subst hv9'); (replace hx' : m' (Str.ofString "k") = some (Value.int 2 t9') := hx')))
  k_with "mine turn0" => ((refine LCg.CompRest.succ ?_; intro v' I' oI' C' oC' D' m' h' tk' E' hv' hC' hx' F' N' off' ne'; (obtain ⟨t9', hv9'⟩ := hv'); (subst hv9'); (replace hx' : m' (Str.ofString "k") = some (Value.int 0 t9') := hx')))
  k_with "mine cend" => ((k_dflt (refine' compEnd_one (by k_asm) (by k_asm) (by k_ne) (by k_ne) (by k_ne) (by assumption) (by exact trivial) ?_)))
  k_with "mine turn1" => ((refine LCg.CompRest.succ ?_; intro v' I' oI' C' oC' D' m' h' tk' E' hv' hC' hx' F' N' off' ne'; (obtain ⟨t9', hv9'⟩ := hv'); (subst hv9'); (replace hx' : m' (Str.ofString "k") = some (Value.int 1 t9') := hx')))
  k_with "stepsD" => (repeat' (((fail_if_success (with_reducible show LCg.CompEnd _ _ _ _ _ _ _ _ _ _ _ _ _ _)); first | walk1 | (dsimp only; walk1)); (try dsimp only)))
  k_with "mine kargs" => (((case k1 | k2 | k3 | k4 | k5 => k_asm); (case kK => first | exact rfl | assumption); (case kp => first | exact trivial | assumption); (case kd => ktr_room); (case ku => ktr_units)))
  k_with "mine kp" => (first | exact trivial | with_reducible assumption | assumption | omega | exact ⟨by with_reducible assumption, by with_reducible assumption⟩ | exact ⟨by solve_by_elim, by solve_by_elim⟩)
  k_with "steps" => (repeat' (((fail_if_success (with_reducible show wpAny _ _ (PySem.exec (PySem.Stmt.While _ _ _ _) _) _ _ _))); ((fail_if_success (with_reducible show wpAny _ _ (PySem.exec (PySem.Stmt.For _ _ _ _ _) _) _ _ _))); walk_at "mine stp"))
  k_with "tsz" => ((first | omega | (simp only [List.length_drop, List.length_take, List.length_append, List.length_cons, List.length_nil]; omega) | (simp only [List.length_drop, List.length_take, List.length_append, List.length_cons, List.length_nil] at *; omega)))
  k_with "subscriptTail Name Slice str ref" => ((k_here; (with_reducible show wpAny _ _ (subscriptTail _ (PySem.Expr.Slice _ _ none _) (Value.str (tx _) _) _) _ _ _); (rename Fr _ _ _ _ => kTF); (rename News _ _ _ _ => kTN); first | (refine' r_all (s := ⟨_, _, _, _, _⟩) kTF kTN (by walk_at "tsz") ?_; (intro _ _ _ _ _); (try dsimp only)) | (refine' r_drop (s := ⟨_, _, _, _, _⟩) kTF kTN (by omega) (by walk_at "tsz") ?_; (intro _ _ _ _ _); (try dsimp only)) | (refine' r_last (s := ⟨_, _, _, _, _⟩) kTF kTN (by omega) (by walk_at "tsz") ?_; (intro _ _ _ _ _); (try dsimp only)) | (refine' r_take (s := ⟨_, _, _, _, _⟩) kTF kTN (by omega) (by walk_at "tsz") ?_; (intro _ _ _ _ _); (try dsimp only)) | (refine' r_back (s := ⟨_, _, _, _, _⟩) kTF kTN (by omega) (by walk_at "tsz") ?_; (intro _ _ _ _ _); (try dsimp only)) | (refine' r_mid (s := ⟨_, _, _, _, _⟩) kTF kTN (by omega) (by walk_at "tsz") ?_; (intro _ _ _ _ _); (try dsimp only))))
  k_with "mine item" => ((k_here; (with_reducible show wpAny _ _ (subscriptTail _ _ (Value.str (tx _) _) (Value.int _ _)) _ _ _); first | (refine' r_item (by omega) (by walk_at "tsz") (by walk_at "tsz") ?_; (intro _ _); (try dsimp only)) | (refine' r_itemN (by omega) (by walk_at "tsz") (by walk_at "tsz") ?_; (intro _ _); (try dsimp only))))
  k_with "subscriptTail Name Name str int" => (walk_at "mine item")
  k_with "subscriptTail Name BinOp str int" => (walk_at "mine item")
  k_with "subscriptTail Name Constant str int" => (walk_at "mine item")
  k_with "call builtin:len" => ((k_here; (with_reducible show wpAny _ _ (call (Value.builtin "len") [Value.str (tx _) _]) _ _ _); refine' r_len (by walk_at "tsz") ?_; (intro _ _); (try dsimp only)))
  k_with "truthy str" => ((k_here; (with_reducible show wpAny _ _ (PySem.truthy (Value.str (tx _) _)) _ _ _); (first | (with_reducible refine' r_truthyD (by k_dflt (walk_at "tsz")) ?_ ?_) | (with_reducible refine' r_truthyT (by k_dflt (walk_at "tsz")) ?_ ?_) | (with_reducible refine' r_truthyC (by k_dflt (walk_at "tsz")) ?_ ?_)); (all_goals (intro _ _)); (all_goals (try dsimp only))))
  k_with "compareOp Eq str str" => ((k_here; (first | (with_reducible refine' r_eq1 ?_ ?_) | (with_reducible refine' r_eqC ?_ ?_)); (all_goals (intro _)); (all_goals (try dsimp only))))
  k_with "compareOp NotEq str str" => ((k_here; (first | (with_reducible refine' r_ne1 ?_ ?_) | (with_reducible refine' r_neC ?_ ?_)); (all_goals (intro _)); (all_goals (try dsimp only))))
  k_with "binaryOp Add str str" => ((k_here; (with_reducible show wpAny _ _ (binaryOp PySem.Operator.Add (Value.str (tx _) _) (Value.str (tx _) _)) _ _ _); refine' r_add (by walk_at "tsz") ?_; (intro _ _); (try dsimp only)))
  k_with "inplaceOp Add str str" => ((k_here; (with_reducible show wpAny _ _ (inplaceOp PySem.Operator.Add (Value.str (tx _) _) (Value.str (tx _) _)) _ _ _); refine' r_iadd (by walk_at "tsz") ?_; (intro _ _); (try dsimp only)))
  k_with "call builtin:str.lower" => ((k_here; (with_reducible show wpAny _ _ (call (Value.builtin "str.lower") [Value.str (tx _) _]) _ _ _); refine my_lower (by omega) ?_; intro _ _; (try dsimp only)))
  k_with "stepsN" => (repeat' (((fail_if_success (with_reducible show InvEndN _ _ _ _ _ _ _))); walk_at "mine stp"))
  k_with "tl" => ((with_reducible assumption))
  k_with "mine itemT" => ((k_here; (with_reducible show wpAny _ _ (subscriptTail _ _ (Value.ref _) (Value.int _ _)) _ _ _); k_dflt (refine' r_itemT (by k_asm) (by first | k_mem | (repeat (first | with_reducible assumption | refine List.mem_cons_of_mem _ ?_))) (by with_reducible assumption) (by omega) (by walk_at "tsz") (by walk_at "tsz") ?_ (by with_unfolding_all rfl) (by intro _; with_unfolding_all rfl)); (intro _); (try dsimp only)))
  k_with "subscriptTail Name Name ref int" => (walk_at "mine itemT")
  k_with "subscriptTail Name" => (walk_at "mine itemT")
  k_with "call builtin:len" => ((k_here; (with_reducible show wpAny _ _ (call (Value.builtin "len") [Value.ref _]) _ _ _); k_dflt (refine' r_lenT (by k_asm) (by first | k_mem | (repeat (first | with_reducible assumption | refine List.mem_cons_of_mem _ ?_))) (by with_reducible assumption) (by walk_at "tsz") ?_); (intro _ _); (try dsimp only)))
  k_with "lits" => ((try simp only [lit_e, lit_dash, lit_q, lit_set, lit_dot, lit_star, lit_open, lit_close, lit_bang, lit_hat, lit_head, lit_tail, one_eq, ne_eq] at *))
  k_with "compareOp Eq str str" => ((k_here; (with_reducible refine' r_eqS ?_ ?_); (all_goals (intro hS9)); (all_goals (try simp only [lit_e, lit_dash, lit_q, lit_set, lit_dot, lit_star, lit_open, lit_close, lit_bang, lit_hat, lit_head, lit_tail, tx_inj, ne_eq] at hS9)); (all_goals (try dsimp only))))
  k_with "compareOp NotEq str str" => ((k_here; (with_reducible refine' r_neS ?_ ?_); (all_goals (intro hS9)); (all_goals (try simp only [lit_e, lit_dash, lit_q, lit_set, lit_dot, lit_star, lit_open, lit_close, lit_bang, lit_hat, lit_head, lit_tail, tx_inj, ne_eq] at hS9)); (all_goals (try dsimp only))))
  k_with "call builtin:list.append" => ((k_here; (with_reducible show wpAny _ _ (call (Value.builtin _) [Value.ref _, _]) _ _ _); k_dflt (refine' r_append (by k_asm) (by k_asm) (by k_upd) (by omega) ?_; k_whole); intro h' F' N'; (try k_sweep)))
  k_with "stepsW" => (repeat' (((fail_if_success (with_reducible show wpAny _ _ (PySem.exec (PySem.Stmt.While _ _ _ _) _) _ _ _))); ((fail_if_success (with_reducible show WhileStep2 _ _ _ _ _ _ _ _))); walk_at "mine stp"))
  k_with "call builtin:str.join" => ((k_here; (with_reducible show wpAny _ _ (call (Value.builtin "str.join") [Value.str _ _, Value.ref _]) _ _ _); k_dflt (refine' r_joinX (by k_asm) (by k_mem) (by with_reducible assumption) (by with_reducible assumption) (by omega) ?_); (intro _ _); (try dsimp only)))
  k_with "formatField str" => ((k_here; (with_reducible show wpAny _ _ (formatField (Value.str (tx _) _) _) _ _ _); k_dflt (refine' r_field (by walk_at "tsz") ?_); (intro _ _); (try dsimp only)))
  k_with "formatField" => ((k_here; (with_reducible show wpAny _ _ (formatField (Value.str (tx _) _) _) _ _ _); k_dflt (refine' r_field (by walk_at "tsz") ?_); (intro _ _); (try dsimp only)))
  exact trivial
section
set_option maxRecDepth 100000
set_option maxHeartbeats 8000000
section
section
variable {prog : Program} {w : World} {A : Around} {E : Value → Shared → Prop} {s : Shared} {h₀ : Heap} {L : Addr} {m : Str → Option Value} {news : List (Addr × Obj)} {P : Params}
theorem k_translate {c : Nat} {t : Tok} {Q : Value → Shared → Prop} (F : Fr h₀ L s.heap m) (N : News h₀ L s.heap news) (X : (hd.heap_1 P).In h₀) (hc : c ∈ okS ∧ c ≠ 45 ∧ c ≠ 63) (hh : A.handled = none)
    (h : ∀ h' t' k, Fr h₀ L h' m → News h₀ L h' news → Q (.str (tx [c]) t') { s with heap := h', toks := k }) :
    wpAny (model prog w) A (call (.builtin "str.translate") [.str (tx [c]) t, .ref 59]) Q E s :=
  r_translate hc hh (X.keeps F.keep) fun h' t' k hk => h h' t' k (F.keeps hk) (N.grown hk)
end
theorem lines_19 : True := by
  k_with "getMethod str" => ((k_here; with_reducible refine gm_translate ?_))
  k_with "call builtin:str.translate" => ((k_here; (with_reducible show wpAny _ _ (call (Value.builtin "str.translate") [Value.str (tx [_]) _, Value.ref 59]) _ _ _); k_dflt (refine' k_translate (by k_asm) (by k_asm) (by assumption) (by with_reducible assumption) (by rfl) ?_); (intro h' t' k' F' N'); (try dsimp only)))
  exact trivial
theorem esc_ok (w : World) (p : Program) (loose : List Str) (mean : ExcName → Option Value) (mg mb : Str → Option Value) (news : List (Addr × Obj)) (c : Nat) (t : Tok) :
   FnOk w p loose mean mg mb 1 69 news (c ∈ okS ∧ c ≠ 45 ∧ c ≠ 63) [Value.str (tx [c]) t] (fun v => ∃ t, v = Value.str (tx [c]) t) := by
  dsimp only [FnOk]; intros; rename_i hret
  refine wpAny_call ?_
  k_dflt cell_enter
  walk_at "stepsW"
  exact hret _ _ _ ⟨_, rfl⟩ (by k_asm) (by k_asm)
end
end
section
open PySem PySem.W PySem.W.X PyProof.Rows
set_option maxRecDepth 100000

theorem lines_20 : True := by
  k_with_none
  w_top off
  k_with "mine stp" => (first | (k_unfold; (try dsimp only)) | (k_end; wrow_close) | walk1 | (dsimp only; walk1) | (leave1; walk_say "STEP leave1"; try dsimp only) | fail "no step")
  k_with "stepsP" => (repeat' (((fail_if_success (with_reducible show wpAny _ _ (pyIter _) _ _ _))); ((fail_if_success (with_reducible show TurnEnd _ _ _ _ _ _ _ _))); walk_at "mine stp"))
  k_with "stepsC" => (repeat' (((fail_if_success (with_reducible show LCg.CompRest _ _ _ _ _ _ _ _ _ _ _ _ _ _ _ _ _ _ _)); (fail_if_success (with_reducible show LCg.CompEnd _ _ _ _ _ _ _ _ _ _ _ _ _ _))); walk_at "mine stp"))
  k_with "mine turn2" => ((refine LCg.CompRest.succ ?_; intro v' I' oI' C' oC' D' m' h' tk' E' hv' hC' hx' F' N' off' ne'; (obtain ⟨t9', hv9'⟩ := hv'); (subst hv9'); (replace hx' : m' (Str.ofString "k") = some (Value.int 2 t9') := hx')))
  k_with "mine turn0" => ((refine LCg.CompRest.succ ?_; intro v' I' oI' C' oC' D' m' h' tk' E' hv' hC' hx' F' N' off' ne'; (obtain ⟨t9', hv9'⟩ := hv'); (subst hv9'); (replace hx' : m' (Str.ofString "k") = some (Value.int 0 t9') := hx')))
  k_with "mine cend" => ((k_dflt (refine' compEnd_one (by k_asm) (by k_asm) (by k_ne) (by k_ne) (by k_ne) (by assumption) (by exact trivial) ?_)))
  k_with "mine turn1" => ((refine LCg.CompRest.succ ?_; intro v' I' oI' C' oC' D' m' h' tk' E' hv' hC' hx' F' N' off' ne'; (obtain ⟨t9', hv9'⟩ := hv'); (subst hv9'); (replace hx' : m' (Str.ofString "k") = some (Value.int 1 t9') := hx')))
  k_with "stepsD" => (repeat' (((fail_if_success (with_reducible show LCg.CompEnd _ _ _ _ _ _ _ _ _ _ _ _ _ _)); first | walk1 | (dsimp only; walk1)); (try dsimp only)))
  k_with "mine kargs" => (((case k1 | k2 | k3 | k4 | k5 => k_asm); (case kK => first | exact rfl | assumption); (case kp => first | exact trivial | assumption); (case kd => ktr_room); (case ku => ktr_units)))
  k_with "mine kp" => (first | exact trivial | with_reducible assumption | assumption | omega | exact ⟨by with_reducible assumption, by with_reducible assumption⟩ | exact ⟨by solve_by_elim, by solve_by_elim⟩)
  k_with "steps" => (repeat' (((fail_if_success (with_reducible show wpAny _ _ (PySem.exec (PySem.Stmt.While _ _ _ _) _) _ _ _))); ((fail_if_success (with_reducible show wpAny _ _ (PySem.exec (PySem.Stmt.For _ _ _ _ _) _) _ _ _))); walk_at "mine stp"))
  k_with "tsz" => ((first | omega | (simp only [List.length_drop, List.length_take, List.length_append, List.length_cons, List.length_nil]; omega) | (simp only [List.length_drop, List.length_take, List.length_append, List.length_cons, List.length_nil] at *; omega)))
  k_with "subscriptTail Name Slice str ref" => ((k_here; (with_reducible show wpAny _ _ (subscriptTail _ (PySem.Expr.Slice _ _ none _) (Value.str (tx _) _) _) _ _ _); (rename Fr _ _ _ _ => kTF); (rename News _ _ _ _ => kTN); first | (refine' r_all (s := ⟨_, _, _, _, _⟩) kTF kTN (by walk_at "tsz") ?_; (intro _ _ _ _ _); (try dsimp only)) | (refine' r_drop (s := ⟨_, _, _, _, _⟩) kTF kTN (by omega) (by walk_at "tsz") ?_; (intro _ _ _ _ _); (try dsimp only)) | (refine' r_last (s := ⟨_, _, _, _, _⟩) kTF kTN (by omega) (by walk_at "tsz") ?_; (intro _ _ _ _ _); (try dsimp only)) | (refine' r_take (s := ⟨_, _, _, _, _⟩) kTF kTN (by omega) (by walk_at "tsz") ?_; (intro _ _ _ _ _); (try dsimp only)) | (refine' r_back (s := ⟨_, _, _, _, _⟩) kTF kTN (by omega) (by walk_at "tsz") ?_; (intro _ _ _ _ _); (try dsimp only)) | (refine' r_mid (s := ⟨_, _, _, _, _⟩) kTF kTN (by omega) (by walk_at "tsz") ?_; (intro _ _ _ _ _); (try dsimp only))))
  k_with "mine item" => ((k_here; (with_reducible show wpAny _ _ (subscriptTail _ _ (Value.str (tx _) _) (Value.int _ _)) _ _ _); first | (refine' r_item (by omega) (by walk_at "tsz") (by walk_at "tsz") ?_; (intro _ _); (try dsimp only)) | (refine' r_itemN (by omega) (by walk_at "tsz") (by walk_at "tsz") ?_; (intro _ _); (try dsimp only))))
  k_with "subscriptTail Name Name str int" => (walk_at "mine item")
  k_with "subscriptTail Name BinOp str int" => (walk_at "mine item")
  k_with "subscriptTail Name Constant str int" => (walk_at "mine item")
  k_with "call builtin:len" => ((k_here; (with_reducible show wpAny _ _ (call (Value.builtin "len") [Value.str (tx _) _]) _ _ _); refine' r_len (by walk_at "tsz") ?_; (intro _ _); (try dsimp only)))
  k_with "truthy str" => ((k_here; (with_reducible show wpAny _ _ (PySem.truthy (Value.str (tx _) _)) _ _ _); (first | (with_reducible refine' r_truthyD (by k_dflt (walk_at "tsz")) ?_ ?_) | (with_reducible refine' r_truthyT (by k_dflt (walk_at "tsz")) ?_ ?_) | (with_reducible refine' r_truthyC (by k_dflt (walk_at "tsz")) ?_ ?_)); (all_goals (intro _ _)); (all_goals (try dsimp only))))
  k_with "compareOp Eq str str" => ((k_here; (first | (with_reducible refine' r_eq1 ?_ ?_) | (with_reducible refine' r_eqC ?_ ?_)); (all_goals (intro _)); (all_goals (try dsimp only))))
  k_with "compareOp NotEq str str" => ((k_here; (first | (with_reducible refine' r_ne1 ?_ ?_) | (with_reducible refine' r_neC ?_ ?_)); (all_goals (intro _)); (all_goals (try dsimp only))))
  k_with "binaryOp Add str str" => ((k_here; (with_reducible show wpAny _ _ (binaryOp PySem.Operator.Add (Value.str (tx _) _) (Value.str (tx _) _)) _ _ _); refine' r_add (by walk_at "tsz") ?_; (intro _ _); (try dsimp only)))
  k_with "inplaceOp Add str str" => ((k_here; (with_reducible show wpAny _ _ (inplaceOp PySem.Operator.Add (Value.str (tx _) _) (Value.str (tx _) _)) _ _ _); refine' r_iadd (by walk_at "tsz") ?_; (intro _ _); (try dsimp only)))
  k_with "call builtin:str.lower" => ((k_here; (with_reducible show wpAny _ _ (call (Value.builtin "str.lower") [Value.str (tx _) _]) _ _ _); refine my_lower (by omega) ?_; intro _ _; (try dsimp only)))
  k_with "stepsN" => (repeat' (((fail_if_success (with_reducible show InvEndN _ _ _ _ _ _ _))); walk_at "mine stp"))
  k_with "tl" => ((with_reducible assumption))
  k_with "mine itemT" => ((k_here; (with_reducible show wpAny _ _ (subscriptTail _ _ (Value.ref _) (Value.int _ _)) _ _ _); k_dflt (refine' r_itemT (by k_asm) (by first | k_mem | (repeat (first | with_reducible assumption | refine List.mem_cons_of_mem _ ?_))) (by with_reducible assumption) (by omega) (by walk_at "tsz") (by walk_at "tsz") ?_ (by with_unfolding_all rfl) (by intro _; with_unfolding_all rfl)); (intro _); (try dsimp only)))
  k_with "subscriptTail Name Name ref int" => (walk_at "mine itemT")
  k_with "subscriptTail Name" => (walk_at "mine itemT")
  k_with "call builtin:len" => ((k_here; (with_reducible show wpAny _ _ (call (Value.builtin "len") [Value.ref _]) _ _ _); k_dflt (refine' r_lenT (by k_asm) (by first | k_mem | (repeat (first | with_reducible assumption | refine List.mem_cons_of_mem _ ?_))) (by with_reducible assumption) (by walk_at "tsz") ?_); (intro _ _); (try dsimp only)))
  k_with "lits" => ((try simp only [lit_e, lit_dash, lit_q, lit_set, lit_dot, lit_star, lit_open, lit_close, lit_bang, lit_hat, lit_head, lit_tail, one_eq, ne_eq] at *))
  k_with "compareOp Eq str str" => ((k_here; (with_reducible refine' r_eqS ?_ ?_); (all_goals (intro hS9)); (all_goals (try simp only [lit_e, lit_dash, lit_q, lit_set, lit_dot, lit_star, lit_open, lit_close, lit_bang, lit_hat, lit_head, lit_tail, tx_inj, ne_eq] at hS9)); (all_goals (try dsimp only))))
  k_with "compareOp NotEq str str" => ((k_here; (with_reducible refine' r_neS ?_ ?_); (all_goals (intro hS9)); (all_goals (try simp only [lit_e, lit_dash, lit_q, lit_set, lit_dot, lit_star, lit_open, lit_close, lit_bang, lit_hat, lit_head, lit_tail, tx_inj, ne_eq] at hS9)); (all_goals (try dsimp only))))
  k_with "call builtin:list.append" => ((k_here; (with_reducible show wpAny _ _ (call (Value.builtin _) [Value.ref _, _]) _ _ _); k_dflt (refine' r_append (by k_asm) (by k_asm) (by k_upd) (by omega) ?_; k_whole); intro h' F' N'; (try k_sweep)))
  k_with "stepsW" => (repeat' (((fail_if_success (with_reducible show wpAny _ _ (PySem.exec (PySem.Stmt.While _ _ _ _) _) _ _ _))); ((fail_if_success (with_reducible show WhileStep2 _ _ _ _ _ _ _ _))); walk_at "mine stp"))
  k_with "call builtin:str.join" => ((k_here; (with_reducible show wpAny _ _ (call (Value.builtin "str.join") [Value.str _ _, Value.ref _]) _ _ _); k_dflt (refine' r_joinX (by k_asm) (by k_mem) (by with_reducible assumption) (by with_reducible assumption) (by omega) ?_); (intro _ _); (try dsimp only)))
  k_with "formatField str" => ((k_here; (with_reducible show wpAny _ _ (formatField (Value.str (tx _) _) _) _ _ _); k_dflt (refine' r_field (by walk_at "tsz") ?_); (intro _ _); (try dsimp only)))
  k_with "formatField" => ((k_here; (with_reducible show wpAny _ _ (formatField (Value.str (tx _) _) _) _ _ _); k_dflt (refine' r_field (by walk_at "tsz") ?_); (intro _ _); (try dsimp only)))
  k_with "getAttr ref" => ((k_here; k_dflt (refine' r_bindApp (by k_asm) (by k_asm) (by k_mem) ?_); (intro B' h' F' N' l1); (try k_lt l1); (try dsimp only)))
  k_with "call ref" => ((k_here; (with_reducible show wpAny _ _ (call (Value.ref _) [_]) _ _ _); k_dflt (refine' r_callApp (by k_asm) (by k_asm) (by k_mem) (by k_upd) (by omega) ?_; k_whole); intro h' F' N'; (try k_sweep)))
  k_with "compareOp IsNot" => ((k_here; (with_reducible show wpAny _ _ (compareOp PySem.CmpOp.IsNot (Value.str _ _) (Value.ref _)) _ _ _); refine wpAny_isNot_other (by rfl) (by intro x; cases x) ?_; (try dsimp only)))
  k_with "compareOp IsNot str ref" => ((k_here; (with_reducible show wpAny _ _ (compareOp PySem.CmpOp.IsNot (Value.str _ _) (Value.ref _)) _ _ _); refine wpAny_isNot_other (by rfl) (by intro x; cases x) ?_; (try dsimp only)))
  k_with "callWith ref" => ((k_here; (with_reducible show wpAny _ _ (callWith _ (Value.ref _) _ (backTo _ (starEach (_ :: _) _)) []) _ _ _); k_dflt (refine' callWith_app (by k_asm) (by k_mem) ?_; k_whole)))
  k_with "And" => (((with_reducible show BmAt _ _ _ ∧ _); k_dflt (refine ⟨bm_at (by k_asm) (by k_mem), ?_⟩); (try dsimp only [List.nil_append, List.cons_append])))
  exact trivial
section
set_option maxRecDepth 100000
set_option maxHeartbeats 8000000
section
def MJ (m : Str → Option Value) (v0 : Option Value) : Str → Option Value := fun y => if y = Str.ofString "i" then v0 else m y
theorem MJ_eq {m m' : Str → Option Value} (h : ∀ y, y ≠ Str.ofString "i" → m' y = m y) : m' = MJ m (m' (Str.ofString "i")) := by
  funext y
  unfold MJ
  by_cases h0 : y = Str.ofString "i"
  · rw [if_pos h0, h0]
  rw [if_neg h0]
  exact h y h0
theorem jn_text1 (X : List Nat) : Str.empty ++ Str.ofString "(?s:" ++ tx X = tx ([40, 63, 115, 58] ++ X) := by
  rw [show (Str.empty : Str) = tx [] from rfl, show Str.ofString "(?s:" = tx [40, 63, 115, 58] from rfl, tx_app, tx_app]; rfl
theorem jn_text (X : List Nat) : Str.empty ++ Str.ofString "(?s:" ++ tx X ++ Str.ofString ")\\Z" = tx ([40, 63, 115, 58] ++ X ++ [41, 92, 90]) := by
  rw [jn_text1, show Str.ofString ")\\Z" = tx [41, 92, 90] from rfl, tx_app]
theorem jn_fit {X : List Nat} (h : X.length ≤ 4007) : (tx X).length ≤ sizeLine := by rw [tx_len]; exact fits_of (by omega)
def JnJ (ts : List (List Nat)) (q1 q2 : Addr × Obj) (D : Addr) (news : List (Addr × Obj)) (m : Str → Option Value) (n : Nat) (m' : Str → Option Value) (nw' : List (Addr × Obj)) : Prop :=
  ∃ k us c t, k ≤ ts.length ∧ n = ts.length - k ∧ m' = MJ m (some (.int ((k : Nat) : Int) t)) ∧ nw' = q1 :: q2 :: (D, W.listOf (List.toArray us) c) :: news ∧ Texts us (ts.take k)
theorem jn_end {h₀ h' : Heap} {L D : Addr} {q1 q2 : Addr × Obj} {m m' : Str → Option Value} {news : List (Addr × Obj)} {s : Shared} {Q : Flow → Shared → Prop} {tk k c : Nat} {ts : List (List Nat)} {X : List Nat} {us : List Value} {p : Int} {t t2 : Tok} (F : Fr h₀ L h' m') (N : News h₀ L h' (q1 :: q2 :: (D, W.listOf (us ++ [Value.str (tx X) t]).toArray c) :: news))
    (hm : ∀ y, y ≠ Str.ofString "i" → m' y = m y) (ha : m' (Str.ofString "i") = some (.int p t2)) (hk : ((k : Nat) : Int) < ts.length) (hp : p = ((k : Nat) : Int) + 1) (hT : Texts us (ts.take k)) (hX : X = ts.getD ((k : Nat) : Int).toNat []) :
    WhileStep2 h₀ L s (JnJ ts q1 q2 D news m) Q (ts.length - k) .next { s with heap := h', toks := tk } := by
  have hk' : k < ts.length := by omega
  refine while_end (n' := ts.length - (k + 1)) F N (by omega) ⟨k + 1, _, _, t2, hk', rfl, ?_, rfl, ?_⟩
  · have e := MJ_eq hm
    rw [ha, hp] at e
    exact e
  · rw [List.take_add_one, List.getElem?_eq_getElem hk']
    rw [hX, Int.toNat_natCast, List.getD_eq_getElem?_getD, List.getElem?_eq_getElem hk']
    exact hT.snoc
theorem join_ok (w : World) (p : Program) (loose : List Str) (mean : ExcName → Option Value) (mg mb : Str → Option Value) (news : List (Addr × Obj)) (D S : Addr) (us : List Value) (c : Nat) (ts : List (List Nat))
    (hm : (D, W.listOf us.toArray c) ∈ news) (hT : Texts us ts) (hl : ts.length ≤ 40) (hB : ∀ y ∈ ts, y.length ≤ 100) (hf : ts.flatten.length ≤ 4000) :
   FnOk w p loose mean mg mb 1 83 news True [Value.ref D, Value.ref S] (fun v => ∃ t, v = Value.str (tx ([40, 63, 115, 58] ++ ts.flatten ++ [41, 92, 90])) t) := by
  dsimp only [FnOk]; intros; rename_i hret
  refine wpAny_call ?_
  k_dflt cell_enter
  walk_at "stepsW"
  (rename Fr _ _ _ _ => kF)
  (rename News _ _ _ _ => kN)
  refine' while_JP (s := ⟨_, _, _, _, _⟩) kF kN (JnJ ts) (n₀ := ts.length) ?hJA ?turnA ?hEA
  case hEA => passes_own
  case hJA => exact ⟨0, [], 0, _, Nat.zero_le _, rfl, MJ_eq fun _ _ => rfl, rfl, Texts.nil⟩
  case turnA =>
    rintro n m1 nw1 h1 tk1 F1 N1 ⟨k, us1, c1, ta, hk, rfl, rfl, rfl, hT1⟩
    (try clear kF); (try clear kN)
    unfold MJ at F1
    have hus : us1.length ≤ 40 := by rw [hT1.len, List.length_take]; omega
    walk_at "stepsW"
    · (rename Fr _ _ _ _ => kF; rename News _ _ _ _ => kN)
      (try dsimp only)
      exact jn_end (s := ⟨_, _, _, _, _⟩) kF kN (by intro y e1; simp only [if_neg e1]) rfl (by assumption) rfl hT1 rfl
    · have hk : k = ts.length := by omega
      subst hk
      rw [List.take_length] at hT1
      refine while_skip ?_ ?hE2
      case hE2 => passes_own
      walk_at "stepsW"
      all_goals (try (exact absurd rfl (by assumption)))
      · rw [jn_text1]; exact jn_fit (by simp only [List.length_append, List.length_cons, List.length_nil]; omega)
      · rw [jn_text]; exact jn_fit (by simp only [List.length_append, List.length_cons, List.length_nil]; omega)
      · rw [jn_text]
        refine joinParts_nilE (joinParts_nil ?_ ?_)
        · walk_at "stepsW"
          exact hret _ _ _ ⟨_, rfl⟩ (by k_asm) (cb_drop (by k_asm) fun p hp => .tail _ (.tail _ (.tail _ hp)))
        · exact jn_fit (by simp only [List.length_append, List.length_cons, List.length_nil]; omega)
end
end
theorem lines_21 : True := by
  k_with_none
  w_top off
  k_with "mine stp" => (first | (k_unfold; (try dsimp only)) | (k_end; wrow_close) | walk1 | (dsimp only; walk1) | (leave1; walk_say "STEP leave1"; try dsimp only) | fail "no step")
  k_with "stepsP" => (repeat' (((fail_if_success (with_reducible show wpAny _ _ (pyIter _) _ _ _))); ((fail_if_success (with_reducible show TurnEnd _ _ _ _ _ _ _ _))); walk_at "mine stp"))
  k_with "stepsC" => (repeat' (((fail_if_success (with_reducible show LCg.CompRest _ _ _ _ _ _ _ _ _ _ _ _ _ _ _ _ _ _ _)); (fail_if_success (with_reducible show LCg.CompEnd _ _ _ _ _ _ _ _ _ _ _ _ _ _))); walk_at "mine stp"))
  k_with "mine turn2" => ((refine LCg.CompRest.succ ?_; intro v' I' oI' C' oC' D' m' h' tk' E' hv' hC' hx' F' N' off' ne'; (obtain ⟨t9', hv9'⟩ := hv'); (subst hv9'); (replace hx' : m' (Str.ofString "k") = some (Value.int 2 t9') := hx')))
  k_with "mine turn0" => ((refine LCg.CompRest.succ ?_; intro v' I' oI' C' oC' D' m' h' tk' E' hv' hC' hx' F' N' off' ne'; (obtain ⟨t9', hv9'⟩ := hv'); (subst hv9'); (replace hx' : m' (Str.ofString "k") = some (Value.int 0 t9') := hx')))
  k_with "mine cend" => ((k_dflt (refine' compEnd_one (by k_asm) (by k_asm) (by k_ne) (by k_ne) (by k_ne) (by assumption) (by exact trivial) ?_)))
  k_with "mine turn1" => ((refine LCg.CompRest.succ ?_; intro v' I' oI' C' oC' D' m' h' tk' E' hv' hC' hx' F' N' off' ne'; (obtain ⟨t9', hv9'⟩ := hv'); (subst hv9'); (replace hx' : m' (Str.ofString "k") = some (Value.int 1 t9') := hx')))
  k_with "stepsD" => (repeat' (((fail_if_success (with_reducible show LCg.CompEnd _ _ _ _ _ _ _ _ _ _ _ _ _ _)); first | walk1 | (dsimp only; walk1)); (try dsimp only)))
  k_with "mine kargs" => (((case k1 | k2 | k3 | k4 | k5 => k_asm); (case kK => first | exact rfl | assumption); (case kp => first | exact trivial | assumption); (case kd => ktr_room); (case ku => ktr_units)))
  k_with "mine kp" => (first | exact trivial | with_reducible assumption | assumption | omega | exact ⟨by with_reducible assumption, by with_reducible assumption⟩ | exact ⟨by solve_by_elim, by solve_by_elim⟩)
  k_with "steps" => (repeat' (((fail_if_success (with_reducible show wpAny _ _ (PySem.exec (PySem.Stmt.While _ _ _ _) _) _ _ _))); ((fail_if_success (with_reducible show wpAny _ _ (PySem.exec (PySem.Stmt.For _ _ _ _ _) _) _ _ _))); walk_at "mine stp"))
  k_with "tsz" => ((first | omega | (simp only [List.length_drop, List.length_take, List.length_append, List.length_cons, List.length_nil]; omega) | (simp only [List.length_drop, List.length_take, List.length_append, List.length_cons, List.length_nil] at *; omega)))
  k_with "subscriptTail Name Slice str ref" => ((k_here; (with_reducible show wpAny _ _ (subscriptTail _ (PySem.Expr.Slice _ _ none _) (Value.str (tx _) _) _) _ _ _); (rename Fr _ _ _ _ => kTF); (rename News _ _ _ _ => kTN); first | (refine' r_all (s := ⟨_, _, _, _, _⟩) kTF kTN (by walk_at "tsz") ?_; (intro _ _ _ _ _); (try dsimp only)) | (refine' r_drop (s := ⟨_, _, _, _, _⟩) kTF kTN (by omega) (by walk_at "tsz") ?_; (intro _ _ _ _ _); (try dsimp only)) | (refine' r_last (s := ⟨_, _, _, _, _⟩) kTF kTN (by omega) (by walk_at "tsz") ?_; (intro _ _ _ _ _); (try dsimp only)) | (refine' r_take (s := ⟨_, _, _, _, _⟩) kTF kTN (by omega) (by walk_at "tsz") ?_; (intro _ _ _ _ _); (try dsimp only)) | (refine' r_back (s := ⟨_, _, _, _, _⟩) kTF kTN (by omega) (by walk_at "tsz") ?_; (intro _ _ _ _ _); (try dsimp only)) | (refine' r_mid (s := ⟨_, _, _, _, _⟩) kTF kTN (by omega) (by walk_at "tsz") ?_; (intro _ _ _ _ _); (try dsimp only))))
  k_with "mine item" => ((k_here; (with_reducible show wpAny _ _ (subscriptTail _ _ (Value.str (tx _) _) (Value.int _ _)) _ _ _); first | (refine' r_item (by omega) (by walk_at "tsz") (by walk_at "tsz") ?_; (intro _ _); (try dsimp only)) | (refine' r_itemN (by omega) (by walk_at "tsz") (by walk_at "tsz") ?_; (intro _ _); (try dsimp only))))
  k_with "subscriptTail Name Name str int" => (walk_at "mine item")
  k_with "subscriptTail Name BinOp str int" => (walk_at "mine item")
  k_with "subscriptTail Name Constant str int" => (walk_at "mine item")
  k_with "call builtin:len" => ((k_here; (with_reducible show wpAny _ _ (call (Value.builtin "len") [Value.str (tx _) _]) _ _ _); refine' r_len (by walk_at "tsz") ?_; (intro _ _); (try dsimp only)))
  k_with "truthy str" => ((k_here; (with_reducible show wpAny _ _ (PySem.truthy (Value.str (tx _) _)) _ _ _); (first | (with_reducible refine' r_truthyD (by k_dflt (walk_at "tsz")) ?_ ?_) | (with_reducible refine' r_truthyT (by k_dflt (walk_at "tsz")) ?_ ?_) | (with_reducible refine' r_truthyC (by k_dflt (walk_at "tsz")) ?_ ?_)); (all_goals (intro _ _)); (all_goals (try dsimp only))))
  k_with "compareOp Eq str str" => ((k_here; (first | (with_reducible refine' r_eq1 ?_ ?_) | (with_reducible refine' r_eqC ?_ ?_)); (all_goals (intro _)); (all_goals (try dsimp only))))
  k_with "compareOp NotEq str str" => ((k_here; (first | (with_reducible refine' r_ne1 ?_ ?_) | (with_reducible refine' r_neC ?_ ?_)); (all_goals (intro _)); (all_goals (try dsimp only))))
  k_with "binaryOp Add str str" => ((k_here; (with_reducible show wpAny _ _ (binaryOp PySem.Operator.Add (Value.str (tx _) _) (Value.str (tx _) _)) _ _ _); refine' r_add (by walk_at "tsz") ?_; (intro _ _); (try dsimp only)))
  k_with "inplaceOp Add str str" => ((k_here; (with_reducible show wpAny _ _ (inplaceOp PySem.Operator.Add (Value.str (tx _) _) (Value.str (tx _) _)) _ _ _); refine' r_iadd (by walk_at "tsz") ?_; (intro _ _); (try dsimp only)))
  k_with "call builtin:str.lower" => ((k_here; (with_reducible show wpAny _ _ (call (Value.builtin "str.lower") [Value.str (tx _) _]) _ _ _); refine my_lower (by omega) ?_; intro _ _; (try dsimp only)))
  k_with "stepsN" => (repeat' (((fail_if_success (with_reducible show InvEndN _ _ _ _ _ _ _))); walk_at "mine stp"))
  k_with "tl" => ((with_reducible assumption))
  k_with "mine itemT" => ((k_here; (with_reducible show wpAny _ _ (subscriptTail _ _ (Value.ref _) (Value.int _ _)) _ _ _); k_dflt (refine' r_itemT (by k_asm) (by first | k_mem | (repeat (first | with_reducible assumption | refine List.mem_cons_of_mem _ ?_))) (by with_reducible assumption) (by omega) (by walk_at "tsz") (by walk_at "tsz") ?_ (by with_unfolding_all rfl) (by intro _; with_unfolding_all rfl)); (intro _); (try dsimp only)))
  k_with "subscriptTail Name Name ref int" => (walk_at "mine itemT")
  k_with "subscriptTail Name" => (walk_at "mine itemT")
  k_with "call builtin:len" => ((k_here; (with_reducible show wpAny _ _ (call (Value.builtin "len") [Value.ref _]) _ _ _); k_dflt (refine' r_lenT (by k_asm) (by first | k_mem | (repeat (first | with_reducible assumption | refine List.mem_cons_of_mem _ ?_))) (by with_reducible assumption) (by walk_at "tsz") ?_); (intro _ _); (try dsimp only)))
  k_with "lits" => ((try simp only [lit_e, lit_dash, lit_q, lit_set, lit_dot, lit_star, lit_open, lit_close, lit_bang, lit_hat, lit_head, lit_tail, one_eq, ne_eq] at *))
  k_with "compareOp Eq str str" => ((k_here; (with_reducible refine' r_eqS ?_ ?_); (all_goals (intro hS9)); (all_goals (try simp only [lit_e, lit_dash, lit_q, lit_set, lit_dot, lit_star, lit_open, lit_close, lit_bang, lit_hat, lit_head, lit_tail, tx_inj, ne_eq] at hS9)); (all_goals (try dsimp only))))
  k_with "compareOp NotEq str str" => ((k_here; (with_reducible refine' r_neS ?_ ?_); (all_goals (intro hS9)); (all_goals (try simp only [lit_e, lit_dash, lit_q, lit_set, lit_dot, lit_star, lit_open, lit_close, lit_bang, lit_hat, lit_head, lit_tail, tx_inj, ne_eq] at hS9)); (all_goals (try dsimp only))))
  k_with "call builtin:list.append" => ((k_here; (with_reducible show wpAny _ _ (call (Value.builtin _) [Value.ref _, _]) _ _ _); k_dflt (refine' r_append (by k_asm) (by k_asm) (by k_upd) (by omega) ?_; k_whole); intro h' F' N'; (try k_sweep)))
  k_with "stepsW" => (repeat' (((fail_if_success (with_reducible show wpAny _ _ (PySem.exec (PySem.Stmt.While _ _ _ _) _) _ _ _))); ((fail_if_success (with_reducible show WhileStep2 _ _ _ _ _ _ _ _))); walk_at "mine stp"))
  k_with "call builtin:str.join" => ((k_here; (with_reducible show wpAny _ _ (call (Value.builtin "str.join") [Value.str _ _, Value.ref _]) _ _ _); k_dflt (refine' r_joinX (by k_asm) (by k_mem) (by with_reducible assumption) (by with_reducible assumption) (by omega) ?_); (intro _ _); (try dsimp only)))
  k_with "formatField str" => ((k_here; (with_reducible show wpAny _ _ (formatField (Value.str (tx _) _) _) _ _ _); k_dflt (refine' r_field (by walk_at "tsz") ?_); (intro _ _); (try dsimp only)))
  k_with "formatField" => ((k_here; (with_reducible show wpAny _ _ (formatField (Value.str (tx _) _) _) _ _ _); k_dflt (refine' r_field (by walk_at "tsz") ?_); (intro _ _); (try dsimp only)))
  k_with "getAttr ref" => ((k_here; k_dflt (refine' r_bindApp (by k_asm) (by k_asm) (by k_mem) ?_); (intro B' h' F' N' l1); (try k_lt l1); (try dsimp only)))
  k_with "call ref" => ((k_here; (with_reducible show wpAny _ _ (call (Value.ref _) [_]) _ _ _); k_dflt (refine' r_callApp (by k_asm) (by k_asm) (by k_mem) (by k_upd) (by omega) ?_; k_whole); intro h' F' N'; (try k_sweep)))
  k_with "compareOp IsNot" => ((k_here; (with_reducible show wpAny _ _ (compareOp PySem.CmpOp.IsNot (Value.str _ _) (Value.ref _)) _ _ _); refine wpAny_isNot_other (by rfl) (by intro x; cases x) ?_; (try dsimp only)))
  k_with "compareOp IsNot str ref" => ((k_here; (with_reducible show wpAny _ _ (compareOp PySem.CmpOp.IsNot (Value.str _ _) (Value.ref _)) _ _ _); refine wpAny_isNot_other (by rfl) (by intro x; cases x) ?_; (try dsimp only)))
  k_with "callWith ref" => ((k_here; (with_reducible show wpAny _ _ (callWith _ (Value.ref _) _ (backTo _ (starEach (_ :: _) _)) []) _ _ _); k_dflt (refine' callWith_app (by k_asm) (by k_mem) ?_; k_whole)))
  k_with "And" => (((with_reducible show BmAt _ _ _ ∧ _); k_dflt (refine ⟨bm_at (by k_asm) (by k_mem), ?_⟩); (try dsimp only [List.nil_append, List.cons_append])))
  exact trivial
section
set_option maxRecDepth 100000
set_option maxHeartbeats 8000000
section
section
variable {prog : Program} {w : World} {Ar : Around} {E : Value → Shared → Prop} {s : Shared}
theorem r_itemG {A : List Nat} {t : Tok} {i : Int} {u : Tok} {g : Nat} {value slice : PySem.Expr} {Q : Value → Shared → Prop} (hg : A.getD i.toNat 0 = g) (h1 : 0 ≤ i) (h2 : i < A.length) (hsz : A.length ≤ 100000)
    (h : ∀ t' k, Q (.str (tx [g]) t') { s with toks := k })
    (hs : subscripted slice false (.str (tx A) t) (.int i u) = operate [.str (tx A) t, .int i u] (getItem (.str (tx A) t) (.int i u)) := by with_unfolding_all rfl)
    (ht : ∀ r, letTemporaryGo value (.str (tx A) t) r = pure () := by intro _; with_unfolding_all rfl) :
    wpAny (model prog w) Ar (subscriptTail value slice (.str (tx A) t) (.int i u)) Q E s := by
  subst hg; exact r_item h1 h2 hsz h hs ht
theorem r_midG {A B : List Nat} {t : Tok} {value slice : PySem.Expr} {h₀ : Heap} {L : Addr} {m : Str → Option Value} {news : List (Addr × Obj)} {Q : Value → Shared → Prop} {i j : Int} {ui uj : Tok} (hg : (A.drop i.toNat).take (j - i).toNat = B) (hF : Fr h₀ L s.heap m) (hN : News h₀ L s.heap news) (h0 : 0 ≤ i ∧ i ≤ j) (hsz : A.length ≤ 100000) (h : ∀ h' t' k, Fr h₀ L h' m → News h₀ L h' news → Q (.str (tx B) t') { s with heap := h', toks := k })
    (hs : subscripted slice false (.str (tx A) t) (.ref s.heap.objs.size) = operate [.ref s.heap.objs.size, .str (tx A) t] (getItem (.str (tx A) t) (.ref s.heap.objs.size)) := by with_unfolding_all rfl)
    (ht : ∀ r, letTemporaryGo value (.str (tx A) t) r = pure () := by intro _; with_unfolding_all rfl) :
    wpAny (model prog w) Ar (subscriptTail value slice (.str (tx A) t) (.ref s.heap.objs.size)) Q E { s with heap := s.heap.push { cls := .type "slice", data := .fields #[.int i ui, .int j uj, .none] } } := by
  subst hg; exact r_mid hF hN h0 hsz h hs ht
end
section
open PySem.Builtin.Str PySem.Calls
variable {prog : Program} {w : World} {Ar : Around} {E : Value → Shared → Prop} {s : Shared}
theorem r_replace0 {x y z : Str} {t u v : Tok} {Q : Value → Shared → Prop} (hc : ((occurrences x y 0 x.length (x.length + 1)).isEmpty || (y.length == 0 && z.length == 0)) = true)
    (h : ∀ t' k, Q (.str x t') { s with toks := k }) : wpAny (model prog w) Ar (call (.builtin "str.replace") [.str x t, .str y u, .str z v]) Q E s := by
  refine call_gives F.slot_str_replace (typeIs_str _ _ _) F.entry_str_replace (F.args_str_replace_3 _ _ _)
    (gives_str_replace x y z t u v fun hn => absurd hc (by simp only [hn]; decide)) ?_
  rw [hc]
  simp only [if_true]
  exact h t s.toks
theorem r_notin {x y : Str} {t u : Tok} {Q : Value → Shared → Prop} (hc : (occurrences x y 0 x.length 1).isEmpty = true) (h : Q (.bool true) s) : wpAny (model prog w) Ar (compareOp .NotIn (.str y u) (.str x t)) Q E s :=
  PyProof.Rows.notIn_str (by rw [hc]; exact h)
variable {h₀ : Heap} {L : Addr} {m : Str → Option Value} {news : List (Addr × Obj)} {P : Params}
theorem k_gmsub {pl : Sem Bool} {Q : Value × List Value → Shared → Prop} (F : Fr h₀ L s.heap m) (X : (hd.heap_1 P).In h₀) (h : Q (.builtin "re.Pattern.sub", [.ref 50]) s) : wpAny (model prog w) Ar (getMethod (.ref 50) (Str.ofString "sub") pl) Q E s :=
  gm_sub ((X.keeps F.keep) 50 _ rfl) rfl rfl h
theorem k_sub {f : Addr} {fo : Obj} {t : Tok} {Q : Value → Shared → Prop} (F : Fr h₀ L s.heap m) (N : News h₀ L s.heap news) (X : (hd.heap_1 P).In h₀) (hf : (f, fo) ∈ news) (hfc : fo.cls = .type "function")
    (h : ∀ h' t' k, Fr h₀ L h' m → News h₀ L h' news → Q (.str (tx [63]) t') { s with heap := h', toks := k }) :
    wpAny (model prog w) Ar (call (.builtin "re.Pattern.sub") [.ref 50, .ref f, .str (tx [63]) t]) Q E s :=
  r_sub (X.keeps F.keep) (N _ hf).1 hfc fun h' t' k hk => h h' t' k (F.keeps hk) (N.grown hk)
end
theorem lines_22 : True := by
  k_with "getMethod ref" => ((k_here; (with_reducible show wpAny _ _ (getMethod (Value.ref 50) _ _) _ _ _); k_dflt (refine' k_gmsub (by k_asm) (by assumption) ?_); (try dsimp only)))
  k_with "call builtin:re.Pattern.sub" => ((k_here; k_dflt (refine' k_sub (by k_asm) (by k_asm) (by assumption) (by k_mem) (by rfl) ?_); (intro h' t' k' F' N'); (try dsimp only)))
  k_with "compareOp NotIn str str" => ((k_here; (refine r_notin (by decide +kernel) ?_); (try dsimp only)))
  k_with "call builtin:str.replace" => ((k_here; (refine r_replace0 (by decide +kernel) ?_); (intro _ _); (try dsimp only)))
  k_with "mine item" => ((k_here; (with_reducible show wpAny _ _ (subscriptTail _ _ (Value.str (tx _) _) (Value.int _ _)) _ _ _); refine' r_itemG (by with_reducible assumption) (by omega) (by walk_at "tsz") (by walk_at "tsz") ?_; (intro _ _); (try dsimp only)))
  k_with "compareOp Eq str str" => ((k_here; (with_reducible refine' r_eqS ?_ ?_); (all_goals (intro hS9)); (all_goals (try simp only [lit_e, lit_dash, lit_q, lit_set, lit_dot, lit_star, lit_open, lit_close, lit_bang, lit_hat, lit_head, lit_tail, tx_inj, ne_eq] at hS9)); (all_goals (try (exact absurd hS9 (by decide)))); (all_goals (try (exfalso; simp only [List.cons.injEq, and_true] at hS9; omega))); (all_goals (try dsimp only))))
  k_with "compareOp NotEq str str" => ((k_here; (with_reducible refine' r_neS ?_ ?_); (all_goals (intro hS9)); (all_goals (try simp only [lit_e, lit_dash, lit_q, lit_set, lit_dot, lit_star, lit_open, lit_close, lit_bang, lit_hat, lit_head, lit_tail, tx_inj, ne_eq] at hS9)); (all_goals (try (exact absurd hS9 (by decide)))); (all_goals (try (exfalso; simp only [List.cons.injEq, and_true] at hS9; omega))); (all_goals (try dsimp only))))
  k_with "subscriptTail Name Slice str ref" => ((k_here; (with_reducible show wpAny _ _ (subscriptTail _ (PySem.Expr.Slice _ _ none _) (Value.str (tx _) _) _) _ _ _); (rename Fr _ _ _ _ => kTF); (rename News _ _ _ _ => kTN); (refine' r_midG (s := ⟨_, _, _, _, _⟩) (by with_reducible assumption) kTF kTN (by omega) (by walk_at "tsz") ?_; (intro _ _ _ _ _); (try dsimp only))))
  k_with "call ref" => ((k_here; k_dflt (o_head (esc_ok _ _ _ _ _ _ _ _ _)); (intro v9 h9 tk9 hp9 F9 N9); (obtain ⟨t9, e9⟩ := hp9); (subst e9); (try dsimp only); (try k_fold)))
  exact trivial
def MT (m : Str → Option Value) (v0 v1 v2 v3 : Option Value) : Str → Option Value := fun y => if y = Str.ofString "stuff" then v0 else if y = Str.ofString "j" then v1 else if y = Str.ofString "c" then v2 else if y = Str.ofString "i" then v3 else m y
theorem MT_eq {m m' : Str → Option Value} (h : ∀ y, y ≠ Str.ofString "stuff" → y ≠ Str.ofString "j" → y ≠ Str.ofString "c" → y ≠ Str.ofString "i" → m' y = m y) : m' = MT m (m' (Str.ofString "stuff")) (m' (Str.ofString "j")) (m' (Str.ofString "c")) (m' (Str.ofString "i")) := by
  funext y
  unfold MT
  by_cases h0 : y = Str.ofString "stuff"
  · rw [if_pos h0, h0]
  rw [if_neg h0]
  by_cases h1 : y = Str.ofString "j"
  · rw [if_pos h1, h1]
  rw [if_neg h1]
  by_cases h2 : y = Str.ofString "c"
  · rw [if_pos h2, h2]
  rw [if_neg h2]
  by_cases h3 : y = Str.ofString "i"
  · rw [if_pos h3, h3]
  rw [if_neg h3]
  exact h y h0 h1 h2 h3
def MJ1 (m : Str → Option Value) (v0 : Option Value) : Str → Option Value := fun y => if y = Str.ofString "j" then v0 else m y
theorem MJ1_eq {m m' : Str → Option Value} (h : ∀ y, y ≠ Str.ofString "j" → m' y = m y) : m' = MJ1 m (m' (Str.ofString "j")) := by
  funext y
  unfold MJ1
  by_cases h0 : y = Str.ofString "j"
  · rw [if_pos h0, h0]
  rw [if_neg h0]
  exact h y h0
def posP (A : List Nat) (k : Nat) : Nat := (catOf pat (A.take k)).length
theorem pat_len (c : Nat) : 1 ≤ (pat c).length ∧ (pat c).length ≤ 3 := by unfold pat; (repeat' split) <;> simp
theorem patt_drop (A : List Nat) (k : Nat) : (catOf pat A).drop (posP A k) = catOf pat (A.drop k) := by
  unfold posP
  rw [cat_take pat A k, List.drop_append, List.drop_of_length_le (Nat.le_refl _), Nat.sub_self]
  rfl
theorem patt_at {A : List Nat} {k : Nat} (hk : k < A.length) : (catOf pat A).drop (posP A k) = pat (A.getD k 0) ++ catOf pat (A.drop (k + 1)) := by
  rw [patt_drop, drop_at hk, cat_cons]
theorem patt_more {A : List Nat} {k : Nat} (hk : k ≤ A.length) : ((posP A k : Nat) : Int) < (catOf pat A).length ↔ k < A.length := by
  rw [cat_take pat A k, List.length_append]
  unfold posP
  by_cases h : k < A.length
  · rw [drop_at h, cat_cons, List.length_append]
    have := (pat_len (A.getD k 0)).1
    exact ⟨fun _ => h, fun _ => by omega⟩
  · have : k = A.length := by omega
    subst this
    rw [List.drop_length]
    have : (catOf pat []).length = 0 := rfl
    exact ⟨fun h => by omega, fun h => by omega⟩
theorem patt_succ {A : List Nat} {k : Nat} (hk : k < A.length) : posP A (k + 1) = posP A k + (pat (A.getD k 0)).length := by
  unfold posP; rw [cat_snoc pat hk, List.length_append]
/-- what _translate's table of made codes holds: nothing yet, or its lambda's -/
def LamTab (ps : Array Value) : Prop := ps = #[] ∨ ∃ c : Addr, ps = #[rawInt 111, rawInt 39, .ref c]
def TlJ (A : List Nat) (rest : List (Addr × Obj)) (q1 q2 : Addr × Obj) (D : Addr) (_ : List (Addr × Obj)) (m : Str → Option Value) (n : Nat) (m' : Str → Option Value) (nw' : List (Addr × Obj)) : Prop :=
  ∃ k us c t vs vj vc ps, k ≤ A.length ∧ n = A.length - k ∧ m' = MT m vs vj vc (some (.int ((posP A k : Nat) : Int) t)) ∧ LamTab ps ∧ nw' = q1 :: q2 :: (D, W.listOf (List.toArray us) c) :: (71, tabObj ps) :: rest ∧ Texts us ((A.take k).map prt)
theorem tl_end {h₀ h' : Heap} {L D : Addr} {q1 q2 : Addr × Obj} {m m' : Str → Option Value} {news rest : List (Addr × Obj)} {s : Shared} {Q : Flow → Shared → Prop} {tk k c : Nat} {A X : List Nat} {us : List Value} {p : Int} {t t2 : Tok} {ps : Array Value} (F : Fr h₀ L h' m') (N : News h₀ L h' (q1 :: q2 :: (D, W.listOf (us ++ [Value.str (tx X) t]).toArray c) :: (71, tabObj ps) :: rest)) (hps : LamTab ps)
    (hm : ∀ y, y ≠ Str.ofString "stuff" → y ≠ Str.ofString "j" → y ≠ Str.ofString "c" → y ≠ Str.ofString "i" → m' y = m y) (ha : m' (Str.ofString "i") = some (.int p t2)) (hk : k < A.length) (hp : p = ((posP A k : Nat) : Int) + ((pat (A.getD k 0)).length : Nat)) (hT : Texts us ((A.take k).map prt)) (hX : X = prt (A.getD k 0)) :
    WhileStep2 h₀ L s (TlJ A rest q1 q2 D news m) Q (A.length - k) .next { s with heap := h', toks := tk } := by
  refine while_end (n' := A.length - (k + 1)) F N (by omega) ⟨k + 1, _, _, t2, m' (Str.ofString "stuff"), m' (Str.ofString "j"), m' (Str.ofString "c"), _, hk, rfl, ?_, hps, rfl, ?_⟩
  · have e := MT_eq hm
    rw [ha, hp] at e
    rw [patt_succ hk, Int.natCast_add]
    exact e
  · rw [take_at hk, List.map_append, hX]
    exact hT.snoc
theorem patt_end {A : List Nat} {k : Nat} (hk : k ≤ A.length) (h : ¬ k < A.length) : ((posP A k : Nat) : Int) = (catOf pat A).length := by
  have : k = A.length := by omega
  subst this
  unfold posP; rw [List.take_length]
def InJ (p : Int) (us : List Value) (c : Nat) (q1 q2 : Addr × Obj) (D : Addr) (news : List (Addr × Obj)) (m : Str → Option Value) (n : Nat) (m' : Str → Option Value) (nw' : List (Addr × Obj)) : Prop :=
  nw' = q1 :: q2 :: (D, W.listOf us.toArray c) :: news ∧ ∃ t, (n = 1 ∧ m' = MJ1 m (some (.int (p + 1) t))) ∨ (n = 0 ∧ m' = MJ1 m (some (.int (p + 1 + 1) t)))
theorem set_text : Str.empty ++ Str.ofString "[" ++ tx [63] ++ Str.ofString "]" = tx [91, 63, 93] := by decide +kernel
theorem allLt_to {d : Addr} : ∀ {l : List (Addr × Obj)}, AllLt d l → ∀ p ∈ l, p.1 < d
  | [], _, _, h => nomatch h
  | _ :: _, a, p, h => by
    rcases List.mem_cons.mp h with rfl | h
    · exact a.1
    · exact allLt_to a.2 p h
theorem lt_tab {d c : Addr} {o : Obj} {l : List (Addr × Obj)} (h : @LT.lt Nat _ c d ∧ AllLt d l) : ∀ p ∈ (c, o) :: l, p.1 < d := fun p hp => by
  rcases List.mem_cons.mp hp with rfl | hp
  · exact h.1
  · exact allLt_to h.2 p hp
theorem inj_end {p : Int} {us : List Value} {c : Nat} {q1 q2 : Addr × Obj} {D : Addr} {h₀ h' : Heap} {L : Addr} {m m' : Str → Option Value} {news : List (Addr × Obj)} {s : Shared} {Q : Flow → Shared → Prop} {tk : Nat} {t : Tok}
    (F : Fr h₀ L h' m') (N : News h₀ L h' (q1 :: q2 :: (D, W.listOf us.toArray c) :: news)) (hm : ∀ y, y ≠ Str.ofString "j" → m' y = m y) (hj : m' (Str.ofString "j") = some (.int (p + 1 + 1) t)) :
    WhileStep2 h₀ L s (InJ p us c q1 q2 D news m) Q 1 .next { s with heap := h', toks := tk } := by
  refine while_end (n' := 0) F N (by decide) ⟨rfl, t, .inr ⟨rfl, ?_⟩⟩
  have e := MJ1_eq hm
  rw [hj] at e
  exact e
local macro_rules | `(tactic| k_all) => `(tactic| assumption)
theorem trn_ok (w : World) (p : Program) (loose : List Str) (mean : ExcName → Option Value) (mg mb : Str → Option Value) (rest : List (Addr × Obj)) (S : Addr) (A : List Nat) (t u : Tok)
    (hA : ∀ c ∈ A, c ∈ okS) (h40 : A.length ≤ 40) (ps : Array Value) (hps : LamTab ps) (hne : ∀ p ∈ rest, p.1 ≠ 71) :
  ∀ (dp un : Nat) (gd : Option (List Code)) (cn : Str) (cs : Scope) (a : Addr) (ccd : Value) (cl : List (Str × Addr)) (outer : List Env) (A₀ : Around) (base h₀ : Heap) (L : Addr) (m : Str → Option Value) (s : Shared) (Q E : Value → Shared → Prop),
    Below A₀ base outer h₀ → Fr h₀ L s.heap m → (hd.heap_1 w.params).In h₀ → News h₀ L s.heap ((71, tabObj ps) :: rest) → Top p loose mean mg mb h₀ → CodeHd h₀ 75 71 → cs.kind = .function →
    dp + 2 < recursionLimit → un + 8 * 2 < cLine →
    (∀ (D : Addr) (us : List Value) (c : Nat) (h' : Heap) (tk' : Nat) (ps' : Array Value), Texts us (A.map prt) → LamTab ps' → Fr h₀ L h' m → News h₀ L h' ((D, W.listOf us.toArray c) :: (71, tabObj ps') :: rest) → (∀ p ∈ (71, tabObj ps) :: rest, p.1 < D) → Q (.ref D) { s with heap := h', toks := tk' }) →
      wpAny (model PR w) (ktrTop dp un gd cn cs L a ccd cl outer) (call (.ref 76) [Value.str (tx (catOf pat A)) t, Value.ref S, Value.str (Str.ofString ".") u]) Q E s := by
  intro dp un gd cn cs a ccd cl outer A₀ base h₀ L m s Q E hB hF hX0 hN hTop hC hkind hroom hunits hret
  have hX : (catOf pat A).length ≤ 200 := by have := cat_len pat (fun c => (pat_len c).2) A; omega
  refine wpAny_call ?_
  k_dflt cell_enter
  (rename Fr h₀ L _ m => kFG)
  have hC9 := CodeHd.keeps hC kFG.keep
  walk_at "stepsW"
  (rename Fr _ _ _ _ => kF)
  (rename News _ _ _ _ => kN)
  refine' while_JP (s := ⟨_, _, _, _, _⟩) kF kN (TlJ A rest) (n₀ := A.length) ?hJA ?turnA ?hEA
  case hEA => passes_own
  case hJA => exact ⟨0, [], 0, _, _, _, _, _, Nat.zero_le _, rfl, MT_eq fun _ _ _ _ _ => rfl, hps, rfl, Texts.nil⟩
  case turnA =>
    rintro n m1 nw1 h1 tk1 F1 N1 ⟨k, us, c, ta, vs, vj, vc, ps1, hk, rfl, rfl, hps1, rfl, hT⟩
    (try clear kF); (try clear kN)
    unfold MT at F1
    have hus : us.length ≤ 40 := by rw [hT.len, List.length_map, List.length_take]; omega
    have hpos : posP A k ≤ 200 := by unfold posP; have := cat_len pat (fun c => (pat_len c).2) (A.take k); rw [List.length_take] at this; omega
    by_cases hk' : k < A.length
    rotate_left
    · have hnl : ¬ ((posP A k : Nat) : Int) < (catOf pat A).length := fun h => hk' ((patt_more hk).mp h)
      have hend := patt_end hk hk'
      have hkk : k = A.length := by omega
      walk_at "stepsW"
      all_goals (try (exact absurd hend (by assumption)))
      all_goals (rename Fr _ _ _ _ => kF; rename News _ _ _ _ => kN)
      rw [hkk, List.take_length] at hT
      exact hret _ us _ _ _ _ hT hps1 (by k_asm) (cb_drop kN fun p hp => .tail _ (.tail _ hp)) (lt_tab (by assumption))
    have hlt := (patt_more hk).mpr hk'
    have hok := it_k hA hk'
    have hat := patt_at hk'
    by_cases e45 : A.getD k 0 = 45
    · have G : (catOf pat A).getD ((posP A k : Nat) : Int).toNat 0 = 63 := by rw [Int.toNat_natCast, getD_drop, hat, e45]; rfl
      clear hok hat
      walk_at "stepsW"
      (rename Fr _ _ _ _ => kF; rename News _ _ _ _ => kN)
      (try dsimp only)
      exact tl_end (s := ⟨_, _, _, _, _⟩) (X := [46]) kF kN hps1 (by intro y e1 e2 e3 e4; simp only [if_neg e1, if_neg e2, if_neg e3, if_neg e4]) rfl hk' (by rw [e45]; rfl) hT (by rw [e45]; rfl)
    by_cases e63 : A.getD k 0 = 63
    · rw [e63] at hat
      have hat : (catOf pat A).drop (posP A k) = 91 :: 63 :: 93 :: catOf pat (A.drop (k + 1)) := hat
      have h3 : posP A k + 3 ≤ (catOf pat A).length := by have := congrArg List.length hat; simp only [List.length_drop, List.length_cons] at this; omega
      have G0 : (catOf pat A).getD ((posP A k : Nat) : Int).toNat 0 = 91 := by rw [Int.toNat_natCast, getD_drop, hat]; rfl
      have hat1 : (catOf pat A).drop (posP A k + 1) = 63 :: 93 :: catOf pat (A.drop (k + 1)) := by rw [← List.drop_drop, hat]; rfl
      have hat2 : (catOf pat A).drop (posP A k + 1 + 1) = 93 :: catOf pat (A.drop (k + 1)) := by rw [← List.drop_drop, hat1]; rfl
      have G1 : (catOf pat A).getD (((posP A k : Nat) : Int) + 1).toNat 0 = 63 := by rw [show (((posP A k : Nat) : Int) + 1).toNat = posP A k + 1 by omega, getD_drop, hat1]; rfl
      have G2 : (catOf pat A).getD (((posP A k : Nat) : Int) + 1 + 1).toNat 0 = 93 := by rw [show (((posP A k : Nat) : Int) + 1 + 1).toNat = posP A k + 1 + 1 by omega, getD_drop, hat2]; rfl
      have G3 : ((catOf pat A).drop (((posP A k : Nat) : Int) + 1).toNat).take (((posP A k : Nat) : Int) + 1 + 1 - (((posP A k : Nat) : Int) + 1)).toNat = [63] := by
        rw [show (((posP A k : Nat) : Int) + 1).toNat = posP A k + 1 by omega, hat1, show (((posP A k : Nat) : Int) + 1 + 1 - (((posP A k : Nat) : Int) + 1)).toNat = 1 by omega]; rfl
      clear hok hat hat1 hat2
      walk_at "stepsW"
      (rename Fr _ _ _ _ => kF; rename News _ _ _ _ => kN)
      refine' while_JP (s := ⟨_, _, _, _, _⟩) kF kN (InJ ((posP A k : Nat) : Int) us c) (n₀ := 1) ?hJB ?turnB ?hEB
      case hEB => passes_own
      case hJB => exact ⟨rfl, _, .inl ⟨rfl, MJ1_eq fun _ _ => rfl⟩⟩
      case turnB =>
        rintro n m1 nw1 h1 tk1 F1 N1 ⟨rfl, tj, ⟨rfl, rfl⟩ | ⟨rfl, rfl⟩⟩
        · (try clear kF); (try clear kN)
          unfold MJ1 at F1
          walk_at "stepsW"
          (rename Fr _ _ _ _ => kF; rename News _ _ _ _ => kN)
          (try dsimp only)
          exact inj_end (s := ⟨_, _, _, _, _⟩) kF kN (by intro y e1; simp only [if_neg e1]) rfl
        · (try clear kF); (try clear kN)
          unfold MJ1 at F1
          rcases hps1 with rfl | ⟨c9, rfl⟩
          · walk_at "stepsW"
            all_goals (rename Fr _ _ _ _ => kF; rename News _ _ _ _ => kN)
            all_goals (try dsimp only)
            all_goals (try (exact absurd (by assumption) (show ¬ [63].length = 0 by decide)))
            rw [set_text] at kN
            exact tl_end (s := ⟨_, _, _, _, _⟩) (X := [91, 63, 93]) kF (fun p hp => kN p (by repeat (first | exact hp | apply List.Mem.tail))) (.inr ⟨_, rfl⟩) (by intro y e1 e2 e3 e4; simp only [if_neg e1, if_neg e2, if_neg e3, if_neg e4]) rfl hk' (by rw [e63]; show _ = _ + 3; omega) hT (by rw [e63]; rfl)
          · walk_at "stepsW"
            all_goals (rename Fr _ _ _ _ => kF; rename News _ _ _ _ => kN)
            all_goals (try dsimp only)
            all_goals (try (exact absurd (by assumption) (show ¬ [63].length = 0 by decide)))
            rw [set_text] at kN
            exact tl_end (s := ⟨_, _, _, _, _⟩) (X := [91, 63, 93]) kF (fun p hp => kN p (by repeat (first | exact hp | apply List.Mem.tail))) (.inr ⟨_, rfl⟩) (by intro y e1 e2 e3 e4; simp only [if_neg e1, if_neg e2, if_neg e3, if_neg e4]) rfl hk' (by rw [e63]; show _ = _ + 3; omega) hT (by rw [e63]; rfl)
    · have G : (catOf pat A).getD ((posP A k : Nat) : Int).toNat 0 = A.getD k 0 := by rw [Int.toNat_natCast, getD_drop, hat]; unfold pat; rw [if_neg e45, if_neg e63]; rfl
      have hd : A.getD k 0 ∈ okS ∧ A.getD k 0 ≠ 45 ∧ A.getD k 0 ≠ 63 := ⟨hok, e45, e63⟩
      have n42 : A.getD k 0 ≠ 42 := fun e => by rw [e] at hok; exact absurd hok (by decide)
      have n91 : A.getD k 0 ≠ 91 := fun e => by rw [e] at hok; exact absurd hok (by decide)
      have hpl : (pat (A.getD k 0)).length = 1 := by unfold pat; rw [if_neg e45, if_neg e63]; rfl
      have hpr : [A.getD k 0] = prt (A.getD k 0) := by unfold prt; rw [if_neg e45, if_neg e63]
      clear hat
      walk_at "stepsW"
      (rename Fr _ _ _ _ => kF; rename News _ _ _ _ => kN)
      (try dsimp only)
      exact tl_end (s := ⟨_, _, _, _, _⟩) kF kN hps1 (by intro y e1 e2 e3 e4; simp only [if_neg e1, if_neg e2, if_neg e3, if_neg e4]) rfl hk' (by rw [hpl]; rfl) hT hpr
end
end

end
theorem lines_23 : True := by
  k_with_none
  w_top off
  k_with "mine stp" => (first | (k_unfold; (try dsimp only)) | (k_end; wrow_close) | walk1 | (dsimp only; walk1) | (leave1; walk_say "STEP leave1"; try dsimp only) | fail "no step")
  k_with "stepsP" => (repeat' (((fail_if_success (with_reducible show wpAny _ _ (pyIter _) _ _ _))); ((fail_if_success (with_reducible show TurnEnd _ _ _ _ _ _ _ _))); walk_at "mine stp"))
  k_with "stepsC" => (repeat' (((fail_if_success (with_reducible show LCg.CompRest _ _ _ _ _ _ _ _ _ _ _ _ _ _ _ _ _ _ _)); (fail_if_success (with_reducible show LCg.CompEnd _ _ _ _ _ _ _ _ _ _ _ _ _ _))); walk_at "mine stp"))
  k_with "mine turn2" => ((refine LCg.CompRest.succ ?_; intro v' I' oI' C' oC' D' m' h' tk' E' hv' hC' hx' F' N' off' ne'; (obtain ⟨t9', hv9'⟩ := hv'); (subst hv9'); (replace hx' : m' (Str.ofString "k") = some (Value.int 2 t9') := hx')))
  k_with "mine turn0" => ((refine LCg.CompRest.succ ?_; intro v' I' oI' C' oC' D' m' h' tk' E' hv' hC' hx' F' N' off' ne'; (obtain ⟨t9', hv9'⟩ := hv'); (subst hv9'); (replace hx' : m' (Str.ofString "k") = some (Value.int 0 t9') := hx')))
  k_with "mine cend" => ((k_dflt (refine' compEnd_one (by k_asm) (by k_asm) (by k_ne) (by k_ne) (by k_ne) (by assumption) (by exact trivial) ?_)))
  k_with "mine turn1" => ((refine LCg.CompRest.succ ?_; intro v' I' oI' C' oC' D' m' h' tk' E' hv' hC' hx' F' N' off' ne'; (obtain ⟨t9', hv9'⟩ := hv'); (subst hv9'); (replace hx' : m' (Str.ofString "k") = some (Value.int 1 t9') := hx')))
  k_with "stepsD" => (repeat' (((fail_if_success (with_reducible show LCg.CompEnd _ _ _ _ _ _ _ _ _ _ _ _ _ _)); first | walk1 | (dsimp only; walk1)); (try dsimp only)))
  k_with "mine kargs" => (((case k1 | k2 | k3 | k4 | k5 => k_asm); (case kK => first | exact rfl | assumption); (case kp => first | exact trivial | assumption); (case kd => ktr_room); (case ku => ktr_units)))
  k_with "mine kp" => (first | exact trivial | with_reducible assumption | assumption | omega | exact ⟨by with_reducible assumption, by with_reducible assumption⟩ | exact ⟨by solve_by_elim, by solve_by_elim⟩)
  k_with "steps" => (repeat' (((fail_if_success (with_reducible show wpAny _ _ (PySem.exec (PySem.Stmt.While _ _ _ _) _) _ _ _))); ((fail_if_success (with_reducible show wpAny _ _ (PySem.exec (PySem.Stmt.For _ _ _ _ _) _) _ _ _))); walk_at "mine stp"))
  k_with "tsz" => ((first | omega | (simp only [List.length_drop, List.length_take, List.length_append, List.length_cons, List.length_nil]; omega) | (simp only [List.length_drop, List.length_take, List.length_append, List.length_cons, List.length_nil] at *; omega)))
  k_with "subscriptTail Name Slice str ref" => ((k_here; (with_reducible show wpAny _ _ (subscriptTail _ (PySem.Expr.Slice _ _ none _) (Value.str (tx _) _) _) _ _ _); (rename Fr _ _ _ _ => kTF); (rename News _ _ _ _ => kTN); first | (refine' r_all (s := ⟨_, _, _, _, _⟩) kTF kTN (by walk_at "tsz") ?_; (intro _ _ _ _ _); (try dsimp only)) | (refine' r_drop (s := ⟨_, _, _, _, _⟩) kTF kTN (by omega) (by walk_at "tsz") ?_; (intro _ _ _ _ _); (try dsimp only)) | (refine' r_last (s := ⟨_, _, _, _, _⟩) kTF kTN (by omega) (by walk_at "tsz") ?_; (intro _ _ _ _ _); (try dsimp only)) | (refine' r_take (s := ⟨_, _, _, _, _⟩) kTF kTN (by omega) (by walk_at "tsz") ?_; (intro _ _ _ _ _); (try dsimp only)) | (refine' r_back (s := ⟨_, _, _, _, _⟩) kTF kTN (by omega) (by walk_at "tsz") ?_; (intro _ _ _ _ _); (try dsimp only)) | (refine' r_mid (s := ⟨_, _, _, _, _⟩) kTF kTN (by omega) (by walk_at "tsz") ?_; (intro _ _ _ _ _); (try dsimp only))))
  k_with "mine item" => ((k_here; (with_reducible show wpAny _ _ (subscriptTail _ _ (Value.str (tx _) _) (Value.int _ _)) _ _ _); first | (refine' r_item (by omega) (by walk_at "tsz") (by walk_at "tsz") ?_; (intro _ _); (try dsimp only)) | (refine' r_itemN (by omega) (by walk_at "tsz") (by walk_at "tsz") ?_; (intro _ _); (try dsimp only))))
  k_with "subscriptTail Name Name str int" => (walk_at "mine item")
  k_with "subscriptTail Name BinOp str int" => (walk_at "mine item")
  k_with "subscriptTail Name Constant str int" => (walk_at "mine item")
  k_with "call builtin:len" => ((k_here; (with_reducible show wpAny _ _ (call (Value.builtin "len") [Value.str (tx _) _]) _ _ _); refine' r_len (by walk_at "tsz") ?_; (intro _ _); (try dsimp only)))
  k_with "truthy str" => ((k_here; (with_reducible show wpAny _ _ (PySem.truthy (Value.str (tx _) _)) _ _ _); (first | (with_reducible refine' r_truthyD (by k_dflt (walk_at "tsz")) ?_ ?_) | (with_reducible refine' r_truthyT (by k_dflt (walk_at "tsz")) ?_ ?_) | (with_reducible refine' r_truthyC (by k_dflt (walk_at "tsz")) ?_ ?_)); (all_goals (intro _ _)); (all_goals (try dsimp only))))
  k_with "compareOp Eq str str" => ((k_here; (first | (with_reducible refine' r_eq1 ?_ ?_) | (with_reducible refine' r_eqC ?_ ?_)); (all_goals (intro _)); (all_goals (try dsimp only))))
  k_with "compareOp NotEq str str" => ((k_here; (first | (with_reducible refine' r_ne1 ?_ ?_) | (with_reducible refine' r_neC ?_ ?_)); (all_goals (intro _)); (all_goals (try dsimp only))))
  k_with "binaryOp Add str str" => ((k_here; (with_reducible show wpAny _ _ (binaryOp PySem.Operator.Add (Value.str (tx _) _) (Value.str (tx _) _)) _ _ _); refine' r_add (by walk_at "tsz") ?_; (intro _ _); (try dsimp only)))
  k_with "inplaceOp Add str str" => ((k_here; (with_reducible show wpAny _ _ (inplaceOp PySem.Operator.Add (Value.str (tx _) _) (Value.str (tx _) _)) _ _ _); refine' r_iadd (by walk_at "tsz") ?_; (intro _ _); (try dsimp only)))
  k_with "call builtin:str.lower" => ((k_here; (with_reducible show wpAny _ _ (call (Value.builtin "str.lower") [Value.str (tx _) _]) _ _ _); refine my_lower (by omega) ?_; intro _ _; (try dsimp only)))
  k_with "stepsN" => (repeat' (((fail_if_success (with_reducible show InvEndN _ _ _ _ _ _ _))); walk_at "mine stp"))
  k_with "tl" => ((with_reducible assumption))
  k_with "mine itemT" => ((k_here; (with_reducible show wpAny _ _ (subscriptTail _ _ (Value.ref _) (Value.int _ _)) _ _ _); k_dflt (refine' r_itemT (by k_asm) (by first | k_mem | (repeat (first | with_reducible assumption | refine List.mem_cons_of_mem _ ?_))) (by with_reducible assumption) (by omega) (by walk_at "tsz") (by walk_at "tsz") ?_ (by with_unfolding_all rfl) (by intro _; with_unfolding_all rfl)); (intro _); (try dsimp only)))
  k_with "subscriptTail Name Name ref int" => (walk_at "mine itemT")
  k_with "subscriptTail Name" => (walk_at "mine itemT")
  k_with "call builtin:len" => ((k_here; (with_reducible show wpAny _ _ (call (Value.builtin "len") [Value.ref _]) _ _ _); k_dflt (refine' r_lenT (by k_asm) (by first | k_mem | (repeat (first | with_reducible assumption | refine List.mem_cons_of_mem _ ?_))) (by with_reducible assumption) (by walk_at "tsz") ?_); (intro _ _); (try dsimp only)))
  k_with "lits" => ((try simp only [lit_e, lit_dash, lit_q, lit_set, lit_dot, lit_star, lit_open, lit_close, lit_bang, lit_hat, lit_head, lit_tail, one_eq, ne_eq] at *))
  k_with "compareOp Eq str str" => ((k_here; (with_reducible refine' r_eqS ?_ ?_); (all_goals (intro hS9)); (all_goals (try simp only [lit_e, lit_dash, lit_q, lit_set, lit_dot, lit_star, lit_open, lit_close, lit_bang, lit_hat, lit_head, lit_tail, tx_inj, ne_eq] at hS9)); (all_goals (try dsimp only))))
  k_with "compareOp NotEq str str" => ((k_here; (with_reducible refine' r_neS ?_ ?_); (all_goals (intro hS9)); (all_goals (try simp only [lit_e, lit_dash, lit_q, lit_set, lit_dot, lit_star, lit_open, lit_close, lit_bang, lit_hat, lit_head, lit_tail, tx_inj, ne_eq] at hS9)); (all_goals (try dsimp only))))
  k_with "call builtin:list.append" => ((k_here; (with_reducible show wpAny _ _ (call (Value.builtin _) [Value.ref _, _]) _ _ _); k_dflt (refine' r_append (by k_asm) (by k_asm) (by k_upd) (by omega) ?_; k_whole); intro h' F' N'; (try k_sweep)))
  k_with "stepsW" => (repeat' (((fail_if_success (with_reducible show wpAny _ _ (PySem.exec (PySem.Stmt.While _ _ _ _) _) _ _ _))); ((fail_if_success (with_reducible show WhileStep2 _ _ _ _ _ _ _ _))); walk_at "mine stp"))
  k_with "call builtin:str.join" => ((k_here; (with_reducible show wpAny _ _ (call (Value.builtin "str.join") [Value.str _ _, Value.ref _]) _ _ _); k_dflt (refine' r_joinX (by k_asm) (by k_mem) (by with_reducible assumption) (by with_reducible assumption) (by omega) ?_); (intro _ _); (try dsimp only)))
  k_with "formatField str" => ((k_here; (with_reducible show wpAny _ _ (formatField (Value.str (tx _) _) _) _ _ _); k_dflt (refine' r_field (by walk_at "tsz") ?_); (intro _ _); (try dsimp only)))
  k_with "formatField" => ((k_here; (with_reducible show wpAny _ _ (formatField (Value.str (tx _) _) _) _ _ _); k_dflt (refine' r_field (by walk_at "tsz") ?_); (intro _ _); (try dsimp only)))
  exact trivial
section
set_option maxRecDepth 100000
set_option maxHeartbeats 8000000
section
section
variable {h₀ h h' : Heap} {L D : Addr} {news : List (Addr × Obj)} {g : Obj → List (Addr × Obj)} {o o' x : Obj}
theorem tab_split (U : UpdF 71 o news g) : ∃ rest, (∀ p ∈ rest, p.1 ≠ 71) ∧ (News h₀ L h news → News h₀ L h ((71, o) :: rest)) ∧ (∀ h' o', News h₀ L h' ((71, o') :: rest) → News h₀ L h' (g o')) ∧
    (∀ h' o' q, News h₀ L h' (q :: (71, o') :: rest) → News h₀ L h' (q :: g o')) ∧ (∀ D : Addr, (∀ p ∈ (71, o) :: rest, p.1 < D) → ∀ p ∈ news, p.1 < D) := by
  obtain ⟨pre, post, rfl, hg, h1, h2⟩ := U.split
  refine ⟨pre ++ post, ?_, ?_, ?_, ?_, ?_⟩
  · intro p hp
    rcases List.mem_append.mp hp with hp | hp
    · exact h1 p hp
    · exact h2 p hp
  · intro N p hp
    refine N p ?_
    rcases List.mem_cons.mp hp with rfl | hp
    · exact List.mem_append_right _ (.head _)
    · rcases List.mem_append.mp hp with hp | hp
      · exact List.mem_append_left _ hp
      · exact List.mem_append_right _ (.tail _ hp)
  · intro h' o' N p hp
    rw [hg] at hp
    refine N p ?_
    rcases List.mem_append.mp hp with hp | hp
    · exact .tail _ (List.mem_append_left _ hp)
    · rcases List.mem_cons.mp hp with rfl | hp
      · exact .head _
      · exact .tail _ (List.mem_append_right _ hp)
  · intro h' o' q N p hp
    rw [hg] at hp
    refine N p ?_
    rcases List.mem_cons.mp hp with rfl | hp
    · exact .head _
    · refine .tail _ ?_
      rcases List.mem_append.mp hp with hp | hp
      · exact .tail _ (List.mem_append_left _ hp)
      · rcases List.mem_cons.mp hp with rfl | hp
        · exact .head _
        · exact .tail _ (List.mem_append_right _ hp)
  · intro D hD p hp
    refine hD p ?_
    rcases List.mem_append.mp hp with hp | hp
    · exact .tail _ (List.mem_append_left _ hp)
    · rcases List.mem_cons.mp hp with rfl | hp
      · exact .head _
      · exact .tail _ (List.mem_append_right _ hp)
end
theorem trn_okU (w : World) (p : Program) (loose : List Str) (mean : ExcName → Option Value) (mg mb : Str → Option Value) (news : List (Addr × Obj)) (g : Obj → List (Addr × Obj)) (S : Addr) (A : List Nat) (t u : Tok) (ps : Array Value)
  (dp un : Nat) (gd : Option (List Code)) (cn : Str) (cs : Scope) (a : Addr) (ccd : Value) (cl : List (Str × Addr)) (outer : List Env) (A₀ : Around) (base h₀ : Heap) (L : Addr) (m : Str → Option Value) (s : Shared) (Q E : Value → Shared → Prop)
    (hB : Below A₀ base outer h₀) (F : Fr h₀ L s.heap m) (X : (hd.heap_1 w.params).In h₀) (N : News h₀ L s.heap news) (T : Top p loose mean mg mb h₀) (U : UpdF 71 (tabObj ps) news g) (hps : LamTab ps) (C : CodeHd h₀ 75 71) (hA : (∀ c ∈ A, c ∈ okS) ∧ A.length ≤ 40) (hkind : cs.kind = .function)
    (h1 : dp + 2 < recursionLimit) (h2 : un + 8 * 2 < cLine)
    (h : ∀ (D : Addr) (us : List Value) (c : Nat) (h' : Heap) (tk' : Nat) (ps' : Array Value), Texts us (A.map prt) → LamTab ps' → Fr h₀ L h' m → News h₀ L h' ((D, W.listOf us.toArray c) :: g (tabObj ps')) → (∀ p ∈ news, p.1 < D) → Q (.ref D) { s with heap := h', toks := tk' }) :
      wpAny (model PR w) (ktrTop dp un gd cn cs L a ccd cl outer) (call (.ref 76) [Value.str (tx (catOf pat A)) t, Value.ref S, Value.str (Str.ofString ".") u]) Q E s := by
  obtain ⟨rest, r1, r2, r3, r4, r5⟩ := tab_split (h₀ := h₀) (L := L) (h := s.heap) U
  exact trn_ok w p loose mean mg mb rest S A t u hA.1 hA.2 ps hps r1 dp un gd cn cs a ccd cl outer A₀ base h₀ L m s Q E hB F X (r2 N) T C hkind h1 h2 fun D us c h' tk' ps' hT hps' F' N' l => h D us c h' tk' ps' hT hps' F' (r4 _ _ _ N') (r5 D l)
theorem lines_24 : True := by
  k_with "call ref" => ((k_here; k_dflt (refine' trn_okU _ _ _ _ _ _ _ _ _ _ _ _ _ _ _ _ _ _ _ _ _ _ _ _ _ _ _ _ _ _ (by k_asm) (by k_asm) (by k_asm) (by k_asm) (by k_asm) (by k_updF) (by with_reducible assumption) (by kn_code) (by with_reducible assumption) (by first | exact rfl | assumption) (by ktr_room) (by ktr_units) ?_); (intro D9 us9 c9 h9 tk9 ps9 hT9 hps9 F9 N9 l9); (try dsimp only at N9); (try k_lt l9); (try dsimp only); (try k_fold)))
  k_with "call ref" => ((k_here; k_dflt (refine' use_okR (by k_asm) (by k_asm) (by k_asm) (by k_asm) (by k_asm) (by first | exact rfl | assumption) (by ktr_room) (by ktr_units) (join_ok _ _ _ _ _ _ _ _ _ _ _ _ (by k_mem) (by with_reducible assumption) (by with_reducible assumption) (by with_reducible assumption) (by with_reducible assumption)) (by exact trivial) ?_); (intro v9 h9 tk9 hp9 F9 N9); (obtain ⟨t9, e9⟩ := hp9); (subst e9); (try dsimp only); (try k_fold)))
  k_with "call type:object" => ((k_here; k_dflt (refine' r_object (by k_asm) (by k_asm) ?_); (intro O9 h9 F9 N9 l9); (try k_lt l9); (try dsimp only)))
  exact trivial
local macro_rules | `(tactic| k_all) => `(tactic| assumption)
theorem trans_ok (w : World) (p : Program) (loose : List Str) (mean : ExcName → Option Value) (mg mb : Str → Option Value) (rest : List (Addr × Obj)) (A : List Nat) (t : Tok)
    (hA : (∀ c ∈ A, c ∈ okS) ∧ A.length ≤ 40) (ps : Array Value) (hps : LamTab ps) (hne : ∀ p ∈ rest, p.1 ≠ 71) :
  ∀ (dp un : Nat) (gd : Option (List Code)) (cn : Str) (cs : Scope) (a : Addr) (ccd : Value) (cl : List (Str × Addr)) (outer : List Env) (A₀ : Around) (base h₀ : Heap) (L : Addr) (m : Str → Option Value) (s : Shared) (Q E : Value → Shared → Prop),
    Below A₀ base outer h₀ → Fr h₀ L s.heap m → (hd.heap_1 w.params).In h₀ → News h₀ L s.heap ((71, tabObj ps) :: rest) → Top p loose mean mg mb h₀ → CodeHd h₀ 75 71 → cs.kind = .function →
    dp + 3 < recursionLimit → un + 8 * 3 < cLine →
    (∀ (t' : Tok) (h' : Heap) (tk' : Nat) (ps' : Array Value), LamTab ps' → Fr h₀ L h' m → News h₀ L h' ((71, tabObj ps') :: rest) → Q (.str (tx (txtOf A)) t') { s with heap := h', toks := tk' }) →
      wpAny (model PR w) (ktrTop dp un gd cn cs L a ccd cl outer) (call (.ref 57) [Value.str (tx (catOf pat A)) t]) Q E s := by
  intro dp un gd cn cs a ccd cl outer A₀ base h₀ L m s Q E hB hF hX0 hN hTop hC hkind hroom hunits hret
  have j3 : (A.map prt).length ≤ 40 := by rw [List.length_map]; exact hA.2
  have j4 : ∀ y ∈ A.map prt, y.length ≤ 100 := by
    intro y hy
    obtain ⟨c, _, rfl⟩ := List.mem_map.mp hy
    exact Nat.le_trans (prt_len c).2 (by decide)
  have j5 : (A.map prt).flatten.length ≤ 4000 := by
    have := cat_len prt (fun c => (prt_len c).2) A
    unfold catOf at this
    exact Nat.le_trans this (by have := hA.2; omega)
  refine wpAny_call ?_
  k_dflt cell_enter
  (rename Fr h₀ L _ m => kFG)
  have hC9 := CodeHd.keeps hC kFG.keep
  walk_at "stepsW"
  exact hret _ _ _ _ (by assumption) (by k_asm) (cb_drop (by k_asm) fun p hp => .tail _ (.tail _ hp))
theorem trans_okU (w : World) (p : Program) (loose : List Str) (mean : ExcName → Option Value) (mg mb : Str → Option Value) (news : List (Addr × Obj)) (g : Obj → List (Addr × Obj)) (A : List Nat) (t : Tok) (ps : Array Value)
  (dp un : Nat) (gd : Option (List Code)) (cn : Str) (cs : Scope) (a : Addr) (ccd : Value) (cl : List (Str × Addr)) (outer : List Env) (A₀ : Around) (base h₀ : Heap) (L : Addr) (m : Str → Option Value) (s : Shared) (Q E : Value → Shared → Prop)
    (hB : Below A₀ base outer h₀) (F : Fr h₀ L s.heap m) (X : (hd.heap_1 w.params).In h₀) (N : News h₀ L s.heap news) (T : Top p loose mean mg mb h₀) (U : UpdF 71 (tabObj ps) news g) (hps : LamTab ps) (C : CodeHd h₀ 75 71) (hA : (∀ c ∈ A, c ∈ okS) ∧ A.length ≤ 40) (hkind : cs.kind = .function)
    (h1 : dp + 3 < recursionLimit) (h2 : un + 8 * 3 < cLine)
    (h : ∀ (t' : Tok) (h' : Heap) (tk' : Nat) (ps' : Array Value), LamTab ps' → Fr h₀ L h' m → News h₀ L h' (g (tabObj ps')) → Q (.str (tx (txtOf A)) t') { s with heap := h', toks := tk' }) :
      wpAny (model PR w) (ktrTop dp un gd cn cs L a ccd cl outer) (call (.ref 57) [Value.str (tx (catOf pat A)) t]) Q E s := by
  obtain ⟨rest, r1, r2, r3, r4, r5⟩ := tab_split (h₀ := h₀) (L := L) (h := s.heap) U
  exact trans_ok w p loose mean mg mb rest A t hA ps hps r1 dp un gd cn cs a ccd cl outer A₀ base h₀ L m s Q E hB F X (r2 N) T C hkind h1 h2 fun t' h' tk' ps' hps' F' N' => h t' h' tk' ps' hps' F' (r3 _ _ N')
end
end
section
set_option maxRecDepth 100000
section
theorem nm_cnt : ∀ A : List Nat, 0 ≤ cnt A ∧ cnt A ≤ (A.length : Int)
  | [] => ⟨Int.le_refl _, Int.le_refl _⟩
  | c :: r => by
    have h := nm_cnt r
    have h2 := nm_b c
    rw [cnt, List.length_cons]
    omega
theorem shown_b {x : Int} (hx : 0 ≤ x) : 0 ≤ shown x ∧ shown x ≤ 10 := by
  have h := nm_cnt (listing x)
  rw [cnt_listing hx, listing_len] at h
  exact h
theorem or_b {a b : Int} (ha : 0 ≤ a ∧ a < 262144) (hb : 0 ≤ b ∧ b < 262144) : 0 ≤ Builtin.bitOr a b ∧ Builtin.bitOr a b < 262144 := by
  obtain ⟨n, rfl⟩ := Int.eq_ofNat_of_zero_le ha.1
  obtain ⟨k, rfl⟩ := Int.eq_ofNat_of_zero_le hb.1
  have e : Builtin.bitOr (n : Int) (k : Int) = ((n ||| k : Nat) : Int) := by
    unfold Builtin.bitOr
    rw [bitAnd_nn (by unfold Builtin.bitNot; omega) (by unfold Builtin.bitNot; omega)]
    have e1 : ∀ j : Nat, (Builtin.bitNot (Builtin.bitNot (j : Int))).toNat = j := fun j => by unfold Builtin.bitNot; omega
    rw [e1, e1]
    unfold Builtin.bitNot; omega
  rw [e]
  have := Nat.or_lt_two_pow (x := n) (y := k) (n := 18) (by omega) (by omega)
  omega
theorem and_b {a b : Int} (ha : 0 ≤ a ∧ a < 262144) (hb : 0 ≤ b ∧ b < 262144) : 0 ≤ Builtin.bitAnd a b ∧ Builtin.bitAnd a b < 262144 := by
  have := bitAnd_range a hb.1
  omega
theorem mod_b (z : Int) : 0 ≤ z.fmod 262144 ∧ z.fmod 262144 < 262144 := by
  rw [Int.fmod_eq_emod_of_nonneg _ (by decide)]
  omega
theorem list_ok {x : Int} (hx : 0 ≤ x) : (∀ c ∈ listing x, c ∈ okS) ∧ (listing x).length ≤ 40 := ⟨listing_ok hx, by rw [listing_len]; decide⟩
theorem list_lt {x : Int} (hx : 0 ≤ x) : ∀ c ∈ listing x, c < 128 := fun c hc => okS_lt (listing_ok hx c hc)
theorem turn_mem {A : List Nat} {p : Nat → Prop} (h : ∀ c ∈ A, p c) : ∀ c ∈ turnL A, p c := by
  cases A with
  | nil => intro c hc; simp [turnL] at hc
  | cons a w =>
    intro c hc
    have hc : c ∈ w ++ [a] := hc
    rcases List.mem_append.mp hc with hc | hc
    · exact h c (.tail _ hc)
    · rw [List.mem_singleton.mp hc]; exact h a (.head _)
theorem turn_eq (x : Int) : (listing x).drop (1 : Int).toNat ++ [(listing x).getD (0 : Int).toNat 0] = turnL (listing x) := rfl
/-- the distance of two listings, told with the law's bound -/
theorem lev_law2 (w : World) (p : Program) (loose : List Str) (mean : ExcName → Option Value) (mg mb : Str → Option Value) (news : List (Addr × Obj)) (x y : Int) (t u v : Tok) :
   FnOk w p loose mean mg mb 2 45 news ((0 ≤ x ∧ x < 262144) ∧ (0 ≤ y ∧ y < 262144)) [Value.str (tx (listing x)) t, Value.str (tx (listing y)) u, Value.int (2 * (shown y - shown x)) v]
    (fun v => ∃ r, (2 * (shown y - shown x) ≤ r ∧ (r = 2 * (shown y - shown x) ↔ insideP x y)) ∧ ∃ t, v = Value.int r t) := by
  dsimp only [FnOk]; intro dp un gd cn cs a ccd cl outer A₀ base h₀ L m s Q E hB F X N T hk hp h1 h2 hret
  obtain ⟨hx, hy⟩ := hp
  have sx := shown_b hx.1
  have sy := shown_b hy.1
  refine lev_ok w p loose mean mg mb news (listing x) (listing y) _ t u v (by rw [listing_len, listing_len]) (by rw [listing_len]; decide) (list_lt hx.1) (list_lt hy.1) dp un gd cn cs a ccd cl outer A₀ base h₀ L m s Q E hB F X N T hk (by omega) h1 h2 ?_
  rintro v' h' tk' ⟨r, hr, ht⟩ F' N'
  exact hret v' h' tk' ⟨r, told_law hx.1 hy.1 hr, ht⟩ F' N'
/-- the distance of a listing and its turn -/
theorem lev_t1 (w : World) (p : Program) (loose : List Str) (mean : ExcName → Option Value) (mg mb : Str → Option Value) (news : List (Addr × Obj)) (x : Int) (t u v : Tok) :
   FnOk w p loose mean mg mb 2 45 news (0 ≤ x ∧ x < 262144) [Value.str (tx (listing x)) t, Value.str (tx ((listing x).drop (1 : Int).toNat ++ [(listing x).getD (0 : Int).toNat 0])) u, Value.int 4 v]
    (fun v => ∃ t, v = Value.int (if 0 < shown x then 4 else 0) t) := by
  dsimp only [FnOk]; intro dp un gd cn cs a ccd cl outer A₀ base h₀ L m s Q E hB F X N T hk hx h1 h2 hret
  refine lev_ok w p loose mean mg mb news (listing x) (turnL (listing x)) _ t u v (turn_len _).symm (by rw [listing_len]; decide) (list_lt hx.1) (turn_mem (list_lt hx.1)) dp un gd cn cs a ccd cl outer A₀ base h₀ L m s Q E hB F X N T hk (by omega) h1 h2 ?_
  rintro v' h' tk' ⟨r, hr, t', ht⟩ F' N'
  exact hret v' h' tk' ⟨t', by rw [ht, turn_law hx.1 (.inl hr)]⟩ F' N'
theorem lev_t2 (w : World) (p : Program) (loose : List Str) (mean : ExcName → Option Value) (mg mb : Str → Option Value) (news : List (Addr × Obj)) (x : Int) (t u v : Tok) :
   FnOk w p loose mean mg mb 2 45 news (0 ≤ x ∧ x < 262144) [Value.str (tx ((listing x).drop (1 : Int).toNat ++ [(listing x).getD (0 : Int).toNat 0])) t, Value.str (tx (listing x)) u, Value.int 4 v]
    (fun v => ∃ t, v = Value.int (if 0 < shown x then 4 else 0) t) := by
  dsimp only [FnOk]; intro dp un gd cn cs a ccd cl outer A₀ base h₀ L m s Q E hB F X N T hk hx h1 h2 hret
  refine lev_ok w p loose mean mg mb news (turnL (listing x)) (listing x) _ t u v (turn_len _) (by rw [turn_len, listing_len]; decide) (turn_mem (list_lt hx.1)) (list_lt hx.1) dp un gd cn cs a ccd cl outer A₀ base h₀ L m s Q E hB F X N T hk (by omega) h1 h2 ?_
  rintro v' h' tk' ⟨r, hr, t', ht⟩ F' N'
  exact hret v' h' tk' ⟨t', by rw [ht, turn_law hx.1 (.inr hr)]⟩ F' N'
theorem sh_okS (w : World) (p : Program) (loose : List Str) (mean : ExcName → Option Value) (mg mb : Str → Option Value) (news : List (Addr × Obj)) (x : Int) (t : Tok) :
   FnOk w p loose mean mg mb 4 163 news (0 ≤ x ∧ x < 262144) [Value.int x t] (fun v => ∃ t, v = Value.int (shown x) t) := sh_ok w p loose mean mg mb news x t
/-- the law's own question, by the listings -/
theorem takes_okS (w : World) (p : Program) (loose : List Str) (mean : ExcName → Option Value) (mg mb : Str → Option Value) (news : List (Addr × Obj)) (D : Addr) (us : List Value) (c : Nat) (x y : Int) (t : Tok)
    (hm : (D, W.listOf us.toArray c) ∈ news) (hT : Texts us ((listing x).map itm)) :
   FnOk w p loose mean mg mb 1 184 news ((0 ≤ x ∧ x < 262144) ∧ (0 ≤ y ∧ y < 262144)) [Value.ref D, Value.str (tx (listing y)) t] (fun v => ∃ r, v = Value.bool r ∧ (r = true ↔ insideP x y)) := by
  dsimp only [FnOk]; intro dp un gd cn cs a ccd cl outer A₀ base h₀ L m s Q E hB F X N T hk hp h1 h2 hret
  obtain ⟨hx, hy⟩ := hp
  refine takes_ok w p loose mean mg mb news D us c (listing x) (listing y) t hm hT (by rw [listing_len, listing_len]) (by rw [listing_len]; decide) dp un gd cn cs a ccd cl outer A₀ base h₀ L m s Q E hB F X N T hk trivial h1 h2 ?_
  rintro v' h' tk' ⟨r, hv, hr⟩ F' N'
  exact hret v' h' tk' ⟨r, hv, hr.trans (inside_listing hx.1 hy.1)⟩ F' N'
def MP (m : Str → Option Value) (v0 v1 : Option Value) : Str → Option Value := fun y => if y = Str.ofString "pattern" then v0 else if y = Str.ofString "sign" then v1 else m y
theorem MP_eq {m m' : Str → Option Value} (h : ∀ y, y ≠ Str.ofString "pattern" → y ≠ Str.ofString "sign" → m' y = m y) : m' = MP m (m' (Str.ofString "pattern")) (m' (Str.ofString "sign")) := by
  funext y
  unfold MP
  by_cases h0 : y = Str.ofString "pattern"
  · rw [if_pos h0, h0]
  rw [if_neg h0]
  by_cases h1 : y = Str.ofString "sign"
  · rw [if_pos h1, h1]
  rw [if_neg h1]
  exact h y h0 h1
def ML (m : Str → Option Value) (v0 v1 v2 v3 v4 v5 v6 v7 v8 : Option Value) : Str → Option Value := fun y => if y = Str.ofString "told" then v0 else if y = Str.ofString "bound" then v1 else if y = Str.ofString "inside" then v2 else if y = Str.ofString "sign" then v3 else if y = Str.ofString "pattern" then v4 else if y = Str.ofString "listed" then v5 else if y = Str.ofString "word" then v6 else if y = Str.ofString "second" then v7 else if y = Str.ofString "first" then v8 else m y
theorem ML_eq {m m' : Str → Option Value} (h : ∀ y, y ≠ Str.ofString "told" → y ≠ Str.ofString "bound" → y ≠ Str.ofString "inside" → y ≠ Str.ofString "sign" → y ≠ Str.ofString "pattern" → y ≠ Str.ofString "listed" → y ≠ Str.ofString "word" → y ≠ Str.ofString "second" → y ≠ Str.ofString "first" → m' y = m y) : m' = ML m (m' (Str.ofString "told")) (m' (Str.ofString "bound")) (m' (Str.ofString "inside")) (m' (Str.ofString "sign")) (m' (Str.ofString "pattern")) (m' (Str.ofString "listed")) (m' (Str.ofString "word")) (m' (Str.ofString "second")) (m' (Str.ofString "first")) := by
  funext y
  unfold ML
  by_cases h0 : y = Str.ofString "told"
  · rw [if_pos h0, h0]
  rw [if_neg h0]
  by_cases h1 : y = Str.ofString "bound"
  · rw [if_pos h1, h1]
  rw [if_neg h1]
  by_cases h2 : y = Str.ofString "inside"
  · rw [if_pos h2, h2]
  rw [if_neg h2]
  by_cases h3 : y = Str.ofString "sign"
  · rw [if_pos h3, h3]
  rw [if_neg h3]
  by_cases h4 : y = Str.ofString "pattern"
  · rw [if_pos h4, h4]
  rw [if_neg h4]
  by_cases h5 : y = Str.ofString "listed"
  · rw [if_pos h5, h5]
  rw [if_neg h5]
  by_cases h6 : y = Str.ofString "word"
  · rw [if_pos h6, h6]
  rw [if_neg h6]
  by_cases h7 : y = Str.ofString "second"
  · rw [if_pos h7, h7]
  rw [if_neg h7]
  by_cases h8 : y = Str.ofString "first"
  · rw [if_pos h8, h8]
  rw [if_neg h8]
  exact h y h0 h1 h2 h3 h4 h5 h6 h7 h8
def LawJ (g : Obj → List (Addr × Obj)) (m : Str → Option Value) (m' : Str → Option Value) (n' : List (Addr × Obj)) : Prop :=
  ∃ v0 v1 v2 v3 v4 v5 v6 v7 v8 ps, m' = ML m v0 v1 v2 v3 v4 v5 v6 v7 v8 ∧ LamTab ps ∧ n' = g (tabObj ps)
section
open PySem.Calls PySem.Spec
variable {prog : Program} {w : World} {A : Around} {E : Value → Shared → Prop} {s : Shared} {h₀ : Heap}
theorem upd_same {d : Addr} {o : Obj} {l : List (Addr × Obj)} {g : Obj → List (Addr × Obj)} (U : UpdF d o l g) : g o = l := by
  obtain ⟨pre, post, rfl, hg, _, _⟩ := U.split
  exact hg o
theorem updF_app {d : Addr} {o : Obj} {post : List (Addr × Obj)} : ∀ {pre : List (Addr × Obj)}, (∀ p ∈ pre, p.1 ≠ d) → (∀ p ∈ post, p.1 ≠ d) → UpdF d o (pre ++ (d, o) :: post) (fun o' => pre ++ (d, o') :: post)
  | [], _, h2 => .head h2
  | a :: r, h1, h2 => .tail (h1 a (.head _)) (updF_app (fun p hp => h1 p (.tail _ hp)) h2)
theorem loop_law {env : Env} {T : Addr} {items : Array Value} {to : Obj} {tn : Nat} {target : Expr} {body orelse : List Stmt} {Q : Flow → Shared → Prop} {m : Str → Option Value} {news : List (Addr × Obj)} {ps0 : Array Value} {g : Obj → List (Addr × Obj)}
    (U : UpdF 71 (tabObj ps0) news g) (hps0 : LamTab ps0) (hm : (T, to) ∈ news) (hT71 : T ≠ 71) (htc : to.cls = .type "tuple") (htd : to.data = .seq items tn) (hh : A.handled = none) (F : Fr h₀ env.locals s.heap m) (N : News h₀ env.locals s.heap news)
    (hitems : ∀ v ∈ items.toList, ∃ a x y t u, v = .ref a ∧ (a, ({ cls := .type "tuple", data := .seq #[.int x t, .int y u] } : Obj)) ∈ news ∧ a ≠ 71 ∧ (0 ≤ x ∧ x < 262144) ∧ (0 ≤ y ∧ y < 262144))
    (step : ∀ (mO : Str → Option Value) (gO : Obj → List (Addr × Obj)), (∀ ps, UpdF 71 (tabObj ps) (gO (tabObj ps)) gO) → ∀ a x y t u v0 v1 v2 v3 v4 v5 v6 v7 v8 ps I o h₁ tk₁, IsTup h₁ a #[.int x t, .int y u] → (0 ≤ x ∧ x < 262144) → (0 ≤ y ∧ y < 262144) → LamTab ps → (∀ p ∈ gO (tabObj ps), p.1 < I) → 71 < I → o.cls = .type "tuple_iterator" →
      Fr h₀ env.locals h₁ (ML mO v0 v1 v2 v3 v4 v5 v6 v7 v8) → News h₀ env.locals h₁ ((I, o) :: gO (tabObj ps)) →
      wpAny (model prog w) A (assign target env (.ref a)) (fun _ s₂ => wpAny (model prog w) A (execs body env) (TurnEnd h₀ env.locals [(I, o)] s (LawJ gO mO) Q) E s₂) E { s with heap := h₁, toks := tk₁ })
    (done : ∀ v0 v1 v2 v3 v4 v5 v6 v7 v8 ps h' tk, LamTab ps → Fr h₀ env.locals h' (ML m v0 v1 v2 v3 v4 v5 v6 v7 v8) → News h₀ env.locals h' (g (tabObj ps)) → wpAny (model prog w) A (execs orelse env) Q E { s with heap := h', toks := tk })
    (hE : PassesOwn (model prog w) A env E) :
    wpAny (model prog w) A (pyIter (.ref T)) (fun it s₂ => codeAny (model prog w) A (.forLoop target it body orelse env) (fun r s' => match r with | .ok f => Q f s' | .error e => cameBackBy (model prog w) A env E e s') s₂) E s := by
  obtain ⟨pre, post, rfl, hg, h1, h2⟩ := U.split
  have mem : ∀ {a : Addr} {ob o' : Obj}, a ≠ 71 → (a, ob) ∈ pre ++ (71, tabObj ps0) :: post → (a, ob) ∈ g o' := fun ha hp => by
    rw [hg]
    rcases List.mem_append.mp hp with hp | hp
    · exact List.mem_append_left _ hp
    · rcases List.mem_cons.mp hp with e | hp
      · exact absurd (congrArg Prod.fst e) ha
      · exact List.mem_append_right _ (.tail _ hp)
  refine loop_tupL hm htc htd hh F N (fun _ m' n' => LawJ g m m' n') ?_ ?_ ?_ ?_ hE
  · exact ⟨_, _, _, _, _, _, _, _, _, ps0, ML_eq fun _ _ _ _ _ _ _ _ _ _ => rfl, hps0, (hg _).symm⟩
  · rintro i m' n' ⟨v0, v1, v2, v3, v4, v5, v6, v7, v8, ps, _, _, rfl⟩
    refine ⟨by rw [hg]; simp, mem hT71 hm⟩
  · rintro i v m₁ n₁ I o h₁ tk₁ hv ⟨v0, v1, v2, v3, v4, v5, v6, v7, v8, ps, rfl, hps, rfl⟩ hlt hc F₁ N₁
    obtain ⟨a, x, y, t, u, rfl, ha, ha71, hx, hy⟩ := hitems v (by have := List.mem_of_getElem? (l := items.toList) (i := i) (by simpa using hv); exact this)
    exact step m g (fun ps => by rw [show g = fun o' => pre ++ (71, o') :: post from funext hg]; exact updF_app h1 h2) a x y t u v0 v1 v2 v3 v4 v5 v6 v7 v8 ps I o h₁ tk₁ ⟨_, (N₁ _ (.tail _ (mem ha71 ha))).1, rfl, _, rfl⟩ hx hy hps hlt (hlt (71, tabObj ps) (by rw [hg]; exact List.mem_append_right _ (.head _))) hc F₁ N₁
  · rintro m' n' h' tk ⟨v0, v1, v2, v3, v4, v5, v6, v7, v8, ps, rfl, hps, rfl⟩ F' N'
    exact done v0 v1 v2 v3 v4 v5 v6 v7 v8 ps h' tk hps F' N'
/-- the loop that writes the pattern -/
def PatJ (B : List Nat) (m : Str → Option Value) (i : Nat) (m' : Str → Option Value) : Prop := ∃ t vs, m' = MP m (some (.str (tx (catOf pat (B.take i))) t)) vs
theorem loop_pat {B : List Nat} {env : Env} {rt tp : Tok} {x : Str} {xpos : Pos} {body orelse : List Stmt} {Q : Flow → Shared → Prop} {m : Str → Option Value} {news : List (Addr × Obj)}
    (hz : ∀ c ∈ B, c < 128) (hh : A.handled = none) (F : Fr h₀ env.locals s.heap m) (N : News h₀ env.locals s.heap news) (hp : m (Str.ofString "pattern") = some (.str (tx []) tp))
    (step : ∀ (i : Nat) c t tq vs I o h₁ tk₁, i < B.length → c = B.getD i 0 → (∀ p ∈ news, p.1 < I) → o.cls = .type "str_ascii_iterator" → Fr h₀ env.locals h₁ (MP m (some (.str (tx (catOf pat (B.take i))) tq)) vs) → News h₀ env.locals h₁ ((I, o) :: news) →
      wpAny (model prog w) A (assign (.Name x xpos) env (.str (tx [c]) t)) (fun _ s₂ => wpAny (model prog w) A (execs body env) (TurnEnd h₀ env.locals [(I, o)] s (fun m' news' => news' = news ∧ PatJ B m (i + 1) m') Q) E s₂) E { s with heap := h₁, toks := tk₁ })
    (done : ∀ t vs h' tk, Fr h₀ env.locals h' (MP m (some (.str (tx (catOf pat B)) t)) vs) → News h₀ env.locals h' news → wpAny (model prog w) A (execs orelse env) Q E { s with heap := h', toks := tk })
    (hE : PassesOwn (model prog w) A env E) :
    wpAny (model prog w) A (pyIter (.str (tx B) rt)) (fun it s₂ => codeAny (model prog w) A (.forLoop (.Name x xpos) it body orelse env) (fun r s' => match r with | .ok f => Q f s' | .error e => cameBackBy (model prog w) A env E e s') s₂) E s := by
  refine loop_strA hz hh F N (PatJ B m) ?_ ?_ ?_ hE
  · refine ⟨tp, m (Str.ofString "sign"), ?_⟩
    have e := MP_eq (m := m) (m' := m) fun _ _ _ => rfl
    rw [hp] at e
    exact e
  · rintro i v t m₁ I o h₁ tk₁ hi rfl ⟨tq, vs, rfl⟩ hlt hc F₁ N₁
    exact step i _ t tq vs I o h₁ tk₁ hi rfl hlt hc F₁ N₁
  · rintro m' h' tk ⟨t, vs, rfl⟩ F' N'
    rw [List.take_length] at F'
    exact done t vs h' tk F' N'
end
theorem r_iaddK {prog : Program} {w : World} {Ar : Around} {E : Value → Shared → Prop} {s : Shared} {A B : List Nat} {b : Str} {t u : Tok} {Q : Value → Shared → Prop} (hb : b = tx B) (hsz : A.length + B.length ≤ 100000) (h : ∀ t' k, Q (.str (tx (A ++ B)) t') { s with toks := k }) : wpAny (model prog w) Ar (inplaceOp .Add (.str (tx A) t) (.str b u)) Q E s := by
  subst hb; exact r_iadd hsz h
theorem pat_q {c : Nat} (h : [c] = [45]) : [63] = pat c := by
  have : c = 45 := by simpa using h
  subst this; rfl
theorem pat_s {c : Nat} (h : [c] = [63]) : [91, 63, 93] = pat c := by
  have : c = 63 := by simpa using h
  subst this; rfl
theorem pat_l {c : Nat} (h1 : ¬ [c] = [45]) (h2 : ¬ [c] = [63]) : [c] = pat c := by
  unfold pat
  rw [if_neg (fun e => h1 (by rw [e])), if_neg (fun e => h2 (by rw [e]))]
theorem bool_ne {r1 r2 : Bool} {P : Prop} (h1 : r1 = true ↔ P) (h2 : r2 = true ↔ P) (h : (r1 != r2) = true) : False := by
  cases r1 <;> cases r2 <;> simp_all
theorem pat_end {h₀ h' : Heap} {L : Addr} {m m' : Str → Option Value} {news : List (Addr × Obj)} {s : Shared} {Q : Flow → Shared → Prop} {tk i c : Nat} {B X : List Nat} {t : Tok} {q : Addr × Obj} (F : Fr h₀ L h' m') (N : News h₀ L h' (q :: news))
    (hm : ∀ y, y ≠ Str.ofString "pattern" → y ≠ Str.ofString "sign" → m' y = m y) (hi : i < B.length) (hc : c = B.getD i 0) (hp : m' (Str.ofString "pattern") = some (.str (tx (catOf pat (B.take i) ++ X)) t)) (hX : X = pat c) :
    TurnEnd h₀ L [q] s (fun m' news' => news' = news ∧ PatJ B m (i + 1) m') Q .next { s with heap := h', toks := tk } :=
  TurnEnd.next news F N ⟨rfl, t, m' (Str.ofString "sign"), by
    have e := MP_eq hm
    rw [hp, hX, hc, ← cat_snoc pat hi] at e
    exact e⟩
end
end
theorem lines_25 : True := by
  k_with_none
  w_top off
  k_with "mine stp" => (first | (k_unfold; (try dsimp only)) | (k_end; wrow_close) | walk1 | (dsimp only; walk1) | (leave1; walk_say "STEP leave1"; try dsimp only) | fail "no step")
  k_with "stepsP" => (repeat' (((fail_if_success (with_reducible show wpAny _ _ (pyIter _) _ _ _))); ((fail_if_success (with_reducible show TurnEnd _ _ _ _ _ _ _ _))); walk_at "mine stp"))
  k_with "stepsC" => (repeat' (((fail_if_success (with_reducible show LCg.CompRest _ _ _ _ _ _ _ _ _ _ _ _ _ _ _ _ _ _ _)); (fail_if_success (with_reducible show LCg.CompEnd _ _ _ _ _ _ _ _ _ _ _ _ _ _))); walk_at "mine stp"))
  k_with "mine turn2" => ((refine LCg.CompRest.succ ?_; intro v' I' oI' C' oC' D' m' h' tk' E' hv' hC' hx' F' N' off' ne'; (obtain ⟨t9', hv9'⟩ := hv'); (subst hv9'); (replace hx' : m' (Str.ofString "k") = some (Value.int 2 t9') := hx')))
  k_with "mine turn0" => ((refine LCg.CompRest.succ ?_; intro v' I' oI' C' oC' D' m' h' tk' E' hv' hC' hx' F' N' off' ne'; (obtain ⟨t9', hv9'⟩ := hv'); (subst hv9'); (replace hx' : m' (Str.ofString "k") = some (Value.int 0 t9') := hx')))
  k_with "mine cend" => ((k_dflt (refine' compEnd_one (by k_asm) (by k_asm) (by k_ne) (by k_ne) (by k_ne) (by assumption) (by exact trivial) ?_)))
  k_with "mine turn1" => ((refine LCg.CompRest.succ ?_; intro v' I' oI' C' oC' D' m' h' tk' E' hv' hC' hx' F' N' off' ne'; (obtain ⟨t9', hv9'⟩ := hv'); (subst hv9'); (replace hx' : m' (Str.ofString "k") = some (Value.int 1 t9') := hx')))
  k_with "stepsD" => (repeat' (((fail_if_success (with_reducible show LCg.CompEnd _ _ _ _ _ _ _ _ _ _ _ _ _ _)); first | walk1 | (dsimp only; walk1)); (try dsimp only)))
  k_with "mine kargs" => (((case k1 | k2 | k3 | k4 | k5 => k_asm); (case kK => first | exact rfl | assumption); (case kp => first | exact trivial | assumption); (case kd => ktr_room); (case ku => ktr_units)))
  k_with "mine kp" => (first | exact trivial | with_reducible assumption | assumption | omega | exact ⟨by with_reducible assumption, by with_reducible assumption⟩ | exact ⟨by solve_by_elim, by solve_by_elim⟩)
  k_with "mine kp" => (first | with_reducible assumption | exact ⟨by with_reducible assumption, by with_reducible assumption⟩ | exact mod_b _ | exact ⟨mod_b _, by omega⟩)
  k_with "steps" => (repeat' (((fail_if_success (with_reducible show wpAny _ _ (PySem.exec (PySem.Stmt.While _ _ _ _) _) _ _ _))); ((fail_if_success (with_reducible show wpAny _ _ (PySem.exec (PySem.Stmt.For _ _ _ _ _) _) _ _ _))); walk_at "mine stp"))
  k_with "tsz" => ((first | omega | (simp only [List.length_drop, List.length_take, List.length_append, List.length_cons, List.length_nil]; omega) | (simp only [List.length_drop, List.length_take, List.length_append, List.length_cons, List.length_nil] at *; omega)))
  k_with "subscriptTail Name Slice str ref" => ((k_here; (with_reducible show wpAny _ _ (subscriptTail _ (PySem.Expr.Slice _ _ none _) (Value.str (tx _) _) _) _ _ _); (rename Fr _ _ _ _ => kTF); (rename News _ _ _ _ => kTN); first | (refine' r_all (s := ⟨_, _, _, _, _⟩) kTF kTN (by walk_at "tsz") ?_; (intro _ _ _ _ _); (try dsimp only)) | (refine' r_drop (s := ⟨_, _, _, _, _⟩) kTF kTN (by omega) (by walk_at "tsz") ?_; (intro _ _ _ _ _); (try dsimp only)) | (refine' r_last (s := ⟨_, _, _, _, _⟩) kTF kTN (by omega) (by walk_at "tsz") ?_; (intro _ _ _ _ _); (try dsimp only)) | (refine' r_take (s := ⟨_, _, _, _, _⟩) kTF kTN (by omega) (by walk_at "tsz") ?_; (intro _ _ _ _ _); (try dsimp only)) | (refine' r_back (s := ⟨_, _, _, _, _⟩) kTF kTN (by omega) (by walk_at "tsz") ?_; (intro _ _ _ _ _); (try dsimp only)) | (refine' r_mid (s := ⟨_, _, _, _, _⟩) kTF kTN (by omega) (by walk_at "tsz") ?_; (intro _ _ _ _ _); (try dsimp only))))
  k_with "mine item" => ((k_here; (with_reducible show wpAny _ _ (subscriptTail _ _ (Value.str (tx _) _) (Value.int _ _)) _ _ _); first | (refine' r_item (by omega) (by walk_at "tsz") (by walk_at "tsz") ?_; (intro _ _); (try dsimp only)) | (refine' r_itemN (by omega) (by walk_at "tsz") (by walk_at "tsz") ?_; (intro _ _); (try dsimp only))))
  k_with "subscriptTail Name Name str int" => (walk_at "mine item")
  k_with "subscriptTail Name BinOp str int" => (walk_at "mine item")
  k_with "subscriptTail Name Constant str int" => (walk_at "mine item")
  k_with "call builtin:len" => ((k_here; (with_reducible show wpAny _ _ (call (Value.builtin "len") [Value.str (tx _) _]) _ _ _); refine' r_len (by walk_at "tsz") ?_; (intro _ _); (try dsimp only)))
  k_with "truthy str" => ((k_here; (with_reducible show wpAny _ _ (PySem.truthy (Value.str (tx _) _)) _ _ _); (first | (with_reducible refine' r_truthyD (by k_dflt (walk_at "tsz")) ?_ ?_) | (with_reducible refine' r_truthyT (by k_dflt (walk_at "tsz")) ?_ ?_) | (with_reducible refine' r_truthyC (by k_dflt (walk_at "tsz")) ?_ ?_)); (all_goals (intro _ _)); (all_goals (try dsimp only))))
  k_with "compareOp Eq str str" => ((k_here; (first | (with_reducible refine' r_eq1 ?_ ?_) | (with_reducible refine' r_eqC ?_ ?_)); (all_goals (intro _)); (all_goals (try dsimp only))))
  k_with "compareOp NotEq str str" => ((k_here; (first | (with_reducible refine' r_ne1 ?_ ?_) | (with_reducible refine' r_neC ?_ ?_)); (all_goals (intro _)); (all_goals (try dsimp only))))
  k_with "binaryOp Add str str" => ((k_here; (with_reducible show wpAny _ _ (binaryOp PySem.Operator.Add (Value.str (tx _) _) (Value.str (tx _) _)) _ _ _); refine' r_add (by walk_at "tsz") ?_; (intro _ _); (try dsimp only)))
  k_with "inplaceOp Add str str" => ((k_here; (with_reducible show wpAny _ _ (inplaceOp PySem.Operator.Add (Value.str (tx _) _) (Value.str (tx _) _)) _ _ _); refine' r_iadd (by walk_at "tsz") ?_; (intro _ _); (try dsimp only)))
  k_with "call builtin:str.lower" => ((k_here; (with_reducible show wpAny _ _ (call (Value.builtin "str.lower") [Value.str (tx _) _]) _ _ _); refine my_lower (by omega) ?_; intro _ _; (try dsimp only)))
  k_with "stepsN" => (repeat' (((fail_if_success (with_reducible show InvEndN _ _ _ _ _ _ _))); walk_at "mine stp"))
  k_with "tl" => ((with_reducible assumption))
  k_with "mine itemT" => ((k_here; (with_reducible show wpAny _ _ (subscriptTail _ _ (Value.ref _) (Value.int _ _)) _ _ _); k_dflt (refine' r_itemT (by k_asm) (by first | k_mem | (repeat (first | with_reducible assumption | refine List.mem_cons_of_mem _ ?_))) (by with_reducible assumption) (by omega) (by walk_at "tsz") (by walk_at "tsz") ?_ (by with_unfolding_all rfl) (by intro _; with_unfolding_all rfl)); (intro _); (try dsimp only)))
  k_with "subscriptTail Name Name ref int" => (walk_at "mine itemT")
  k_with "subscriptTail Name" => (walk_at "mine itemT")
  k_with "call builtin:len" => ((k_here; (with_reducible show wpAny _ _ (call (Value.builtin "len") [Value.ref _]) _ _ _); k_dflt (refine' r_lenT (by k_asm) (by first | k_mem | (repeat (first | with_reducible assumption | refine List.mem_cons_of_mem _ ?_))) (by with_reducible assumption) (by walk_at "tsz") ?_); (intro _ _); (try dsimp only)))
  k_with "lits" => ((try simp only [lit_e, lit_dash, lit_q, lit_set, lit_dot, lit_star, lit_open, lit_close, lit_bang, lit_hat, lit_head, lit_tail, one_eq, ne_eq] at *))
  k_with "compareOp Eq str str" => ((k_here; (with_reducible refine' r_eqS ?_ ?_); (all_goals (intro hS9)); (all_goals (try simp only [lit_e, lit_dash, lit_q, lit_set, lit_dot, lit_star, lit_open, lit_close, lit_bang, lit_hat, lit_head, lit_tail, tx_inj, ne_eq] at hS9)); (all_goals (try dsimp only))))
  k_with "compareOp NotEq str str" => ((k_here; (with_reducible refine' r_neS ?_ ?_); (all_goals (intro hS9)); (all_goals (try simp only [lit_e, lit_dash, lit_q, lit_set, lit_dot, lit_star, lit_open, lit_close, lit_bang, lit_hat, lit_head, lit_tail, tx_inj, ne_eq] at hS9)); (all_goals (try dsimp only))))
  k_with "call builtin:list.append" => ((k_here; (with_reducible show wpAny _ _ (call (Value.builtin _) [Value.ref _, _]) _ _ _); k_dflt (refine' r_append (by k_asm) (by k_asm) (by k_upd) (by omega) ?_; k_whole); intro h' F' N'; (try k_sweep)))
  k_with "stepsW" => (repeat' (((fail_if_success (with_reducible show wpAny _ _ (PySem.exec (PySem.Stmt.While _ _ _ _) _) _ _ _))); ((fail_if_success (with_reducible show WhileStep2 _ _ _ _ _ _ _ _))); walk_at "mine stp"))
  k_with "call builtin:str.join" => ((k_here; (with_reducible show wpAny _ _ (call (Value.builtin "str.join") [Value.str _ _, Value.ref _]) _ _ _); k_dflt (refine' r_joinX (by k_asm) (by k_mem) (by with_reducible assumption) (by with_reducible assumption) (by omega) ?_); (intro _ _); (try dsimp only)))
  k_with "formatField str" => ((k_here; (with_reducible show wpAny _ _ (formatField (Value.str (tx _) _) _) _ _ _); k_dflt (refine' r_field (by walk_at "tsz") ?_); (intro _ _); (try dsimp only)))
  k_with "formatField" => ((k_here; (with_reducible show wpAny _ _ (formatField (Value.str (tx _) _) _) _ _ _); k_dflt (refine' r_field (by walk_at "tsz") ?_); (intro _ _); (try dsimp only)))
  exact trivial
section
set_option maxRecDepth 100000
set_option maxHeartbeats 8000000
section
theorem lines_26 : True := by
  k_with "CompSrc" => ((k_here; k_dflt (refine LCg.CompSrc.range (by rfl) (by k_asm) (by k_asm) (by assumption) (by first | decide | rfl) (by first | rfl | decide) (by first | size_fits | exact Nat.le_of_ble_eq_true rfl) ?_; intro g'; lcg_lit)))
  k_with "subscriptTail Name Slice ref ref" => ((k_here; (with_reducible show wpAny _ _ (subscriptTail _ (PySem.Expr.Slice _ _ (some _) _) (Value.ref _) (Value.ref _)) _ _ _); k_dflt (refine' r_slice3 (s := ⟨_, _, _, _, _⟩) (by k_asm) (by k_asm) (by is_list) (by with_reducible assumption) (by omega) (by decide) ?_ (by with_unfolding_all rfl) (by intro _; with_unfolding_all rfl)); (intro D8 items8 h8 hA8 F8 N8 l8); (try k_lt l8); (try dsimp only)))
  k_with "call builtin:sum" => ((k_here; (with_reducible show wpAny _ _ (call (Value.builtin "sum") [Value.ref _]) _ _ _); k_dflt (refine' r_sumL (by rfl) (by k_asm) (by k_asm) (by k_mem) (by with_reducible assumption) ?_); (intro z8 t8 h8 k8 F8 N8); (try dsimp only)))
  k_with "stepsX" => (repeat' (((fail_if_success (with_reducible show wpAny _ _ (PySem.exec (PySem.Stmt.For _ _ _ _ _) _) _ _ _))); ((fail_if_success (with_reducible show TurnEnd _ _ _ _ _ _ _ _))); walk_at "mine stp"))
  k_with "mine kargs" => (((case k1 | k2 | k3 | k4 | k5 => k_asm); (case kK => first | exact rfl | assumption); (case kp => first | exact trivial | with_reducible assumption | exact ⟨by with_reducible assumption, by with_reducible assumption⟩ | exact mod_b _); (case kd => ktr_room); (case ku => ktr_units)))
  k_with "call ref" => ((k_here; (with_reducible show wpAny _ _ (call (Value.ref 144) _) _ _ _); k_dflt (o_head (fm_ok _ _ _ _ _ _ _ _ _)); (intro v9 h9 tk9 hp9 F9 N9); (obtain ⟨t9, e9⟩ := hp9); (subst e9); (try dsimp only); (try k_fold)))
  k_with "call ref" => ((k_here; (with_reducible show wpAny _ _ (call (Value.ref 163) _) _ _ _); k_dflt (o_head (sh_okS _ _ _ _ _ _ _ _ _)); (intro v9 h9 tk9 hp9 F9 N9); (obtain ⟨t9, e9⟩ := hp9); (subst e9); (try dsimp only); (try k_fold)))
  k_with "call ref" => ((k_here; (with_reducible show wpAny _ _ (call (Value.ref 170) _) _ _ _); k_dflt (o_head (in_ok _ _ _ _ _ _ _ _ _ _ _)); (intro v9 h9 tk9 hp9 F9 N9); (obtain ⟨r9, e9, i9⟩ := hp9); (subst e9); (try dsimp only); (try k_fold)))
  k_with "call ref" => ((k_here; (with_reducible show wpAny _ _ (call (Value.ref 45) _) _ _ _); k_dflt (o_head (lev_law2 _ _ _ _ _ _ _ _ _ _ _ _)); (intro v9 h9 tk9 hp9 F9 N9); (obtain ⟨r9, i9, t9, e9⟩ := hp9); (subst e9); (try dsimp only); (try k_fold)))
  k_with "call ref" => ((k_here; (with_reducible show wpAny _ _ (call (Value.ref 184) _) _ _ _); k_dflt (refine' use_okR (by k_asm) (by k_asm) (by k_asm) (by k_asm) (by k_asm) (by first | exact rfl | assumption) (by ktr_room) (by ktr_units) (takes_okS _ _ _ _ _ _ _ _ _ _ _ _ _ (by k_mem) (by with_reducible assumption)) (by exact ⟨by with_reducible assumption, by with_reducible assumption⟩) ?_); (intro v9 h9 tk9 hp9 F9 N9); (obtain ⟨r9, e9, i9⟩ := hp9); (subst e9); (try dsimp only); (try k_fold)))
  k_with "call ref" => ((k_here; (with_reducible show wpAny _ _ (call (Value.ref 177) _) _ _ _); k_dflt (refine' (items_ok _ _ _ _ _ _ _ _ _ (by exact (list_ok (by omega)).1) (by exact (list_ok (by omega)).2)) _ _ _ _ _ _ _ _ _ _ _ _ _ _ _ _ _ (by k_asm) (by k_asm) (by k_asm) (by k_asm) (by k_asm) (by first | exact rfl | assumption) (by first | exact trivial | assumption) (by ktr_room) (by ktr_units) ?_); (intro D9 us9 c9 h9 tk9 hT9 F9 N9 l9); (try k_lt l9); (try dsimp only); (try k_fold)))
  k_with "call ref" => ((k_here; (with_reducible show wpAny _ _ (call (Value.ref 57) _) _ _ _); k_dflt (refine' trans_okU _ _ _ _ _ _ _ _ _ _ _ _ _ _ _ _ _ _ _ _ _ _ _ _ _ _ _ _ (by k_asm) (by k_asm) (by k_asm) (by k_asm) (by k_asm) (by first | (refine UpdF.tail ?_ (UpdF.tail ?_ (by with_reducible assumption)) <;> (show ((_ : Nat) ≠ (71 : Nat)); omega)) | k_updF) (by with_reducible assumption) (by kn_code) (by exact list_ok (by omega)) (by first | exact rfl | assumption) (by ktr_room) (by ktr_units) ?_); (intro t9 h9 tk9 ps9 hps9 F9 N9); (try dsimp only at N9); (try dsimp only); (try k_fold)))
  k_with "inplaceOp Add str str" => ((k_here; (first | (with_reducible show wpAny _ _ (inplaceOp PySem.Operator.Add (Value.str (tx _) _) (Value.str (Str.ofString "?") _)) _ _ _; refine' r_iaddK (B := [63]) rfl (by walk_at "tsz") ?_) | (with_reducible show wpAny _ _ (inplaceOp PySem.Operator.Add (Value.str (tx _) _) (Value.str (Str.ofString "[?]") _)) _ _ _; refine' r_iaddK (B := [91, 63, 93]) rfl (by walk_at "tsz") ?_) | refine' r_iadd (by walk_at "tsz") ?_); (intro _ _); (try dsimp only)))
  k_with "stepsK" => (repeat' (((fail_if_success (with_reducible show wpAny _ _ (call (Value.ref 170) _) _ _ _))); first | walk1 | (dsimp only; walk1)); (try dsimp only))
  exact trivial
theorem bool_neF {r1 r2 : Bool} {P : Prop} (h : (r1 != r2) = true) (h1 : r1 = true ↔ P) (h2 : r2 = true ↔ P) : False := bool_ne h1 h2 h
theorem told_ne {r b : Int} {q : Bool} {P : Prop} (h : ((r == b) != q) = true) (h1 : b ≤ r ∧ (r = b ↔ P)) (h2 : q = true ↔ P) : False :=
  bool_ne (r1 := r == b) (P := P) (by rw [beq_iff_eq]; exact h1.2) h2 h
section
open PySem.Calls PySem.Spec
theorem turn_end {h₀ h' : Heap} {L : Addr} {m m' : Str → Option Value} {g : Obj → List (Addr × Obj)} {ps : Array Value} {s : Shared} {Q : Flow → Shared → Prop} {tk : Nat} {p1 p2 q : Addr × Obj} (F : Fr h₀ L h' m') (N : News h₀ L h' (p1 :: p2 :: q :: g (tabObj ps)))
    (hm : ∀ y, y ≠ Str.ofString "told" → y ≠ Str.ofString "bound" → y ≠ Str.ofString "inside" → y ≠ Str.ofString "sign" → y ≠ Str.ofString "pattern" → y ≠ Str.ofString "listed" → y ≠ Str.ofString "word" → y ≠ Str.ofString "second" → y ≠ Str.ofString "first" → m' y = m y) (hps : LamTab ps) :
    TurnEnd h₀ L [q] s (LawJ g m) Q .next { s with heap := h', toks := tk } :=
  TurnEnd.next (g (tabObj ps)) F (cb_drop N fun p hp => .tail _ (.tail _ hp)) ⟨_, _, _, _, _, _, _, _, _, ps, ML_eq hm, hps, rfl⟩
end
theorem lev_p1 (w : World) (p : Program) (loose : List Str) (mean : ExcName → Option Value) (mg mb : Str → Option Value) (news : List (Addr × Obj)) (x : Int) (t u v : Tok) :
   FnOk w p loose mean mg mb 2 45 news ((0 ≤ x ∧ x < 262144) ∧ 0 < shown x) [Value.str (tx (listing x)) t, Value.str (tx ((listing x).drop (1 : Int).toNat ++ [(listing x).getD (0 : Int).toNat 0])) u, Value.int 4 v]
    (fun v => ∃ t, v = Value.int 4 t) := by
  dsimp only [FnOk]; intro dp un gd cn cs a ccd cl outer A₀ base h₀ L m s Q E hB F X N T hk hx h1 h2 hret
  refine lev_t1 w p loose mean mg mb news x t u v dp un gd cn cs a ccd cl outer A₀ base h₀ L m s Q E hB F X N T hk hx.1 h1 h2 ?_
  rintro v' h' tk' ⟨t', ht⟩ F' N'
  exact hret v' h' tk' ⟨t', by rw [ht, if_pos hx.2]⟩ F' N'
theorem lev_n1 (w : World) (p : Program) (loose : List Str) (mean : ExcName → Option Value) (mg mb : Str → Option Value) (news : List (Addr × Obj)) (x : Int) (t u v : Tok) :
   FnOk w p loose mean mg mb 2 45 news ((0 ≤ x ∧ x < 262144) ∧ ¬ 0 < shown x) [Value.str (tx (listing x)) t, Value.str (tx ((listing x).drop (1 : Int).toNat ++ [(listing x).getD (0 : Int).toNat 0])) u, Value.int 4 v]
    (fun v => ∃ t, v = Value.int 0 t) := by
  dsimp only [FnOk]; intro dp un gd cn cs a ccd cl outer A₀ base h₀ L m s Q E hB F X N T hk hx h1 h2 hret
  refine lev_t1 w p loose mean mg mb news x t u v dp un gd cn cs a ccd cl outer A₀ base h₀ L m s Q E hB F X N T hk hx.1 h1 h2 ?_
  rintro v' h' tk' ⟨t', ht⟩ F' N'
  exact hret v' h' tk' ⟨t', by rw [ht, if_neg hx.2]⟩ F' N'
theorem lev_p2 (w : World) (p : Program) (loose : List Str) (mean : ExcName → Option Value) (mg mb : Str → Option Value) (news : List (Addr × Obj)) (x : Int) (t u v : Tok) :
   FnOk w p loose mean mg mb 2 45 news ((0 ≤ x ∧ x < 262144) ∧ 0 < shown x) [Value.str (tx ((listing x).drop (1 : Int).toNat ++ [(listing x).getD (0 : Int).toNat 0])) t, Value.str (tx (listing x)) u, Value.int 4 v]
    (fun v => ∃ t, v = Value.int 4 t) := by
  dsimp only [FnOk]; intro dp un gd cn cs a ccd cl outer A₀ base h₀ L m s Q E hB F X N T hk hx h1 h2 hret
  refine lev_t2 w p loose mean mg mb news x t u v dp un gd cn cs a ccd cl outer A₀ base h₀ L m s Q E hB F X N T hk hx.1 h1 h2 ?_
  rintro v' h' tk' ⟨t', ht⟩ F' N'
  exact hret v' h' tk' ⟨t', by rw [ht, if_pos hx.2]⟩ F' N'
theorem lev_n2 (w : World) (p : Program) (loose : List Str) (mean : ExcName → Option Value) (mg mb : Str → Option Value) (news : List (Addr × Obj)) (x : Int) (t u v : Tok) :
   FnOk w p loose mean mg mb 2 45 news ((0 ≤ x ∧ x < 262144) ∧ ¬ 0 < shown x) [Value.str (tx ((listing x).drop (1 : Int).toNat ++ [(listing x).getD (0 : Int).toNat 0])) t, Value.str (tx (listing x)) u, Value.int 4 v]
    (fun v => ∃ t, v = Value.int 0 t) := by
  dsimp only [FnOk]; intro dp un gd cn cs a ccd cl outer A₀ base h₀ L m s Q E hB F X N T hk hx h1 h2 hret
  refine lev_t2 w p loose mean mg mb news x t u v dp un gd cn cs a ccd cl outer A₀ base h₀ L m s Q E hB F X N T hk hx.1 h1 h2 ?_
  rintro v' h' tk' ⟨t', ht⟩ F' N'
  exact hret v' h' tk' ⟨t', by rw [ht, if_neg hx.2]⟩ F' N'
theorem lines_27 : True := by
  k_with "tsz" => ((first | omega | (simp only [List.length_append, List.length_drop, List.length_take, List.length_cons, List.length_nil, listing_len]; omega)))
  k_with "call ref" => ((k_here; (with_reducible show wpAny _ _ (call (Value.ref 45) [_, _, Value.int 4 _]) _ _ _); k_dflt (o_head (lev_p1 _ _ _ _ _ _ _ _ _ _ _)); (intro v9 h9 tk9 hp9 F9 N9); (obtain ⟨t9, e9⟩ := hp9); (subst e9); (try dsimp only); (try k_fold)))
  k_with "call ref" => ((k_here; (with_reducible show wpAny _ _ (call (Value.ref 45) [_, _, Value.int 4 _]) _ _ _); k_dflt (o_head (lev_n1 _ _ _ _ _ _ _ _ _ _ _)); (intro v9 h9 tk9 hp9 F9 N9); (obtain ⟨t9, e9⟩ := hp9); (subst e9); (try dsimp only); (try k_fold)))
  k_with "call ref" => ((k_here; (with_reducible show wpAny _ _ (call (Value.ref 45) [_, _, Value.int 4 _]) _ _ _); k_dflt (o_head (lev_p2 _ _ _ _ _ _ _ _ _ _ _)); (intro v9 h9 tk9 hp9 F9 N9); (obtain ⟨t9, e9⟩ := hp9); (subst e9); (try dsimp only); (try k_fold)))
  k_with "call ref" => ((k_here; (with_reducible show wpAny _ _ (call (Value.ref 45) [_, _, Value.int 4 _]) _ _ _); k_dflt (o_head (lev_n2 _ _ _ _ _ _ _ _ _ _ _)); (intro v9 h9 tk9 hp9 F9 N9); (obtain ⟨t9, e9⟩ := hp9); (subst e9); (try dsimp only); (try k_fold)))
  k_with "to 144" => (repeat' (((fail_if_success (with_reducible show wpAny _ _ (call (Value.ref 144) _) _ _ _))); walk1))
  k_with "to 163" => (repeat' (((fail_if_success (with_reducible show wpAny _ _ (call (Value.ref 163) _) _ _ _))); walk1; (try dsimp only)))
  k_with "to 45" => (repeat' (((fail_if_success (with_reducible show wpAny _ _ (call (Value.ref 45) _) _ _ _))); walk1; (try dsimp only)))
  exact trivial
local macro_rules | `(tactic| k_qdec) => `(tactic| decide +kernel)
theorem law_holds : PySem.Challenge.rw_rt0042_01.Holds := by
  refine hd ⟨left_all, ?_⟩
  w_strict (k_go0; (all_goals try k_fold))
  walk_at "stepsC"
  k_dflt (walk_at "mine turn0")
  dsimp only
  walk_at "stepsD"
  walk_at "mine cend"
  k_dflt (walk_at "mine turn1")
  dsimp only
  walk_at "stepsD"
  walk_at "mine cend"
  k_dflt (walk_at "mine turn2")
  dsimp only
  walk_at "stepsD"
  walk_at "mine cend"
  walk_at "stepsX"
  refine' wpAny_For ?_ ?hsA
  case hsA => intro _; rfl
  walk_at "stepsP"
  (rename Fr _ _ _ _ => kF)
  (rename News _ _ _ _ => kN)
  refine' loop_law (s := ⟨_, _, _, _, _⟩) ?uA (.inl rfl) ?mA ?nA ?cA ?dA ?hhA kF kN ?itA ?stepA ?doneA ?hEA
  case uA => k_updF
  case mA => k_mem
  case nA => k_ne
  case cA => exact rfl
  case dA => exact rfl
  case hhA => rfl
  case hEA => passes_own
  case itA =>
    intro v hv
    simp only [List.mem_cons, List.not_mem_nil, or_false] at hv
    rcases hv with rfl | rfl | rfl | rfl
    · exact ⟨_, _, _, _, _, rfl, by k_mem, by k_ne, mod_b _, mod_b _⟩
    · exact ⟨_, _, _, _, _, rfl, by k_mem, by k_ne, mod_b _, mod_b _⟩
    · exact ⟨_, _, _, _, _, rfl, by k_mem, by k_ne, mod_b _, or_b (mod_b _) (and_b (mod_b _) (mod_b _))⟩
    · exact ⟨_, _, _, _, _, rfl, by k_mem, by k_ne, and_b (mod_b _) (mod_b _), mod_b _⟩
  case stepA =>
    intro mO gO hUO a x y t u v0 v1 v2 v3 v4 v5 v6 v7 v8 ps I o h1 tk1 hT hx hy hps hlt h71 hc F1 N1
    have hU1 := hUO ps
    have h72 : (71 : Nat) < I := h71
    clear hUO
    (try clear kF); (try clear kN)
    unfold ML at F1
    dsimp only
    walk_at "stepsX"
    refine' wpAny_For ?_ ?hsB
    case hsB => intro _; rfl
    walk_at "stepsP"
    (rename Fr _ _ _ _ => kF)
    (rename News _ _ _ _ => kN)
    refine' loop_pat (s := ⟨_, _, _, _, _⟩) (list_lt hx.1) ?hhB kF kN ?pB ?stepB ?doneB ?hEB
    case hhB => rfl
    case pB => exact rfl
    case hEB => passes_own
    case stepB =>
      intro i c t tq vs I2 o2 h2 tk2 hi hcc hlt2 hc2 F2 N2
      (try clear kF); (try clear kN)
      unfold MP at F2
      (try dsimp only at hlt2)
      (try dsimp only at N2)
      (try k_lt hlt2)
      (try dsimp only)
      have hpt : (catOf pat ((listing x).take i)).length ≤ 200 := by
        have := cat_len pat (fun c => (pat_len c).2) ((listing x).take i)
        rw [List.length_take, listing_len] at this
        omega
      walk_at "stepsP"
      all_goals (rename Fr _ _ _ _ => kF; rename News _ _ _ _ => kN)
      all_goals (try dsimp only)
      all_goals first
        | exact pat_end (s := ⟨_, _, _, _, _⟩) kF kN (by intro y e1 e2; simp only [if_neg e1, if_neg e2]) hi hcc rfl (pat_q (by assumption))
        | exact pat_end (s := ⟨_, _, _, _, _⟩) kF kN (by intro y e1 e2; simp only [if_neg e1, if_neg e2]) hi hcc rfl (pat_s (by assumption))
        | exact pat_end (s := ⟨_, _, _, _, _⟩) kF kN (by intro y e1 e2; simp only [if_neg e1, if_neg e2]) hi hcc rfl (pat_l (by assumption) (by assumption))
    case doneB =>
      intro tq vs h2 tk2 F2 N2
      (try clear kF); (try clear kN)
      unfold MP at F2
      (try dsimp only at N2)
      have sx := shown_b hx.1
      have sy := shown_b hy.1
      walk_at "stepsK"
      walk_at "call ref"
      (try dsimp only)
      iterate 19 walk1
      walk_at "call ref"
      (try dsimp only)
      iterate 2 walk1
      walk_at "call ref"
      (try dsimp only)
      iterate 4 walk1
      walk_at "call ref"
      (try dsimp only)
      iterate 4 walk1
      · refine' (bool_neF ?ha ?hb ?hc).elim
        case ha => with_reducible assumption
        case hb => with_reducible assumption
        case hc => with_reducible assumption
      walk1
      (try dsimp only)
      walk_at "to 163"
      walk_at "call ref"
      (try dsimp only)
      walk_at "to 163"
      walk_at "call ref"
      (try dsimp only)
      walk_at "to 45"
      walk_at "call ref"
      (try dsimp only)
      iterate 20 walk1
      · refine' (told_ne ?ha ?hb ?hc).elim
        case ha => with_reducible assumption
        case hb => with_reducible assumption
        case hc => with_reducible assumption
      repeat' (((fail_if_success (with_reducible show TurnEnd _ _ _ _ _ _ _ _))); walk1)
      (rename Fr _ _ _ _ => kF; rename News _ _ _ _ => kN)
      exact turn_end (s := ⟨_, _, _, _, _⟩) kF kN (by intro y e1 e2 e3 e4 e5 e6 e7 e8 e9; simp only [if_neg e1, if_neg e2, if_neg e3, if_neg e4, if_neg e5, if_neg e6, if_neg e7, if_neg e8, if_neg e9]) (by with_reducible assumption)
  case doneA =>
    intro v0 v1 v2 v3 v4 v5 v6 v7 v8 ps h1 tk1 hps F1 N1
    (try clear kF); (try clear kN)
    unfold ML at F1
    (try dsimp only at N1)
    walk_at "to 144"
    walk_at "call ref"
    (try dsimp only)
    walk_at "to 163"
    walk_at "call ref"
    (try dsimp only)
    walk_at "to 45"
    all_goals (first | walk_at "call ref" | fail "lev")
    all_goals (try dsimp only)
    all_goals (walk_at "to 45")
    all_goals (first | walk_at "call ref" | fail "lev")
    all_goals (try dsimp only)
    all_goals (repeat' (walk1; (try dsimp only)))
    all_goals first | wrow_close | (k_end; wrow_close)
end
end

end
end Mine
end
theorem PySem.Challenge.cw_rt0042_01_holds : PySem.Challenge.rw_rt0042_01.Holds := by
  exact Mine.law_holds
