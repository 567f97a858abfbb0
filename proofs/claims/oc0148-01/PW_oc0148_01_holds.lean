import PyProof.Rows.All
import Wide.All
import OpenK.AllK
import Wide.FinOn
import PyProof.FactsAll.list
import PyProof.FactsAll.range
import KE.KRevIter
import KE.KPop
import KE.KFind
import PyProof.FactsAll.tuple
import KE.KSortKey
import PyProof.FactsAll.object
import PyProof.InstLoad
import KE.KSortTup
import PySem.Challenge.RW_oc0148_01
open PySem PySem.W PySem.Calls PyProof.Rows
set_option linter.unusedVariables false
set_option linter.unusedSimpArgs false
set_option Elab.async false
set_option compiler.extract_closed false
set_option maxRecDepth 100000
set_option maxHeartbeats 4000000
namespace Mine
/-! the head by hand, as one look. The objects that the top leaves, as far as the walk wants them: the rows of KK were written by a program of mine from the print of the library's own written heap -/
abbrev prg : Program := PySem.Challenge.pw_oc0148_01
def nthS : Nat → List Stmt → Stmt
  | _, [] => .Pass ⟨0, 0, 0, 0⟩
  | 0, x :: _ => x
  | n + 1, _ :: r => nthS n r
noncomputable def fnO (i : Nat) (pm cd dv : Value) : Obj := match nthS i prg.main.body with
  | .FunctionDef n a b _ _ _ sc _ _ _ => { cls := .type "function", dict := none, data := .func { docDef n a b sc pm cd .none with defaults := dv }, slots := #[] }
  | _ => default
noncomputable def ent (P : Params) (k : Str) (t : Tok) (v : Value) : DictEntry := { hash := PyData.keyHash P k, key := .str k t, val := v }
noncomputable def cdO (n : Str) (t : Tok) (ln ac : Int) (a : Addr) (vn fv : Value) (z : Addr) (y : Int) (t' : Tok) : Obj := { cls := .type "code", dict := none, slots := #[], data := .fields #[.str n t, .str n (t + 1), .str "/claim/cut.py" (t + 2), .int ln 0, .int ac 0, .int 0 0, .int 0 0, .int 3 0, .ref a, .bool true, .int 181 0, .ref (a + 1), .none, vn, fv, .ref z, .int y 0, .int ln 0, .str "/claim/cut.py" t'] }
noncomputable def gEs (P : Params) : List DictEntry := [
ent P "__name__" 165 (.str "law_oc0148_01" 337),
    ent P "__doc__" 166 (.none),
    ent P "__package__" 167 (.none),
    ent P "__loader__" 168 (.builtin (String.ofList ['_', '_', 'm', 'a', 'i', 'n', '_', '_', '.', '_', '_', 'l', 'o', 'a', 'd', 'e', 'r', '_', '_', '#', 'o', 'p', 'a', 'q', 'u', 'e'])),
    ent P "__spec__" 169 (.none),
    ent P "__annotations__" 170 (.ref 6),
    ent P "__builtins__" 171 (.ref 4),
    ent P "__file__" 173 (.str "/claim/cut.py" 172),
    ent P "__cached__" 174 (.none),
    ent P "unorderable_list_difference" 198 (.ref 21),
    ent P "three_way_cmp" 206 (.ref 28),
    ent P "heappop" 217 (.ref 35),
    ent P "heapify" 226 (.ref 42),
    ent P "_heapreplace_max" 235 (.ref 49),
    ent P "_heapify_max" 244 (.ref 56),
    ent P "_siftdown" 256 (.ref 63),
    ent P "_siftup" 269 (.ref 70),
    ent P "_siftdown_max" 281 (.ref 77),
    ent P "_siftup_max" 294 (.ref 84),
    ent P "nsmallest" 300 (.ref 90),
    ent P "StatisticsError" 320 (.ref 100),
    ent P "median_low" 328 (.ref 110),
    ent P "median_high" 336 (.ref 117),
    ent P "_law_pairings" 348 (.ref 124),
    ent P "_law_off_a_heap" 354 (.ref 129),
    ent P "_law_ways" 360 (.ref 134),
    ent P "_law_shared" 370 (.ref 141),
    ent P "law" 376 (.ref 146)]
noncomputable def gOb (P : Params) : Obj := { cls := .type "dict", dict := none, data := .dict (gEs P).toArray 28, slots := #[] }
noncomputable def KK (P : Params) : Frag := [
  (3, gOb P),
  (20, cdO "unorderable_list_difference" 189 2 2 15 (.ref 17) (.ref 18) 19 196 197),
  (21, fnO 1 (.str "cpy313.unittest.util" 187) (.ref 20) .none),
  (27, cdO "three_way_cmp" 199 11 2 22 (.ref 24) (.ref 25) 26 204 205),
  (28, fnO 2 (.str "cpy313.unittest.util" 187) (.ref 27) .none),
  (34, cdO "heappop" 209 14 1 29 (.ref 31) (.ref 32) 33 215 216),
  (35, fnO 4 (.str "cpy313.heapq" 207) (.ref 34) .none),
  (41, cdO "heapify" 218 22 1 36 (.ref 38) (.ref 39) 40 224 225),
  (42, fnO 5 (.str "cpy313.heapq" 207) (.ref 41) .none),
  (48, cdO "_heapreplace_max" 227 26 2 43 (.ref 45) (.ref 46) 47 233 234),
  (49, fnO 6 (.str "cpy313.heapq" 207) (.ref 48) .none),
  (55, cdO "_heapify_max" 236 31 1 50 (.ref 52) (.ref 53) 54 242 243),
  (56, fnO 7 (.str "cpy313.heapq" 207) (.ref 55) .none),
  (62, cdO "_siftdown" 245 35 3 57 (.ref 59) (.ref 60) 61 254 255),
  (63, fnO 8 (.str "cpy313.heapq" 207) (.ref 62) .none),
  (69, cdO "_siftup" 257 46 2 64 (.ref 66) (.ref 67) 68 267 268),
  (70, fnO 9 (.str "cpy313.heapq" 207) (.ref 69) .none),
  (76, cdO "_siftdown_max" 270 60 3 71 (.ref 73) (.ref 74) 75 279 280),
  (77, fnO 10 (.str "cpy313.heapq" 207) (.ref 76) .none),
  (83, cdO "_siftup_max" 282 71 2 78 (.ref 80) (.ref 81) 82 292 293),
  (84, fnO 11 (.str "cpy313.heapq" 207) (.ref 83) .none),
  (85, { cls := .type "tuple", dict := none, data := .seq #[.none] 0, slots := #[] }),
  (89, cdO "nsmallest" 295 85 3 86 .none .none 88 298 299),
  (90, fnO 12 (.str "cpy313.heapq" 207) (.ref 89) (.ref 85)),
  (109, cdO "median_low" 321 133 1 104 (.ref 106) (.ref 107) 108 326 327),
  (110, fnO 15 (.str "cpy313.statistics" 301) (.ref 109) .none),
  (116, cdO "median_high" 329 142 1 111 (.ref 113) (.ref 114) 115 334 335),
  (117, fnO 16 (.str "cpy313.statistics" 301) (.ref 116) .none),
  (123, cdO "_law_pairings" 339 149 1 118 (.ref 120) (.ref 121) 122 346 347),
  (124, fnO 18 (.str "law_oc0148_01" 337) (.ref 123) .none),
  (128, cdO "_law_off_a_heap" 349 157 1 125 .none .none 127 352 353),
  (129, fnO 19 (.str "law_oc0148_01" 337) (.ref 128) .none),
  (133, cdO "_law_ways" 355 161 2 130 .none .none 132 358 359),
  (134, fnO 20 (.str "law_oc0148_01" 337) (.ref 133) .none),
  (140, cdO "_law_shared" 361 163 1 135 (.ref 137) (.ref 138) 139 368 369),
  (141, fnO 21 (.str "law_oc0148_01" 337) (.ref 140) .none),
  (145, cdO "law" 371 169 1 142 .none .none 144 374 375),
  (146, fnO 22 (.str "law_oc0148_01" 337) (.ref 145) .none)]

theorem top_of {p q : Program} {loose : List Str} {Xt : Shared → Bool} {α : Type} {Yf : Shared → α} {Ya : World → α} {N : Nat}
    (e : opening p = plainProg p.main.scope.names) (hN : Nat.ble 600 N = true) (f : ∀ s, fenceModules? p s = some s)
    (h : ∀ (w : World) (os : OsState), (topFrom treeTable p w N ⟨boot_heap w.params, Array.mk [], boot_drawn, boot_toks, os⟩).map (fun s => (openSeen q loose (importedModules p.main.body) Xt true s, Yf s)) = some (openGood q loose, Ya w)) :
    LeftO p q loose Xt Yf Ya N := fun w => by
  obtain ⟨s₀, h1, h2⟩ := Option.map_eq_some_iff.mp (boot_open e hN f w)
  unfold openEnds
  rw [h1]
  obtain ⟨hp, g, d, t, os⟩ := s₀
  cases h2
  exact h w os
noncomputable def qv : Program := view prg [1, 2, 4, 5, 6, 7, 8, 9, 10, 11, 14, 15, 16, 18, 19, 20, 21, 22]
noncomputable def hk : Hook := kHook KK [3, 20, 21, 27, 28, 34, 35, 41, 42, 48, 49, 55, 56, 62, 63, 69, 70, 76, 77, 83, 84, 85, 89, 90, 109, 110, 116, 117, 123, 124, 128, 129, 133, 134, 140, 141, 145, 146] (fun _ => rfl)
theorem left : LeftO prg qv [Str.ofString "nsmallest"] (fun s => xlAt qv [] s && recOk (RowW.records PySem.Challenge.rw_oc0148_01.row.toRowW) s) hk.obs hk.val 1676 := by
  refine top_of rfl rfl (fun _ => rfl) fun w os => ?_
  unfold topFrom
  try rw [PySem.W.Fast.te14082659384304107361, PySem.W.Fast.te14364793385576792824, PySem.W.Fast.te4187177175401517315]
  kernel_rfl

abbrev ro : OpenRow := PySem.Challenge.rw_oc0148_01.row
theorem said : PySem.Challenge.rw_oc0148_01.wellSaid = true := by
  try rw [PySem.W.Fast.te9446332074065402090]
  kernel_rfl
theorem dIs : (defOf qv ro.name).isSome = true := by kernel_rfl
noncomputable def dL : DefRec × List (Str × Expr) := (defOf qv ro.name).get dIs
theorem dL_eq : defOf qv ro.name = some (dL.1, dL.2) := (Option.some_get dIs).symm
theorem hd (call : WalkO qv [Str.ofString "nsmallest"] (XL qv []) hk.says ro.toRowW dL.1 dL.2 fun f vs => PySem.call f vs) : PySem.Challenge.rw_oc0148_01.Holds := by
  refine holds_law said fun sd => ?_
  refine holds_open (q := qv) (loose := [Str.ofString "nsmallest"]) (Xt := fun s => xlAt qv [] s && recOk (RowW.records PySem.Challenge.rw_oc0148_01.row.toRowW) s) (XP := XL qv []) (Yf := hk.obs) (Ya := hk.val) (YP := hk.says) (N := 1676)
    left hk.of hk.keeps (fun s e => xl_of s (Bool.and_eq_true_iff.mp e).1) XL.keeps dL_eq (by kernel_rfl) (by kernel_rfl) (fun s e => recFacts_of (Bool.and_eq_true_iff.mp e).2) (by rfl) sd (by kernel_rfl) ⟨rfl, rfl, rfl, rfl, rfl, by decide +kernel⟩ ?hw call
  w_witness2
/-! ## the ledger: what is known of the objects that the call has made -/
abbrev Res := Obj → Prop
abbrev Led := List (Addr × Res)
def lst (vs : List Value) : Res := fun o => ∃ n, o = { cls := .type "list", dict := none, data := .seq vs.toArray n, slots := #[] }
def tup (vs : List Value) : Res := fun o => ∃ n, o = { cls := .type "tuple", dict := none, data := .seq vs.toArray n, slots := #[] }
def cel (v : Option Value) : Res := fun o => o.data = .cell v
def nsr (m : Str → Option Value) : Res := fun o => ∃ es ep, o.data = .dict es ep ∧ StrKeys es ∧ ∀ name, nsFind es name = m name
def lit (l : Addr) (i : Nat) : Res := fun o => o.cls = .type "list_iterator" ∧ o.data = .fields #[.ref l, .int i 0]

structure At (b : Shared) (S : Led) (s : Shared) : Prop where
  keep : ∀ a o, b.heap.get? a = some o → s.heap.get? a = some o
  own : ∀ p ∈ S, ∃ o, s.heap.get? p.1 = some o ∧ p.2 o
  fresh : ∀ p ∈ S, b.heap.get? p.1 = none
  nodup : (S.map (·.1)).Nodup
  gens : s.gens = #[]
  os : s.os = b.os

/-- S holds r at a; C r' is S with r' there -/
inductive Has (a : Addr) (r : Res) : Led → (Res → Led) → Prop
  | here {R : Led} : Has a r ((a, r) :: R) (fun r' => (a, r') :: R)
  | there {p : Addr × Res} {R : Led} {C : Res → Led} : Has a r R C → Has a r (p :: R) (fun r' => p :: C r')

theorem Has.split {a : Addr} {r : Res} {S : Led} {C : Res → Led} (x : Has a r S C) : ∃ p q, S = p ++ (a, r) :: q ∧ ∀ r', C r' = p ++ (a, r') :: q := by
  induction x with
  | here => exact ⟨[], _, rfl, fun _ => rfl⟩
  | @there p R C _ ih =>
    obtain ⟨p', q, e1, e2⟩ := ih
    exact ⟨p :: p', q, by rw [e1]; rfl, fun r' => by show p :: C r' = _; rw [e2]; rfl⟩
theorem Has.self {a : Addr} {r : Res} {S : Led} {C : Res → Led} (x : Has a r S C) : C r = S := by
  obtain ⟨p, q, e, f⟩ := x.split
  rw [e, f]
theorem Has.again {a : Addr} {r r' : Res} {S : Led} {C : Res → Led} (x : Has a r S C) : Has a r' (C r') C := by
  induction x with
  | here => exact .here
  | there _ ih => exact .there ih
theorem Has.mem {a : Addr} {r : Res} {S : Led} {C : Res → Led} (x : Has a r S C) : (a, r) ∈ S := by
  obtain ⟨p, q, e, _⟩ := x.split
  rw [e]; simp

namespace At
variable {b s : Shared} {S : Led} {a : Addr} {r : Res}
theorem list {vs : List Value} (h : At b S s) (m : (a, lst vs) ∈ S) : s.heap.IsList a vs.toArray := by
  obtain ⟨o, ho, n, rfl⟩ := h.own _ m
  exact ⟨_, ho, rfl, n, rfl⟩
theorem plain {vs : List Value} (h : At b S s) (m : (a, lst vs) ∈ S) : ∃ n, s.heap.get? a = some { cls := .type "list", dict := none, data := .seq vs.toArray n, slots := #[] } := by
  obtain ⟨o, ho, n, rfl⟩ := h.own _ m
  exact ⟨n, ho⟩
theorem plainT {vs : List Value} (h : At b S s) (m : (a, tup vs) ∈ S) : ∃ n, s.heap.get? a = some { cls := .type "tuple", dict := none, data := .seq vs.toArray n, slots := #[] } := by
  obtain ⟨o, ho, n, rfl⟩ := h.own _ m
  exact ⟨n, ho⟩
theorem tuple {vs : List Value} (h : At b S s) (m : (a, tup vs) ∈ S) : s.heap.IsTuple a vs.toArray := by
  obtain ⟨o, ho, n, rfl⟩ := h.own _ m
  exact ⟨_, ho, rfl, n, rfl⟩
theorem cell {v : Option Value} (h : At b S s) (m : (a, cel v) ∈ S) : s.heap.IsCell a v := by
  obtain ⟨o, ho, hr⟩ := h.own _ m
  exact ⟨o, ho, hr⟩
theorem ns {m : Str → Option Value} (h : At b S s) (hm : (a, nsr m) ∈ S) : s.heap.Ns a m := by
  obtain ⟨o, ho, es, ep, hr⟩ := h.own _ hm
  exact ⟨o, es, ep, ho, hr⟩
theorem lt (h : At b S s) (m : (a, r) ∈ S) : a < s.heap.objs.size := by
  obtain ⟨o, ho, _⟩ := h.own _ m
  exact Heap.lt_size ho

theorem updE {C : Res → Led} {r' : Res} {h' : Heap} {tk : Nat} (h : At b S s) (x : Has a r S C) (hs : Heap.ExtBut a s.heap h') (hr : ∃ o, h'.get? a = some o ∧ r' o) : At b (C r') { s with heap := h', toks := tk } := by
  obtain ⟨p, q, e1, e2⟩ := x.split
  subst e1
  rw [e2]
  have hn := h.nodup
  simp only [List.map_append, List.map_cons] at hn
  have hfr := h.fresh (a, r) (by simp)
  have hnd := List.nodup_append.mp hn
  refine ⟨fun c o e => hs c o (fun z => ?_) (h.keep c o e), fun z hz => ?_, fun z hz => ?_, by simpa using hn, h.gens, h.os⟩
  · rw [z, hfr] at e; cases e
  · rcases List.mem_append.mp hz with hz | hz
    · obtain ⟨o, ho, hr2⟩ := h.own z (List.mem_append_left _ hz)
      refine ⟨o, hs z.1 o (fun y => ?_) ho, hr2⟩
      exact hnd.2.2 z.1 (List.mem_map_of_mem hz) a (by simp) y
    · rcases List.mem_cons.mp hz with rfl | hz
      · exact hr
      · obtain ⟨o, ho, hr2⟩ := h.own z (List.mem_append_right _ (.tail _ hz))
        refine ⟨o, hs z.1 o (fun y => ?_) ho, hr2⟩
        have := (List.nodup_cons.mp hnd.2.1).1
        exact this (y ▸ List.mem_map_of_mem hz)
  · rcases List.mem_append.mp hz with hz | hz
    · exact h.fresh z (List.mem_append_left _ hz)
    · rcases List.mem_cons.mp hz with rfl | hz
      · exact hfr
      · exact h.fresh z (List.mem_append_right _ (.tail _ hz))

theorem upd {C : Res → Led} {r' : Res} {h' : Heap} {tk : Nat} (h : At b S s) (x : Has a r S C) (hs : Heap.SameBut a s.heap h') (hr : ∃ o, h'.get? a = some o ∧ r' o) : At b (C r') { s with heap := h', toks := tk } := h.updE x hs.extBut hr
theorem keeps {h' : Heap} {tk : Nat} (h : At b S s) (hk : ∀ c o, s.heap.get? c = some o → h'.get? c = some o) : At b S { s with heap := h', toks := tk } :=
  ⟨fun c o e => hk c o (h.keep c o e), fun p hp => let ⟨o, ho, hr⟩ := h.own p hp; ⟨o, hk _ _ ho, hr⟩, h.fresh, h.nodup, h.gens, h.os⟩
theorem tk {t : Nat} (h : At b S s) : At b S { s with toks := t } := h.keeps fun _ _ e => e

theorem none_of_size (h : At b S s) {c : Addr} (hc : s.heap.objs.size ≤ c) : b.heap.get? c = none := by
  cases e : b.heap.get? c with
  | none => rfl
  | some o => exact absurd (Heap.lt_size (h.keep c o e)) (Nat.not_lt.mpr hc)
theorem notin (h : At b S s) {c : Addr} (hc : s.heap.objs.size ≤ c) : c ∉ S.map (·.1) := fun hm => by
  obtain ⟨p, hp, rfl⟩ := List.mem_map.mp hm
  exact absurd (h.lt (r := p.2) hp) (Nat.not_lt.mpr hc)

/-- a new object -/
theorem more {h' : Heap} {tk : Nat} (h : At b S s) (hk : ∀ c o, s.heap.get? c = some o → h'.get? c = some o) (ha : s.heap.objs.size ≤ a) (ho : ∃ o, h'.get? a = some o ∧ r o) : At b ((a, r) :: S) { s with heap := h', toks := tk } := by
  have h2 := h.keeps (tk := tk) hk
  refine ⟨h2.keep, fun p hp => ?_, fun p hp => ?_, ?_, h.gens, h.os⟩
  · rcases List.mem_cons.mp hp with rfl | hp
    · exact ho
    · exact h2.own p hp
  · rcases List.mem_cons.mp hp with rfl | hp
    · exact h.none_of_size ha
    · exact h.fresh p hp
  · rw [List.map_cons, List.nodup_cons]
    exact ⟨h.notin ha, h.nodup⟩
theorem alloc {o : Obj} {tk : Nat} (h : At b S s) (hr : r o) (hf : o.isFreed = false := by rfl) : At b ((s.heap.objs.size, r) :: S) { s with heap := s.heap.push o, toks := tk } :=
  h.more (fun _ _ e => Heap.get?_push_of_some o e) (Nat.le_refl _) ⟨o, Heap.get?_push_size _ hf, hr⟩

theorem sub {S' : Led} (h : At b S s) (hs : S'.Sublist S) : At b S' s :=
  ⟨h.keep, fun p hp => h.own p (hs.subset hp), fun p hp => h.fresh p (hs.subset hp), h.nodup.sublist (hs.map _), h.gens, h.os⟩
theorem perm {S' : Led} (h : At b S s) (hs : S'.Perm S) : At b S' s :=
  ⟨h.keep, fun p hp => h.own p (hs.subset hp), fun p hp => h.fresh p (hs.subset hp), (hs.map _).nodup_iff.mpr h.nodup, h.gens, h.os⟩
theorem lose {h' : Heap} {tk : Nat} (h : At b ((a, r) :: S) s) (hs : Heap.ExtBut a s.heap h') : At b S { s with heap := h', toks := tk } := by
  have hn := h.nodup
  rw [List.map_cons, List.nodup_cons] at hn
  refine ⟨fun c o e => hs c o (fun z => ?_) (h.keep c o e), fun p hp => ?_, fun p hp => h.fresh p (.tail _ hp), hn.2, h.gens, h.os⟩
  · have := h.fresh (a, r) (.head _)
    rw [z, this] at e; cases e
  · obtain ⟨o, ho, hr⟩ := h.own p (.tail _ hp)
    exact ⟨o, hs p.1 o (fun z => hn.1 (List.mem_map.mpr ⟨p, hp, z⟩)) ho, hr⟩
theorem tail {p : Addr × Res} (h : At b (p :: S) s) : At b S s := h.sub (List.sublist_cons_self _ _)
theorem swap {p q : Addr × Res} (h : At b (p :: q :: S) s) : At b (q :: p :: S) s := h.perm (List.Perm.swap _ _ _)
theorem weaken {C : Res → Led} {r' : Res} (h : At b S s) (x : Has a r S C) (w : ∀ o, r o → r' o) : At b (C r') s := by
  obtain ⟨o, ho, hr⟩ := h.own _ x.mem
  have := h.upd (tk := s.toks) x (Heap.SameBut.refl _ _) ⟨o, ho, w o hr⟩
  exact this
end At
structure Ok (w : World) (mg mb : Str → Option Value) (b : Shared) : Prop where
  K : (KK w.params).In b.heap
  g : b.heap.Ns mainGlobals mg
  bi : b.heap.Ns builtinsNs mb
  lim : b.heap.NoLimit
  builtins : ∀ x : Str, x ≠ "__name__" → mb x = bootBuiltins x

structure Room (A : Around) (n : Nat) : Prop where
  depth : A.depth + n < recursionLimit
  units : A.units + 8 * n + 80 < cLine
  hand : A.handled = none

theorem Room.deeper {A : Around} {n : Nat} {env : Env} (r : Room A (n + 1)) : Room (A.deeper env) n :=
  ⟨by have := r.depth; simp only [Around.deeper]; omega, by have := r.units; simp only [Around.deeper]; omega, r.hand⟩
theorem Room.le {A : Around} {n m : Nat} (r : Room A n) (h : m ≤ n) : Room A m :=
  ⟨by have := r.depth; omega, by have := r.units; omega, r.hand⟩

theorem gl_unorderable_list_difference (P : Params) : nsIn (KK P) mainGlobals "unorderable_list_difference" = some (some (.ref 21)) := rfl
theorem gl_three_way_cmp (P : Params) : nsIn (KK P) mainGlobals "three_way_cmp" = some (some (.ref 28)) := rfl
theorem gl_heappop (P : Params) : nsIn (KK P) mainGlobals "heappop" = some (some (.ref 35)) := rfl
theorem gl_heapify (P : Params) : nsIn (KK P) mainGlobals "heapify" = some (some (.ref 42)) := rfl
theorem gl_heapreplace_max (P : Params) : nsIn (KK P) mainGlobals "_heapreplace_max" = some (some (.ref 49)) := rfl
theorem gl_heapify_max (P : Params) : nsIn (KK P) mainGlobals "_heapify_max" = some (some (.ref 56)) := rfl
theorem gl_siftdown (P : Params) : nsIn (KK P) mainGlobals "_siftdown" = some (some (.ref 63)) := rfl
theorem gl_siftup (P : Params) : nsIn (KK P) mainGlobals "_siftup" = some (some (.ref 70)) := rfl
theorem gl_siftdown_max (P : Params) : nsIn (KK P) mainGlobals "_siftdown_max" = some (some (.ref 77)) := rfl
theorem gl_siftup_max (P : Params) : nsIn (KK P) mainGlobals "_siftup_max" = some (some (.ref 84)) := rfl
theorem gl_nsmallest (P : Params) : nsIn (KK P) mainGlobals "nsmallest" = some (some (.ref 90)) := rfl
theorem gl_median_low (P : Params) : nsIn (KK P) mainGlobals "median_low" = some (some (.ref 110)) := rfl
theorem gl_median_high (P : Params) : nsIn (KK P) mainGlobals "median_high" = some (some (.ref 117)) := rfl
theorem gl_law_pairings (P : Params) : nsIn (KK P) mainGlobals "_law_pairings" = some (some (.ref 124)) := rfl
theorem gl_law_off_a_heap (P : Params) : nsIn (KK P) mainGlobals "_law_off_a_heap" = some (some (.ref 129)) := rfl
theorem gl_law_ways (P : Params) : nsIn (KK P) mainGlobals "_law_ways" = some (some (.ref 134)) := rfl
theorem gl_law_shared (P : Params) : nsIn (KK P) mainGlobals "_law_shared" = some (some (.ref 141)) := rfl
theorem bt_len : bootBuiltins "len" = some (.builtin "len") := by decide +kernel
theorem bt_sum : bootBuiltins "sum" = some (.builtin "sum") := by decide +kernel
theorem bt_abs : bootBuiltins "abs" = some (.builtin "abs") := by decide +kernel
theorem bt_min : bootBuiltins "min" = some (.builtin "min") := by decide +kernel
theorem bt_max : bootBuiltins "max" = some (.builtin "max") := by decide +kernel
theorem bt_sorted : bootBuiltins "sorted" = some (.builtin "sorted") := by decide +kernel
theorem bt_iter : bootBuiltins "iter" = some (.builtin "iter") := by decide +kernel
theorem bt_isinstance : bootBuiltins "isinstance" = some (.builtin "isinstance") := by decide +kernel
theorem bt_list : bootBuiltins "list" = some (.type "list") := by decide +kernel
theorem bt_range : bootBuiltins "range" = some (.type "range") := by decide +kernel
theorem bt_reversed : bootBuiltins "reversed" = some (.type "reversed") := by decide +kernel
theorem bt_zip : bootBuiltins "zip" = some (.type "zip") := by decide +kernel
theorem bt_object : bootBuiltins "object" = some (.type "object") := by decide +kernel
theorem bt_bool : bootBuiltins "bool" = some (.type "bool") := by decide +kernel
theorem bt_ValueError : bootBuiltins "ValueError" = some (.type "ValueError") := by decide +kernel
theorem bt_TypeError : bootBuiltins "TypeError" = some (.type "TypeError") := by decide +kernel
theorem bt_AttributeError : bootBuiltins "AttributeError" = some (.type "AttributeError") := by decide +kernel
noncomputable def fdAt (P : Params) (f : Addr) : FuncData := match (KK P).lookup f with
  | some ⟨_, _, .func fd, _⟩ => fd
  | _ => default
noncomputable def envF (P : Params) (f L : Addr) : Env := callEnv (fdAt P f) L f
theorem envF_loc {P : Params} {f L : Addr} : (envF P f L).locals = L := rfl
section
variable {w : World} {mg mb : Str → Option Value} {b s : Shared} {S : Led} {A : Around} {E : Value → Shared → Prop} {env : Env}

/-! names -/
theorem n_local {L : Addr} {x : Str} {pos : Pos} {m : Str → Option Value} {v : Value} {Q : Value → Shared → Prop} (h : At b S s) (hL : env.locals = L) (hm : (L, nsr m) ∈ S) (hv : m x = some v)
    (hq : Q v s) (hk : env.scope.kind = .function := by rfl) (hl : env.kindOf x = some .local := by rfl) (hd : (x == ("__debug__" : Str)) = false := by decide) :
    wpAny (model prg w) A (eval (.Name x pos) env) Q E s := wpAny_Name (wpAny_loadName_local hk hl (hL ▸ h.ns hm) hv hq) hd
theorem n_cell {x : Str} {pos : Pos} {c : Addr} {v : Value} {Q : Value → Shared → Prop} (h : At b S s) (hc : env.cells.lookup x = some c) (hm : (c, cel (some v)) ∈ S)
    (hq : Q v s) (hk : env.scope.kind = .function := by rfl) (hl : env.kindOf x = some .cell := by rfl) (hd : (x == ("__debug__" : Str)) = false := by decide) :
    wpAny (model prg w) A (eval (.Name x pos) env) Q E s := wpAny_Name (wpAny_loadName_cell hk hl hc (h.cell hm) hq) hd
theorem n_glob {x : Str} {pos : Pos} {v : Value} {Q : Value → Shared → Prop} (O : Ok w mg mb b) (h : At b S s) (e : nsIn (KK w.params) mainGlobals x = some (some v))
    (hq : Q v s) (hg : env.globals = mainGlobals := by rfl) (hk : env.scope.kind = .function := by rfl) (hl : env.kindOf x = some .globalImplicit := by rfl) (hd : (x == ("__debug__" : Str)) = false := by decide) :
    wpAny (model prg w) A (eval (.Name x pos) env) Q E s := Name_function_global hk hl (loadGlobal_global (hg ▸ O.g.keeps h.keep) (mg_of O.K O.g e) hq) hd
theorem n_builtin {x : Str} {pos : Pos} {v : Value} {Q : Value → Shared → Prop} (O : Ok w mg mb b) (h : At b S s) (e : nsIn (KK w.params) mainGlobals x = some none) (hv : bootBuiltins x = some v) (hn : x ≠ "__name__")
    (hq : Q v s) (hg : env.globals = mainGlobals := by rfl) (hb : env.builtins = builtinsNs := by rfl) (hk : env.scope.kind = .function := by rfl) (hl : env.kindOf x = some .globalImplicit := by rfl) (hd : (x == ("__debug__" : Str)) = false := by decide) :
    wpAny (model prg w) A (eval (.Name x pos) env) Q E s :=
  Name_function_global hk hl (loadGlobal_builtin (hg ▸ O.g.keeps h.keep) (mg_none_of O.K O.g e) (hb ▸ O.bi.keeps h.keep) ((O.builtins x hn).trans hv) hq) hd
theorem st_local {L : Addr} {x : Str} {m : Str → Option Value} {v : Value} {C : Res → Led} {Q : Unit → Shared → Prop} (h : At b S s) (hL : env.locals = L) (hm : Has L (nsr m) S C)
    (hq : ∀ s', At b (C (nsr fun y => if y = x then some v else m y)) s' → Q () s') (hl : env.kindOf x = some .local := by rfl)
    (hp : (env.scope.kind == .class || (env.scope.kind == .module && env.locals != env.globals)) = false := by rfl) :
    wpAny (model prg w) A (storeName env x v) Q E s := by
  subst hL
  exact wpAny_storeName_local hl (h.ns hm.mem) (fun h' hn hs => hq _ (h.upd hm hs (let ⟨o, es, ep, e, r⟩ := hn; ⟨o, e, es, ep, r⟩))) hp
theorem st_cell {x : Str} {c : Addr} {v₀ : Option Value} {v : Value} {C : Res → Led} {Q : Unit → Shared → Prop} (h : At b S s) (hc : env.cells.lookup x = some c) (hm : Has c (cel v₀) S C)
    (hq : ∀ s', At b (C (cel (some v))) s' → Q () s') (hk : env.scope.kind = .function := by rfl) (hl : env.kindOf x = some .cell := by rfl) :
    wpAny (model prg w) A (storeName env x v) Q E s :=
  wpAny_storeName_cell hk hl hc (h.cell hm.mem) (fun h' hn hs => hq _ (h.upd (tk := s.toks) hm hs hn))

/-! ints -/
theorem k_int {i : Int} {k pos} {Q : Value → Shared → Prop} (h : At b S s) (hq : ∀ t s', At b S s' → Q (.int i t) s') : wpAny (model prg w) A (eval (.Constant (.int i) k pos) env) Q E s := wpAny_Constant_int (hq _ _ h.tk)
variable {i j : Int} {t u : Tok} {Q : Value → Shared → Prop}
theorem o_add (h : At b S s) (hq : ∀ t s', At b S s' → Q (.int (i + j) t) s') : wpAny (model prg w) A (binaryOp .Add (.int i t) (.int j u)) Q E s := add_int (hq _ _ h.tk)
theorem o_sub (h : At b S s) (hq : ∀ t s', At b S s' → Q (.int (i - j) t) s') : wpAny (model prg w) A (binaryOp .Sub (.int i t) (.int j u)) Q E s := PyProof.Rows.sub_int (hq _ _ h.tk)
theorem o_rsh (h : At b S s) (hj : 0 ≤ j) (hq : ∀ t s', At b S s' → Q (.int (i.fdiv (2 ^ j.toNat)) t) s') : wpAny (model prg w) A (binaryOp .RShift (.int i t) (.int j u)) Q E s := rshift_int hj (hq _ _ h.tk)
theorem o_mul (h : At b S s) (hq : ∀ t s', At b S s' → Q (.int (i * j) t) s') (hm : IntMulOk i j) : wpAny (model prg w) A (binaryOp .Mult (.int i t) (.int j u)) Q E s := PyProof.Rows.mul_int (hq _ _ h.tk) hm
theorem o_mod (h : At b S s) (hj : j ≠ 0) (hq : ∀ t s', At b S s' → Q (.int (i.fmod j) t) s') : wpAny (model prg w) A (binaryOp .Mod (.int i t) (.int j u)) Q E s := PyProof.Rows.mod_int hj (hq _ _ h.tk)
theorem o_fdiv (h : At b S s) (hj : j ≠ 0) (hs : Builtin.divisionGoesByPylong i j = false) (hq : ∀ t s', At b S s' → Q (.int (i.fdiv j) t) s') : wpAny (model prg w) A (binaryOp .FloorDiv (.int i t) (.int j u)) Q E s := PyProof.Rows.floordiv_int hj (hq _ _ h.tk) (.inl hs)
theorem c_lt (hq : Q (.bool (decide (i < j))) s) : wpAny (model prg w) A (compareOp .Lt (.int i t) (.int j u)) Q E s := PyProof.Rows.lt_int hq
theorem c_gt (hq : Q (.bool (decide (j < i))) s) : wpAny (model prg w) A (compareOp .Gt (.int i t) (.int j u)) Q E s := PyProof.Rows.gt_int hq
theorem c_eq (hq : Q (.bool (i == j)) s) : wpAny (model prg w) A (compareOp .Eq (.int i t) (.int j u)) Q E s := PyProof.Rows.eq_int hq
theorem c_ne (hq : Q (.bool (i != j)) s) : wpAny (model prg w) A (compareOp .NotEq (.int i t) (.int j u)) Q E s := PyProof.Rows.ne_int hq
theorem c_le (hq : Q (.bool (decide (i ≤ j))) s) : wpAny (model prg w) A (compareOp .LtE (.int i t) (.int j u)) Q E s := PyProof.Rows.le_int hq

/-! items of lists -/
theorem g_item {a : Addr} {vs : List Value} {v : Value} {k : Nat} (h : At b S s) (hm : (a, lst vs) ∈ S) (hi : i = k) (hx : vs[k]? = some v) (hfit : vs.length < 2 ^ 62) (hq : Q v s) : wpAny (model prg w) A (getItem (.ref a) (.int i t)) Q E s := by
  subst hi
  have hk : k < vs.length := (List.getElem?_eq_some_iff.mp hx).1
  refine wpAny_getItem_list (h.list hm) (by omega) (by omega) ?_ hq
  simpa using hx
theorem g_sub {a : Addr} {vs : List Value} {v : Value} {k : Nat} {value slice : Expr} (h : At b S s) (hm : (a, lst vs) ∈ S) (hi : i = k) (hx : vs[k]? = some v) (hfit : vs.length < 2 ^ 62) (hq : Q v s)
    (hs : subscripted slice false (.ref a) (.int i t) = operate [.ref a, .int i t] (getItem (.ref a) (.int i t)) := by with_unfolding_all rfl) : wpAny (model prg w) A (subscriptTail value slice (.ref a) (.int i t)) Q E s :=
  tail_any (h.list hm).typeIs slot_list_getitem.lookup (g_item h hm hi hx hfit hq) hs
theorem setItem_plain {a : Addr} {items : Array Value} {n : Nat} {k : Int} {t : Tok} {v : Value} {Q : Unit → Shared → Prop} (ho : s.heap.get? a = some { cls := .type "list", dict := none, data := .seq items n, slots := #[] })
    (h0 : 0 ≤ k) (hn : k < items.size) (hfit : k < 2 ^ 63) (hQ : Q () { s with heap := s.heap.update a (Obj.mapSeq (·.setIfInBounds k.toNat v)) }) : wpAny (model prg w) A (setItem (.ref a) (.int k t) v) Q E s := by
  have hl : s.heap.IsList a items := ⟨_, ho, rfl, n, rfl⟩
  unfold setItem
  try with_reducible refine wpAny_holding ?_
  first | refine wpAny_bind (wpAny_pure ?_) | skip
  refine wpAny_bind (wpAny_sequenceKey hl.typeIs (by decide) ?_)
  refine wpAny_bind (wpAny_callSpecial?_slot (name := Str.ofString "__setitem__") hl.typeIs slot_list_setitem
    (wpAny_call_entry slot_list_setitem hl.typeIs entry_list_setitem ?_ (args_list_setitem _ _ _)))
  show wpAny _ _ (Builtin.List.listSubscript? (.int k t) >>= _) _ _ s
  refine wpAny_bind (wpAny_listSubscript_int (fitsIndex_of h0 hfit) ?_)
  clear hfit
  obtain ⟨j, rfl⟩ := Int.eq_ofNat_of_zero_le h0
  have hj : j < items.size := by omega
  have hx' : items[j]? = some items[j] := Array.getElem?_eq_getElem hj
  show wpAny _ _ ((seqItemAt a j >>= fun r => pure (r.map (j, ·))) >>= _) _ _ s
  refine wpAny_bind (wpAny_bind (wpAny_seqItemAt ho rfl (wpAny_pure ?_)))
  rw [hx']
  show wpAny _ _ (setSeqItemAt a j v >>= _) _ _ s
  refine wpAny_bind (wpAny_setSeqItemAt ho rfl ?_)
  first
    | exact wpAny_bind (wpAny_pure (wpAny_pure ⟨.none, rfl, wpAny_pure hQ⟩))
    | exact wpAny_pure ⟨.none, rfl, wpAny_pure hQ⟩
/-- a list's object changed by mapSeq -/
theorem At.seq {a : Addr} {vs ws : List Value} {C : Res → Led} {f : Array Value → Array Value} {tk : Nat} (h : At b S s) (hm : Has a (lst vs) S C) (hf : f vs.toArray = ws.toArray) : At b (C (lst ws)) { s with heap := s.heap.update a (Obj.mapSeq f), toks := tk } := by
  obtain ⟨n, ho⟩ := h.plain hm.mem
  refine h.upd hm (Heap.SameBut.update ..) ⟨_, Heap.get?_update_self _ ho rfl, ?_⟩
  unfold lst
  refine ⟨if (f vs.toArray).size == vs.toArray.size then n else n + 1, ?_⟩
  show Obj.mk _ _ (Data.seq (f vs.toArray) _) _ = _
  rw [hf]
theorem s_item {a : Addr} {vs : List Value} {k : Nat} {v : Value} {C : Res → Led} {Q : Unit → Shared → Prop} (h : At b S s) (hm : Has a (lst vs) S C) (hi : i = k) (hk : k < vs.length) (hfit : vs.length < 2 ^ 62)
    (hq : ∀ s', At b (C (lst (vs.set k v))) s' → Q () s') : wpAny (model prg w) A (setItem (.ref a) (.int i t) v) Q E s := by
  subst hi
  obtain ⟨n, ho⟩ := h.plain hm.mem
  exact setItem_plain ho (by omega) (by simp; omega) (by omega) (hq _ (h.seq (tk := s.toks) hm (by simp)))
end

theorem i_tt {p q : Prop} (h : p) : if true = true then p else q := h
theorem i_ff {p q : Prop} (h : q) : if false = true then p else q := h
theorem i_nt {p q : Prop} (h : q) : if (!true) = true then p else q := h
theorem i_nf {p q : Prop} (h : p) : if (!false) = true then p else q := h
/-! statements -/
section
variable {prog : Program} {w : World} {A : Around} {E : Value → Shared → Prop} {env : Env} {s : Shared} {rest : List Stmt} {Q : Flow → Shared → Prop}
theorem x_assign {M : Model} {x pos' value pos} (h : wpAny M A (eval value env) (fun v s₁ => wpAny M A (storeName env x v) (fun _ s₂ => wpAny M A (execs rest env) Q E s₂) E s₁) E s)
    (hs : swapsWith value (some (.Name x pos')) pos.line env = pure false := by rfl) : wpAny M A (execs (.Assign [.Name x pos'] value pos :: rest) env) Q E s := wpAny_execs_cons (wpAny_Assign_Name h hs)
theorem x_setitem {M : Model} {o i pos' value pos}
    (h : wpAny M A (eval value env) (fun v s₁ => wpAny M A (eval o env) (fun ov s₂ => wpAny M A (eval i env) (fun iv s₃ =>
      wpAny M A (setItem ov iv v) (fun _ s₄ => wpAny M A (execs rest env) Q E s₄) E s₃) E s₂) E s₁) E s)
    (hs : swapsWith value (some (.Subscript o i pos')) pos.line env = pure false := by rfl) :
    wpAny M A (execs (.Assign [.Subscript o i pos'] value pos :: rest) env) Q E s := wpAny_execs_cons (wpAny_Assign_Subscript h hs)
theorem x_expr {e pos} (h : wpAny (model prog w) A (eval e env) (fun _ s₁ => wpAny (model prog w) A (execs rest env) Q E s₁) E s)
    (hi : interactive env = false := by rfl) (hs : swapsWith e none pos.line env = pure false := by rfl) :
    wpAny (model prog w) A (execs (.Expr e pos :: rest) env) Q E s := wpAny_execs_cons (wpAny_Expr_any h hi hs)
theorem x_ret {M : Model} {e pos} (h : wpAny M A (eval e env) (fun v => Q (.ret v)) E s) : wpAny M A (execs (.Return (some e) pos :: rest) env) Q E s := wpAny_execs_cons (wpAny_Return_some h)
theorem x_cont {M : Model} {pos} (h : Q .cont s) : wpAny M A (execs (.Continue pos :: rest) env) Q E s := wpAny_execs_cons (wpAny_Continue h)
theorem x_brk {M : Model} {pos} (h : Q .brk s) : wpAny M A (execs (.Break pos :: rest) env) Q E s := wpAny_execs_cons (wpAny_Break h)
theorem x_if {M : Model} {test body orelse pos}
    (h : wpAny M A (isTrue test env (eval test env)) (fun b s₂ => if b = true then wpAny M A (execs body env) (fun f s' => match f with | .next => wpAny M A (execs rest env) Q E s' | f => Q f s') E s₂
      else wpAny M A (execs orelse env) (fun f s' => match f with | .next => wpAny M A (execs rest env) Q E s' | f => Q f s') E s₂) E s) :
    wpAny M A (execs (.If test body orelse pos :: rest) env) Q E s := wpAny_execs_cons (wpAny_If h)
theorem x_while {test body pos} (I : Nat → Shared → Prop) (n : Nat) (h : I n s)
    (turn : ∀ n s E', I n s → wpAny (model prog w) A (isTrue test env (eval test env)) (fun b s₂ =>
        if b = true then wpAny (model prog w) A (execs body env) (fun f s₃ => match f with
            | .next | .cont => ∃ m, m < n ∧ I m s₃
            | .brk => wpAny (model prog w) A (execs rest env) Q E s₃
            | .ret v => Q (.ret v) s₃) E' s₂
        else wpAny (model prog w) A (execs rest env) Q E s₂) E' s) :
    wpAny (model prog w) A (execs (.While test body [] pos :: rest) env) Q E s := by
  refine wpAny_execs_cons (wpAny_While (codeAny_whileLoop I (fun n s hI => ?_) n h))
  refine wpAny_mono (turn n s _ hI) (fun bb s₂ hb => ?_) fun _ _ e => e
  cases bb with
  | true =>
    simp only [if_true] at hb ⊢
    exact wpAny_mono hb (fun f s₃ hf => by cases f <;> exact hf) fun _ _ e => e
  | false =>
    simp only [Bool.false_eq_true, if_false] at hb ⊢
    exact wpAny_execs_nil hb
end

local macro_rules | `(tactic| kt_at_item) => `(tactic| first | exact List.mem_cons_self | (refine List.mem_cons_of_mem _ ?_; kt_at_item) | assumption | exact Has.mem (by assumption))
local macro_rules | `(tactic| kt_at_method) => `(tactic| first | exact Has.here | (apply Has.there; kt_at_method) | assumption)
local macro_rules | `(tactic| kt_at_notin) => `(tactic| first | exact envF_loc | exact rfl)
local macro_rules | `(tactic| kt_at_in) => `(tactic| first | exact rfl | assumption)
local macro_rules | `(tactic| kbo_bools) => `(tactic| with_reducible first | exact gl_median_low _ | exact gl_median_high _ | exact gl_law_pairings _ | exact gl_law_off_a_heap _ | exact gl_law_ways _ | exact gl_law_shared _ | exact gl_unorderable_list_difference _ | exact gl_three_way_cmp _ | exact gl_heappop _ | exact gl_heapify _ | exact gl_heapreplace_max _ | exact gl_heapify_max _ | exact gl_siftdown _ | exact gl_siftup _ | exact gl_siftdown_max _ | exact gl_siftup_max _ | exact gl_nsmallest _)
local macro_rules | `(tactic| kln_le) => `(tactic| with_reducible first | exact bt_len | exact bt_sum | exact bt_abs | exact bt_min | exact bt_max | exact bt_sorted | exact bt_iter | exact bt_isinstance | exact bt_list | exact bt_range | exact bt_reversed | exact bt_zip | exact bt_object | exact bt_bool | exact bt_ValueError | exact bt_TypeError | exact bt_AttributeError)
local macro_rules | `(tactic| kt_len) => `(tactic| first | refine n_local (by assumption) (by kt_at_notin) (by kt_at_item) (by kt_at_in) ?_ | refine n_glob (by assumption) (by assumption) (by kbo_bools) ?_ | refine n_builtin (by assumption) (by assumption) rfl (by kln_le) (by decide) ?_)
local macro_rules | `(tactic| regstrif_gather) => `(tactic| first
  | ((with_reducible show wpAny _ _ (execs (Stmt.Assign [Expr.Name _ _] _ _ :: _) _) _ _ _); refine x_assign ?_)
  | ((with_reducible show wpAny _ _ (execs (Stmt.Assign [Expr.Subscript _ _ _] _ _ :: _) _) _ _ _); refine x_setitem ?_)
  | ((with_reducible show wpAny _ _ (execs (Stmt.Expr _ _ :: _) _) _ _ _); refine x_expr ?_)
  | with_reducible refine x_ret ?_
  | with_reducible refine x_if ?_
  | with_reducible refine wpAny_execs_nil ?_
  | with_reducible refine x_cont ?_
  | with_reducible refine x_brk ?_)
local macro_rules | `(tactic| tb_start) => `(tactic| first
  | ((with_reducible show wpAny _ _ (eval (Expr.Name _ _) _) _ _ _); kt_len)
  | (with_reducible refine k_int (by assumption) ?_; intro _ _ _)
  | with_reducible refine wpAny_BinOp ?_
  | with_reducible refine Subscript_ ?_
  | ((with_reducible show wpAny _ _ (eval (Expr.Compare _ [_] [_] _) _) _ _ _); refine wpAny_Compare1 ?_))
local macro_rules | `(tactic| regstrif_fact) => `(tactic| first
  | ((with_reducible show wpAny _ _ (isTrue (Expr.Compare _ [_] [_] _) _ _) _ _ _); refine wpAny_isTrue_Compare1 ?_)
  | with_reducible refine wpAny_isTrue_Not ?_
  | with_reducible refine wpAny_isTrue_BoolOp ?_
  | with_reducible refine wpAny_allTrue_And_cons ?_
  | with_reducible refine wpAny_allTrue_Or_cons ?_
  | with_reducible refine wpAny_allTrue_And_nil ?_
  | with_reducible refine wpAny_allTrue_Or_nil ?_
  | with_reducible refine wpAny_truthy_bool ?_
  | ((with_reducible show if true = true then _ else _); with_reducible refine i_tt ?_)
  | ((with_reducible show if false = true then _ else _); with_reducible refine i_ff ?_)
  | ((with_reducible show if (!true) = true then _ else _); with_reducible refine i_nt ?_)
  | ((with_reducible show if (!false) = true then _ else _); with_reducible refine i_nf ?_))
local macro_rules | `(tactic| regstrif_slice) => `(tactic| first
  | (with_reducible refine o_add (by assumption) ?_; intro _ _ _)
  | (with_reducible refine o_sub (by assumption) ?_; intro _ _ _)
  | ((with_reducible show wpAny _ _ (binaryOp Operator.Mult (Value.int _ _) (Value.int _ _)) _ _ _); refine o_mul (by assumption) ?_ (IntMulOk.of_left (by decide)); intro _ _ _)
  | with_reducible refine c_lt ?_
  | with_reducible refine c_gt ?_
  | with_reducible refine c_eq ?_
  | with_reducible refine c_ne ?_
  | with_reducible refine c_le ?_
  | ((with_reducible show wpAny _ _ (storeName _ _ _) _ _ _); refine st_local (by assumption) (by kt_at_notin) (by kt_at_method) ?_; intro _ _))
local macro_rules | `(tactic| tb_rel) => `(tactic| first | tb_start | regstrif_gather | regstrif_fact | regstrif_slice)
section
variable {w : World} {mg mb : Str → Option Value} {b s : Shared} {S : Led} {A : Around} {E : Value → Shared → Prop} {env : Env}
theorem fdAt_of {P : Params} {f : Addr} {o : Obj} {fd : FuncData} (ho : (KK P).lookup f = some o) (hd : o.data = .func fd) : fdAt P f = fd := by
  obtain ⟨c, d, dt, sl⟩ := o
  cases hd
  unfold fdAt
  rw [ho]
theorem call_d {f : Addr} {o : Obj} {fd : FuncData} {body : List Stmt} {args : List Value} {Q : Value → Shared → Prop} {n : Nat} (names : List Str) (O : Ok w mg mb b) (h : At b S s) (room : Room A (n + 1))
    (ho : (KK w.params).lookup f = some o) (hd : o.data = .func fd) (hcode : codeIn (KK w.params) fd.code fd.qualname = true) (hbody : fd.body = .stmts body)
    (hbind : bindArgs fd ⟨args, []⟩ = pure (names.zip args)) (hcell : (fd.scope.names.all fun x => x.2 != .cell) = true) (hloc : (names.all fun x => decide (fd.scope.names.lookup x = some .local)) = true)
    (hq : ∀ L A s', Room A n → At b ((L, nsr (fun x => (names.zip args).reverse.lookup x)) :: S) s' → wpAny (model prg w) A (execs body (envF w.params f L)) (fun fl s'' => Q (match fl with | .ret v => v | _ => .none) s'') (fun _ _ => False) s')
    (hco : fd.scope.isCoroutine = false := by rfl) (hgen : fd.scope.isGenerator = false := by rfl) (hk : fd.scope.kind = .function := by rfl) :
    wpAny (model prg w) A (call (.ref f) args) Q E s := by
  refine wpAny_call (codeAny_call_def (fd := fd) (binds := names.zip args) (body := body) (by have := room.depth; omega) (h.keep _ _ (O.K _ _ ho)) hd (O.lim.keeps h.keep) ((codeRec_of O.K hcode).keeps h.keep) hbody (.of_eq hbind)
    (fun x hx => by simpa using List.all_eq_true.mp hcell x hx) (fun x hx => of_decide_eq_true (List.all_eq_true.mp hloc x.1 (List.of_mem_zip (a := x.1) (b := x.2) hx).1)) (fun h₀ hn hk₀ => ?_) hco hgen hk)
  have e : ∀ L, callEnv fd L f = envF w.params f L := fun L => by unfold envF; rw [fdAt_of ho hd]
  have room' := room.deeper (env := callEnv fd s.heap.objs.size f)
  generalize A.deeper (callEnv fd s.heap.objs.size f) = A' at room' ⊢
  rw [e]
  refine wpAny_mono (hq s.heap.objs.size _ _ room' (h.more (r := nsr fun x => (names.zip args).reverse.lookup x) (tk := s.toks + (names.zip args).length) hk₀ (Nat.le_refl _) ?_)) (fun fl s' hf => hf) fun _ _ x => x.elim
  obtain ⟨o', es, ep, e, r⟩ := hn
  exact ⟨o', e, es, ep, r⟩
end

def iv : Value → Int
  | .int i _ => i
  | _ => 0
def isI (v : Value) : Prop := ∃ i t, v = .int i t
def ltI (a b : Value) : Bool := decide (iv a < iv b)

def sdLoop {α : Type} (lt : α → α → Bool) (it : α) (st : Nat) : Nat → List α → Nat → List α
  | 0, xs, pos => xs.set pos it
  | f + 1, xs, pos => if st < pos then (if lt it (xs.getD ((pos - 1) / 2) it) then sdLoop lt it st f (xs.set pos (xs.getD ((pos - 1) / 2) it)) ((pos - 1) / 2) else xs.set pos it) else xs.set pos it

section
variable {w : World} {mg mb : Str → Option Value} {b s : Shared} {S : Led} {A : Around} {E : Value → Shared → Prop}
theorem c_ltV {v u : Value} {Q : Value → Shared → Prop} (hv : isI v) (hu : isI u) (hq : Q (.bool (ltI v u)) s) : wpAny (model prg w) A (compareOp .Lt v u) Q E s := by
  obtain ⟨i, t, rfl⟩ := hv
  obtain ⟨j, t', rfl⟩ := hu
  exact c_lt hq
theorem sd_stop {α : Type} {lt : α → α → Bool} {it : α} {st f pos : Nat} {xs : List α} (h : ¬ st < pos) : sdLoop lt it st f xs pos = xs.set pos it := by
  cases f with
  | zero => rfl
  | succ f => rw [sdLoop, if_neg h]
theorem isI_set {vs : List Value} {k : Nat} {x : Value} (h : ∀ v ∈ vs, isI v) (hx : isI x) : ∀ v ∈ vs.set k x, isI v := fun v hv => by
  rcases List.mem_or_eq_of_mem_set hv with hv | rfl
  · exact h v hv
  · exact hx
theorem isI_at {vs : List Value} {k : Nat} {x : Value} (h : ∀ v ∈ vs, isI v) (hx : vs[k]? = some x) : isI x := h x (List.mem_of_getElem? hx)
theorem getD_at {α : Type} {vs : List α} {k : Nat} {x d : α} (hx : vs[k]? = some x) : vs.getD k d = x := by simp [List.getD, hx]
theorem t_siftdown {vs : List Value} {it : Value} {a : Addr} {st pos : Nat} {t1 t2 : Tok} {C : Res → Led} {Q : Value → Shared → Prop} (O : Ok w mg mb b) (h : At b S s) (room : Room A 1) (hm : Has a (lst vs) S C) (hints : ∀ v ∈ vs, isI v)
    (h2 : vs[pos]? = some it) (hlen : vs.length < 2 ^ 60)
    (hq : ∀ s', At b (C (lst (sdLoop ltI it st pos vs pos))) s' → Q .none s') : wpAny (model prg w) A (call (.ref 63) [.ref a, .int st t1, .int pos t2]) Q E s := by
  have h3 : pos < vs.length := (List.getElem?_eq_some_iff.mp h2).1
  refine call_d ["heap", "startpos", "pos"] O h room rfl rfl rfl rfl rfl rfl rfl ?_
  clear h room
  intro L A s room h
  repeat tb_rel
  refine g_sub h (by kt_at_item) rfl h2 (by omega) ?_
  tb_rel
  rename_i s h
  refine x_while (fun n s => ∃ vs' pos' f t m, n = pos' ∧ At b ((L, nsr m) :: C (lst vs')) s ∧ m "heap" = some (.ref a) ∧ m "startpos" = some (.int st t1) ∧ m "pos" = some (.int pos' t) ∧ m "newitem" = some it ∧
    vs'.length = vs.length ∧ (∀ v ∈ vs', isI v) ∧ pos' < vs.length ∧ pos' ≤ f ∧ sdLoop ltI it st f vs' pos' = sdLoop ltI it st pos vs pos) pos ?_ ?_
  · exact ⟨vs, pos, pos, t2, _, rfl, by rw [hm.self]; exact h, rfl, rfl, rfl, rfl, rfl, hints, h3, Nat.le_refl _, rfl⟩
  · clear h
    rintro n s E' ⟨vs', pos', f, t, m, rfl, h, m1, m2, m3, m4, hl, hi, hp, hf, he⟩
    repeat tb_rel
    split
    · rename_i hc
      have hc : st < n := by simpa using hc
      repeat tb_rel
      refine o_rsh (by assumption) (by decide) ?_
      intro _ _ _
      repeat tb_rel
      obtain ⟨x, hx⟩ : ∃ x, vs'[(n - 1) / 2]? = some x := ⟨_, List.getElem?_eq_getElem (by omega)⟩
      have hpe : ((n : Int) - 1).fdiv (2 ^ Int.toNat 1) = ((n - 1) / 2 : Nat) := by rw [Int.fdiv_eq_ediv_of_nonneg _ (by decide)]; show ((n : Int) - 1) / 2 = _; omega
      refine g_sub (by assumption) (by exact List.mem_cons_of_mem _ hm.again.mem) hpe hx (by omega) ?_
      repeat tb_rel
      refine c_ltV (isI_at hints h2) (isI_at hi hx) ?_
      repeat tb_rel
      obtain ⟨f, rfl⟩ : ∃ f', f = f' + 1 := ⟨f - 1, by omega⟩
      rw [sdLoop, if_pos hc, getD_at hx] at he
      split
      · rename_i hlt
        rw [if_pos hlt] at he
        repeat tb_rel
        refine s_item (k := n) (by assumption) (.there hm.again) rfl (by omega) (by omega) ?_
        intro _ _
        repeat tb_rel
        rename_i s h
        rw [hpe] at h
        exact ⟨(n - 1) / 2, by omega, vs'.set n x, (n - 1) / 2, f, _, _, rfl, h, m1, m2, rfl, m4, by simp [hl], isI_set hi (isI_at hi hx), by omega, by omega, he⟩
      · rename_i hlt
        rw [if_neg hlt] at he
        repeat tb_rel
        refine s_item (k := n) (by assumption) (.there hm.again) rfl (by omega) (by omega) ?_
        intro _ h
        repeat tb_rel
        rw [he] at h
        exact hq _ h.tail
    · rename_i hc
      have hc : ¬ st < n := by simpa using hc
      rw [sd_stop hc] at he
      repeat tb_rel
      refine s_item (k := n) (by assumption) (.there hm.again) rfl (by omega) (by omega) ?_
      intro _ h
      repeat tb_rel
      rw [he] at h
      exact hq _ h.tail
end
section
variable {w : World} {mg mb : Str → Option Value} {b s : Shared} {S : Led} {A : Around} {E : Value → Shared → Prop} {env : Env} {M : Model}
theorem sp_cons {pos : Pos} {e : Expr} {rest : List Expr} {Q : List Value → Shared → Prop} (h : wpAny M A (eval e env) (fun v s₁ => wpAny M A (spliced (backTo pos (starEach rest env))) (fun vs s₂ => Q (v :: vs) s₂) E s₁) E s)
    (he : starEach (e :: rest) env = (false, eval e env) :: starEach rest env := by rfl) : wpAny M A (spliced (backTo pos (starEach (e :: rest) env))) Q E s := by
  rw [he]
  exact spliced_cons h
theorem sp_nil {pos : Pos} {Q : List Value → Shared → Prop} (h : Q [] s) : wpAny M A (spliced (backTo pos (starEach [] env))) Q E s := spliced_nil h
theorem fn_at {f : Addr} {o : Obj} (O : Ok w mg mb b) (h : At b S s) (ho : (KK w.params).lookup f = some o) : s.heap.get? f = some o := h.keep _ _ (O.K _ _ ho)
theorem cw_def {pos : Pos} {f : Addr} {o : Obj} {fd : FuncData} {e : Expr} {rest : List Expr} {Q : Value → Shared → Prop} (ho : (KK w.params).lookup f = some o) (hdat : o.data = .func fd)
    (h : wpAny (model prg w) A (spliced (backTo pos (starEach (e :: rest) env))) (fun vs s₁ => s₁.heap.get? f = some o ∧ wpAny (model prg w) A (call (.ref f) vs) Q E s₁) E s)
    (he : starEach (e :: rest) env = (false, eval e env) :: starEach rest env := by rfl) :
    wpAny (model prg w) A (callWith pos (.ref f) [] (backTo pos (starEach (e :: rest) env)) []) Q E s := PyProof.Rows.callWith_def hdat h he
theorem b_len {a : Addr} {vs : List Value} {Q : Value → Shared → Prop} (h : At b S s) (hm : (a, lst vs) ∈ S) (hfit : vs.length < 2 ^ 62) (hq : ∀ t s', At b S s' → Q (.int vs.length t) s') : wpAny (model prg w) A (call (.builtin "len") [.ref a]) Q E s := by
  refine Calls.call_len_list (h.list hm) (by simp; omega) ?_
  have := hq (s.toks + 1) _ (h.tk (t := s.toks + 1 + 1))
  simpa using this
end
local macro_rules | `(tactic| kt_at_get) => `(tactic| first
  | with_reducible refine wpAny_Call_ofName ?_
  | ((with_reducible show wpAny _ _ (callWith _ (Value.ref _) [] (backTo _ (starEach (_ :: _) _)) (backToKw _ (keywordEach [] _))) _ _ _); refine cw_def rfl rfl ?_)
  | ((with_reducible show wpAny _ _ (callWith _ (Value.builtin _) [] (backTo _ (starEach (_ :: _) _)) (backToKw _ (keywordEach [] _))) _ _ _); refine PyProof.Rows.callWith_builtin1 ?_)
  | ((with_reducible show wpAny _ _ (callWith _ (Value.type _) [] (backTo _ (starEach (_ :: _) _)) (backToKw _ (keywordEach [] _))) _ _ _); refine PyProof.Rows.callWith_type1 ?_)
  | ((with_reducible show wpAny _ _ (spliced (backTo _ (starEach (_ :: _) _))) _ _ _); refine sp_cons ?_)
  | ((with_reducible show wpAny _ _ (spliced (backTo _ (starEach [] _))) _ _ _); refine sp_nil ?_)
  | ((with_reducible show _ ∧ wpAny _ _ (call (Value.ref _) _) _ _ _); refine ⟨fn_at (by assumption) (by assumption) rfl, ?_⟩))
local macro_rules | `(tactic| tb_rel) => `(tactic| first | tb_start | regstrif_gather | regstrif_fact | regstrif_slice | kt_at_get)

def suLoop {α : Type} (lt : α → α → Bool) (d : α) : Nat → List α → Nat → List α × Nat
  | 0, xs, pos => (xs, pos)
  | f + 1, xs, pos =>
    if 2 * pos + 1 < xs.length then
      (if 2 * pos + 2 < xs.length ∧ lt (xs.getD (2 * pos + 1) d) (xs.getD (2 * pos + 2) d) = false then suLoop lt d f (xs.set pos (xs.getD (2 * pos + 2) d)) (2 * pos + 2)
      else suLoop lt d f (xs.set pos (xs.getD (2 * pos + 1) d)) (2 * pos + 1))
    else (xs, pos)
theorem su_stop {α : Type} {lt : α → α → Bool} {d : α} {f pos : Nat} {xs : List α} (h : ¬ 2 * pos + 1 < xs.length) : suLoop lt d f xs pos = (xs, pos) := by
  cases f with
  | zero => rfl
  | succ f => rw [suLoop, if_neg h]
/-- _siftup as a function -/
def suF {α : Type} (lt : α → α → Bool) (d : α) (pos : Nat) (p : List α × Nat) : List α := sdLoop lt d pos p.2 (p.1.set p.2 d) p.2
section
variable {w : World} {mg mb : Str → Option Value} {b s : Shared} {S : Led} {A : Around} {E : Value → Shared → Prop}
theorem t_siftup {vs : List Value} {it : Value} {a : Addr} {pos : Nat} {t2 : Tok} {C : Res → Led} {Q : Value → Shared → Prop} (O : Ok w mg mb b) (h : At b S s) (room : Room A 2) (hm : Has a (lst vs) S C) (hints : ∀ v ∈ vs, isI v)
    (h2 : vs[pos]? = some it) (hlen : vs.length < 2 ^ 60)
    (hq : ∀ s', At b (C (lst (suF ltI it pos (suLoop ltI it vs.length vs pos)))) s' → Q .none s') :
    wpAny (model prg w) A (call (.ref 70) [.ref a, .int pos t2]) Q E s := by
  have h3 : pos < vs.length := (List.getElem?_eq_some_iff.mp h2).1
  refine call_d ["heap", "pos"] O h room rfl rfl rfl rfl rfl rfl rfl ?_
  clear h room
  intro L A s room h
  repeat tb_rel
  refine b_len (by assumption) (by kt_at_item) (by omega) ?_
  intro te _ _
  repeat tb_rel
  refine g_sub (by assumption) (by kt_at_item) rfl h2 (by omega) ?_
  repeat tb_rel
  rename_i s h
  refine x_while (fun n s => ∃ vs' pos' f t tc m, n = vs.length - pos' ∧ At b ((L, nsr m) :: C (lst vs')) s ∧ m "heap" = some (.ref a) ∧ m "startpos" = some (.int pos t2) ∧ m "pos" = some (.int pos' t) ∧ m "newitem" = some it ∧
    m "endpos" = some (.int vs.length te) ∧ m "childpos" = some (.int (2 * pos' + 1) tc) ∧
    vs'.length = vs.length ∧ (∀ v ∈ vs', isI v) ∧ pos' < vs.length ∧ vs.length ≤ f + pos' ∧ suLoop ltI it f vs' pos' = suLoop ltI it vs.length vs pos) (vs.length - pos) ?_ ?_
  · exact ⟨vs, pos, vs.length, t2, _, _, rfl, by rw [hm.self]; exact h, rfl, rfl, rfl, rfl, rfl, rfl, rfl, hints, h3, by omega, rfl⟩
  · clear h
    rintro n s E' ⟨vs', pos', f, t, tc, m, rfl, h, m1, m2, m3, m4, m5, m6, hl, hi, hp, hf, he⟩
    have hit := isI_at hints h2
    repeat tb_rel
    split
    · rename_i hc
      have hc : 2 * pos' + 1 < vs'.length := by simp at hc; omega
      obtain ⟨f, rfl⟩ : ∃ f', f = f' + 1 := ⟨f - 1, by omega⟩
      obtain ⟨x, hx⟩ : ∃ x, vs'[2 * pos' + 1]? = some x := ⟨_, List.getElem?_eq_getElem hc⟩
      rw [suLoop, if_pos hc, getD_at hx] at he
      repeat tb_rel
      split
      · rename_i hr
        have hr : 2 * pos' + 2 < vs'.length := by simp at hr; omega
        obtain ⟨y, hy⟩ : ∃ x, vs'[2 * pos' + 2]? = some x := ⟨_, List.getElem?_eq_getElem hr⟩
        rw [getD_at hy] at he
        repeat tb_rel
        refine g_sub (by assumption) (.tail _ hm.again.mem) (by omega) hx (by omega) ?_
        repeat tb_rel
        refine g_sub (by assumption) (.tail _ hm.again.mem) (by omega) hy (by omega) ?_
        refine c_ltV (isI_at hi hx) (isI_at hi hy) ?_
        repeat tb_rel
        cases hlt : ltI x y with
        | false =>
          rw [hlt, if_pos ⟨hr, rfl⟩] at he
          repeat tb_rel
          refine g_sub (by assumption) (.tail _ hm.again.mem) (by omega) hy (by omega) ?_
          repeat tb_rel
          refine s_item (k := pos') (by assumption) (.there hm.again) rfl (by omega) (by omega) ?_
          intro _ _
          repeat tb_rel
          rename_i s h
          rw [show (2 * (pos' : Int) + 1 + 1) = ((2 * pos' + 2 : Nat) : Int) by omega] at h
          exact ⟨vs.length - (2 * pos' + 2), by omega, _, 2 * pos' + 2, f, _, _, _, rfl, h, m1, m2, rfl, m4, m5, rfl, by simp [hl], isI_set hi (isI_at hi hy), by omega, by omega, he⟩
        | true =>
          rw [hlt, if_neg (fun x => nomatch x.2)] at he
          repeat tb_rel
          refine g_sub (by assumption) (.tail _ hm.again.mem) (by omega) hx (by omega) ?_
          repeat tb_rel
          refine s_item (k := pos') (by assumption) (.there hm.again) rfl (by omega) (by omega) ?_
          intro _ _
          repeat tb_rel
          rename_i s h
          rw [show (2 * (pos' : Int) + 1) = ((2 * pos' + 1 : Nat) : Int) by omega] at h
          exact ⟨vs.length - (2 * pos' + 1), by omega, _, 2 * pos' + 1, f, _, _, _, rfl, h, m1, m2, rfl, m4, m5, rfl, by simp [hl], isI_set hi (isI_at hi hx), by omega, by omega, he⟩
      · rename_i hr
        have hr : ¬ 2 * pos' + 2 < vs'.length := by simp at hr; omega
        rw [if_neg (fun x => hr x.1)] at he
        repeat tb_rel
        refine g_sub (by assumption) (.tail _ hm.again.mem) (by omega) hx (by omega) ?_
        repeat tb_rel
        refine s_item (k := pos') (by assumption) (.there hm.again) rfl (by omega) (by omega) ?_
        intro _ _
        repeat tb_rel
        rename_i s h
        rw [show (2 * (pos' : Int) + 1) = ((2 * pos' + 1 : Nat) : Int) by omega] at h
        exact ⟨vs.length - (2 * pos' + 1), by omega, _, 2 * pos' + 1, f, _, _, _, rfl, h, m1, m2, rfl, m4, m5, rfl, by simp [hl], isI_set hi (isI_at hi hx), by omega, by omega, he⟩
    · rename_i hc
      have hc : ¬ 2 * pos' + 1 < vs'.length := by simp at hc; omega
      rw [su_stop hc] at he
      repeat tb_rel
      refine s_item (k := pos') (by assumption) (.there hm.again) rfl (by omega) (by omega) ?_
      intro _ h
      repeat tb_rel
      rw [← he] at hq
      refine t_siftdown (vs := vs'.set pos' it) (it := it) O h room (.there hm.again) (isI_set hi hit) (by rw [List.getElem?_set_self (by omega)]) (by rw [List.length_set]; omega) fun s h => ?_
      repeat tb_rel
      exact hq _ h.tail
end
section
variable {w : World} {mg mb : Str → Option Value} {b s : Shared} {S : Led} {A : Around} {E : Value → Shared → Prop} {env : Env}

/-! methods of lists -/
theorem m_list {o : Expr} {name : Str} {apos pos : Pos} {args : List Expr} {id : String} {Q : Value → Shared → Prop}
    (slot : Slot "list" name id) (hty : typeOf (.builtin id) = pure (.type "method_descriptor"))
    (h : wpAny (model prg w) A (eval o env) (fun ov s₁ => s₁.TypeIs ov "list" ∧ (∀ a, ov = .ref a → ∃ ob, s₁.heap.get? a = some ob ∧ ob.dict = none) ∧
      wpAny (model prg w) A (callWith pos (.builtin id) [ov] (backTo pos (starEach args env)) []) Q E s₁) E s)
    (hbase : attributeBase o name env (eval o env) = eval o env := by rfl)
    (hfew : ((backTo pos (starEach args env)).all (fun x => !x.1) && (backToKw pos (keywordEach [] env)).all (fun x => x.1.isSome)
      && decide (args.length + ([] : List Keyword).length + (if ([] : List Keyword).isEmpty then 0 else 1) < 30)) = true := by rfl)
    (hline : (apos.endLine == pos.line) = true := by rfl) :
    wpAny (model prg w) A (eval (.Call (.Attribute o name apos) args [] pos) env) Q E s := wpAny_Call_method hbase hfew hline PySem.F.plainAttrs_list slot hty h
theorem l_meth {a : Addr} {vs : List Value} {P : Prop} (h : At b S s) (hm : (a, lst vs) ∈ S) (hp : P) : s.TypeIs (.ref a) "list" ∧ (∀ a', Value.ref a = .ref a' → ∃ ob, s.heap.get? a' = some ob ∧ ob.dict = none) ∧ P := by
  obtain ⟨n, ho⟩ := h.plain hm
  exact ⟨⟨_, ho, rfl⟩, fun a' e => by cases e; exact ⟨_, ho, rfl⟩, hp⟩
theorem b_pop {a : Addr} {vs : List Value} {v : Value} {C : Res → Led} {Q : Value → Shared → Prop} (h : At b S s) (hm : Has a (lst (vs ++ [v])) S C) (hfit : vs.length < 2 ^ 20) (hq : ∀ s', At b (C (lst vs)) s' → Q v s') :
    wpAny (model prg w) A (call (.builtin "list.pop") [.ref a]) Q E s := by
  obtain ⟨n, ho⟩ := h.plain hm.mem
  have hsz : (vs ++ [v]).toArray.size ≤ sizeLine := by simp [sizeLine]; omega
  refine call_meets PySem.F.slot_list_pop ⟨_, ho, rfl⟩ PySem.F.entry_list_pop (PySem.F.args_list_pop_1 _) (PySem.MeetsSeq.list_pop_last a _ n v (by simp) hsz) ⟨ho, hq _ (h.seq (tk := s.toks) hm ?_)⟩
  have : (vs ++ [v]).eraseIdx vs.length = vs := by rw [List.eraseIdx_append_of_length_le (Nat.le_refl _)]; simp
  simp [Array.eraseIdxIfInBounds, this]
theorem b_append {a : Addr} {vs : List Value} {v : Value} {C : Res → Led} {Q : Value → Shared → Prop} (h : At b S s) (hm : Has a (lst vs) S C) (hfit : vs.length < 2 ^ 20) (hq : ∀ s', At b (C (lst (vs ++ [v]))) s' → Q .none s') :
    wpAny (model prg w) A (call (.builtin "list.append") [.ref a, v]) Q E s := by
  obtain ⟨n, ho⟩ := h.plain hm.mem
  refine wpAny_list_append_plain ⟨n, ho⟩ (fun h' hp hs => hq _ (h.upd (tk := s.toks) hm hs ?_)) (by simp [sizeLine]; omega)
  obtain ⟨n', ho'⟩ := hp
  exact ⟨_, ho', n', by simp⟩
theorem b_truth {a : Addr} {vs : List Value} {Q : Bool → Shared → Prop} (h : At b S s) (hm : (a, lst vs) ∈ S) (hfit : vs.length < 2 ^ 60) (hq : ∀ s', At b S s' → Q (!vs.isEmpty) s') : wpAny (model prg w) A (truthy (.ref a)) Q E s := by
  refine wpAny_truthy_list (h.list hm) (by simp; omega) ?_
  have := hq _ (h.tk (t := s.toks + 1 + 1))
  simpa using this

/-! a for's loop over an iterator of the ledger -/
def Steps (w : World) (b : Shared) (A : Around) (I : Addr) (n : Nat) (R : Nat → Res) (P : Nat → Value → Prop) (Src : Led → Prop) : Prop :=
  (∀ i S C s Q E, i < n → Src S → Has I (R i) S C → At b S s → (∀ v s', P i v → At b (C (R (i + 1))) s' → Q (some v) s') → wpAny (model prg w) A (pyNext (.ref I)) Q E s) ∧
  (∀ S s Q E, Src ((I, R n) :: S) → At b ((I, R n) :: S) s → (∀ s', At b S s' → Q none s') → wpAny (model prg w) A (pyNext (.ref I)) Q E s)

def LoopR (w : World) (A : Around) (env : Env) (rest : List Stmt) (Q : Flow → Shared → Prop) (E : Value → Shared → Prop) : Result → Shared → Prop := fun r s' => match r with
  | .ok f => (match f with | .next => wpAny (model prg w) A (execs rest env) Q E s' | f => Q f s')
  | .error e => cameBackBy (model prg w) A env E e s'
theorem x_for {target iter body pos} {rest : List Stmt} {Q : Flow → Shared → Prop}
    (h : wpAny (model prg w) A (eval iter env) (fun x s₁ => wpAny (model prg w) A (pyIter x) (fun it s₂ => codeAny (model prg w) A (.forLoop target it body [] env) (LoopR w A env rest Q E) s₂) E s₁) E s)
    (hs : ∀ x, foldedSetIterable iter env x = pure x := by intro _; rfl) : wpAny (model prg w) A (execs (.For target iter body [] pos :: rest) env) Q E s :=
  wpAny_execs_cons (wpAny_For h hs)
theorem for_loop {target body} {rest : List Stmt} {Q : Flow → Shared → Prop} {I : Addr} {n : Nat} {R : Nat → Res} {P : Nat → Value → Prop} {Src : Led → Prop} {S₀ : Led} (W : Steps w b A I n R P Src) (Inv : Nat → Led → Prop)
    (h : At b ((I, R 0) :: S₀) s) (h0 : Inv 0 S₀) (hsrc : ∀ i S, Inv i S → Src ((I, R i) :: S))
    (turn : ∀ i v S s E', i < n → P i v → Inv i S → At b ((I, R (i + 1)) :: S) s → wpAny (model prg w) A (assign target env v) (fun _ s₂ => wpAny (model prg w) A (execs body env) (fun f s₃ => match f with
        | .next | .cont => ∃ S', Inv (i + 1) S' ∧ At b ((I, R (i + 1)) :: S') s₃
        | .brk => wpAny (model prg w) A (execs rest env) Q E s₃
        | .ret v => Q (.ret v) s₃) E' s₂) E' s)
    (fin : ∀ S s, Inv n S → At b S s → wpAny (model prg w) A (execs rest env) Q E s)
    (ht : ∀ v, letOwnedTupleGo target (.ref I) v = pure () := by intro _; rfl) :
    codeAny (model prg w) A (.forLoop target (.ref I) body [] env) (LoopR w A env rest Q E) s := by
  refine codeAny_forLoop (fun k s => ∃ i S, k + i = n ∧ Inv i S ∧ At b ((I, R i) :: S) s) (fun k s hI => ?_) n ⟨0, S₀, rfl, h0, h⟩ ht
  obtain ⟨i, S, hk, hi, h⟩ := hI
  cases k with
  | zero =>
    obtain rfl : i = n := by omega
    refine W.2 _ _ _ _ (hsrc _ _ hi) h fun s' h' => ?_
    exact wpAny_execs_nil (fin _ _ hi h')
  | succ k =>
    refine W.1 i _ _ _ _ _ (by omega) (hsrc _ _ hi) .here h fun v s' hp h' => ?_
    refine wpAny_mono (turn i v S s' _ (by omega) hp hi h') (fun _ s₂ h₂ => ?_) fun _ _ e => e
    refine wpAny_mono h₂ (fun f s₃ h₃ => ?_) fun _ _ e => e
    cases f with
    | next => obtain ⟨S', i1, i2⟩ := h₃; exact ⟨k, by omega, i + 1, S', by omega, i1, i2⟩
    | cont => obtain ⟨S', i1, i2⟩ := h₃; exact ⟨k, by omega, i + 1, S', by omega, i1, i2⟩
    | brk => exact h₃
    | ret v => exact h₃

/-! list iterators, ranges -/
theorem p_iter {a : Addr} {vs : List Value} {Q : Value → Shared → Prop} (h : At b S s) (hm : (a, lst vs) ∈ S) (hq : ∀ I s', At b ((I, lit a 0) :: S) s' → Q (.ref I) s') : wpAny (model prg w) A (pyIter (.ref a)) Q E s :=
  wpAny_pyIter_list (h.list hm) (hq _ _ (h.alloc (r := lit a 0) (tk := s.toks) ⟨rfl, rfl⟩))
theorem st_list {I a : Addr} {vs : List Value} (hh : A.handled = none) : Steps w b A I vs.length (lit a) (fun i v => vs[i]? = some v) (fun S => (a, lst vs) ∈ S) := by
  refine ⟨fun i S C s Q E hi hs hm h hq => ?_, fun S s Q E hs h hq => ?_⟩
  · obtain ⟨o, ho, hr⟩ := h.own _ hm.mem
    refine wpAny_pyNext_list_item (x := vs[i]) ⟨o, ho, hr⟩ (h.list hs) (by simp [hi]) fun h' hl hsb => hq _ _ (by simp [hi]) (h.upd (tk := s.toks) hm hsb ?_)
    obtain ⟨o', ho', hr'⟩ := hl
    exact ⟨o', ho', hr'⟩
  · obtain ⟨o, ho, hr⟩ := h.own _ (.head _)
    exact wpAny_pyNext_list_end hh ⟨o, ho, hr⟩ (h.list hs) (by simp) fun h' hsb => hq _ (h.lose (tk := s.toks) hsb)

def rng (x y c : Int) : Res := fun o => ∃ t u v, o = { cls := .type "range", dict := none, data := .fields #[.int x t, .int y u, .int c v], slots := #[] }
/-- a range's iterator behind i turns -/
def rit (x c : Int) (n i : Nat) : Res := fun o => o = { cls := .type "range_iterator", dict := none, data := .fields #[rawInt (x + i * c), rawInt ((n : Int) - i), rawInt c], slots := #[] }
theorem b_range1 {n : Int} {t : Tok} {Q : Value → Shared → Prop} (h : At b S s) (hq : ∀ a s', At b ((a, rng 0 n 1) :: S) s' → Q (.ref a) s') : wpAny (model prg w) A (call (.type "range") [.int n t]) Q E s :=
  call_range_1 (hq _ _ (h.alloc ⟨_, _, _, rfl⟩))
theorem b_range2 {x y : Int} {t u : Tok} {Q : Value → Shared → Prop} (h : At b S s) (hq : ∀ a s', At b ((a, rng x y 1) :: S) s' → Q (.ref a) s') : wpAny (model prg w) A (call (.type "range") [.int x t, .int y u]) Q E s :=
  call_range_2 (hq _ _ (h.alloc ⟨_, _, _, rfl⟩))
theorem p_range {a : Addr} {x : Int} {n : Nat} {Q : Value → Shared → Prop} (h : At b S s) (hm : (a, rng x (x + n) 1) ∈ S) (hx : 0 ≤ x ∧ x < 2 ^ 20) (hn : n < 2 ^ 20) (hq : ∀ I s', At b ((I, rit x 1 n 0) :: S) s' → Q (.ref I) s') : wpAny (model prg w) A (pyIter (.ref a)) Q E s := by
  obtain ⟨o, ho, t, u, v, rfl⟩ := h.own _ hm
  have hsz : Builtin.Range.rangeSize x (x + n) 1 = n := by
    unfold Builtin.Range.rangeSize
    rw [if_pos (by decide)]
    split <;> omega
  refine wpAny_pyIter_range ho ?_ (hq _ _ (h.alloc (r := rit x 1 n 0) (tk := s.toks) ?_))
  · unfold Builtin.Range.small
    rw [hsz]
    simp only [Builtin.Range.rangeFitsLong, Bool.and_eq_true, decide_eq_true_eq, Bool.or_eq_true]
    refine ⟨⟨⟨⟨⟨by omega, by omega⟩, by omega, by omega⟩, by decide, by decide⟩, by omega, by omega⟩, Or.inr ?_⟩
    rw [if_pos (by decide)]
    simp only [Bool.and_eq_true, decide_eq_true_eq]
    exact ⟨by omega, by omega⟩
  · unfold rit
    rw [hsz]
    simp
theorem st_range {I : Addr} {x c : Int} {n : Nat} (hh : A.handled = none) : Steps w b A I n (rit x c n) (fun i v => ∃ t, v = .int (x + i * c) t) (fun _ => True) := by
  refine ⟨fun i S C s Q E hi hs hm h hq => ?_, fun S s Q E hs h hq => ?_⟩
  · obtain ⟨o, ho, rfl⟩ := h.own _ hm.mem
    refine wpAny_pyNext_range_item ho (by omega) fun h' hl hsb => hq _ _ ⟨_, rfl⟩ (h.upd hm hsb ⟨_, hl, ?_⟩)
    unfold rit
    rw [show x + ((i + 1 : Nat) : Int) * c = x + i * c + c by rw [Int.natCast_add, Int.add_mul]; omega, show (n : Int) - ((i + 1 : Nat) : Int) = n - i - 1 by omega]
  · obtain ⟨o, ho, rfl⟩ := h.own _ (.head _)
    exact wpAny_pyNext_range_end hh ho (by omega) fun h' hsb => hq _ (h.lose (tk := s.toks) hsb)
end
section
variable {w : World} {mg mb : Str → Option Value} {b s : Shared} {S : Led} {A : Around} {E : Value → Shared → Prop} {env : Env}
def rsm (x y c : Int) : Bool := Builtin.Range.rangeFitsLong x && Builtin.Range.rangeFitsLong y && Builtin.Range.rangeFitsLong c && Builtin.Range.rangeFitsLong (-c) && Builtin.Range.rangeFitsLong (x - c) && Builtin.Range.rangeFitsLong (Builtin.Range.rangeSize x y c)
theorem range_rev_meets (r : Addr) (x y c : Int) (t u v : Tok) (hc0 : ¬ (!(Builtin.Range.rangeFitsLong x && Builtin.Range.rangeFitsLong y && Builtin.Range.rangeFitsLong c && Builtin.Range.rangeFitsLong (-c) && Builtin.Range.rangeFitsLong (x - c) && Builtin.Range.rangeFitsLong (Builtin.Range.rangeSize x y c))) = true) :
    Meets (Builtin.«range.__reversed__» ⟨[.ref r], []⟩) (fun _ R s => s.heap.get? r = some { cls := .type "range", dict := none, data := .fields #[.int x t, .int y u, .int c v], slots := #[] } ∧
      R (.ok (.ret (Value.ref s.heap.objs.size))) { s with heap := s.heap.push { cls := Value.type (if (Builtin.Range.rangeFitsLong x && Builtin.Range.rangeFitsLong y && Builtin.Range.rangeFitsLong c && Builtin.Range.rangeFitsLong (-c) && Builtin.Range.rangeFitsLong (x - c) && Builtin.Range.rangeFitsLong (Builtin.Range.rangeSize x y c)) = true then "range_iterator" else "longrange_iterator"), data := Data.fields #[rawInt (x + (Builtin.Range.rangeSize x y c - 1) * c), rawInt (Builtin.Range.rangeSize x y c), rawInt (-c)] }, toks := s.toks }) :=
  .of_wp fun prog w A R s h => by obtain ⟨hp, g, d, tk, os⟩ := s; obtain ⟨hl, h⟩ := h; wp_walk; exact ⟨_, rfl, h⟩
theorem range_reversed {a : Addr} {n : Nat} {t u v : Tok} {Q : Value → Shared → Prop} (hr : IsRange s.heap a 0 n 1 t u v) (hn : n < 1048576)
    (h : Q (.ref s.heap.objs.size) { s with heap := s.heap.push { cls := .type "range_iterator", data := .fields #[rawInt ((n : Int) - 1), rawInt n, rawInt (-1)] } }) :
    wpAny (model prg w) A (call (.builtin "range.__reversed__") [.ref a]) Q E s := by
  have hsz : Builtin.Range.rangeSize 0 n 1 = n := by
    unfold Builtin.Range.rangeSize
    rw [if_pos (by decide)]
    split <;> omega
  have hs : (Builtin.Range.rangeFitsLong 0 && Builtin.Range.rangeFitsLong n && Builtin.Range.rangeFitsLong 1 && Builtin.Range.rangeFitsLong (-1) && Builtin.Range.rangeFitsLong (0 - 1) && Builtin.Range.rangeFitsLong (Builtin.Range.rangeSize 0 n 1)) = true := by
    rw [hsz]
    simp only [Builtin.Range.rangeFitsLong, Bool.and_eq_true, decide_eq_true_eq]
    refine ⟨⟨⟨⟨⟨⟨by decide, by decide⟩, by omega, by omega⟩, by decide, by decide⟩, by decide, by decide⟩, by decide, by decide⟩, by omega, by omega⟩
  refine call_meets PySem.F.slot_range_reversed ⟨_, hr, rfl⟩ PySem.F.entry_range_reversed (PySem.F.args_range_reversed_1 _) (range_rev_meets a 0 n 1 t u v (by rw [hs]; decide)) ⟨hr, ?_⟩
  rw [if_pos hs, hsz, show (0 : Int) + ((n : Int) - 1) * 1 = (n : Int) - 1 by omega]
  exact h
theorem sub_rit_reversed : isSubtype (.type "range_iterator") (.type "reversed") = pure false := by rw [isSubtype_type]; kernel_rfl
theorem code_reversed {a : Addr} {n : Nat} {t u v : Tok} {Q₁ : Value → Shared → Prop} (hr : IsRange s.heap a 0 n 1 t u v) (hn : n < 2 ^ 20)
    (h : Q₁ (.ref s.heap.objs.size) { s with heap := s.heap.push { cls := .type "range_iterator", data := .fields #[rawInt ((n : Int) - 1), rawInt n, rawInt (-1)] } }) :
    codeAny (model prg w) A (.call (.builtin "reversed.__new__") ⟨[.type "reversed", .ref a], []⟩) (wants Q₁ E) s := by
  have ht : s.TypeIs (.ref a) "range" := ⟨_, hr, rfl⟩
  refine codeAny_of_tree ?_
  show wpAny _ A.in1 (do checkBuiltinCall "reversed.__new__" ⟨[.type "reversed", .ref a], []⟩; again (.builtin "reversed.__new__" ⟨[.type "reversed", .ref a], []⟩)) _ _ s
  refine wpAny_bind (wpAny_of_eq (PySem.F.newCall_reversed_1 _) (wpAny_pure ⟨plainId_quiet PySem.F.plain_reversed_new _, codeAny_builtin PySem.F.entry_reversed_new ?_⟩))
  rw [Around.under_plainId PySem.F.plain_reversed_new _]
  unfold Builtin.«reversed.__new__»
  refine wpAny_bind (wpAny_of_eq (newClass_reversed _) ?_)
  try dsimp only
  refine wpAny_bind (wpAny_of_eq (a := ()) (by first | rfl | kernel_rfl) ?_)
  refine wpAny_bind (wpAny_of_eq (a := ()) (by first | rfl | kernel_rfl) ?_)
  try dsimp only
  refine wpAny_bind (wpAny_specialOf ht PySem.F.slot_range_reversed.lookup ?_)
  try dsimp only
  refine wpAny_bind (wpAny_of_eq (PySem.F.slot_range_reversed.bind _) ?_)
  try dsimp only
  first
  | rw [if_neg (show ¬ ((Value.builtin "range.__reversed__" == Value.none) = true) from Bool.false_ne_true)]
  | (show wpAny _ _ (if (Value.builtin "range.__reversed__" == Value.none) = true then _ else _) _ _ _; rw [if_neg (show ¬ ((Value.builtin "range.__reversed__" == Value.none) = true) from Bool.false_ne_true)])
  refine wpAny_bind (wpAny_rule ?_)
  refine wpAny_bind (m := runValue (.call (.builtin "range.__reversed__") ⟨[.ref a], []⟩)) (show wpAny _ _ (call (.builtin "range.__reversed__") [.ref a]) _ _ _ from range_reversed hr hn ?_)
  first
  | exact wpAny_pure h
  | exact wpAny_bind (wpAny_pure (wpAny_pure h))
theorem b_reversed {a : Addr} {n : Nat} {Q : Value → Shared → Prop} (h : At b S s) (hm : (a, rng 0 n 1) ∈ S) (hn : n < 2 ^ 20) (hq : ∀ I s', At b ((I, rit ((n : Int) - 1) (-1) n 0) :: S) s' → Q (.ref I) s') :
    wpAny (model prg w) A (call (.type "reversed") [.ref a]) Q E s := by
  obtain ⟨o, ho, t, u, v, rfl⟩ := h.own _ hm
  refine callType_other (U := "range_iterator") (Q₁ := fun obj s₁ => obj = .ref s.heap.objs.size ∧ s₁ = { s with heap := s.heap.push { cls := .type "range_iterator", data := .fields #[rawInt ((n : Int) - 1), rawInt n, rawInt (-1)] } })
    (by decide +kernel) PySem.F.create_reversed ⟨_, _, PySem.F.mro_reversed⟩ PySem.F.made_reversed sub_rit_reversed (PySem.F.typeCall_reversed_1 _) (code_reversed ho hn ⟨rfl, rfl⟩) ?_
  rintro obj s₁ ⟨rfl, rfl⟩
  refine ⟨⟨_, Heap.get?_push_size _ rfl, rfl⟩, hq _ _ (h.alloc (tk := s.toks) ?_)⟩
  unfold rit
  simp
theorem p_rit {I : Addr} {x c : Int} {n i : Nat} {Q : Value → Shared → Prop} (h : At b S s) (hm : (I, rit x c n i) ∈ S) (hq : Q (.ref I) s) : wpAny (model prg w) A (pyIter (.ref I)) Q E s := by
  obtain ⟨o, ho, rfl⟩ := h.own _ hm
  exact wpAny_pyIter_rangeiter ho hq
end
def siftupF {α : Type} (lt : α → α → Bool) (vs : List α) (pos : Nat) : List α := match vs[pos]? with
  | some it => suF lt it pos (suLoop lt it vs.length vs pos)
  | none => vs
def hfLoop {α : Type} (lt : α → α → Bool) : Nat → List α → List α
  | 0, vs => vs
  | k + 1, vs => hfLoop lt k (siftupF lt vs k)
theorem sd_len {α : Type} {lt : α → α → Bool} {it : α} {st : Nat} : ∀ (f : Nat) (xs : List α) (pos : Nat), (sdLoop lt it st f xs pos).length = xs.length
  | 0, xs, pos => by simp [sdLoop]
  | f + 1, xs, pos => by
    unfold sdLoop
    split
    · split
      · rw [sd_len f]; simp
      · simp
    · simp
theorem su_len {α : Type} {lt : α → α → Bool} {d : α} : ∀ (f : Nat) (xs : List α) (pos : Nat), (suLoop lt d f xs pos).1.length = xs.length
  | 0, xs, pos => rfl
  | f + 1, xs, pos => by
    unfold suLoop
    split
    · split
      · rw [su_len f]; simp
      · rw [su_len f]; simp
    · rfl
theorem siftup_len {α : Type} {lt : α → α → Bool} (vs : List α) (pos : Nat) : (siftupF lt vs pos).length = vs.length := by
  unfold siftupF
  split
  · unfold suF; rw [sd_len]; simp [su_len]
  · rfl
theorem sd_mem {α : Type} {lt : α → α → Bool} {it : α} {st : Nat} {p : α → Prop} (hit : p it) : ∀ (f : Nat) (xs : List α) (pos : Nat), (∀ v ∈ xs, p v) → ∀ v ∈ sdLoop lt it st f xs pos, p v
  | 0, xs, pos, h, v, hv => by
    rcases List.mem_or_eq_of_mem_set (show v ∈ xs.set pos it from hv) with hv | rfl
    · exact h v hv
    · exact hit
  | f + 1, xs, pos, h, v, hv => by
    have hs : ∀ {k : Nat} {x : α}, p x → ∀ v ∈ xs.set k x, p v := fun hx v hv => by
      rcases List.mem_or_eq_of_mem_set hv with hv | rfl
      · exact h v hv
      · exact hx
    have hg : ∀ k, p (xs.getD k it) := fun k => by
      rw [List.getD_eq_getElem?_getD]
      cases e : xs[k]? with
      | none => exact hit
      | some y => exact h y (List.mem_of_getElem? e)
    unfold sdLoop at hv
    split at hv
    · split at hv
      · exact sd_mem hit f _ _ (hs (hg _)) v hv
      · exact hs hit v hv
    · exact hs hit v hv
theorem su_mem {α : Type} {lt : α → α → Bool} {it : α} {p : α → Prop} (hit : p it) : ∀ (f : Nat) (xs : List α) (pos : Nat), (∀ v ∈ xs, p v) → ∀ v ∈ (suLoop lt it f xs pos).1, p v
  | 0, xs, pos, h => h
  | f + 1, xs, pos, h => by
    have hs : ∀ {k : Nat} {x : α}, p x → ∀ v ∈ xs.set k x, p v := fun hx v hv => by
      rcases List.mem_or_eq_of_mem_set hv with hv | rfl
      · exact h v hv
      · exact hx
    have hg : ∀ k, p (xs.getD k it) := fun k => by
      rw [List.getD_eq_getElem?_getD]
      cases e : xs[k]? with
      | none => exact hit
      | some y => exact h y (List.mem_of_getElem? e)
    unfold suLoop
    split
    · split
      · exact su_mem hit f _ _ (hs (hg _))
      · exact su_mem hit f _ _ (hs (hg _))
    · exact h
theorem siftup_mem {α : Type} {lt : α → α → Bool} {p : α → Prop} (vs : List α) (pos : Nat) (h : ∀ v ∈ vs, p v) : ∀ v ∈ siftupF lt vs pos, p v := by
  unfold siftupF
  split
  · rename_i it hx
    have hit := h it (List.mem_of_getElem? hx)
    unfold suF
    refine sd_mem hit _ _ _ fun v hv => ?_
    rcases List.mem_or_eq_of_mem_set hv with hv | rfl
    · exact su_mem hit _ _ _ h v hv
    · exact hit
  · exact h

section
variable {w : World} {mg mb : Str → Option Value} {b s : Shared} {S : Led} {A : Around} {E : Value → Shared → Prop}
theorem no_pylong (x : Int) (h0 : 0 ≤ x) (h : x < 2 ^ 60) : Builtin.divisionGoesByPylong x 2 = false := PyProof.noPylong_small (by omega)
theorem t_siftupF {vs : List Value} {a : Addr} {pos : Nat} {t2 : Tok} {C : Res → Led} {Q : Value → Shared → Prop} (O : Ok w mg mb b) (h : At b S s) (room : Room A 2) (hm : Has a (lst vs) S C) (hints : ∀ v ∈ vs, isI v)
    (h2 : pos < vs.length) (hlen : vs.length < 2 ^ 60) (hq : ∀ s', At b (C (lst (siftupF ltI vs pos))) s' → Q .none s') :
    wpAny (model prg w) A (call (.ref 70) [.ref a, .int pos t2]) Q E s := by
  refine t_siftup O h room hm hints (List.getElem?_eq_getElem h2) hlen fun s' h' => hq s' ?_
  unfold siftupF
  rw [List.getElem?_eq_getElem h2]
  exact h'
end
local macro_rules | `(tactic| regstrif_slice) => `(tactic| first
  | ((with_reducible show wpAny _ _ (assign (Expr.Name _ _) _ _) _ _ _); with_reducible refine wpAny_assign_Name ?_)
  | ((with_reducible show wpAny _ _ (binaryOp Operator.FloorDiv (Value.int _ _) (Value.int _ _)) _ _ _); refine o_fdiv (by assumption) (by decide) (PyProof.noPylong_small (by decide)) ?_; intro _ _ _)
  | ((with_reducible show wpAny _ _ (binaryOp Operator.Mod (Value.int _ _) (Value.int _ _)) _ _ _); refine o_mod (by assumption) (by decide) ?_; intro _ _ _)
  | ((with_reducible show wpAny _ _ (execs (Stmt.For _ _ _ [] _ :: _) _) _ _ _); refine x_for ?_))
local macro_rules | `(tactic| regstrif_fact) => `(tactic| ((with_reducible show wpAny _ _ (isTrue (Expr.Name _ _) _ _) _ _ _); refine wpAny_isTrue_value ?_))
local macro_rules | `(tactic| kt_at_get) => `(tactic| first
  | ((with_reducible show wpAny _ _ (eval (Expr.Call (Expr.Attribute _ _ _) _ [] _) _) _ _ _); first | refine m_list PySem.F.slot_list_pop PySem.F.type_list_pop ?_ | refine m_list PySem.F.slot_list_append PySem.F.type_list_append ?_ | refine m_list PySem.F.slot_list_remove PySem.F.type_list_remove ?_ | refine m_list PySem.F.slot_list_sort PySem.F.type_list_sort ?_)
  | ((with_reducible show Shared.TypeIs _ _ _ ∧ _ ∧ _); refine l_meth (by assumption) (by kt_at_item) ?_)
  | ((with_reducible show wpAny _ _ (callWith _ (Value.builtin _) [_] (backTo _ (starEach [] _)) []) _ _ _); refine callWith_method0 ?_)
  | ((with_reducible show wpAny _ _ (callWith _ (Value.builtin _) [_] (backTo _ (starEach (_ :: _) _)) []) _ _ _); refine callWith_method1 ?_))
section
variable {w : World} {mg mb : Str → Option Value} {b s : Shared} {S : Led} {A : Around} {E : Value → Shared → Prop}
theorem t_heapify {vs : List Value} {a : Addr} {C : Res → Led} {Q : Value → Shared → Prop} (O : Ok w mg mb b) (h : At b S s) (room : Room A 3) (hm : Has a (lst vs) S C) (hints : ∀ v ∈ vs, isI v) (hlen : vs.length < 2 ^ 20)
    (hq : ∀ s', At b (C (lst (hfLoop ltI (vs.length / 2) vs))) s' → Q .none s') : wpAny (model prg w) A (call (.ref 42) [.ref a]) Q E s := by
  refine call_d ["x"] O h room rfl rfl rfl rfl rfl rfl rfl ?_
  clear h room
  intro L A s room h
  repeat tb_rel
  refine b_len (by assumption) (by kt_at_item) (by omega) ?_
  intro te _ _
  repeat tb_rel
  rw [show ((vs.length : Int).fdiv 2) = ((vs.length / 2 : Nat) : Int) by rw [Int.fdiv_eq_ediv_of_nonneg _ (by decide)]; rfl]
  refine b_range1 (by assumption) ?_
  intro ar _ _
  repeat tb_rel
  refine b_reversed (by assumption) (by kt_at_item) (by omega) ?_
  intro I s h
  refine p_rit (by assumption) (by kt_at_item) ?_
  refine for_loop (st_range room.hand) (fun i S => ∃ m vs', S = (ar, rng 0 (vs.length / 2 : Nat) 1) :: (L, nsr m) :: C (lst vs') ∧ m "x" = some (.ref a) ∧ vs'.length = vs.length ∧ (∀ v ∈ vs', isI v) ∧
    hfLoop ltI (vs.length / 2 - i) vs' = hfLoop ltI (vs.length / 2) vs) h ⟨_, vs, by rw [hm.self], rfl, rfl, hints, rfl⟩ (fun _ _ _ => trivial) ?_ ?_
  · clear h
    rintro i v S s E' hi ⟨t, rfl⟩ ⟨m, vs', rfl, m1, hl, hi', he⟩ h
    repeat tb_rel
    obtain ⟨k, hk⟩ : ∃ k, vs.length / 2 - i = k + 1 := ⟨vs.length / 2 - i - 1, by omega⟩
    rw [show (((vs.length / 2 : Nat) : Int) - 1 + (i : Int) * -1) = (k : Int) by omega]
    refine t_siftupF (pos := k) O (by assumption) room (.there (.there (.there hm.again))) hi' (by omega) (by omega) ?_
    intro s h
    repeat tb_rel
    refine ⟨_, ?_, h⟩
    refine ⟨_, _, rfl, m1, by rw [siftup_len, hl], siftup_mem _ _ hi', ?_⟩
    rw [hk] at he
    rw [show vs.length / 2 - (i + 1) = k by omega]
    exact he
  · clear h
    rintro S s ⟨m, vs', rfl, m1, hl, hi', he⟩ h
    repeat tb_rel
    rw [Nat.sub_self] at he
    rw [show vs' = _ from he] at h
    exact hq _ h.tail.tail
/-- heappop: what comes back, and what stays -/
def popF {α : Type} (lt : α → α → Bool) (vs : List α) (x : α) : α × List α := match vs with
  | [] => (x, [])
  | y :: r => (y, siftupF lt (x :: r) 0)
theorem t_heappop {vs : List Value} {x : Value} {a : Addr} {C : Res → Led} {Q : Value → Shared → Prop} (O : Ok w mg mb b) (h : At b S s) (room : Room A 3) (hm : Has a (lst (vs ++ [x])) S C) (hints : ∀ v ∈ vs ++ [x], isI v) (hlen : vs.length < 2 ^ 19)
    (hq : ∀ s', At b (C (lst (popF ltI vs x).2)) s' → Q (popF ltI vs x).1 s') : wpAny (model prg w) A (call (.ref 35) [.ref a]) Q E s := by
  refine call_d ["heap"] O h room rfl rfl rfl rfl rfl rfl rfl ?_
  clear h room
  intro L A s room h
  repeat tb_rel
  refine b_pop (by assumption) (.there hm) (by omega) ?_
  intro _ _
  repeat tb_rel
  refine b_truth (by assumption) (.tail _ hm.again.mem) (by omega) ?_
  intro _ _
  cases vs with
  | nil =>
    refine i_ff ?_
    repeat tb_rel
    rename_i s h
    exact hq _ h.tail
  | cons y r =>
    refine i_tt ?_
    repeat tb_rel
    refine g_sub (k := 0) (by assumption) (.tail _ hm.again.mem) rfl rfl (by omega) ?_
    repeat tb_rel
    refine s_item (k := 0) (by assumption) (.there hm.again) rfl (by simp) (by omega) ?_
    intro _ _
    repeat tb_rel
    have hi : ∀ v ∈ x :: r, isI v := fun v hv => hints v (by simp at hv ⊢; rcases hv with hv | hv <;> simp [hv])
    refine t_siftupF (pos := 0) (vs := x :: r) O (by assumption) room (.there hm.again) hi (by simp) (by simp at hlen ⊢; omega) ?_
    intro s h
    repeat tb_rel
    exact hq _ h.tail
end
section
variable {w : World} {mg mb : Str → Option Value} {b s : Shared} {S : Led} {A : Around} {E : Value → Shared → Prop} {env : Env}

theorem comp_loop {elt target iter : Expr} {ifs : List Expr} {scope : Scope} {pos : Pos} {it acc : Value} {env : Env} {R : Result → Shared → Prop} (I : Nat → Shared → Prop)
    (turn : ∀ n s, I n s → wpAny (model prg w) A (pyNext it) (fun r s₁ => match r with
      | none => R (.ok .next) s₁
      | some v => wpAny (model prg w) A (letOwnedTupleGo target it v) (fun _ s₁' => wpAny (model prg w) A (assign target env v) (fun _ s₂ =>
          wpAny (model prg w) A (forIn ifs true fun c r => if r = true then do let ok ← isTrue c env (eval c env); pure (ForInStep.yield ok) else pure (ForInStep.yield r)) (fun ok s₃ =>
            if ok = true then wpAny (model prg w) A (eval elt env) (fun x s₄ =>
              wpAny (model prg w) A (call (.builtin "list.append") [acc, x]) (fun _ s₅ => ∃ m, m < n ∧ I m s₅) (notedBy (model prg w) A env fun e s' => R (.error e) s') s₄) (notedBy (model prg w) A env fun e s' => R (.error e) s') s₃
            else ∃ m, m < n ∧ I m s₃) (notedBy (model prg w) A env fun e s' => R (.error e) s') s₂) (notedBy (model prg w) A env fun e s' => R (.error e) s') s₁') (notedBy (model prg w) A env fun e s' => R (.error e) s') s₁) (notedBy (model prg w) A env fun e s' => R (.error e) s') s)
    (n : Nat) (h : I n s) :
    codeAny (model prg w) A (.compLoop (.ListComp elt [⟨target, iter, ifs, 0⟩] scope pos) 0 it acc env) R s := by
  refine codeAny_loop rfl I (fun n s hI => ?_) n h
  show wpAny _ A ((compTurn (.ListComp elt [⟨target, iter, ifs, 0⟩] scope pos) 0 it acc env).onRaise (fun x => do noteFrame x env; theTreesLotGoes x)) _ _ s
  refine wpAny_noted ?_
  rw [compTurn_list]
  refine wpAny_bind (wpAny_standAt (wpAny_bind (wpAny_mono (turn n s hI) (fun r s₁ h₁ => ?_) fun _ _ h' => h')))
  cases r with
  | none => exact wpAny_pure h₁
  | some v =>
    refine wpAny_bind (wpAny_mono h₁ (fun _ s₁' h₁' => ?_) fun _ _ h' => h')
    refine wpAny_bind (wpAny_mono h₁' (fun _ s₂ h₂ => wpAny_bind (wpAny_mono h₂ (fun ok s₃ h₃ => ?_) fun _ _ h' => h')) fun _ _ h' => h')
    cases ok with
    | false => exact wpAny_pure ⟨rfl, h₃⟩
    | true =>
      exact wpAny_bind (wpAny_bind (wpAny_mono h₃ (fun x s₄ h₄ => wpAny_bind (wpAny_mono h₄ (fun _ s₅ h₅ => wpAny_pure (wpAny_pure ⟨rfl, h₅⟩)) fun _ _ h' => h')) fun _ _ h' => h'))

def Self (w : World) (b : Shared) (A : Around) (I : Addr) (r : Res) : Prop := ∀ S C s Q E, Has I r S C → At b S s → Q (.ref I) s → wpAny (model prg w) A (pyIter (.ref I)) Q E s
theorem self_list {I a : Addr} {i : Nat} : Self w b A I (lit a i) := fun S C s Q E hm h hq => by
  obtain ⟨o, ho, hr⟩ := h.own _ hm.mem
  exact wpAny_pyIter_listiter ⟨o, ho, hr⟩ hq
theorem self_range {I : Addr} {x c : Int} {n i : Nat} : Self w b A I (rit x c n i) := fun S C s Q E hm h hq => p_rit h hm.mem hq

/-- what a turn of a comprehension has to show -/
def LcTurn (w : World) (b : Shared) (A : Around) (cenv : Env) (elt target : Expr) (ifs : List Expr) (I C D : Addr) (r : Res) (N : List Value → Led → Prop) (ys : List Value) (v : Value) (s : Shared) (E' : Value → Shared → Prop) : Prop :=
  wpAny (model prg w) A (letOwnedTupleGo target (.ref I) v) (fun _ s₁ => wpAny (model prg w) A (assign target cenv v) (fun _ s₂ =>
    wpAny (model prg w) A (forIn ifs true fun c r => if r = true then do let ok ← isTrue c cenv (eval c cenv); pure (ForInStep.yield ok) else pure (ForInStep.yield r)) (fun ok s₃ =>
      if ok = true then wpAny (model prg w) A (eval elt cenv) (fun x s₄ => ∃ m S', N (ys ++ [x]) S' ∧ At b ((C, nsr m) :: (I, r) :: (D, lst ys) :: S') s₄) E' s₃
      else ∃ m S', N ys S' ∧ At b ((C, nsr m) :: (I, r) :: (D, lst ys) :: S') s₃) E' s₂) E' s₁) E' s

def LcK (w : World) (A : Around) (E : Value → Shared → Prop) (env : Env) (use : Option (Value → Sem Unit)) (Qf : Value → Shared → Prop) (elt target iter : Expr) (ifs : List Expr) (scope : Scope) (pos : Pos) (cl : List (Str × Addr)) (it : Value) (s : Shared) : Prop :=
  wpAny (model prg w) A (newList []) (fun acc s₃ => wpAny (model prg w) A (newFunctionEnv scope env.globals cl [] env.qual none .none (some env)) (fun cenv s₄ =>
      codeAny (model prg w) A (.compStart (.ListComp elt [⟨target, iter, ifs, 0⟩] scope pos) 0 it acc { cenv with scope := relabel scope env }) (compPost (model prg w) A E use Qf acc cenv.locals) s₄) E s₃) E s
theorem lc_block {elt target iter : Expr} {ifs : List Expr} {scope : Scope} {pos : Pos} {cl : List (Str × Addr)} {use : Option (Value → Sem Unit)} {I : Addr} {n : Nat} {R : Nat → Res} {P : Nat → Value → Prop} {Src : Led → Prop} {S₀ : Led} {Qf : Value → Shared → Prop}
    (W : Steps w b A I n R P Src) (sf : Self w b A I (R 0)) (Inv : Nat → List Value → Led → Prop) (h : At b ((I, R 0) :: S₀) s) (h0 : Inv 0 [] S₀) (hn : n < 2 ^ 20)
    (hlen : ∀ i ys S, Inv i ys S → ys.length ≤ i)
    (hsrc : ∀ i ys S, Inv i ys S → Src S) (hmono : ∀ S S' : Led, (∀ p ∈ S, p ∈ S') → Src S → Src S')
    (hcell : ∀ y ∈ scope.names, y.2 ≠ .cell) (hkind : scope.kind = .function)
    (turn : ∀ i v ys S s m C D E', i < n → P i v → Inv i ys S → At b ((C, nsr m) :: (I, R (i + 1)) :: (D, lst ys) :: S) s → LcTurn w b A (compEnvC scope cl C env) elt target ifs I C D (R (i + 1)) (Inv (i + 1)) ys v s E')
    (fin : ∀ D C m ys S s, Inv n ys S → At b ((C, nsr m) :: (D, lst ys) :: S) s → compPost (model prg w) A E use Qf (.ref D) C (.ok .next) s) :
    LcK w A E env use Qf elt target iter ifs scope pos cl (.ref I) s := by
  unfold LcK
  refine wpAny_newList ?_ (Nat.zero_le _)
  have h1 := h.alloc (r := lst []) (tk := s.toks) (o := { cls := .type "list", data := .seq ([] : List Value).toArray }) ⟨0, rfl⟩
  generalize hD : s.heap.objs.size = D at h1 ⊢
  generalize hs1 : { s with heap := s.heap.push { cls := .type "list", data := .seq ([] : List Value).toArray } } = s₁
  have h1 : At b ((D, lst []) :: (I, R 0) :: S₀) s₁ := by rw [← hs1]; exact h1
  refine wpAny_newFunctionEnv hcell (by intro y hy; simp at hy) (fun h₂ hns hsb => ?_) hkind
  have h2 : At b ((s₁.heap.objs.size, nsr fun _ => none) :: (D, lst []) :: (I, R 0) :: S₀) { s₁ with heap := h₂, toks := s₁.toks + ([] : List (Str × Value)).length } := by
    refine h1.more (fun c o e => ?_) (Nat.le_refl _) ?_
    · exact hsb.extBut c o (Nat.ne_of_lt (Heap.lt_size e)) (Heap.get?_push_of_some _ e)
    · obtain ⟨o, es, ep, e, r⟩ := hns
      exact ⟨o, e, es, ep, r⟩
  generalize hC : s₁.heap.objs.size = C at h2 ⊢
  generalize { s₁ with heap := h₂, toks := s₁.toks + ([] : List (Str × Value)).length } = s₂ at h2 ⊢
  have h2 : At b ((C, nsr fun _ => none) :: (I, R 0) :: (D, lst []) :: S₀) s₂ := h2.perm (List.Perm.cons _ (List.Perm.swap _ _ _))
  have loop : codeAny (model prg w) A (.compLoop (.ListComp elt [⟨target, iter, ifs, 0⟩] scope pos) 0 (.ref I) (.ref D) (compEnvC scope cl C env)) (compPost (model prg w) A E use Qf (.ref D) C) s₂ := by
    refine comp_loop (fun k s => ∃ i ys S m, k + i = n ∧ Inv i ys S ∧ At b ((C, nsr m) :: (I, R i) :: (D, lst ys) :: S) s) (fun k s hI => ?_) n ⟨0, [], S₀, _, rfl, h0, h2⟩
    obtain ⟨i, ys, S, m, hk, hi, h⟩ := hI
    have hsS : Src ((C, nsr m) :: (I, R i) :: (D, lst ys) :: S) := hmono S _ (fun p hp => .tail _ (.tail _ (.tail _ hp))) (hsrc _ _ _ hi)
    cases k with
    | zero =>
      obtain rfl : i = n := by omega
      exact W.2 _ _ _ _ (hmono S _ (fun p hp => .tail _ (.tail _ (.tail _ hp))) (hsrc _ _ _ hi)) h.swap fun s' h' => fin _ _ _ _ _ _ hi h'
    | succ k =>
      refine W.1 i _ _ _ _ _ (by omega) hsS (.there .here) h fun v s' hp h' => ?_
      refine wpAny_mono (turn i v ys S s' m C D _ (by omega) hp hi h') (fun _ s₂ h₂ => ?_) fun _ _ e => e
      refine wpAny_mono h₂ (fun _ s₂ h₂ => ?_) fun _ _ e => e
      refine wpAny_mono h₂ (fun ok s₃ h₃ => ?_) fun _ _ e => e
      cases ok with
      | false =>
        simp only [Bool.false_eq_true, if_false] at h₃ ⊢
        obtain ⟨m', S', i1, i2⟩ := h₃
        exact ⟨k, by omega, i + 1, ys, S', m', by omega, i1, i2⟩
      | true =>
        simp only [if_true] at h₃ ⊢
        refine wpAny_mono h₃ (fun x s₄ h₄ => ?_) fun _ _ e => e
        obtain ⟨m', S', i1, i2⟩ := h₄
        refine b_append i2 (.there (.there .here)) (by have := hlen _ _ _ hi; omega) fun s₅ h₅ => ?_
        exact ⟨k, by omega, i + 1, ys ++ [x], S', m', by omega, i1, h₅⟩
  exact codeAny_compStart_list loop (sf _ _ _ _ _ (.there .here) h2 loop)

theorem lc_eval {elt target iter : Expr} {ifs : List Expr} {scope : Scope} {pos : Pos} {cl : List (Str × Addr)} {I : Addr} {n : Nat} {R : Nat → Res} {P : Nat → Value → Prop} {Src : Led → Prop} {S₀ : Led} {Qf : Value → Shared → Prop}
    (W : Steps w b A I n R P Src) (sf : Self w b A I (R 0)) (Inv : Nat → List Value → Led → Prop) (h : At b ((I, R 0) :: S₀) s) (h0 : Inv 0 [] S₀) (hn : n < 2 ^ 20)
    (hlen : ∀ i ys S, Inv i ys S → ys.length ≤ i)
    (hsrc : ∀ i ys S, Inv i ys S → Src S) (hmono : ∀ S S' : Led, (∀ p ∈ S, p ∈ S') → Src S → Src S')
    (turn : ∀ i v ys S s m C D E', i < n → P i v → Inv i ys S → At b ((C, nsr m) :: (I, R (i + 1)) :: (D, lst ys) :: S) s → LcTurn w b A (compEnvC scope cl C env) elt target ifs I C D (R (i + 1)) (Inv (i + 1)) ys v s E')
    (fin : ∀ D ys S s, Inv n ys S → At b ((D, lst ys) :: S) s → Qf (.ref D) s)
    (hcell : (scope.names.all fun x => x.2 != .cell) = true := by rfl) (hkind : scope.kind = .function := by rfl) : LcK w A E env none Qf elt target iter ifs scope pos cl (.ref I) s :=
  lc_block W sf Inv h h0 hn hlen hsrc hmono (fun y hy => by simpa using List.all_eq_true.mp hcell y hy) hkind turn fun D C m ys S s hi h => ⟨m, h.ns (.head _), fun h' hs => fin D ys S _ hi (h.lose (tk := s.toks) hs.extBut)⟩
theorem lc_use {elt target iter : Expr} {y : Str} {py : Pos} {ifs : List Expr} {scope : Scope} {pos : Pos} {cl : List (Str × Addr)} {I L : Addr} {n : Nat} {R : Nat → Res} {P : Nat → Value → Prop} {Src : Led → Prop} {S₀ : Led} {Qf : Value → Shared → Prop}
    (W : Steps w b A I n R P Src) (sf : Self w b A I (R 0)) (Inv : Nat → List Value → Led → Prop) (h : At b ((I, R 0) :: S₀) s) (h0 : Inv 0 [] S₀) (hn : n < 2 ^ 20)
    (hlen : ∀ i ys S, Inv i ys S → ys.length ≤ i)
    (hsrc : ∀ i ys S, Inv i ys S → Src S) (hmono : ∀ S S' : Led, (∀ p ∈ S, p ∈ S') → Src S → Src S')
    (turn : ∀ i v ys S s m C D E', i < n → P i v → Inv i ys S → At b ((C, nsr m) :: (I, R (i + 1)) :: (D, lst ys) :: S) s → LcTurn w b A (compEnvC scope cl C env) elt target ifs I C D (R (i + 1)) (Inv (i + 1)) ys v s E')
    (hL : env.locals = L)
    (fin : ∀ D ys S, Inv n ys S → ∃ m Cx, Has L (nsr m) S Cx ∧ ∀ s, At b ((D, lst ys) :: Cx (nsr fun z => if z = y then some (.ref D) else m z)) s → Qf .none s)
    (hcell : (scope.names.all fun x => x.2 != .cell) = true := by rfl) (hkind : scope.kind = .function := by rfl) (hy : env.kindOf y = some .local := by rfl)
    (hp : (env.scope.kind == .class || (env.scope.kind == .module && env.locals != env.globals)) = false := by rfl) : LcK w A E env (some (assign (.Name y py) env)) Qf elt target iter ifs scope pos cl (.ref I) s :=
  lc_block W sf Inv h h0 hn hlen hsrc hmono (fun y hy => by simpa using List.all_eq_true.mp hcell y hy) hkind turn fun D C m ys S s hi h => by
    obtain ⟨m₀, Cx, hx, hf⟩ := fin D ys S hi
    refine wpAny_assign_Name (st_local h hL (.there (.there hx)) (fun s' h' => ?_) hy hp)
    exact ⟨m, h'.ns (.head _), fun h₂ hs => hf _ (h'.lose (tk := s'.toks) hs.extBut)⟩
theorem r_lc {elt target iter : Expr} {ifs : List Expr} {scope : Scope} {pos : Pos} {cl : List (Str × Addr)} {Q : Value → Shared → Prop} (hclos : closureFor scope env = pure cl)
    (h : wpAny (model prg w) A (eval iter env) (fun x s₁ => wpAny (model prg w) A (pyIter x) (fun it s₂ => LcK w A E env none Q elt target iter ifs scope pos cl it s₂) E s₁) E s)
    (hnames : (scope.names.all fun x => x.2 != .local || decide (scope.names.lookup x.1 = some .local)) = true := by rfl) (hkind : scope.kind = .function := by rfl)
    (hs : ∀ x, foldedSetIterable iter env x = pure x := by intro _; rfl) : wpAny (model prg w) A (eval (.ListComp elt [⟨target, iter, ifs, 0⟩] scope pos) env) Q E s := by
  show wpAny _ A (comprehension (.ListComp elt [⟨target, iter, ifs, 0⟩] scope pos) scope env _ (newList []) false (eval iter env)) _ _ s
  exact wpAny_comprehension_free rfl hs hclos hkind (fun x hx hl => by have := List.all_eq_true.mp hnames x hx; simpa [hl] using this) h
theorem x_assign_lc {elt target iter : Expr} {y : Str} {py : Pos} {ifs : List Expr} {scope : Scope} {pos spos : Pos} {cl : List (Str × Addr)} {rest : List Stmt} {Q : Flow → Shared → Prop} (hclos : closureFor scope env = pure cl)
    (h : wpAny (model prg w) A (eval iter env) (fun x s₁ => wpAny (model prg w) A (pyIter x) (fun it s₂ => LcK w A E env (some (assign (.Name y py) env)) (fun _ s' => wpAny (model prg w) A (execs rest env) Q E s') elt target iter ifs scope pos cl it s₂) E s₁) E s)
    (hsw : swapsWith (.ListComp elt [⟨target, iter, ifs, 0⟩] scope pos) (some (.Name y py)) spos.line env = pure true := by rfl)
    (hnames : (scope.names.all fun x => x.2 != .local || decide (scope.names.lookup x.1 = some .local)) = true := by rfl) (hkind : scope.kind = .function := by rfl)
    (hs : ∀ x, foldedSetIterable iter env x = pure x := by intro _; rfl) :
    wpAny (model prg w) A (execs (.Assign [.Name y py] (.ListComp elt [⟨target, iter, ifs, 0⟩] scope pos) spos :: rest) env) Q E s := by
  refine wpAny_execs_cons ?_
  rw [exec_Assign_Name_used _ _ _ _ hsw]
  refine wpAny_bind (wpAny_standAt (wpAny_bind ?_))
  show wpAny _ A (do let _ ← comprehension (.ListComp elt [⟨target, iter, ifs, 0⟩] scope pos) scope env _ (newList []) false (eval iter env) (some (assign (.Name y py) env))) _ _ s
  refine wpAny_bind (wpAny_mono (wpAny_comprehension_free (use := some (assign (.Name y py) env)) (Q := fun _ s' => wpAny (model prg w) A (execs rest env) Q E s') rfl hs hclos hkind
    (fun x hx hl => by have := List.all_eq_true.mp hnames x hx; simpa [hl] using this) h) (fun _ s' hq => wpAny_pure (wpAny_pure hq)) fun _ _ e => e)
end
noncomputable def envG (P : Params) (f L : Addr) : Env := callEnvC (fdAt P f) L f
theorem envG_loc {P : Params} {f L : Addr} : (envG P f L).locals = L := rfl
theorem compEnvC_loc {scope : Scope} {cl : List (Str × Addr)} {C : Addr} {env : Env} : (compEnvC scope cl C env).locals = C := rfl
section
variable {w : World} {mg mb : Str → Option Value} {b s : Shared} {S : Led} {A : Around} {E : Value → Shared → Prop} {env : Env}
def cellsL (cs : List (Str × Addr)) (cm : Str → Option Value) : Led := cs.map fun x => (x.2, cel (cm x.1))
theorem At.cells {S : Led} {h' : Heap} {tk : Nat} {L : Addr} {m cm : Str → Option Value} (h : At b S s) (hk : ∀ c o, s.heap.get? c = some o → h'.get? c = some o) (hL : s.heap.objs.size ≤ L) (hn : h'.Ns L m) :
    ∀ (cs : List (Str × Addr)), (∀ n c, (n, c) ∈ cs → h'.IsCell c (cm n) ∧ L < c) → (cs.Pairwise fun x y => x.2 ≠ y.2) → At b ((L, nsr m) :: (cellsL cs cm ++ S)) { s with heap := h', toks := tk } := by
  intro cs hc hp
  have hmem : ∀ p ∈ cellsL cs cm, (∃ o, h'.get? p.1 = some o ∧ p.2 o) ∧ L < p.1 := fun p hpm => by
    obtain ⟨x, hx, rfl⟩ := List.mem_map.mp hpm
    obtain ⟨⟨o, ho, hd⟩, hl⟩ := hc x.1 x.2 hx
    exact ⟨⟨o, ho, hd⟩, hl⟩
  refine ⟨fun c o e => hk c o (h.keep c o e), fun p hp' => ?_, fun p hp' => ?_, ?_, h.gens, h.os⟩
  · rcases List.mem_cons.mp hp' with rfl | hp'
    · obtain ⟨o, es, ep, e, r⟩ := hn
      exact ⟨o, e, es, ep, r⟩
    · rcases List.mem_append.mp hp' with hp' | hp'
      · exact (hmem p hp').1
      · obtain ⟨o, ho, hr⟩ := h.own p hp'
        exact ⟨o, hk _ _ ho, hr⟩
  · rcases List.mem_cons.mp hp' with rfl | hp'
    · exact h.none_of_size hL
    · rcases List.mem_append.mp hp' with hp' | hp'
      · exact h.none_of_size (Nat.le_of_lt (Nat.lt_of_le_of_lt hL (hmem p hp').2))
      · exact h.fresh p hp'
  · rw [List.map_cons, List.nodup_cons, List.map_append]
    refine ⟨fun hm => ?_, List.nodup_append.mpr ⟨?_, h.nodup, fun a ha c hc' e => ?_⟩⟩
    · rcases List.mem_append.mp hm with hm | hm
      · obtain ⟨p, hpm, e⟩ := List.mem_map.mp hm
        have h1 : L < p.1 := (hmem p hpm).2
        have e : p.1 = L := e
        rw [e] at h1
        exact Nat.lt_irrefl _ h1
      · exact h.notin hL hm
    · unfold cellsL
      rw [List.map_map]
      show (cs.map fun x => x.2).Nodup
      rw [List.Nodup, List.pairwise_map]
      exact hp
    · obtain ⟨p, hpm, rfl⟩ := List.mem_map.mp ha
      obtain ⟨q, hqm, rfl⟩ := List.mem_map.mp hc'
      have h1 : L < p.1 := (hmem p hpm).2
      have h2 : q.1 < s.heap.objs.size := h.lt (r := q.2) hqm
      have e : p.1 = q.1 := e
      rw [e] at h1
      exact Nat.lt_irrefl _ (Nat.lt_trans (Nat.lt_of_lt_of_le h2 hL) h1)
theorem call_c {f : Addr} {o : Obj} {fd : FuncData} {body : List Stmt} {args : List Value} {Q : Value → Shared → Prop} {n : Nat} (names : List Str) (O : Ok w mg mb b) (h : At b S s) (room : Room A (n + 1))
    (ho : (KK w.params).lookup f = some o) (hd : o.data = .func fd) (hcode : codeIn (KK w.params) fd.code fd.qualname = true) (hbody : fd.body = .stmts body) (hclo : fd.closure = [])
    (hbind : bindArgs fd ⟨args, []⟩ = pure (names.zip args))
    (hloc : ∀ k, (names.all fun x => decide (fd.scope.names.lookup x = some .local) || (decide (fd.scope.names.lookup x = some .cell) && ((cellsFrom k fd.scope.names []).lookup x).isSome)) = true)
    (hnd : ∀ k, decide ((cellsFrom k fd.scope.names []).map (·.1)).Nodup = true)
    (hq : ∀ L A s', Room A n → At b ((L, nsr (bindL (envG w.params f L).kindOf (names.zip args) fun _ => none)) :: (cellsL (cellsFrom (L + 1) fd.scope.names []) (bindC (envG w.params f L).kindOf (names.zip args) fun _ => none) ++ S)) s' →
      wpAny (model prg w) A (execs body (envG w.params f L)) (fun fl s'' => Q (match fl with | .ret v => v | _ => .none) s'') (fun _ _ => False) s')
    (hco : fd.scope.isCoroutine = false := by rfl) (hgen : fd.scope.isGenerator = false := by rfl) (hk : fd.scope.kind = .function := by rfl) :
    wpAny (model prg w) A (call (.ref f) args) Q E s := by
  refine wpAny_call (codeAny_call_cells (fd := fd) (binds := names.zip args) (body := body) (by have := room.depth; omega) (h.keep _ _ (O.K _ _ ho)) hd (O.lim.keeps h.keep) ((codeRec_of O.K hcode).keeps h.keep) hbody hbind hclo
    (fun x hx => ?_) (fun s₁ X => ?_) hco hgen hk)
  · have := List.all_eq_true.mp (hloc (s.heap.objs.size + 1)) x.1 (List.of_mem_zip (a := x.1) (b := x.2) hx).1
    simpa using this
  · have e : ∀ L, callEnvC fd L f = envG w.params f L := fun L => by unfold envG; rw [fdAt_of ho hd]
    have room' := room.deeper (env := callEnvC fd s.heap.objs.size f)
    generalize A.deeper (callEnvC fd s.heap.objs.size f) = A' at room' ⊢
    rw [e] at X ⊢
    obtain ⟨h₁, tk, rfl, hk₁⟩ := X.done
    have hcs : (envG w.params f s.heap.objs.size).cells = cellsFrom (s.heap.objs.size + 1) fd.scope.names [] := by rw [← e]; rfl
    refine wpAny_mono (hq s.heap.objs.size A' _ room' (h.cells hk₁ (Nat.le_refl _) X.toInCall.ns _ (fun nm c hm => ?_) ?_)) (fun fl s' hf => hf) fun _ _ x => x.elim
    · have hm' : (nm, c) ∈ (envG w.params f s.heap.objs.size).cells := by rw [hcs]; exact hm
      refine ⟨X.cell nm c ?_, X.above nm c hm'⟩
      rw [hcs]
      exact lookup_of_mem_nodup (of_decide_eq_true (hnd _)) hm
    · rw [← hcs]; exact X.apart
end
local macro_rules | `(tactic| kt_at_notin) => `(tactic| first | exact envF_loc | exact envG_loc | exact compEnvC_loc | exact rfl)
local macro_rules | `(tactic| kt_len) => `(tactic| refine n_cell (by assumption) rfl (by kt_at_item) ?_)
local macro_rules | `(tactic| regstrif_slice) => `(tactic| ((with_reducible show wpAny _ _ (storeName _ _ _) _ _ _); first | (refine st_local (by assumption) (by kt_at_notin) (by kt_at_method) ?_; intro _ _) | (refine st_cell (by assumption) rfl (by kt_at_method) ?_; intro _ _)))
section
variable {w : World} {mg mb : Str → Option Value} {b s : Shared} {S : Led} {A : Around} {E : Value → Shared → Prop} {env : Env}
theorem b_list {a : Addr} {vs : List Value} {Q : Value → Shared → Prop} (h : At b S s) (hm : (a, lst vs) ∈ S) (hfit : vs.length < 2 ^ 20) (hq : ∀ D s', At b ((D, lst vs) :: S) s' → Q (.ref D) s') :
    wpAny (model prg w) A (call (.type "list") [.ref a]) Q E s := by
  obtain ⟨n, ho⟩ := h.plain hm
  exact call_list_seq (hsz := by simp [sizeLine]; omega) a (.inl rfl) ho rfl rfl fun h' c' hk hD => hq _ _ (h.more (tk := s.toks) hk (Nat.le_refl _) ⟨_, hD, _, rfl⟩)

/-- popping k times -/
def popsF {α : Type} (lt : α → α → Bool) : Nat → List α → List α
  | 0, _ => []
  | k + 1, vs => match vs.getLast? with
    | some x => (popF lt vs.dropLast x).1 :: popsF lt k (popF lt vs.dropLast x).2
    | none => []
theorem pop_len {α : Type} {lt : α → α → Bool} (vs : List α) (x : α) : (popF lt vs x).2.length = vs.length := by
  cases vs with
  | nil => rfl
  | cons y r => show (siftupF lt (x :: r) 0).length = _; rw [siftup_len]; rfl
theorem pop_mem {α : Type} {lt : α → α → Bool} {p : α → Prop} (vs : List α) (x : α) (h : ∀ v ∈ vs ++ [x], p v) : (∀ v ∈ (popF lt vs x).2, p v) ∧ p (popF lt vs x).1 := by
  cases vs with
  | nil => exact ⟨(fun v hv => nomatch hv), h x (by simp)⟩
  | cons y r =>
    refine ⟨show ∀ v ∈ siftupF lt (x :: r) 0, p v from siftup_mem _ _ fun v hv => h v ?_, h y (by simp)⟩
    simp at hv ⊢
    rcases hv with hv | hv <;> simp [hv]
theorem hf_len {α : Type} {lt : α → α → Bool} : ∀ (k : Nat) (vs : List α), (hfLoop lt k vs).length = vs.length
  | 0, _ => rfl
  | k + 1, vs => by rw [hfLoop, hf_len k, siftup_len]
theorem hf_mem {α : Type} {lt : α → α → Bool} {p : α → Prop} : ∀ (k : Nat) (vs : List α), (∀ v ∈ vs, p v) → ∀ v ∈ hfLoop lt k vs, p v
  | 0, _, h => h
  | k + 1, vs, h => by rw [hfLoop]; exact hf_mem k _ (siftup_mem _ _ h)
theorem t_off {vs : List Value} {a : Addr} {Q : Value → Shared → Prop} (O : Ok w mg mb b) (h : At b S s) (room : Room A 4) (hm : (a, lst vs) ∈ S) (hints : ∀ v ∈ vs, isI v) (hlen : vs.length < 2 ^ 18)
    (hq : ∀ D s', At b ((D, lst (popsF ltI vs.length (hfLoop ltI (vs.length / 2) vs))) :: S) s' → Q (.ref D) s') : wpAny (model prg w) A (call (.ref 129) [.ref a]) Q E s := by
  refine call_c ["items"] O h room rfl rfl rfl rfl rfl rfl (by intro k; rfl) (by intro k; rfl) ?_
  clear h room
  intro L A s room h
  replace h : At b ((L, nsr fun y => if y = "items" then some (.ref a) else none) :: (L + 1, cel none) :: S) s := h
  repeat tb_rel
  refine b_list (by assumption) (by kt_at_item) (by omega) ?_
  intro D _ _
  repeat tb_rel
  refine t_heapify O (by assumption) room .here hints (by omega) ?_
  intro _ _
  repeat tb_rel
  refine r_lc rfl ?_
  repeat tb_rel
  refine p_iter (by assumption) (by kt_at_item) ?_
  intro I s h
  refine lc_eval (st_list (vs := vs) room.hand) self_list (fun i ys S' => ∃ hs, S' = (D, lst hs) :: (L, nsr fun y => if y = "items" then some (.ref a) else none) :: (L + 1, cel (some (.ref D))) :: S ∧ hs.length + i = vs.length ∧
    (∀ v ∈ hs, isI v) ∧ ys ++ popsF ltI (vs.length - i) hs = popsF ltI vs.length (hfLoop ltI (vs.length / 2) vs) ∧ ys.length = i) h ⟨_, rfl, by rw [hf_len]; rfl, hf_mem _ _ hints, rfl, rfl⟩ (by omega) ?_ ?_ ?_ ?_ ?_
  · rintro i ys S' ⟨hs, rfl, _, _, _, e⟩; omega
  · rintro i ys S' ⟨hs, rfl, _⟩
    exact .tail _ (.tail _ (.tail _ hm))
  · intro S S' hs h; exact hs _ h
  · clear h
    rintro i v ys S' s m C D' E' hi hv ⟨hs, rfl, hl, hI, he, hy⟩ h
    unfold LcTurn
    refine wpAny_pure ?_
    repeat tb_rel
    refine wpAny_tests_nil ?_
    repeat tb_rel
    obtain ⟨k, hk⟩ : ∃ k, vs.length - i = k + 1 := ⟨vs.length - i - 1, by omega⟩
    obtain ⟨hs', x, rfl⟩ : ∃ hs' x, hs = hs' ++ [x] := ⟨hs.dropLast, hs.getLast (by intro e; simp [e] at hl; omega), (List.dropLast_concat_getLast _).symm⟩
    rw [hk] at he
    simp only [popsF, List.getLast?_append, List.getLast?_singleton, Option.some_or, List.dropLast_concat] at he
    have hpm := pop_mem (lt := ltI) hs' x hI
    simp only [List.length_append, List.length_singleton] at hl
    refine t_heappop O (by assumption) room (.there (.there (.there .here))) hI (by omega) ?_
    intro s h
    refine ⟨_, _, ?_, h⟩
    refine ⟨_, rfl, by rw [pop_len]; omega, hpm.1, ?_, by simp [hy]⟩
    rw [show vs.length - (i + 1) = k by omega, List.append_assoc]
    exact he
  · clear h
    rintro D' ys S' s ⟨hs, rfl, hl, hI, he, hy⟩ h
    rw [Nat.sub_self] at he
    have he : ys = popsF ltI vs.length (hfLoop ltI (vs.length / 2) vs) := by simpa [popsF] using he
    rw [he] at h
    refine hq _ _ (h.sub ?_)
    exact .cons_cons _ (.cons _ (.cons _ (.cons _ (List.Sublist.refl _))))
end
def srt (ns : List Int) : List Int := ns.mergeSort (fun a b => decide (a ≤ b))
theorem srt_perm (ns : List Int) : (srt ns).Perm ns := List.mergeSort_perm _ _
theorem srt_sorted (ns : List Int) : (srt ns).Pairwise (· ≤ ·) := by
  have := List.pairwise_mergeSort (le := fun a b : Int => decide (a ≤ b)) (by intro a b c; simp; omega) (by intro a b; simp; omega) ns
  exact this.imp (by intro a b h; simpa using h)
theorem srt_unique {ns ms : List Int} (hp : ms.Perm ns) (hs : ms.Pairwise (· ≤ ·)) : ms = srt ns :=
  List.Perm.eq_of_pairwise (le := (· ≤ ·)) (fun a b _ _ h1 h2 => Int.le_antisymm h1 h2) hs (srt_sorted ns) (hp.trans (srt_perm ns).symm)
theorem srt_len (ns : List Int) : (srt ns).length = ns.length := (srt_perm ns).length_eq
theorem ints_of : ∀ {vs : List Value}, (∀ v ∈ vs, isI v) → IntsAre vs (vs.map iv)
  | [], _ => .nil
  | v :: r, h => by
    obtain ⟨i, t, rfl⟩ := h v (.head _)
    exact .cons i t (ints_of fun u hu => h u (.tail _ hu))
theorem of_ints : ∀ {vs : List Value} {ns : List Int}, IntsAre vs ns → (∀ v ∈ vs, isI v) ∧ vs.map iv = ns
  | _, _, .nil => ⟨(fun v hv => nomatch hv), rfl⟩
  | _, _, .cons i t r => by
    obtain ⟨h1, h2⟩ := of_ints r
    refine ⟨fun v hv => ?_, by simp [h2, iv]⟩
    rcases List.mem_cons.mp hv with rfl | hv
    · exact ⟨i, t, rfl⟩
    · exact h1 v hv
section
variable {w : World} {mg mb : Str → Option Value} {b s : Shared} {S : Led} {A : Around} {E : Value → Shared → Prop} {env : Env}
theorem b_sorted {a : Addr} {vs : List Value} {Q : Value → Shared → Prop} (h : At b S s) (hm : (a, lst vs) ∈ S) (hi : ∀ v ∈ vs, isI v) (h64 : vs.length < 64)
    (hq : ∀ D ws s', (∀ v ∈ ws, isI v) → ws.map iv = srt (vs.map iv) → At b ((D, lst ws) :: S) s' → Q (.ref D) s') : wpAny (model prg w) A (call (.builtin "sorted") [.ref a]) Q E s := by
  refine sorted_ints (h.list hm) (ints_of hi) h64 fun out ns' a1 a2 a3 => ?_
  obtain ⟨e, he⟩ := sortedAll_at s.heap vs out
  obtain ⟨b1, b2⟩ := of_ints a1
  exact hq _ out.toList _ b1 (b2.trans (srt_unique a2 a3)) (h.more (tk := s.toks) (fun _ _ => sortedAll_old) (Nat.le_succ _) ⟨_, he, e, by simp⟩)
theorem t_low {vs : List Value} {a : Addr} {Q : Value → Shared → Prop} (O : Ok w mg mb b) (h : At b S s) (room : Room A 1) (hm : (a, lst vs) ∈ S) (hi : ∀ v ∈ vs, isI v) (h64 : vs.length < 64) {k : Nat} (hk : vs.length = 2 * (k + 1))
    (hq : ∀ v s', isI v → (srt (vs.map iv))[k]? = some (iv v) → At b S s' → Q v s') : wpAny (model prg w) A (call (.ref 110) [.ref a]) Q E s := by
  refine call_d ["data"] O h room rfl rfl rfl rfl rfl rfl rfl ?_
  clear h room
  intro L A s room h
  repeat tb_rel
  refine b_sorted (by assumption) (by kt_at_item) hi h64 ?_
  intro D ws _ hw he _
  have hlen : ws.length = vs.length := by have := congrArg List.length he; simpa [srt_len] using this
  repeat tb_rel
  refine b_len (by assumption) (by kt_at_item) (by omega) ?_
  intro _ _ _
  repeat tb_rel
  split
  · rename_i hc
    have hc := eq_of_beq hc
    omega
  · repeat tb_rel
    split
    · rename_i hc
      have hc := eq_of_beq hc
      rw [Int.fmod_eq_emod_of_nonneg _ (by decide)] at hc
      omega
    · repeat tb_rel
      have hi' : ((ws.length : Int).fdiv 2 - 1) = (k : Nat) := by rw [Int.fdiv_eq_ediv_of_nonneg _ (by decide)]; omega
      refine g_sub (k := k) (v := ws[k]'(by omega)) (by assumption) (by kt_at_item) hi' (List.getElem?_eq_getElem _) (by omega) ?_
      rename_i s h
      refine hq _ _ (hw _ (List.getElem_mem _)) ?_ h.tail.tail
      rw [← he, List.getElem?_map, List.getElem?_eq_getElem (by omega)]
      rfl
theorem t_high {vs : List Value} {a : Addr} {Q : Value → Shared → Prop} (O : Ok w mg mb b) (h : At b S s) (room : Room A 1) (hm : (a, lst vs) ∈ S) (hi : ∀ v ∈ vs, isI v) (h64 : vs.length < 64) {k : Nat} (hk : vs.length = 2 * (k + 1))
    (hq : ∀ v s', isI v → (srt (vs.map iv))[k + 1]? = some (iv v) → At b S s' → Q v s') : wpAny (model prg w) A (call (.ref 117) [.ref a]) Q E s := by
  refine call_d ["data"] O h room rfl rfl rfl rfl rfl rfl rfl ?_
  clear h room
  intro L A s room h
  repeat tb_rel
  refine b_sorted (by assumption) (by kt_at_item) hi h64 ?_
  intro D ws _ hw he _
  have hlen : ws.length = vs.length := by have := congrArg List.length he; simpa [srt_len] using this
  repeat tb_rel
  refine b_len (by assumption) (by kt_at_item) (by omega) ?_
  intro _ _ _
  repeat tb_rel
  split
  · rename_i hc
    have hc := eq_of_beq hc
    omega
  · repeat tb_rel
    have hi' : ((ws.length : Int).fdiv 2) = (k + 1 : Nat) := by rw [Int.fdiv_eq_ediv_of_nonneg _ (by decide)]; omega
    refine g_sub (k := k + 1) (v := ws[k + 1]'(by omega)) (by assumption) (by kt_at_item) hi' (List.getElem?_eq_getElem _) (by omega) ?_
    rename_i s h
    refine hq _ _ (hw _ (List.getElem_mem _)) ?_ h.tail.tail
    rw [← he, List.getElem?_map, List.getElem?_eq_getElem (by omega)]
    rfl
def cmp3 (x y : Int) : Int := if y < x then 1 else if x < y then -1 else 0
theorem t_cmp {x y : Int} {t u : Tok} {Q : Value → Shared → Prop} (O : Ok w mg mb b) (h : At b S s) (room : Room A 1) (hq : ∀ t s', At b S s' → Q (.int (cmp3 x y) t) s') : wpAny (model prg w) A (call (.ref 28) [.int x t, .int y u]) Q E s := by
  refine call_d ["x", "y"] O h room rfl rfl rfl rfl rfl rfl rfl ?_
  clear h room
  intro L A s room h
  repeat tb_rel
  refine PyProof.Rows.sub_bool ?_
  have e : b2i (decide (y < x)) - b2i (decide (x < y)) = cmp3 x y := by
    unfold cmp3 b2i
    split <;> split <;> simp_all <;> omega
  rw [e]
  exact hq _ _ h.tail.tk
end
/-- the stack's frames lie in the ledger -/
def Frames (l : List Env) (S : Led) : Prop := ∀ env ∈ l, env.scope.kind ≠ .module ∧ ∃ L m, env.frame = some L ∧ (L, nsr m) ∈ S
theorem Frames.sub {l : List Env} {S S' : Led} (h : Frames l S) (hs : ∀ p ∈ S, p ∈ S') : Frames l S' := fun env he => let ⟨a, L, m, b, c⟩ := h env he; ⟨a, L, m, b, hs _ c⟩
theorem mem_eq : ∀ {S : Led}, (S.map (·.1)).Nodup → ∀ {p q : Addr × Res}, p ∈ S → q ∈ S → p.1 = q.1 → p = q
  | [], _, _, _, hp, _, _ => nomatch hp
  | x :: r, hn, p, q, hp, hq, e => by
    rw [List.map_cons, List.nodup_cons] at hn
    rcases List.mem_cons.mp hp with hp' | hp' <;> rcases List.mem_cons.mp hq with hq' | hq'
    · rw [hp', hq']
    · exact absurd (List.mem_map.mpr ⟨q, hq', by rw [← e, hp']⟩) hn.1
    · exact absurd (List.mem_map.mpr ⟨p, hp', by rw [e, hq']⟩) hn.1
    · exact mem_eq hn.2 hp' hq' e
section
variable {w : World} {mg mb : Str → Option Value} {b s : Shared} {S : Led} {A : Around} {E : Value → Shared → Prop} {env : Env}
theorem At.other {h' : Heap} {tk : Nat} {c : Addr} (h : At b S s) (hs : Heap.SameBut c s.heap h') (h1 : ∀ p ∈ S, p.1 ≠ c) (h2 : b.heap.get? c = none) : At b S { s with heap := h', toks := tk } :=
  ⟨fun a o e => (hs.2 a (fun z => by rw [z, h2] at e; cases e)).trans (h.keep a o e), fun p hp => let ⟨o, ho, hr⟩ := h.own p hp; ⟨o, (hs.2 p.1 (h1 p hp)).trans ho, hr⟩, h.fresh, h.nodup, h.gens, h.os⟩
theorem note_first {base : Heap} {env : Env} {outer : List Env} {L e : Addr} {oe : Obj} {vs : Array Value} {M : Model} {Q : Unit → Shared → Prop}
    (hfr : A.frames = some (env :: outer)) (hl : s.heap.FunFrames base (env :: outer)) (hf : env.frame = some L)
    (he : s.heap.get? e = some oe) (hkb : base.StaysIn s.heap) (hen : base.get? e = none) (hd : oe.data = .fields vs) (h1 : vs[1]? = some .none)
    (h : ∀ h', Heap.Left base (env :: outer) e oe.cls s.heap h' → Q () { s with heap := h' }) : wpAny M A (noteFrame (.ref e) env) (fun _ s' => wpAny M A (setFlight (.ref e) none) Q E s') E s := by
  unfold noteFrame
  simp only [hf]
  refine wpAny_bind (wpAny_field he hd h1 ?_)
  rw [if_neg (by decide)]
  exact wpAny_newEntry hfr hl hf he hkb hen hd (Array.getElem?_eq_some_iff.mp h1).1 h
theorem exc_ve : isSubtype (.type "ValueError") (.type "BaseException") = pure true := by rw [isSubtype_type]; kernel_rfl
theorem exc_nt : isSubtype (.type ((Manifest.find? "ValueError").elim "type" fun y => y.metatype)) (.type "tuple") = pure false := by rw [show ((Manifest.find? "ValueError").elim "type" fun y => y.metatype) = "type" by decide +kernel, isSubtype_type]; kernel_rfl
theorem exc_self : isSubtype (.type "ValueError") (.type "ValueError") = pure true := by rw [isSubtype_type]; kernel_rfl
theorem funFrames_of {base : Heap} {h : Heap} : ∀ {l : List Env}, (∀ env ∈ l, env.scope.kind ≠ .module ∧ ∃ L o, env.frame = some L ∧ base.get? L = none ∧ h.get? L = some o ∧ ∀ vs, o.data ≠ .fields vs) → h.FunFrames base l
  | [], _ => trivial
  | env :: r, hx => ⟨(hx env (.head _)).1, (hx env (.head _)).2, funFrames_of fun e he => hx e (.tail _ he)⟩
theorem nsr_data {m : Str → Option Value} {o : Obj} (h : nsr m o) : ∀ vs, o.data ≠ .fields vs := by
  obtain ⟨es, ep, hd, _⟩ := h
  intro vs q
  rw [hd] at q; cases q
theorem catch_ve {outer : List Env} {e : Addr} {h₁ : Heap} {tk : Nat} {np pos : Pos} {b₀ : Stmt} {suite : List Stmt} {Q : Flow → Shared → Prop} (O : Ok w mg mb b) (h : At b S s) (hfr : A.frames = some (env :: outer)) (fr : Frames (env :: outer) S)
    (hx : Heap.NewExc s.heap h₁ e "ValueError")
    (k : ∀ s' A' E', At b S s' → wpAny (model prg w) A' (execs (b₀ :: suite) env) Q E' s')
    (hg : env.globals = mainGlobals := by rfl) (hb : env.builtins = builtinsNs := by rfl) (hk : env.scope.kind = .function := by rfl) (hl : env.kindOf "ValueError" = some .globalImplicit := by rfl) :
    wpAny (model prg w) A (noteFrame (.ref e) env) (fun _ s₂ => wpAny (model prg w) A (setFlight (.ref e) none) (fun _ s₃ =>
      wpAny (model prg w) A (handleBy (.ref e) env [.ExceptHandler (some (.Name "ValueError" np)) none (b₀ :: suite) pos]) Q E s₃) E s₂) E { s with heap := h₁, toks := tk } := by
  obtain ⟨ob, t, he, hcls, hd⟩ := hx.there
  obtain ⟨_, L, mL, hf, hmL⟩ := fr env (.head _)
  let fs := (env :: outer).filterMap (·.frame)
  have hfs : ∀ a ∈ fs, ∃ m, (a, nsr m) ∈ S := fun a ha => by
    obtain ⟨e', he', hf'⟩ := List.mem_filterMap.mp ha
    obtain ⟨_, L', m', h1, h2⟩ := fr e' he'
    rw [h1] at hf'; cases hf'
    exact ⟨m', h2⟩
  have hst : (hideAll s.heap fs).StaysIn h₁ := fun c o e => hx.keeps c o (of_hideAll _ e)
  have hen : (hideAll s.heap fs).get? e = none := by
    cases q : (hideAll s.heap fs).get? e with
    | none => rfl
    | some o => have := of_hideAll _ q; rw [hx.new] at this; cases this
  have hff : h₁.FunFrames (hideAll s.heap fs) (env :: outer) := funFrames_of fun e' he' => by
    obtain ⟨a1, L', m', h1, h2⟩ := fr e' he'
    obtain ⟨o, ho, hn⟩ := h.own _ h2
    exact ⟨a1, L', o, h1, hideAll_none _ (List.mem_filterMap.mpr ⟨e', he', h1⟩), hx.keeps _ _ ho, nsr_data hn⟩
  refine note_first (base := hideAll s.heap fs) hfr hff hf he hst hen hd rfl fun h₂ hL => ?_
  obtain ⟨st, _, ⟨oe, vs, T, oT, ts, he2, hc2, hd2, hv1, hbT, hTe, hT, hdT, h3⟩, hsl⟩ := hL
  have A2 : At b S { s with heap := h₂, toks := tk } := by
    refine ⟨fun c o e => st c o (hideAll_get _ (h.keep c o e) fun hm => ?_), fun p hp => ?_, h.fresh, h.nodup, h.gens, h.os⟩
    · obtain ⟨m', hm'⟩ := hfs c hm
      have := h.fresh _ hm'
      rw [e] at this; cases this
    · obtain ⟨o, ho, hr⟩ := h.own p hp
      by_cases hm : p.1 ∈ fs
      · obtain ⟨m', hm'⟩ := hfs _ hm
        have h2 : p.2 = nsr m' := congrArg (·.2) (mem_eq h.nodup hp hm' rfl)
        rw [h2] at hr ⊢
        obtain ⟨sl, hs'⟩ := hsl _ _ (hx.keeps _ _ ho) (nsr_data hr)
        exact ⟨_, hs', hr⟩
      · exact ⟨o, st _ _ (hideAll_get _ ho hm), hr⟩
  have hTS : ∀ p ∈ S, p.1 ≠ T := fun p hp q => by
    obtain ⟨o, ho, hr⟩ := h.own p hp
    by_cases hm : p.1 ∈ fs
    · obtain ⟨m', hm'⟩ := hfs _ hm
      have h2 : p.2 = nsr m' := congrArg (·.2) (mem_eq h.nodup hp hm' rfl)
      rw [h2] at hr
      obtain ⟨sl, hs'⟩ := hsl _ _ (hx.keeps _ _ ho) (nsr_data hr)
      rw [show p.1 = T from q, hT] at hs'
      cases hs'
      exact nsr_data hr _ hdT
    · have := hideAll_get _ ho hm
      rw [show p.1 = T from q, hbT] at this; cases this
  have hTb : b.heap.get? T = none := by
    cases q : b.heap.get? T with
    | none => rfl
    | some o =>
      have := hideAll_get fs (h.keep _ _ q) fun hm => by
        obtain ⟨m', hm'⟩ := hfs T hm
        have := h.fresh _ hm'
        rw [q] at this; cases this
      rw [hbT] at this; cases this
  have hsz : 3 < ts.size := (Array.getElem?_eq_some_iff.mp h3).1
  refine wpAny_handleBy_builtin (X := "ValueError") (T := "ValueError") (b := true) exc_ve exc_nt exc_self (n_builtin O A2 rfl bt_ValueError (by decide) ⟨rfl, ⟨oe, he2, hc2.trans hcls⟩, ?_⟩ hg hb hk hl)
  rw [if_pos rfl]
  refine wpAny_setFlight_none (tb := T) he2 hd2 hv1 hT hdT hsz ?_
  exact k _ _ _ (A2.other (tk := tk) (Heap.SameBut.update ..) hTS hTb)
end
/-- list.remove of a number -/
def rmF (k : Int) : List Value → Option (List Value)
  | [] => none
  | v :: r => if iv v = k then some r else (rmF k r).map (v :: ·)
theorem rm_some {k : Int} : ∀ {vs ws : List Value}, rmF k vs = some ws → ∃ j, ∃ hj : j < vs.length, iv vs[j] = k ∧ (∀ m (hm : m < vs.length), m < j → iv vs[m] ≠ k) ∧ ws = vs.eraseIdx j
  | [], _, h => nomatch h
  | v :: r, ws, h => by
    unfold rmF at h
    split at h
    · rename_i hv
      cases h
      exact ⟨0, by simp, hv, (fun m _ hm => nomatch hm), rfl⟩
    · rename_i hv
      obtain ⟨ws', h1, rfl⟩ := Option.map_eq_some_iff.mp h
      obtain ⟨j, hj, e1, e2, rfl⟩ := rm_some h1
      refine ⟨j + 1, by simp [hj], by simpa using e1, fun m hm hlt => ?_, by simp⟩
      cases m with
      | zero => simpa using hv
      | succ m => simpa using e2 m (by simpa using hm) (by omega)
theorem rm_none {k : Int} : ∀ {vs : List Value}, rmF k vs = none → ∀ v ∈ vs, iv v ≠ k
  | [], _, _, hv => nomatch hv
  | x :: r, h, v, hv => by
    unfold rmF at h
    split at h
    · cases h
    · rename_i hx
      rcases List.mem_cons.mp hv with rfl | hv
      · exact hx
      · exact rm_none (Option.map_eq_none_iff.mp h) v hv
theorem rm_sub {k : Int} {vs ws : List Value} (h : rmF k vs = some ws) : ∀ v ∈ ws, v ∈ vs := by
  obtain ⟨j, _, _, _, rfl⟩ := rm_some h
  exact fun v hv => List.mem_of_mem_eraseIdx hv
theorem rm_len {k : Int} {vs ws : List Value} (h : rmF k vs = some ws) : ws.length ≤ vs.length := by
  obtain ⟨j, _, _, _, rfl⟩ := rm_some h
  exact List.length_eraseIdx_le _ _
theorem eq_gives {k : Int} {t : Tok} {y : Value} (h : isI y) : MeetsSeq.EqGives y (.int k t) (iv y == k) := by
  obtain ⟨i, u, rfl⟩ := h
  exact MeetsSeq.EqGives.int i k u t
section
variable {w : World} {mg mb : Str → Option Value} {b s : Shared} {S : Led} {A : Around} {E : Value → Shared → Prop} {env : Env}
theorem b_remove {a : Addr} {vs ws : List Value} {k : Int} {t : Tok} {C : Res → Led} {Q : Value → Shared → Prop} (h : At b S s) (hm : Has a (lst vs) S C) (hi : ∀ v ∈ vs, isI v) (hfit : vs.length < 2 ^ 20) (hr : rmF k vs = some ws)
    (hq : ∀ s', At b (C (lst ws)) s' → Q .none s') : wpAny (model prg w) A (call (.builtin "list.remove") [.ref a, .int k t]) Q E s := by
  obtain ⟨n, ho⟩ := h.plain hm.mem
  obtain ⟨j, hj, e1, e2, rfl⟩ := rm_some hr
  refine call_meets PySem.F.slot_list_remove ⟨_, ho, rfl⟩ PySem.F.entry_list_remove (PySem.F.args_list_remove_2 _ _)
    (MeetsSeq.list_remove a vs.toArray n (.int k t) (fun y => iv y == k) (fun y hy => eq_gives (hi y (by simpa using hy))) j (by simpa using hj) (by simpa using e1) (fun m hm' hlt => by simpa using e2 m (by simpa using hm') hlt) (by simp [sizeLine]; omega))
    ⟨ho, hq _ (h.seq (tk := s.toks) hm ?_)⟩
  simp [Array.eraseIdxIfInBounds, hj]
theorem b_remove_no {a : Addr} {vs : List Value} {k : Int} {t : Tok} {Q : Value → Shared → Prop} (h : At b S s) (hm : (a, lst vs) ∈ S) (hi : ∀ v ∈ vs, isI v) (hr : rmF k vs = none) (hh : A.handled = none)
    (hq : ∀ h' tk e, Heap.NewExc s.heap h' e "ValueError" → E (.ref e) { s with heap := h', toks := tk }) : wpAny (model prg w) A (call (.builtin "list.remove") [.ref a, .int k t]) Q E s := by
  obtain ⟨n, ho⟩ := h.plain hm
  refine call_meets PySem.F.slot_list_remove ⟨_, ho, rfl⟩ PySem.F.entry_list_remove (PySem.F.args_list_remove_2 _ _)
    (MeetsSeq.list_remove_none a vs.toArray n (.int k t) (fun y => iv y == k) (fun y hy => eq_gives (hi y (by simpa using hy))) (fun m hm' => by simpa using rm_none hr _ (List.getElem_mem (by simpa using hm')))) ⟨ho, hh, hq⟩
theorem x_try {body : List Stmt} {h₀ : ExceptHandler} {hs : List ExceptHandler} {pos : Pos} {rest : List Stmt} {Q : Flow → Shared → Prop}
    (h : wpAny (model prg w) A (execs body env) (fun f s₁ => match f with | .next => wpAny (model prg w) A (execs rest env) Q E s₁ | f => Q f s₁)
      (fun e s₁ => wpAny (model prg w) A (noteFrame e env) (fun _ s₂ => wpAny (model prg w) A (setFlight e none) (fun _ s₃ => wpAny (model prg w) A (handleBy e env (h₀ :: hs)) (fun f s₁ => match f with | .next => wpAny (model prg w) A (execs rest env) Q E s₁ | f => Q f s₁) E s₃) E s₂) E s₁) s) :
    wpAny (model prg w) A (execs (.Try body (h₀ :: hs) [] [] pos :: rest) env) Q E s := by
  refine wpAny_execs_cons (wpAny_Try_except (wpAny_mono h (fun f s₁ hf => ?_) fun _ _ e => e))
  cases f with
  | next => exact wpAny_execs_nil hf
  | _ => exact hf
/-- what is taken off `expected`'s end goes out of `actual`, or into `missing` -/
def diffF : List Value → List Value → List Value → List Value × List Value
  | [], mis, act => (mis, act)
  | v :: r, mis, act => match rmF (iv v) act with
    | some act' => diffF r mis act'
    | none => diffF r (mis ++ [v]) act

theorem newTuple_r {vs : List Value} {Q : Value → Shared → Prop} (h : At b S s) (hl : vs.length < 2 ^ 20) (hq : ∀ T s', At b ((T, tup vs) :: S) s' → Q (.ref T) s') : wpAny (model prg w) A (newTuple vs) Q E s :=
  wpAny_newObj_type (hq _ _ (h.alloc (tk := s.toks) ⟨0, rfl⟩)) (by show vs.toArray.size ≤ sizeLine; simp [sizeLine]; omega)
theorem newList_r {vs : List Value} {Q : Value → Shared → Prop} (h : At b S s) (hl : vs.length < 2 ^ 20) (hq : ∀ T s', At b ((T, lst vs) :: S) s' → Q (.ref T) s') : wpAny (model prg w) A (newList vs) Q E s :=
  wpAny_newObj_type (hq _ _ (h.alloc (tk := s.toks) ⟨0, rfl⟩)) (by show vs.toArray.size ≤ sizeLine; simp [sizeLine]; omega)
theorem call_dF {f : Addr} {o : Obj} {fd : FuncData} {body : List Stmt} {args : List Value} {Q : Value → Shared → Prop} {n : Nat} {l : List Env} (names : List Str) (O : Ok w mg mb b) (h : At b S s) (room : Room A (n + 1)) (hfr : A.frames = some l)
    (ho : (KK w.params).lookup f = some o) (hd : o.data = .func fd) (hcode : codeIn (KK w.params) fd.code fd.qualname = true) (hbody : fd.body = .stmts body)
    (hbind : bindArgs fd ⟨args, []⟩ = pure (names.zip args)) (hcell : (fd.scope.names.all fun x => x.2 != .cell) = true) (hloc : (names.all fun x => decide (fd.scope.names.lookup x = some .local)) = true)
    (hq : ∀ L A s', Room A n → A.frames = some (envF w.params f L :: l) → At b ((L, nsr (fun x => (names.zip args).reverse.lookup x)) :: S) s' → wpAny (model prg w) A (execs body (envF w.params f L)) (fun fl s'' => Q (match fl with | .ret v => v | _ => .none) s'') (fun _ _ => False) s')
    (hco : fd.scope.isCoroutine = false := by rfl) (hgen : fd.scope.isGenerator = false := by rfl) (hk : fd.scope.kind = .function := by rfl) :
    wpAny (model prg w) A (call (.ref f) args) Q E s := by
  refine wpAny_call (codeAny_call_def (fd := fd) (binds := names.zip args) (body := body) (by have := room.depth; omega) (h.keep _ _ (O.K _ _ ho)) hd (O.lim.keeps h.keep) ((codeRec_of O.K hcode).keeps h.keep) hbody (.of_eq hbind)
    (fun x hx => by simpa using List.all_eq_true.mp hcell x hx) (fun x hx => of_decide_eq_true (List.all_eq_true.mp hloc x.1 (List.of_mem_zip (a := x.1) (b := x.2) hx).1)) (fun h₀ hn hk₀ => ?_) hco hgen hk)
  have e : ∀ L, callEnv fd L f = envF w.params f L := fun L => by unfold envF; rw [fdAt_of ho hd]
  have room' := room.deeper (env := callEnv fd s.heap.objs.size f)
  have hf' : (A.deeper (callEnv fd s.heap.objs.size f)).frames = some (callEnv fd s.heap.objs.size f :: l) := Around.frames_deeper hfr
  rw [e] at hf' room' ⊢
  refine wpAny_mono (hq s.heap.objs.size _ _ room' hf' (h.more (r := nsr fun x => (names.zip args).reverse.lookup x) (tk := s.toks + (names.zip args).length) hk₀ (Nat.le_refl _) ?_)) (fun fl s' hf => hf) fun _ _ x => x.elim
  obtain ⟨o', es, ep, e, r⟩ := hn
  exact ⟨o', e, es, ep, r⟩
end
local macro_rules | `(tactic| tb_start) => `(tactic| first
  | ((with_reducible show wpAny _ _ (eval (Expr.List _ _) _) _ _ _); with_reducible refine List_ ?_)
  | ((with_reducible show wpAny _ _ (eval (Expr.Tuple _ _ _) _) _ _ _); with_reducible refine Tuple_ ?_)
  | ((with_reducible show wpAny _ _ (newList _) _ _ _); refine newList_r (by assumption) (by simp) ?_; intro _ _ _)
  | ((with_reducible show wpAny _ _ (newTuple _) _ _ _); refine newTuple_r (by assumption) (by simp) ?_; intro _ _ _))
section
variable {w : World} {mg mb : Str → Option Value} {b s : Shared} {S : Led} {A : Around} {E : Value → Shared → Prop} {env : Env}
theorem t_diff {xs ys : List Value} {a c : Addr} {l : List Env} {Q : Value → Shared → Prop} (O : Ok w mg mb b) (h : At b ((a, lst xs) :: (c, lst ys) :: S) s) (room : Room A 1) (hfr : A.frames = some l) (fr : Frames l S)
    (hx : ∀ v ∈ xs, isI v) (hy : ∀ v ∈ ys, isI v) (hlx : xs.length < 2 ^ 18) (hly : ys.length < 2 ^ 18)
    (hq : ∀ T M s', At b ((T, tup [.ref M, .ref c]) :: (M, lst (diffF xs.reverse [] ys).1) :: (a, lst []) :: (c, lst (diffF xs.reverse [] ys).2) :: S) s' → Q (.ref T) s') :
    wpAny (model prg w) A (call (.ref 21) [.ref a, .ref c]) Q E s := by
  refine call_dF ["expected", "actual"] O h room hfr rfl rfl rfl rfl rfl rfl rfl ?_
  clear h room hfr
  intro L A s room hfr h
  repeat tb_rel
  rename_i M _ _ s h
  refine x_while (fun n s => ∃ r mis act m, n = r.length ∧ At b ((M, lst mis) :: (L, nsr m) :: (a, lst r) :: (c, lst act) :: S) s ∧ m "expected" = some (.ref a) ∧ m "actual" = some (.ref c) ∧ m "missing" = some (.ref M) ∧
    (∀ v ∈ r, isI v) ∧ (∀ v ∈ act, isI v) ∧ act.length ≤ ys.length ∧ mis.length + r.length ≤ xs.length ∧ diffF r.reverse mis act = diffF xs.reverse [] ys) xs.length ?_ ?_
  · exact ⟨xs, [], ys, _, rfl, h, rfl, rfl, rfl, hx, hy, Nat.le_refl _, by simp, rfl⟩
  · clear h
    rintro n s E' ⟨r, mis, act, m, rfl, h, m1, m2, m3, hr, ha, hal, hml, he⟩
    repeat tb_rel
    refine b_truth (by assumption) (by kt_at_item) (by omega) ?_
    intro _ _
    rcases (show r = [] ∨ ∃ r' x, r = r' ++ [x] from if e : r = [] then .inl e else .inr ⟨r.dropLast, r.getLast e, (List.dropLast_concat_getLast e).symm⟩) with rfl | ⟨r', x, rfl⟩
    · refine i_ff ?_
      repeat tb_rel
      rename_i s h
      have he : (mis, act) = diffF xs.reverse [] ys := he
      rw [← he] at hq
      exact hq _ _ _ (h.sub (.cons_cons _ (.cons_cons _ (.cons _ (List.Sublist.refl _)))))
    · rw [show (!(r' ++ [x]).isEmpty) = true by simp]
      simp only [List.length_append, List.length_singleton] at hml
      repeat tb_rel
      refine b_pop (by assumption) (.there (.there .here)) (by omega) ?_
      intro _ _
      repeat tb_rel
      obtain ⟨k, t, rfl⟩ := hr x (by simp)
      rw [List.reverse_append] at he
      have he : (match rmF k act with | some act' => diffF r'.reverse mis act' | none => diffF r'.reverse (mis ++ [.int k t]) act) = diffF xs.reverse [] ys := he
      refine x_try ?_
      repeat tb_rel
      have hr' : ∀ v ∈ r', isI v := fun v hv => hr v (by simp [hv])
      cases hrm : rmF k act with
      | some act' =>
        rw [hrm] at he
        refine b_remove (by assumption) (.there (.there (.there .here))) ha (by omega) hrm ?_
        intro _ _
        repeat tb_rel
        rename_i s h
        have := rm_len hrm
        exact ⟨r'.length, by simp, r', mis, act', _, rfl, h, m1, m2, m3, hr', fun v hv => ha v (rm_sub hrm v hv), by omega, by omega, he⟩
      | none =>
        rw [hrm] at he
        refine b_remove_no (by assumption) (by kt_at_item) ha hrm room.hand ?_
        intro h' tk e hne
        refine catch_ve O (by assumption) hfr ?_ hne ?_
        · intro env henv
          rcases List.mem_cons.mp henv with rfl | henv
          · exact ⟨show ScopeKind.function ≠ ScopeKind.module by decide, L, _, rfl, .tail _ (.head _)⟩
          · obtain ⟨z1, z2, z3, z4, z5⟩ := fr env henv
            exact ⟨z1, z2, z3, z4, .tail _ (.tail _ (.tail _ (.tail _ z5)))⟩
        · intro s A E' h
          repeat tb_rel
          refine b_append (by assumption) .here (by omega) ?_
          intro s h
          repeat tb_rel
          exact ⟨r'.length, by simp, r', _, act, _, rfl, h, m1, m2, m3, hr', ha, by omega, by simp; omega, he⟩
end
theorem arg_max (val : Nat → Int) : ∀ k, argBest (fun i j => decide (val i > val j)) k ≤ k ∧ ∀ i, i ≤ k → val i ≤ val (argBest (fun i j => decide (val i > val j)) k)
  | 0 => ⟨Nat.le_refl _, fun i hi => by have : i = 0 := by omega
                                        subst this; exact Int.le_refl _⟩
  | k + 1 => by
    obtain ⟨h1, h2⟩ := arg_max val k
    unfold argBest
    split
    · rename_i hc
      have hc : val (k + 1) > val (argBest (fun i j => decide (val i > val j)) k) := by simpa using hc
      refine ⟨Nat.le_refl _, fun i hi => ?_⟩
      by_cases e : i = k + 1
      · subst e; exact Int.le_refl _
      · have := h2 i (by omega); omega
    · rename_i hc
      have hc : ¬ val (k + 1) > val (argBest (fun i j => decide (val i > val j)) k) := by simpa using hc
      refine ⟨by omega, fun i hi => ?_⟩
      by_cases e : i = k + 1
      · subst e; omega
      · exact h2 i (by omega)
theorem arg_min (val : Nat → Int) : ∀ k, argBest (fun i j => decide (val i < val j)) k ≤ k ∧ ∀ i, i ≤ k → val (argBest (fun i j => decide (val i < val j)) k) ≤ val i
  | 0 => ⟨Nat.le_refl _, fun i hi => by have : i = 0 := by omega
                                        subst this; exact Int.le_refl _⟩
  | k + 1 => by
    obtain ⟨h1, h2⟩ := arg_min val k
    unfold argBest
    split
    · rename_i hc
      have hc : val (k + 1) < val (argBest (fun i j => decide (val i < val j)) k) := by simpa using hc
      refine ⟨Nat.le_refl _, fun i hi => ?_⟩
      by_cases e : i = k + 1
      · subst e; exact Int.le_refl _
      · have := h2 i (by omega); omega
    · rename_i hc
      have hc : ¬ val (k + 1) < val (argBest (fun i j => decide (val i < val j)) k) := by simpa using hc
      refine ⟨by omega, fun i hi => ?_⟩
      by_cases e : i = k + 1
      · subst e; omega
      · exact h2 i (by omega)
/-- the number at a place -/
def atV (vs : List Value) (i : Nat) : Int := iv (vs.getD i .none)
theorem atV_of {vs : List Value} {i : Nat} {v : Value} (h : vs[i]? = some v) : atV vs i = iv v := by unfold atV; rw [getD_at h]
theorem atV_val {vs : List Value} (hi : ∀ v ∈ vs, isI v) (i : Nat) (v : Value) (h : vs.toArray[i]? = some v) : ∃ t, v = .int (atV vs i) t := by
  have h : vs[i]? = some v := by simpa using h
  rw [atV_of h]
  obtain ⟨j, t, rfl⟩ := isI_at hi h
  exact ⟨t, rfl⟩
theorem pre_sum (vs : List Value) : ∀ k, k ≤ vs.length → preSum (atV vs) k = ((vs.take k).map iv).sum
  | 0, _ => rfl
  | k + 1, h => by
    have e : vs[k]? = some vs[k] := List.getElem?_eq_getElem (by omega)
    rw [preSum, pre_sum vs k (by omega), List.take_add_one, e, atV_of e, List.map_append, List.sum_append]
    simp only [Option.toList_some, List.map_cons, List.map_nil, List.sum_cons, List.sum_nil, Int.add_zero]
section
variable {w : World} {mg mb : Str → Option Value} {b s : Shared} {S : Led} {A : Around} {E : Value → Shared → Prop} {env : Env}
theorem it_list {a : Addr} {vs : List Value} {Q : Value → Shared → Prop} (hl : s.heap.IsList a vs.toArray)
    (h : ∀ s₂ : Shared, s₂ = { s with heap := s.heap.push { cls := .type "list_iterator", data := .fields #[.ref a, .int 0 0] } } →
      (s₂.heap.IsListIter s.heap.objs.size a 0 ∧ s₂.heap.IsList a vs.toArray) → (∀ b ∈ [s.heap.objs.size, a], b < s₂.heap.objs.size) → a ≠ s.heap.objs.size → Q (.ref s.heap.objs.size) s₂) :
    wpAny (model prg w) A (pyIter (.ref a)) Q E s := by
  have hlt : a < s.heap.objs.size := by obtain ⟨_, e, _⟩ := hl; exact Heap.lt_size e
  refine wpAny_pyIter_list hl (h _ rfl ⟨⟨_, Heap.get?_push_size _ rfl, rfl, rfl⟩, hl.push _⟩ (fun b hb => ?_) (Nat.ne_of_lt hlt))
  show b < (s.heap.push _).objs.size
  rw [Heap.size_push]
  rcases List.mem_cons.mp hb with rfl | hb
  · exact Nat.lt_succ_self _
  · rcases List.mem_cons.mp hb with rfl | hb
    · exact Nat.lt_succ_of_lt hlt
    · cases hb
theorem it_tup {a : Addr} {vs : List Value} {Q : Value → Shared → Prop} (hl : s.heap.IsTuple a vs.toArray)
    (h : ∀ s₂ : Shared, s₂ = { s with heap := s.heap.push { cls := .type "tuple_iterator", data := .fields #[.ref a, .int 0 0] } } →
      (s₂.heap.IsTupleIter s.heap.objs.size a 0 ∧ s₂.heap.IsTuple a vs.toArray) → (∀ b ∈ [s.heap.objs.size, a], b < s₂.heap.objs.size) → a ≠ s.heap.objs.size → Q (.ref s.heap.objs.size) s₂) :
    wpAny (model prg w) A (pyIter (.ref a)) Q E s := by
  have hlt : a < s.heap.objs.size := by obtain ⟨_, e, _⟩ := hl; exact Heap.lt_size e
  refine wpAny_pyIter_tuple hl (h _ rfl ⟨⟨_, Heap.get?_push_size _ rfl, rfl, rfl⟩, ?_⟩ (fun b hb => ?_) (Nat.ne_of_lt hlt))
  · obtain ⟨o, ho, r⟩ := hl
    exact ⟨o, Heap.get?_push_of_some _ ho, r⟩
  show b < (s.heap.push _).objs.size
  rw [Heap.size_push]
  rcases List.mem_cons.mp hb with rfl | hb
  · exact Nat.lt_succ_self _
  · rcases List.mem_cons.mp hb with rfl | hb
    · exact Nat.lt_succ_of_lt hlt
    · cases hb
theorem kept_at {o : Obj} {h' : Heap} {tk : Nat} (h : At b S s) (hk : ∀ c o', c ∉ [s.heap.objs.size] → (s.heap.push o).get? c = some o' → h'.get? c = some o') : At b S { s with heap := h', toks := tk } :=
  h.keeps fun c o' e => hk c o' (fun hm => by rw [List.mem_singleton.mp hm] at e; exact absurd (Heap.lt_size e) (Nat.lt_irrefl _)) (Heap.get?_push_of_some _ e)
theorem b_sum {a : Addr} {vs : List Value} {Q : Value → Shared → Prop} (h : At b S s) (hh : A.handled = none) (hm : (a, lst vs) ∈ S) (hi : ∀ v ∈ vs, isI v) (hq : ∀ t s', At b S s' → Q (.int (vs.map iv).sum t) s') :
    wpAny (model prg w) A (call (.builtin "sum") [.ref a]) Q E s := by
  refine call_sum_walkG (it_list (h.list hm) fun s₂ e st hfp hne => ?_)
  subst e
  refine ⟨_, _, _, _, _, _, atV vs, rfl, Walks.list (A := A.in1) hh _ a hne vs.toArray, st, hfp, atV_val hi, fun h' tk t' hk => ?_⟩
  have := hq t' _ (kept_at (s := s) (tk := tk) h hk)
  rw [show preSum (atV vs) vs.toArray.size = (vs.map iv).sum by rw [List.size_toArray, pre_sum vs _ (Nat.le_refl _), List.take_length]]
  exact this
theorem b_max {a : Addr} {vs : List Value} {Q : Value → Shared → Prop} (h : At b S s) (hh : A.handled = none) (hm : (a, lst vs) ∈ S) (hi : ∀ v ∈ vs, isI v) (hn : 0 < vs.length)
    (hq : ∀ v s', v ∈ vs → (∀ u ∈ vs, iv u ≤ iv v) → At b S s' → Q v s') : wpAny (model prg w) A (call (.builtin "max") [.ref a]) Q E s := by
  refine call_max_walk (it_list (h.list hm) fun s₂ e st hfp hne => ?_)
  subst e
  refine ⟨_, _, _, _, _, _, _, rfl, Walks.list (A := A.in1) hh _ a hne vs.toArray, st, hfp, by simpa using hn, CmpOf.ints_gt (atV vs) (atV_val hi), fun v h' tk hP hk => ?_⟩
  have hP : vs[argBest (fun i j => decide (atV vs i > atV vs j)) (vs.length - 1)]? = some v := by simpa using hP
  refine hq v _ (List.mem_of_getElem? hP) (fun u hu => ?_) (kept_at (s := s) (tk := tk) h hk)
  obtain ⟨i, hi', rfl⟩ := List.mem_iff_getElem.mp hu
  have := (arg_max (atV vs) (vs.length - 1)).2 i (by omega)
  rw [atV_of hP, atV_of (List.getElem?_eq_getElem hi')] at this
  exact this
theorem b_min {a : Addr} {vs : List Value} {Q : Value → Shared → Prop} (h : At b S s) (hh : A.handled = none) (hm : (a, lst vs) ∈ S) (hi : ∀ v ∈ vs, isI v) (hn : 0 < vs.length)
    (hq : ∀ v s', v ∈ vs → (∀ u ∈ vs, iv v ≤ iv u) → At b S s' → Q v s') : wpAny (model prg w) A (call (.builtin "min") [.ref a]) Q E s := by
  refine call_min_walk (it_list (h.list hm) fun s₂ e st hfp hne => ?_)
  subst e
  refine ⟨_, _, _, _, _, _, _, rfl, Walks.list (A := A.in1) hh _ a hne vs.toArray, st, hfp, by simpa using hn, CmpOf.ints_lt (atV vs) (atV_val hi), fun v h' tk hP hk => ?_⟩
  have hP : vs[argBest (fun i j => decide (atV vs i < atV vs j)) (vs.length - 1)]? = some v := by simpa using hP
  refine hq v _ (List.mem_of_getElem? hP) (fun u hu => ?_) (kept_at (s := s) (tk := tk) h hk)
  obtain ⟨i, hi', rfl⟩ := List.mem_iff_getElem.mp hu
  have := (arg_min (atV vs) (vs.length - 1)).2 i (by omega)
  rw [atV_of hP, atV_of (List.getElem?_eq_getElem hi')] at this
  exact this
theorem b_maxT {a : Addr} {x y : Int} {t u : Tok} {Q : Value → Shared → Prop} (h : At b S s) (hh : A.handled = none) (hm : (a, tup [.int x t, .int y u]) ∈ S)
    (hq : ∀ t s', At b S s' → Q (.int (max x y) t) s') : wpAny (model prg w) A (call (.builtin "max") [.ref a]) Q E s := by
  have hi : ∀ v ∈ [Value.int x t, .int y u], isI v := fun v hv => by rcases List.mem_cons.mp hv with rfl | hv; exact ⟨x, t, rfl⟩; rw [List.mem_singleton.mp hv]; exact ⟨y, u, rfl⟩
  refine call_max_walk (it_tup (h.tuple hm) fun s₂ e st hfp hne => ?_)
  subst e
  refine ⟨_, _, _, _, _, _, _, rfl, Walks.tuple (A := A.in1) hh _ a hne [Value.int x t, .int y u].toArray, st, hfp, by simp, CmpOf.ints_gt (atV [Value.int x t, .int y u]) (atV_val hi), fun v h' tk hP hk => ?_⟩
  have hA := kept_at (s := s) (tk := tk) h hk
  have hP : [Value.int x t, .int y u][argBest (fun i j => decide (atV [Value.int x t, .int y u] i > atV [Value.int x t, .int y u] j)) 1]? = some v := by simpa using hP
  simp only [argBest, atV, List.getD_cons_zero, List.getD_cons_succ, iv] at hP
  by_cases c : y > x
  · simp [c] at hP
    subst hP
    have := hq u _ hA
    rwa [show max x y = y by omega] at this
  · simp [c] at hP
    subst hP
    have := hq t _ hA
    rwa [show max x y = x by omega] at this
theorem b_minT {a : Addr} {x y : Int} {t u : Tok} {Q : Value → Shared → Prop} (h : At b S s) (hh : A.handled = none) (hm : (a, tup [.int x t, .int y u]) ∈ S)
    (hq : ∀ t s', At b S s' → Q (.int (min x y) t) s') : wpAny (model prg w) A (call (.builtin "min") [.ref a]) Q E s := by
  have hi : ∀ v ∈ [Value.int x t, .int y u], isI v := fun v hv => by rcases List.mem_cons.mp hv with rfl | hv; exact ⟨x, t, rfl⟩; rw [List.mem_singleton.mp hv]; exact ⟨y, u, rfl⟩
  refine call_min_walk (it_tup (h.tuple hm) fun s₂ e st hfp hne => ?_)
  subst e
  refine ⟨_, _, _, _, _, _, _, rfl, Walks.tuple (A := A.in1) hh _ a hne [Value.int x t, .int y u].toArray, st, hfp, by simp, CmpOf.ints_lt (atV [Value.int x t, .int y u]) (atV_val hi), fun v h' tk hP hk => ?_⟩
  have hA := kept_at (s := s) (tk := tk) h hk
  have hP : [Value.int x t, .int y u][argBest (fun i j => decide (atV [Value.int x t, .int y u] i < atV [Value.int x t, .int y u] j)) 1]? = some v := by simpa using hP
  simp only [argBest, atV, List.getD_cons_zero, List.getD_cons_succ, iv] at hP
  by_cases c : y < x
  · simp [c] at hP
    subst hP
    have := hq u _ hA
    rwa [show min x y = y by omega] at this
  · simp [c] at hP
    subst hP
    have := hq t _ hA
    rwa [show min x y = x by omega] at this
variable {x y z : Int} {t u v : Tok} {Q : Value → Shared → Prop}
theorem b_max3 (h : At b S s) (hh : A.handled = none) (hq : ∀ t s', At b S s' → Q (.int (max (max x y) z) t) s') : wpAny (model prg w) A (call (.builtin "max") [.int x t, .int y u, .int z v]) Q E s :=
  max_three_ints hh fun h' tk hk => by
    have hA := fun t => hq t _ (h.keeps (tk := tk) hk)
    split <;> split
    · have := hA v; rwa [show max (max x y) z = z by omega] at this
    · have := hA u; rwa [show max (max x y) z = y by omega] at this
    · have := hA v; rwa [show max (max x y) z = z by omega] at this
    · have := hA t; rwa [show max (max x y) z = x by omega] at this
theorem b_max2 (h : At b S s) (hh : A.handled = none) (hq : ∀ t s', At b S s' → Q (.int (max x y) t) s') : wpAny (model prg w) A (call (.builtin "max") [.int x t, .int y u]) Q E s :=
  max_two_ints hh fun h' tk hk => by
    have hA := fun t => hq t _ (h.keeps (tk := tk) hk)
    split
    · have := hA u; rwa [show max x y = y by omega] at this
    · have := hA t; rwa [show max x y = x by omega] at this
theorem b_min2 (h : At b S s) (hh : A.handled = none) (hq : ∀ t s', At b S s' → Q (.int (min x y) t) s') : wpAny (model prg w) A (call (.builtin "min") [.int x t, .int y u]) Q E s :=
  min_two_ints hh fun h' tk hk => by
    have hA := fun t => hq t _ (h.keeps (tk := tk) hk)
    split
    · have := hA u; rwa [show min x y = y by omega] at this
    · have := hA t; rwa [show min x y = x by omega] at this
theorem b_abs (h : At b S s) (hq : ∀ t s', At b S s' → Q (.int (if x < 0 then -x else x) t) s') : wpAny (model prg w) A (call (.builtin "abs") [.int x t]) Q E s :=
  call_abs_int fun u tk => hq _ _ (h.keeps (tk := tk) fun _ _ e => e)
end
inductive All2 {α β : Type} (R : α → β → Prop) : List α → List β → Prop
  | nil : All2 R [] []
  | cons {a : α} {b : β} {l : List α} {m : List β} : R a b → All2 R l m → All2 R (a :: l) (b :: m)
namespace All2
variable {α β : Type} {R R' : α → β → Prop}
theorem length {l : List α} {m : List β} (h : All2 R l m) : l.length = m.length := by
  induction h with
  | nil => rfl
  | cons _ _ ih => simp [ih]
theorem get {l : List α} {m : List β} (h : All2 R l m) : ∀ {i : Nat} {v : α}, l[i]? = some v → ∃ p, m[i]? = some p ∧ R v p := by
  induction h with
  | nil => intro i v h; simp at h
  | cons h1 _ ih =>
    intro i v hv
    cases i with
    | zero => simp at hv ⊢; exact hv ▸ h1
    | succ i => simpa using ih (by simpa using hv)
theorem mono {l : List α} {m : List β} (h : All2 R l m) (w : ∀ a b, R a b → R' a b) : All2 R' l m := by
  induction h with
  | nil => exact .nil
  | cons h1 _ ih => exact .cons (w _ _ h1) ih
theorem append {l l' : List α} {m m' : List β} (h : All2 R l m) (h' : All2 R l' m') : All2 R (l ++ l') (m ++ m') := by
  induction h with
  | nil => exact h'
  | cons h1 _ ih => exact .cons h1 ih
theorem snoc {l : List α} {m : List β} {a : α} {b : β} (h : All2 R l m) (h' : R a b) : All2 R (l ++ [a]) (m ++ [b]) := h.append (.cons h' .nil)
end All2
def PairV (S : Led) (v : Value) (p : Int × Int) : Prop := ∃ a t u, v = .ref a ∧ (a, tup [.int p.1 t, .int p.2 u]) ∈ S
theorem PairV.sub {S S' : Led} {v : Value} {p : Int × Int} (h : PairV S v p) (hs : ∀ q ∈ S, q ∈ S') : PairV S' v p := let ⟨a, t, u, e, m⟩ := h; ⟨a, t, u, e, hs _ m⟩
theorem take_snoc {α : Type} {l : List α} {i : Nat} {x : α} (h : l[i]? = some x) : l.take (i + 1) = l.take i ++ [x] := by rw [List.take_add_one, h]; rfl
def wayF (p : Int) (q : Int × Int) : Int := max (max (min q.1 q.2 - p) (p - max q.1 q.2)) 0
section
variable {w : World} {mg mb : Str → Option Value} {b s : Shared} {S : Led} {A : Around} {E : Value → Shared → Prop} {env : Env}
theorem t_ways {vs : List Value} {ps : List (Int × Int)} {a : Addr} {p : Int} {t : Tok} {Q : Value → Shared → Prop} (O : Ok w mg mb b) (h : At b S s) (room : Room A 1) (hm : (a, lst vs) ∈ S) (hp : All2 (PairV S) vs ps) (hlen : vs.length < 2 ^ 18)
    (hq : ∀ t s', At b S s' → Q (.int (ps.map (wayF p)).sum t) s') : wpAny (model prg w) A (call (.ref 134) [.int p t, .ref a]) Q E s := by
  refine call_c ["point", "pairs"] O h room rfl rfl rfl rfl rfl rfl (by intro k; rfl) (by intro k; rfl) ?_
  clear h room
  intro L A s room h
  replace h : At b ((L, nsr fun y => if y = "pairs" then some (.ref a) else none) :: (L + 1, cel (some (.int p t))) :: S) s := h
  repeat tb_rel
  refine r_lc rfl ?_
  repeat tb_rel
  refine p_iter (by assumption) (by kt_at_item) ?_
  intro I s h
  refine lc_eval (st_list (vs := vs) room.hand) self_list (fun i ys S' => S' = (L, nsr fun y => if y = "pairs" then some (.ref a) else none) :: (L + 1, cel (some (.int p t))) :: S ∧ (∀ v ∈ ys, isI v) ∧
    ys.map iv = (ps.take i).map (wayF p) ∧ ys.length = i) h ⟨rfl, (fun v hv => nomatch hv), rfl, rfl⟩ (by omega) ?_ ?_ ?_ ?_ ?_
  · rintro i ys S' ⟨rfl, _, _, e⟩; omega
  · rintro i ys S' ⟨rfl, _⟩
    exact .tail _ (.tail _ hm)
  · intro S S' hs h; exact hs _ h
  · clear h
    rintro i v ys S' s m C D' E' hi hv ⟨rfl, hI, he, hy⟩ h
    obtain ⟨q, hq', a', t1, t2, rfl, hmq⟩ := hp.get hv
    unfold LcTurn
    refine wpAny_pure ?_
    repeat tb_rel
    refine wpAny_tests_nil ?_
    repeat tb_rel
    refine b_minT (by assumption) room.hand (by kt_at_item) ?_
    intro _ _ _
    repeat tb_rel
    refine b_maxT (by assumption) room.hand (by kt_at_item) ?_
    intro _ _ _
    repeat tb_rel
    refine b_max3 (by assumption) room.hand ?_
    intro t3 s h
    refine ⟨_, _, ?_, h⟩
    refine ⟨rfl, fun v hv => ?_, ?_, by simp [hy]⟩
    · rcases List.mem_append.mp hv with hv | hv
      · exact hI v hv
      · rw [List.mem_singleton.mp hv]; exact ⟨_, _, rfl⟩
    · rw [List.map_append, he, take_snoc hq', List.map_append]; rfl
  · clear h
    rintro D' ys S' s ⟨rfl, hI, he, hy⟩ h
    repeat tb_rel
    refine b_sum (by assumption) room.hand (by kt_at_item) hI ?_
    intro t s h
    rw [he, show vs.length = ps.length from hp.length, List.take_length]
    exact hq _ _ h.tail.tail.tail
end
local macro_rules | `(tactic| kt_at_item) => `(tactic| first | ((with_reducible refine List.mem_append_right _ ?_); kt_at_item) | ((with_reducible refine List.mem_append_left _ ?_); kt_at_item))
theorem At.sink1 {b s : Shared} {x p0 : Addr × Res} {R : Led} (h : At b (x :: p0 :: R) s) : At b (p0 :: x :: R) s := h.perm (List.perm_middle (l₁ := [p0]))
theorem At.sink2 {b s : Shared} {x p0 p1 : Addr × Res} {R : Led} (h : At b (x :: p0 :: p1 :: R) s) : At b (p0 :: p1 :: x :: R) s := h.perm (List.perm_middle (l₁ := [p0, p1]))
theorem At.sink3 {b s : Shared} {x p0 p1 p2 : Addr × Res} {R : Led} (h : At b (x :: p0 :: p1 :: p2 :: R) s) : At b (p0 :: p1 :: p2 :: x :: R) s := h.perm (List.perm_middle (l₁ := [p0, p1, p2]))
theorem At.sink4 {b s : Shared} {x p0 p1 p2 p3 : Addr × Res} {R : Led} (h : At b (x :: p0 :: p1 :: p2 :: p3 :: R) s) : At b (p0 :: p1 :: p2 :: p3 :: x :: R) s := h.perm (List.perm_middle (l₁ := [p0, p1, p2, p3]))
theorem At.sink5 {b s : Shared} {x p0 p1 p2 p3 p4 : Addr × Res} {R : Led} (h : At b (x :: p0 :: p1 :: p2 :: p3 :: p4 :: R) s) : At b (p0 :: p1 :: p2 :: p3 :: p4 :: x :: R) s := h.perm (List.perm_middle (l₁ := [p0, p1, p2, p3, p4]))
theorem At.sink6 {b s : Shared} {x p0 p1 p2 p3 p4 p5 : Addr × Res} {R : Led} (h : At b (x :: p0 :: p1 :: p2 :: p3 :: p4 :: p5 :: R) s) : At b (p0 :: p1 :: p2 :: p3 :: p4 :: p5 :: x :: R) s := h.perm (List.perm_middle (l₁ := [p0, p1, p2, p3, p4, p5]))
theorem At.sink7 {b s : Shared} {x p0 p1 p2 p3 p4 p5 p6 : Addr × Res} {R : Led} (h : At b (x :: p0 :: p1 :: p2 :: p3 :: p4 :: p5 :: p6 :: R) s) : At b (p0 :: p1 :: p2 :: p3 :: p4 :: p5 :: p6 :: x :: R) s := h.perm (List.perm_middle (l₁ := [p0, p1, p2, p3, p4, p5, p6]))
theorem At.sink8 {b s : Shared} {x p0 p1 p2 p3 p4 p5 p6 p7 : Addr × Res} {R : Led} (h : At b (x :: p0 :: p1 :: p2 :: p3 :: p4 :: p5 :: p6 :: p7 :: R) s) : At b (p0 :: p1 :: p2 :: p3 :: p4 :: p5 :: p6 :: p7 :: x :: R) s := h.perm (List.perm_middle (l₁ := [p0, p1, p2, p3, p4, p5, p6, p7]))
theorem At.sink9 {b s : Shared} {x p0 p1 p2 p3 p4 p5 p6 p7 p8 : Addr × Res} {R : Led} (h : At b (x :: p0 :: p1 :: p2 :: p3 :: p4 :: p5 :: p6 :: p7 :: p8 :: R) s) : At b (p0 :: p1 :: p2 :: p3 :: p4 :: p5 :: p6 :: p7 :: p8 :: x :: R) s := h.perm (List.perm_middle (l₁ := [p0, p1, p2, p3, p4, p5, p6, p7, p8]))
def meetF (p q : Int × Int) : Int × Int := (min (max p.1 p.2) (max q.1 q.2), max (min p.1 p.2) (min q.1 q.2))
def sharedR (ps : List (Int × Int)) (p : Int × Int) (i : Nat) : List (Int × Int) := (ps.take i).map (meetF p)
def sharedF (ps : List (Int × Int)) : Nat → List (Int × Int)
  | 0 => []
  | i + 1 => sharedF ps i ++ (match ps[i]? with | some p => sharedR ps p i | none => [])
theorem shared_len (ps : List (Int × Int)) : ∀ i, (sharedF ps i).length ≤ i * i
  | 0 => by simp [sharedF]
  | i + 1 => by
    have := shared_len ps i
    have h2 : (sharedF ps (i + 1)).length ≤ (sharedF ps i).length + i := by
      simp only [sharedF, List.length_append]
      split
      · simp [sharedR]; omega
      · simp
    have : (i + 1) * (i + 1) = i * i + 2 * i + 1 := by rw [Nat.add_mul, Nat.mul_add]; omega
    omega
section
variable {w : World} {mg mb : Str → Option Value} {b s : Shared} {S : Led} {A : Around} {E : Value → Shared → Prop} {env : Env}
theorem t_shared {vs : List Value} {ps : List (Int × Int)} {a : Addr} {Q : Value → Shared → Prop} (O : Ok w mg mb b) (h : At b S s) (room : Room A 1) (hm : (a, lst vs) ∈ S) (hp : All2 (PairV S) vs ps) (hlen : vs.length < 2 ^ 8)
    (hq : ∀ D ts N s', All2 (PairV N) ts (sharedF ps ps.length) → At b ((D, lst ts) :: (N ++ S)) s' → Q (.ref D) s') : wpAny (model prg w) A (call (.ref 141) [.ref a]) Q E s := by
  have hl := hp.length
  refine call_d ["pairs"] O h room rfl rfl rfl rfl rfl rfl rfl ?_
  clear h room
  intro L A s room h
  repeat tb_rel
  rename_i D _ _ _ _
  refine b_len (by assumption) (by kt_at_item) (by omega) ?_
  intro _ _ _
  repeat tb_rel
  refine b_range1 (by assumption) ?_
  intro ar _ _
  refine p_range (x := 0) (n := vs.length) (by assumption) (by rw [Int.zero_add]; kt_at_item) (by decide) (by omega) ?_
  intro I s h
  refine for_loop (st_range room.hand) (fun i S' => ∃ m ts N, S' = (ar, rng 0 vs.length 1) :: (D, lst ts) :: (L, nsr m) :: (N ++ S) ∧ m "pairs" = some (.ref a) ∧ m "built" = some (.ref D) ∧ All2 (PairV N) ts (sharedF ps i)) h
    ⟨_, [], [], rfl, rfl, rfl, .nil⟩ (fun _ _ _ => trivial) ?_ ?_
  · clear h
    rintro i v S' s E' hi ⟨t, rfl⟩ ⟨m, ts, N, rfl, m1, m2, hts⟩ h
    rw [show (0 : Int) + (i : Int) * 1 = (i : Nat) by omega]
    repeat tb_rel
    refine b_range1 (by assumption) ?_
    intro ar' _ _
    refine p_range (x := 0) (n := i) (by assumption) (by rw [Int.zero_add]; kt_at_item) (by decide) (by omega) ?_
    intro J s h
    obtain ⟨v, hv⟩ : ∃ v, vs[i]? = some v := ⟨_, List.getElem?_eq_getElem hi⟩
    obtain ⟨p, hpi, a1, u1, u2, rfl, hmp⟩ := hp.get hv
    refine for_loop (st_range room.hand) (fun j S' => ∃ m ts N, S' = (ar', rng 0 i 1) :: (I, rit 0 1 vs.length (i + 1)) :: (ar, rng 0 vs.length 1) :: (D, lst ts) :: (L, nsr m) :: (N ++ S) ∧ m "pairs" = some (.ref a) ∧ m "built" = some (.ref D) ∧
      m "i" = some (.int i t) ∧ All2 (PairV N) ts (sharedF ps i ++ sharedR ps p j)) h ⟨_, ts, N, rfl, m1, m2, rfl, by simpa [sharedR] using hts⟩ (fun _ _ _ => trivial) ?_ ?_
    · clear h hts
      rintro j v S' s E'' hj ⟨t', rfl⟩ ⟨m, ts, N, rfl, m1, m2, m3, hts⟩ h
      rw [show (0 : Int) + (j : Int) * 1 = (j : Nat) by omega]
      obtain ⟨v, hv'⟩ : ∃ v, vs[j]? = some v := ⟨_, List.getElem?_eq_getElem (by omega)⟩
      obtain ⟨q, hqj, a2, u3, u4, rfl, hmq⟩ := hp.get hv'
      repeat tb_rel
      refine g_sub (by assumption) (by kt_at_item) rfl hv (by omega) ?_
      repeat tb_rel
      refine b_maxT (by assumption) room.hand (by kt_at_item) ?_
      intro _ _ _
      repeat tb_rel
      refine g_sub (by assumption) (by kt_at_item) rfl hv' (by omega) ?_
      repeat tb_rel
      refine b_maxT (by assumption) room.hand (by kt_at_item) ?_
      intro _ _ _
      repeat tb_rel
      refine b_min2 (by assumption) room.hand ?_
      intro _ _ _
      repeat tb_rel
      refine g_sub (by assumption) (by kt_at_item) rfl hv (by omega) ?_
      repeat tb_rel
      refine b_minT (by assumption) room.hand (by kt_at_item) ?_
      intro _ _ _
      repeat tb_rel
      refine g_sub (by assumption) (by kt_at_item) rfl hv' (by omega) ?_
      repeat tb_rel
      refine b_minT (by assumption) room.hand (by kt_at_item) ?_
      intro _ _ _
      repeat tb_rel
      refine b_max2 (by assumption) room.hand ?_
      intro t5 _ _
      repeat tb_rel
      rename_i T _ _
      have hlts := hts.length
      have := shared_len ps i
      have : i * i < 2 ^ 16 := Nat.lt_of_lt_of_le (Nat.mul_lt_mul'' (show i < 2 ^ 8 by omega) (show i < 2 ^ 8 by omega)) (by decide)
      simp only [List.length_append, sharedR, List.length_map, List.length_take] at hlts
      refine b_append (by assumption) (.there (.there (.there (.there (.there .here))))) (by omega) ?_
      intro s h
      repeat tb_rel
      refine ⟨_, ?_, h.sink6⟩
      refine ⟨_, _, (T, _) :: N, rfl, m1, m2, m3, ?_⟩
      rw [show sharedR ps p (j + 1) = sharedR ps p j ++ [meetF p q] by unfold sharedR; rw [take_snoc hqj, List.map_append]; rfl, ← List.append_assoc]
      exact (hts.mono fun v r h => h.sub fun _ h => .tail _ h).snoc ⟨T, _, _, rfl, .head _⟩
    · clear h hts
      rintro S' s ⟨m, ts, N, rfl, m1, m2, m3, hts⟩ h
      repeat tb_rel
      refine ⟨_, ?_, h.tail⟩
      refine ⟨_, _, N, rfl, m1, m2, ?_⟩
      rw [sharedF, hpi]
      exact hts
  · clear h
    rintro S' s ⟨m, ts, N, rfl, m1, m2, hts⟩ h
    repeat tb_rel
    rw [hl] at hts
    exact hq _ _ _ _ hts (h.sub (.cons _ (.cons_cons _ (.cons _ (List.Sublist.refl _)))))
end
def slc (l u k : Value) : Res := fun o => o.cls = .type "slice" ∧ o.data = .fields #[l, u, k]
def MkSlice (l u k : Value) (Q : Value → Shared → Prop) (s : Shared) : Prop := Q (.ref s.heap.objs.size) { s with heap := s.heap.push { cls := .type "slice", data := .fields #[l, u, k] } }
section
variable {w : World} {mg mb : Str → Option Value} {b s : Shared} {S : Led} {A : Around} {E : Value → Shared → Prop} {env : Env}
theorem r_slice {M : Model} {lower upper step : Option Expr} {p : Pos} {Q : Value → Shared → Prop}
    (h : wpAny M A (evalPart lower env) (fun l s₁ => wpAny M A (evalPart upper env) (fun u s₂ => wpAny M A (evalPart step env) (fun k s₃ => MkSlice l u k Q s₃) E s₂) E s₁) E s) :
    wpAny M A (eval (.Slice lower upper step p) env) Q E s := wpAny_Slice h
theorem mk_slice {l u k : Value} {Q : Value → Shared → Prop} (h : At b S s) (hq : ∀ a s', At b ((a, slc l u k) :: S) s' → Q (.ref a) s') : MkSlice l u k Q s := hq _ _ (h.alloc (tk := s.toks) ⟨rfl, rfl⟩)
theorem g_slice {a sl : Addr} {vs : List Value} {vl vu vk : Value} {lo hi st : Option Int} {ops : List Value} {value slice : Expr} {Q : Value → Shared → Prop} (h : At b S s) (hm : (a, lst vs) ∈ S) (hs : (sl, slc vl vu vk) ∈ S)
    (pl : IsPart vl lo) (pu : IsPart vu hi) (pk : IsPart vk st) (h0 : st ≠ some 0) (hlen : vs.length < 2 ^ 20)
    (hq : ∀ D s', At b ((D, lst (slicePick vs.toArray lo hi st).toList) :: S) s' → Q (.ref D) s')
    (hss : subscripted slice false (.ref a) (.ref sl) = operate ops (getItem (.ref a) (.ref sl))) : wpAny (model prg w) A (subscriptTail value slice (.ref a) (.ref sl)) Q E s := by
  obtain ⟨o, ho, hr⟩ := h.own _ hs
  refine tail_any (h.list hm).typeIs slot_list_getitem.lookup (wpAny_getItem_list_slice (h.list hm) ⟨o, ho, hr⟩ pl pu pk h0 (hq _ _ (h.alloc (tk := s.toks) ⟨0, by simp⟩)) (by simp [sizeLine]; omega)) hss
theorem b_concat {a c : Addr} {vs ws : List Value} {Q : Value → Shared → Prop} (h : At b S s) (hm : (a, lst vs) ∈ S) (hm' : (c, lst ws) ∈ S) (hlen : vs.length + ws.length < 2 ^ 20)
    (hq : ∀ D s', At b ((D, lst (vs ++ ws)) :: S) s' → Q (.ref D) s') : wpAny (model prg w) A (binaryOp .Add (.ref a) (.ref c)) Q E s := by
  obtain ⟨n, ho⟩ := h.plain hm
  obtain ⟨n', ho'⟩ := h.plain hm'
  exact PySem.P.add_list ho ho' (hq _ _ (h.alloc (tk := s.toks) ⟨0, by simp⟩)) (by simp [sizeLine]; omega)
theorem b_eq {a c : Addr} {vs ws : List Value} {n : Nat} {Q : Value → Shared → Prop} (h : At b S s) (room : Room A n) (hm : (a, lst vs) ∈ S) (hm' : (c, lst ws) ∈ S) (hi : ∀ v ∈ vs, isI v) (hi' : ∀ v ∈ ws, isI v)
    (hq : Q (.bool (decide (vs.map iv = ws.map iv))) s) : wpAny (model prg w) A (compareOp .Eq (.ref a) (.ref c)) Q E s :=
  eq_intsK (h.list hm) (ints_of hi) (h.list hm') (ints_of hi') (by have := room.units; omega) hq
theorem b_ne {a c : Addr} {vs ws : List Value} {n : Nat} {Q : Value → Shared → Prop} (h : At b S s) (room : Room A n) (hm : (a, lst vs) ∈ S) (hm' : (c, lst ws) ∈ S) (hi : ∀ v ∈ vs, isI v) (hi' : ∀ v ∈ ws, isI v)
    (hq : Q (.bool (!decide (vs.map iv = ws.map iv))) s) : wpAny (model prg w) A (compareOp .NotEq (.ref a) (.ref c)) Q E s :=
  ne_intsK (h.list hm) (ints_of hi) (h.list hm') (ints_of hi') (by have := room.units; omega) hq
end
local macro_rules | `(tactic| tb_start) => `(tactic| first
  | ((with_reducible show wpAny _ _ (eval (Expr.Slice _ _ _ _) _) _ _ _); with_reducible refine r_slice ?_)
  | ((with_reducible show wpAny _ _ (evalPart none _) _ _ _); with_reducible refine wpAny_evalPart_none ?_)
  | ((with_reducible show wpAny _ _ (evalPart (some _) _) _ _ _); with_reducible refine wpAny_evalPart_some ?_)
  | ((with_reducible show MkSlice _ _ _ _ _); refine mk_slice (by assumption) ?_; intro _ _ _))
/-- all ways to part a row into pairs (f: fuel) -/
def prsF : Nat → List Int → List (List (Int × Int))
  | _, [] => [[]]
  | 0, _ => []
  | f + 1, x :: r => (List.range r.length).flatMap fun k => (prsF f (r.eraseIdx k)).map ((x, r.getD k 0) :: ·)
def prsR (f : Nat) (x : Int) (r : List Int) (i : Nat) : List (List (Int × Int)) := (List.range i).flatMap fun k => (prsF f (r.eraseIdx k)).map ((x, r.getD k 0) :: ·)
theorem flat_len {α β : Type} (g : α → List β) (c : Nat) : ∀ l : List α, (∀ x ∈ l, (g x).length ≤ c) → (l.flatMap g).length ≤ l.length * c
  | [], _ => by simp
  | x :: r, h => by
    have h1 := h x (.head _)
    have h2 := flat_len g c r fun y hy => h y (.tail _ hy)
    simp only [List.flatMap_cons, List.length_append, List.length_cons, Nat.add_mul]
    omega
theorem prs_len : ∀ (f : Nat) (xs : List Int), xs.length ≤ 8 → (prsF f xs).length ≤ 8 ^ f
  | f, [], _ => by unfold prsF; exact Nat.one_le_pow _ _ (by decide)
  | 0, _ :: _, _ => by simp [prsF]
  | f + 1, x :: r, h => by
    simp only [List.length_cons] at h
    refine Nat.le_trans (flat_len _ (8 ^ f) _ fun k _ => ?_) ?_
    · rw [List.length_map]
      exact prs_len f _ (Nat.le_trans (List.length_eraseIdx_le _ _) (by omega))
    · rw [List.length_range, Nat.pow_succ, Nat.mul_comm]
      exact Nat.mul_le_mul_left _ (by omega)
theorem prsR_len (f : Nat) (x : Int) (r : List Int) (i : Nat) (h : r.length ≤ 8) (hi : i ≤ 8) : (prsR f x r i).length ≤ 8 ^ (f + 1) := by
  refine Nat.le_trans (flat_len _ (8 ^ f) _ fun k _ => ?_) ?_
  · rw [List.length_map]
    exact prs_len f _ (Nat.le_trans (List.length_eraseIdx_le _ _) (by omega))
  · rw [List.length_range, Nat.pow_succ, Nat.mul_comm]
    exact Nat.mul_le_mul_left _ hi
theorem prs_each : ∀ (f : Nat) (xs : List Int) (ps : List (Int × Int)), ps ∈ prsF f xs → ps.length ≤ f
  | f, [], ps, h => by rw [show prsF f [] = [[]] by unfold prsF; rfl, List.mem_singleton] at h; simp [h]
  | 0, _ :: _, ps, h => by simp [prsF] at h
  | f + 1, x :: r, ps, h => by
    obtain ⟨k, _, hk⟩ := List.mem_flatMap.mp h
    obtain ⟨qs, hqs, rfl⟩ := List.mem_map.mp hk
    have := prs_each f _ qs hqs
    simpa using this
def PairingV (S : Led) (v : Value) (ps : List (Int × Int)) : Prop := ∃ a vs, v = .ref a ∧ (a, lst vs) ∈ S ∧ All2 (PairV S) vs ps
theorem PairingV.sub {S S' : Led} {v : Value} {ps : List (Int × Int)} (h : PairingV S v ps) (hs : ∀ q ∈ S, q ∈ S') : PairingV S' v ps :=
  let ⟨a, vs, e, m, p⟩ := h; ⟨a, vs, e, hs _ m, p.mono fun _ _ h => h.sub hs⟩
theorem pick_run (vs : List Value) (a c : Nat) (hb : c ≤ vs.length) (hab : a ≤ c) : (slicePick vs.toArray (some a) (some c) none).toList = (vs.drop a).take (c - a) := by
  rw [slicePick_run vs.toArray a c (by simpa using hb) hab]
theorem pick_from (vs : List Value) (a : Nat) (hb : a ≤ vs.length) : (slicePick vs.toArray (some a) none none).toList = vs.drop a := by
  rw [slicePick_from vs.toArray a (by simpa using hb)]
section
variable {w : World} {mg mb : Str → Option Value} {b : Shared}
theorem prs_nil (f : Nat) : prsF f [] = [[]] := by unfold prsF; rfl
theorem t_pairings0 {a : Addr} {S : Led} {s : Shared} {A : Around} {E : Value → Shared → Prop} {Q : Value → Shared → Prop} {n f : Nat} (O : Ok w mg mb b) (h : At b S s) (room : Room A (n + 1)) (hm : (a, lst []) ∈ S)
    (hq : ∀ D ts N s', All2 (PairingV N) ts (prsF f []) → At b ((D, lst ts) :: (N ++ S)) s' → Q (.ref D) s') : wpAny (model prg w) A (call (.ref 124) [.ref a]) Q E s := by
  have hi : ∀ v ∈ ([] : List Value), isI v := fun v hv => nomatch hv
  refine call_d ["items"] O h room rfl rfl rfl rfl rfl rfl rfl ?_
  clear h room
  intro L A s room h
  repeat tb_rel
  refine b_eq (by assumption) room (by kt_at_item) (by kt_at_item) hi hi ?_
  repeat tb_rel
  refine i_tt ?_
  repeat tb_rel
  rename_i T₁ _ _ T _ h
  refine hq T [.ref T₁] [(T₁, lst [])] _ ?_ (h.sub (.cons_cons _ (.cons_cons _ (.cons _ (.cons _ (List.Sublist.refl _))))))
  rw [prs_nil]
  exact .cons ⟨T₁, [], rfl, .head _, .nil⟩ .nil
theorem t_pairings (O : Ok w mg mb b) : ∀ f, f ≤ 6 → ∀ {vs : List Value} {a : Addr} {S : Led} {s : Shared} {A : Around} {E : Value → Shared → Prop} {Q : Value → Shared → Prop}, vs.length ≤ f → At b S s → Room A (f + 1) → (a, lst vs) ∈ S → (∀ v ∈ vs, isI v) →
    (∀ D ts N s', All2 (PairingV N) ts (prsF f (vs.map iv)) → At b ((D, lst ts) :: (N ++ S)) s' → Q (.ref D) s') → wpAny (model prg w) A (call (.ref 124) [.ref a]) Q E s := by
  intro f
  induction f with
  | zero =>
    intro hf vs a S s A E Q hlen h room hm hi hq
    obtain rfl : vs = [] := List.eq_nil_of_length_eq_zero (by omega)
    exact t_pairings0 O h room hm hq
  | succ f ih =>
    intro hf vs a S s A E Q hlen h room hm hi hq
    cases vs with
    | nil => exact t_pairings0 O h room hm hq
    | cons x r =>
      have hlr : r.length ≤ f := by simpa using hlen
      obtain ⟨kx, tx, rfl⟩ := hi x (.head _)
      refine call_d ["items"] O h room rfl rfl rfl rfl rfl rfl rfl ?_
      clear h room
      intro L A s room h
      repeat tb_rel
      refine b_eq (by assumption) room (by kt_at_item) (by kt_at_item) hi (by intro v hv; cases hv) ?_
      repeat tb_rel
      refine i_ff (p := wpAny _ _ _ _ _ _) ?_
      repeat tb_rel
      rename_i D _ _ _ _ _ _ _
      refine b_len (by assumption) (by kt_at_item) (by simp; omega) ?_
      intro _ _ _
      repeat tb_rel
      refine b_range2 (by assumption) ?_
      intro ar s h
      rw [show ((Value.int kx tx :: r).length : Int) = 1 + (r.length : Nat) by simp; omega] at h
      refine p_range (x := 1) (n := r.length) h (by kt_at_item) (by decide) (by omega) ?_
      intro I s h
      replace h := h.sub (S' := (I, rit 1 1 r.length 0) :: (ar, rng 1 (1 + (r.length : Nat)) 1) :: (D, lst []) :: (L, nsr _) :: S) (.cons_cons _ (.cons_cons _ (.cons_cons _ (.cons _ (.cons_cons _ (List.Sublist.refl _))))))
      refine for_loop (st_range room.hand) (fun i S' => ∃ m ts N, S' = (ar, rng 1 (1 + (r.length : Nat)) 1) :: (D, lst ts) :: (L, nsr m) :: (N ++ S) ∧ m "items" = some (.ref a) ∧ m "built" = some (.ref D) ∧ All2 (PairingV N) ts (prsR f kx (r.map iv) i)) h
        ⟨_, [], [], rfl, rfl, rfl, .nil⟩ (fun _ _ _ => trivial) ?_ ?_
      · clear h
        rintro i v S' s E' hir ⟨t, rfl⟩ ⟨m, ts, N, rfl, m1, m2, hts⟩ h
        rw [show (1 : Int) + (i : Int) * 1 = ((i + 1 : Nat) : Int) by omega]
        repeat tb_rel
        refine g_slice (by assumption) (by kt_at_item) (by kt_at_item) (.int _ _) (.int _ _) .none (by simp) (by simp; omega) ?_ (by with_unfolding_all rfl)
        have e1 : (slicePick (Value.int kx tx :: r).toArray (some 1) (some ((i + 1 : Nat) : Int)) none).toList = ((Value.int kx tx :: r).drop 1).take (i + 1 - 1) := pick_run (Value.int kx tx :: r) 1 (i + 1) (by simp; omega) (by omega)
        rw [e1]
        intro c1 _ _
        repeat tb_rel
        refine g_slice (by assumption) (by kt_at_item) (by kt_at_item) (.int _ _) .none .none (by simp) (by simp; omega) ?_ (by with_unfolding_all rfl)
        have e2 : (slicePick (Value.int kx tx :: r).toArray (some (((i + 1 : Nat) : Int) + 1)) none none).toList = (Value.int kx tx :: r).drop (i + 2) := pick_from (Value.int kx tx :: r) (i + 2) (by simp; omega)
        rw [e2]
        intro c2 _ _
        repeat tb_rel
        refine b_concat (by assumption) (by kt_at_item) (by kt_at_item) (by simp; omega) ?_
        have hcat : ((Value.int kx tx :: r).drop 1).take (i + 1 - 1) ++ (Value.int kx tx :: r).drop (i + 2) = r.eraseIdx i := by
          rw [List.eraseIdx_eq_take_drop_succ]; simp
        rw [hcat]
        intro c3 _ _
        repeat tb_rel
        refine ih (by omega) (vs := r.eraseIdx i) (by rw [List.length_eraseIdx_of_lt hir]; omega) (by assumption) room (by kt_at_item) (fun v hv => hi v (.tail _ (List.mem_of_mem_eraseIdx hv))) ?_
        intro D' ts' N' s hts' h
        have hcell0 : (r.eraseIdx i).map iv = (r.map iv).eraseIdx i := by rw [List.eraseIdx_eq_take_drop_succ, List.eraseIdx_eq_take_drop_succ, List.map_append, List.map_take, List.map_drop]
        rw [hcell0] at hts'
        refine p_iter h (.head _) ?_
        intro J s h
        replace h := h.sub (S' := (J, lit D' 0) :: (D', lst ts') :: (N' ++ ((I, rit 1 1 r.length (i + 1)) :: (ar, rng 1 (1 + (r.length : Nat)) 1) :: (D, lst ts) :: (L, nsr _) :: (N ++ S))))
          (.cons_cons _ (.cons_cons _ ((List.Sublist.refl N').append (.cons _ (.cons _ (.cons _ (.cons _ (.cons _ (List.Sublist.refl _)))))))))
        replace h : At b ((J, lit D' 0) :: (D', lst ts') :: (I, rit 1 1 r.length (i + 1)) :: (ar, rng 1 (1 + (r.length : Nat)) 1) :: (D, lst ts) :: (L, nsr _) :: ((N' ++ N) ++ S)) s :=
          h.perm (.cons _ (.cons _ (by rw [List.append_assoc]; exact (List.perm_append_comm_assoc N' [_, _, _, _] (N ++ S)).symm)))
        obtain ⟨y, hy⟩ : ∃ y, r[i]? = some y := ⟨_, List.getElem?_eq_getElem hir⟩
        obtain ⟨ky, ty, rfl⟩ := hi y (.tail _ (List.mem_of_getElem? hy))
        have hgd : (r.map iv).getD i 0 = ky := getD_at (by rw [List.getElem?_map, hy]; rfl)
        refine for_loop (st_list (vs := ts') room.hand) (fun j S' => ∃ m ts N₂, S' = (D', lst ts') :: (I, rit 1 1 r.length (i + 1)) :: (ar, rng 1 (1 + (r.length : Nat)) 1) :: (D, lst ts) :: (L, nsr m) :: (N₂ ++ S) ∧ m "items" = some (.ref a) ∧ m "built" = some (.ref D) ∧
          m "place" = some (.int (i + 1 : Nat) t) ∧ All2 (PairingV N₂) ts' (prsF f ((r.map iv).eraseIdx i)) ∧ All2 (PairingV N₂) ts (prsR f kx (r.map iv) i ++ ((prsF f ((r.map iv).eraseIdx i)).take j).map ((kx, ky) :: ·))) h
          ⟨fun y => if y = "place" then some (Value.int ((i + 1 : Nat) : Int) t) else m y, ts, N' ++ N, rfl, m1, m2, rfl, hts'.mono fun _ _ h => h.sub fun _ h => List.mem_append_left _ h, by rw [List.take_zero, List.map_nil, List.append_nil]; exact hts.mono fun _ _ h => h.sub fun _ h => List.mem_append_right _ h⟩
          (fun j S' ⟨m, ts, N₂, e, _⟩ => by rw [e]; exact .tail _ (.head _)) ?_ ?_
        · clear h hts hts'
          rintro j v S' s E'' hj hv ⟨m, ts, N₂, rfl, m1, m2, m3, hts', hts⟩ h
          obtain ⟨ps, hps, ao, vo, rfl, hmo, hpo⟩ := hts'.get hv
          repeat tb_rel
          refine g_sub (k := 0) (by assumption) (by kt_at_item) rfl rfl (by simp; omega) ?_
          repeat tb_rel
          refine g_sub (k := i + 1) (by assumption) (by kt_at_item) rfl (by simpa using hy) (by simp; omega) ?_
          repeat tb_rel
          rename_i T₁ _ _ T₂ _ _
          have hl1 := hpo.length
          have hl2 := prs_each _ _ _ (List.mem_of_getElem? hps)
          have hl3 := hts.length
          have hl4 := prsR_len f kx (r.map iv) i (by simp; omega) (by omega)
          have hl5 := prs_len f ((r.map iv).eraseIdx i) (Nat.le_trans (List.length_eraseIdx_le _ _) (by simp; omega))
          have hl6 : 8 ^ f ≤ 8 ^ 5 := Nat.pow_le_pow_right (by decide) (by omega)
          have hl7 : 8 ^ (f + 1) ≤ 8 ^ 6 := Nat.pow_le_pow_right (by decide) (by omega)
          simp only [List.length_append, List.length_map, List.length_take] at hl3
          refine b_concat (by assumption) (by kt_at_item) (by kt_at_item) (by simp; omega) ?_
          intro T₃ _ _
          repeat tb_rel
          refine b_append (by assumption) (.there (.there (.there (.there (.there (.there (.there .here))))))) (by omega) ?_
          intro s h
          repeat tb_rel
          replace h := h.sub (S' := (T₃, lst ([.ref T₁] ++ vo)) :: (T₁, tup [.int kx tx, .int ky ty]) :: (J, lit D' (j + 1)) :: (D', lst ts') :: (I, rit 1 1 r.length (i + 1)) :: (ar, rng 1 (1 + (r.length : Nat)) 1) :: (D, lst (ts ++ [.ref T₃])) :: (L, nsr _) :: (N₂ ++ S))
            (.cons_cons _ (.cons _ (List.Sublist.refl _)))
          refine ⟨_, ?_, h.sink7.sink6⟩
          have sb : ∀ p ∈ N₂, p ∈ (T₁, tup [.int kx tx, .int ky ty]) :: (T₃, lst ([.ref T₁] ++ vo)) :: N₂ := fun p hp => .tail _ (.tail _ hp)
          refine ⟨_, _, (T₁, _) :: (T₃, _) :: N₂, rfl, m1, m2, m3, hts'.mono fun _ _ h => h.sub sb, ?_⟩
          rw [take_snoc hps, List.map_append, ← List.append_assoc]
          exact (hts.mono fun _ _ h => h.sub sb).snoc ⟨T₃, _, rfl, .tail _ (.head _), .cons ⟨T₁, _, _, rfl, .head _⟩ (hpo.mono fun _ _ h => h.sub sb)⟩
        · clear h hts hts'
          rintro S' s ⟨m, ts, N₂, rfl, m1, m2, m3, hts', hts⟩ h
          repeat tb_rel
          refine ⟨_, ?_, h.tail⟩
          refine ⟨_, ts, N₂, rfl, m1, m2, ?_⟩
          rw [show ts'.length = _ from hts'.length, List.take_length] at hts
          rw [show prsR f kx (r.map iv) (i + 1) = prsR f kx (r.map iv) i ++ (prsF f ((r.map iv).eraseIdx i)).map ((kx, ky) :: ·) by unfold prsR; rw [List.range_succ, List.flatMap_append, List.flatMap_singleton, hgd]]
          exact hts
      · clear h
        rintro S' s ⟨m, ts, N, rfl, m1, m2, hts⟩ h
        repeat tb_rel
        refine hq _ _ N _ ?_ (h.sub (.cons _ (.cons_cons _ (.cons _ (List.Sublist.refl _)))))
        have e : prsF (f + 1) ((Value.int kx tx :: r).map iv) = prsR f kx (r.map iv) r.length := by
          simp only [List.map_cons, prsF, prsR, List.length_map, iv]
        rw [e]; exact hts
end
def lexlt (p q : Int × Int) : Bool := decide (p.1 < q.1) || (p.1 == q.1 && decide (p.2 < q.2))
theorem tuple_lt2 (l c : Addr) (x y x' y' : Int) (t u t' u' : Tok) (n n2 : Nat) :
    Meets (Builtin.«tuple.__lt__» ⟨[.ref l, .ref c], []⟩)
      (fun A R s => s.heap.get? l = some { cls := .type "tuple", dict := none, data := .seq #[.int x t, .int y u] n, slots := #[] } ∧ s.heap.get? c = some { cls := .type "tuple", dict := none, data := .seq #[.int x' t', .int y' u'] n2, slots := #[] } ∧
        R (.ok (.ret (.bool (lexlt (x, y) (x', y'))))) s) :=
  .of_wp fun prog w A R s h => by
    obtain ⟨hp, g, d, tk, os⟩ := s; obtain ⟨hl, hb, h⟩ := h
    have f2 := AutoSeq1.sub_tuple_tuple
    wp_walk using wpAny_loadPart' hl, wpAny_loadPart' hb, wpAny_eqBool_int
    have lt0 : ∀ (i j : Int) (t u : Tok) (Q : Value → Shared → Prop) (E : Value → Shared → Prop) (s : Shared), Q (.bool (decide (i < j))) s → wpAny (model prog w) A.in1 (richCompare .Lt (.int i t) (.int j u)) Q E s := fun i j t u Q E s h => PyProof.Rows.lt_int h
    by_cases hx : x = x'
    · subst hx
      rw [if_neg (by simp)]
      wp_walk using wpAny_eqBool_int
      by_cases hy : y = y'
      · subst hy
        rw [if_neg (by simp)]
        wp_walk
        refine ⟨_, rfl, ?_⟩
        have e : lexlt (x, y) (x, y) = false := by simp [lexlt]
        rw [e] at h
        exact h
      · rw [if_pos (by simp [hy])]
        refine wpAny_bind (wpAny_rule (wpAny_bind (lt0 _ _ _ _ _ _ _ ?_)))
        wp_walk
        refine ⟨_, rfl, ?_⟩
        have e : lexlt (x, y) (x, y') = decide (y < y') := by simp [lexlt]
        rw [e] at h
        exact h
    · rw [if_pos (by simp [hx])]
      refine wpAny_bind (wpAny_rule (wpAny_bind (lt0 _ _ _ _ _ _ _ ?_)))
      wp_walk
      refine ⟨_, rfl, ?_⟩
      have e : lexlt (x, y) (x', y') = decide (x < x') := by simp [lexlt, hx]
      rw [e] at h
      exact h
section
variable {w : World} {mg mb : Str → Option Value} {b s : Shared} {S : Led} {A : Around} {E : Value → Shared → Prop} {env : Env}
theorem c_ltP {v u : Value} {p q : Int × Int} {n : Nat} {Q : Value → Shared → Prop} (h : At b S s) (room : Room A n) (hv : PairV S v p) (hu : PairV S u q) (hq : Q (.bool (lexlt p q)) s) : wpAny (model prg w) A (compareOp .Lt v u) Q E s := by
  obtain ⟨a, t1, t2, rfl, hm⟩ := hv
  obtain ⟨c, t3, t4, rfl, hm'⟩ := hu
  obtain ⟨n1, ho⟩ := h.plainT hm
  obtain ⟨n2, ho'⟩ := h.plainT hm'
  show wpAny _ _ (richCompare .Lt (.ref a) (.ref c)) _ _ _
  exact richCompare_meets_room (op := .Lt) ⟨_, ho, rfl⟩ ⟨_, ho', rfl⟩ PySem.F.slot_tuple_lt PySem.F.entry_tuple_lt (PySem.F.args_tuple_lt_2 _ _) (tuple_lt2 a c p.1 p.2 q.1 q.2 t1 t2 t3 t4 n1 n2)
    ⟨ho, ho', show Value.bool (lexlt p q) ≠ Value.notImplemented ∧ Q (.bool (lexlt p q)) s from ⟨(fun x => nomatch x), hq⟩⟩ (by have := room.units; omega)
/-- values with their keys -/
abbrev VK := Value × (Int × Int)
def ltK (a b : VK) : Bool := lexlt a.2 b.2
def gtK (a b : VK) : Bool := lexlt b.2 a.2
theorem vk_at {ks : List VK} {k : Nat} {x : VK} (h : ks[k]? = some x) : (ks.map (·.1))[k]? = some x.1 := by rw [List.getElem?_map, h]; rfl
theorem vk_set {ks : List VK} {k : Nat} {x : VK} : (ks.map (·.1)).set k x.1 = (ks.set k x).map (·.1) := by rw [List.map_set]
theorem pv_set {S : Led} {ks : List VK} {k : Nat} {x : VK} (h : ∀ y ∈ ks, PairV S y.1 y.2) (hx : PairV S x.1 x.2) : ∀ y ∈ ks.set k x, PairV S y.1 y.2 := fun y hy => by
  rcases List.mem_or_eq_of_mem_set hy with hy | rfl
  · exact h y hy
  · exact hx
end
section
variable {w : World} {mg mb : Str → Option Value} {b s : Shared} {S : Led} {A : Around} {E : Value → Shared → Prop} {env : Env}
theorem t_siftdown_max {ks : List VK} {it : VK} {a : Addr} {st pos : Nat} {t1 t2 : Tok} {Q : Value → Shared → Prop} (O : Ok w mg mb b) (h : At b ((a, lst (ks.map (·.1))) :: S) s) (room : Room A 1) (hk : ∀ y ∈ ks, PairV S y.1 y.2)
    (h2 : ks[pos]? = some it) (hlen : ks.length < 2 ^ 60)
    (hq : ∀ s', At b ((a, lst ((sdLoop gtK it st pos ks pos).map (·.1))) :: S) s' → Q .none s') : wpAny (model prg w) A (call (.ref 77) [.ref a, .int st t1, .int pos t2]) Q E s := by
  have h3 : pos < ks.length := (List.getElem?_eq_some_iff.mp h2).1
  have hit := hk it (List.mem_of_getElem? h2)
  refine call_d ["heap", "startpos", "pos"] O h room rfl rfl rfl rfl rfl rfl rfl ?_
  clear h room
  intro L A s room h
  repeat tb_rel
  refine g_sub h (by kt_at_item) rfl (vk_at h2) (by simp; omega) ?_
  tb_rel
  rename_i s h
  refine x_while (fun n s => ∃ ks' pos' f t m, n = pos' ∧ At b ((L, nsr m) :: (a, lst (ks'.map (·.1))) :: S) s ∧ m "heap" = some (.ref a) ∧ m "startpos" = some (.int st t1) ∧ m "pos" = some (.int pos' t) ∧ m "newitem" = some it.1 ∧
    ks'.length = ks.length ∧ (∀ y ∈ ks', PairV S y.1 y.2) ∧ pos' < ks.length ∧ pos' ≤ f ∧ sdLoop gtK it st f ks' pos' = sdLoop gtK it st pos ks pos) pos ?_ ?_
  · exact ⟨ks, pos, pos, t2, _, rfl, h, rfl, rfl, rfl, rfl, rfl, hk, h3, Nat.le_refl _, rfl⟩
  · clear h
    rintro n s E' ⟨ks', pos', f, t, m, rfl, h, m1, m2, m3, m4, hl, hi, hp, hf, he⟩
    have sb : ∀ (X Y : Addr × Res) (q : Addr × Res), q ∈ S → q ∈ X :: Y :: S := fun _ _ _ h => .tail _ (.tail _ h)
    repeat tb_rel
    split
    · rename_i hc
      have hc : st < n := by simpa using hc
      repeat tb_rel
      refine o_rsh (by assumption) (by decide) ?_
      intro _ _ _
      repeat tb_rel
      obtain ⟨x, hx⟩ : ∃ x, ks'[(n - 1) / 2]? = some x := ⟨_, List.getElem?_eq_getElem (by omega)⟩
      have hpe : ((n : Int) - 1).fdiv (2 ^ Int.toNat 1) = ((n - 1) / 2 : Nat) := by rw [Int.fdiv_eq_ediv_of_nonneg _ (by decide)]; show ((n : Int) - 1) / 2 = _; omega
      have hxp := hi x (List.mem_of_getElem? hx)
      refine g_sub (by assumption) (by kt_at_item) hpe (vk_at hx) (by simp; omega) ?_
      repeat tb_rel
      refine c_ltP (by assumption) room (hxp.sub (sb _ _)) (hit.sub (sb _ _)) ?_
      repeat tb_rel
      obtain ⟨f, rfl⟩ : ∃ f', f = f' + 1 := ⟨f - 1, by omega⟩
      rw [sdLoop, if_pos hc, getD_at hx] at he
      split
      · rename_i hlt
        rw [if_pos (show gtK it x = true from hlt)] at he
        repeat tb_rel
        refine s_item (k := n) (by assumption) (.there .here) rfl (by simp; omega) (by simp; omega) ?_
        rw [vk_set]
        intro _ _
        repeat tb_rel
        rename_i s h
        rw [hpe] at h
        exact ⟨(n - 1) / 2, by omega, ks'.set n x, (n - 1) / 2, f, _, _, rfl, h, m1, m2, rfl, m4, by simp [hl], pv_set hi hxp, by omega, by omega, he⟩
      · rename_i hlt
        rw [if_neg (show ¬ gtK it x = true from hlt)] at he
        repeat tb_rel
        refine s_item (k := n) (by assumption) (.there .here) rfl (by simp; omega) (by simp; omega) ?_
        rw [vk_set]
        intro _ h
        repeat tb_rel
        rw [he] at h
        exact hq _ h.tail
    · rename_i hc
      have hc : ¬ st < n := by simpa using hc
      rw [sd_stop hc] at he
      repeat tb_rel
      refine s_item (k := n) (by assumption) (.there .here) rfl (by simp; omega) (by simp; omega) ?_
      rw [vk_set]
      intro _ h
      repeat tb_rel
      rw [he] at h
      exact hq _ h.tail
end
section
variable {w : World} {mg mb : Str → Option Value} {b s : Shared} {S : Led} {A : Around} {E : Value → Shared → Prop} {env : Env}
theorem t_siftup_max {ks : List VK} {a : Addr} {pos : Nat} {t2 : Tok} {Q : Value → Shared → Prop} (O : Ok w mg mb b) (h : At b ((a, lst (ks.map (·.1))) :: S) s) (room : Room A 2) (hk : ∀ y ∈ ks, PairV S y.1 y.2)
    (h3 : pos < ks.length) (hlen : ks.length < 2 ^ 60)
    (hq : ∀ s', At b ((a, lst ((siftupF gtK ks pos).map (·.1))) :: S) s' → Q .none s') :
    wpAny (model prg w) A (call (.ref 84) [.ref a, .int pos t2]) Q E s := by
  obtain ⟨it, h2⟩ : ∃ it, ks[pos]? = some it := ⟨_, List.getElem?_eq_getElem h3⟩
  have hit := hk it (List.mem_of_getElem? h2)
  unfold siftupF at hq
  rw [h2] at hq
  dsimp only at hq
  refine call_d ["heap", "pos"] O h room rfl rfl rfl rfl rfl rfl rfl ?_
  clear h room
  intro L A s room h
  repeat tb_rel
  refine b_len (by assumption) (by kt_at_item) (by simp; omega) ?_
  rw [List.length_map]
  intro te _ _
  repeat tb_rel
  refine g_sub (by assumption) (by kt_at_item) rfl (vk_at h2) (by simp; omega) ?_
  repeat tb_rel
  rename_i s h
  refine x_while (fun n s => ∃ ks' pos' f t tc m, n = ks.length - pos' ∧ At b ((L, nsr m) :: (a, lst (ks'.map (·.1))) :: S) s ∧ m "heap" = some (.ref a) ∧ m "startpos" = some (.int pos t2) ∧ m "pos" = some (.int pos' t) ∧ m "newitem" = some it.1 ∧
    m "endpos" = some (.int ks.length te) ∧ m "childpos" = some (.int (2 * pos' + 1) tc) ∧
    ks'.length = ks.length ∧ (∀ y ∈ ks', PairV S y.1 y.2) ∧ pos' < ks.length ∧ ks.length ≤ f + pos' ∧ suLoop gtK it f ks' pos' = suLoop gtK it ks.length ks pos) (ks.length - pos) ?_ ?_
  · exact ⟨ks, pos, ks.length, t2, _, _, rfl, h, rfl, rfl, rfl, rfl, rfl, rfl, rfl, hk, h3, by omega, rfl⟩
  · clear h
    rintro n s E' ⟨ks', pos', f, t, tc, m, rfl, h, m1, m2, m3, m4, m5, m6, hl, hi, hp, hf, he⟩
    have sb : ∀ (X Y : Addr × Res) (q : Addr × Res), q ∈ S → q ∈ X :: Y :: S := fun _ _ _ h => .tail _ (.tail _ h)
    repeat tb_rel
    split
    · rename_i hc
      have hc : 2 * pos' + 1 < ks'.length := by simp at hc; omega
      obtain ⟨f, rfl⟩ : ∃ f', f = f' + 1 := ⟨f - 1, by omega⟩
      obtain ⟨x, hx⟩ : ∃ x, ks'[2 * pos' + 1]? = some x := ⟨_, List.getElem?_eq_getElem hc⟩
      have hxp := hi x (List.mem_of_getElem? hx)
      rw [suLoop, if_pos hc, getD_at hx] at he
      repeat tb_rel
      split
      · rename_i hr
        have hr : 2 * pos' + 2 < ks'.length := by simp at hr; omega
        obtain ⟨y, hy⟩ : ∃ x, ks'[2 * pos' + 2]? = some x := ⟨_, List.getElem?_eq_getElem hr⟩
        have hyp := hi y (List.mem_of_getElem? hy)
        rw [getD_at hy] at he
        repeat tb_rel
        refine g_sub (by assumption) (by kt_at_item) (by omega) (vk_at hy) (by simp; omega) ?_
        repeat tb_rel
        refine g_sub (by assumption) (by kt_at_item) (by omega) (vk_at hx) (by simp; omega) ?_
        refine c_ltP (by assumption) room (hyp.sub (sb _ _)) (hxp.sub (sb _ _)) ?_
        repeat tb_rel
        cases hlt : lexlt y.2 x.2 with
        | false =>
          rw [if_pos ⟨hr, show gtK x y = false from hlt⟩] at he
          repeat tb_rel
          refine g_sub (by assumption) (by kt_at_item) (by omega) (vk_at hy) (by simp; omega) ?_
          repeat tb_rel
          refine s_item (k := pos') (by assumption) (.there .here) rfl (by simp; omega) (by simp; omega) ?_
          rw [vk_set]
          intro _ _
          repeat tb_rel
          rename_i s h
          rw [show (2 * (pos' : Int) + 1 + 1) = ((2 * pos' + 2 : Nat) : Int) by omega] at h
          exact ⟨ks.length - (2 * pos' + 2), by omega, _, 2 * pos' + 2, f, _, _, _, rfl, h, m1, m2, rfl, m4, m5, rfl, by simp [hl], pv_set hi hyp, by omega, by omega, he⟩
        | true =>
          rw [if_neg (fun z => by rw [show gtK x y = true from hlt] at z; exact nomatch z.2)] at he
          repeat tb_rel
          refine g_sub (by assumption) (by kt_at_item) (by omega) (vk_at hx) (by simp; omega) ?_
          repeat tb_rel
          refine s_item (k := pos') (by assumption) (.there .here) rfl (by simp; omega) (by simp; omega) ?_
          rw [vk_set]
          intro _ _
          repeat tb_rel
          rename_i s h
          rw [show (2 * (pos' : Int) + 1) = ((2 * pos' + 1 : Nat) : Int) by omega] at h
          exact ⟨ks.length - (2 * pos' + 1), by omega, _, 2 * pos' + 1, f, _, _, _, rfl, h, m1, m2, rfl, m4, m5, rfl, by simp [hl], pv_set hi hxp, by omega, by omega, he⟩
      · rename_i hr
        have hr : ¬ 2 * pos' + 2 < ks'.length := by simp at hr; omega
        rw [if_neg (fun x => hr x.1)] at he
        repeat tb_rel
        refine g_sub (by assumption) (by kt_at_item) (by omega) (vk_at hx) (by simp; omega) ?_
        repeat tb_rel
        refine s_item (k := pos') (by assumption) (.there .here) rfl (by simp; omega) (by simp; omega) ?_
        rw [vk_set]
        intro _ _
        repeat tb_rel
        rename_i s h
        rw [show (2 * (pos' : Int) + 1) = ((2 * pos' + 1 : Nat) : Int) by omega] at h
        exact ⟨ks.length - (2 * pos' + 1), by omega, _, 2 * pos' + 1, f, _, _, _, rfl, h, m1, m2, rfl, m4, m5, rfl, by simp [hl], pv_set hi hxp, by omega, by omega, he⟩
    · rename_i hc
      have hc : ¬ 2 * pos' + 1 < ks'.length := by simp at hc; omega
      rw [su_stop hc] at he
      repeat tb_rel
      refine s_item (k := pos') (by assumption) (.there .here) rfl (by simp; omega) (by simp; omega) ?_
      rw [vk_set]
      intro _ h
      repeat tb_rel
      rw [← he] at hq
      refine t_siftdown_max (ks := ks'.set pos' it) (it := it) O h.swap room (fun y hy => (pv_set hi hit y hy).sub fun _ h => .tail _ h) (by rw [List.getElem?_set_self (by omega)]) (by rw [List.length_set]; omega) fun s h => ?_
      repeat tb_rel
      exact hq _ h.swap.tail
end
section
variable {w : World} {mg mb : Str → Option Value} {b s : Shared} {S : Led} {A : Around} {E : Value → Shared → Prop} {env : Env}
theorem t_heapify_max {ks : List VK} {a : Addr} {Q : Value → Shared → Prop} (O : Ok w mg mb b) (h : At b ((a, lst (ks.map (·.1))) :: S) s) (room : Room A 3) (hk : ∀ y ∈ ks, PairV S y.1 y.2) (hlen : ks.length < 2 ^ 20)
    (hq : ∀ s', At b ((a, lst ((hfLoop gtK (ks.length / 2) ks).map (·.1))) :: S) s' → Q .none s') : wpAny (model prg w) A (call (.ref 56) [.ref a]) Q E s := by
  refine call_d ["x"] O h room rfl rfl rfl rfl rfl rfl rfl ?_
  clear h room
  intro L A s room h
  repeat tb_rel
  refine b_len (by assumption) (by kt_at_item) (by simp; omega) ?_
  rw [List.length_map]
  intro te _ _
  repeat tb_rel
  rw [show ((ks.length : Int).fdiv 2) = ((ks.length / 2 : Nat) : Int) by rw [Int.fdiv_eq_ediv_of_nonneg _ (by decide)]; rfl]
  refine b_range1 (by assumption) ?_
  intro ar _ _
  repeat tb_rel
  refine b_reversed (by assumption) (by kt_at_item) (by omega) ?_
  intro I s h
  refine p_rit (by assumption) (by kt_at_item) ?_
  refine for_loop (st_range room.hand) (fun i S' => ∃ m ks', S' = (ar, rng 0 (ks.length / 2 : Nat) 1) :: (L, nsr m) :: (a, lst (ks'.map (·.1))) :: S ∧ m "x" = some (.ref a) ∧ ks'.length = ks.length ∧ (∀ y ∈ ks', PairV S y.1 y.2) ∧
    hfLoop gtK (ks.length / 2 - i) ks' = hfLoop gtK (ks.length / 2) ks) h ⟨_, ks, rfl, rfl, rfl, hk, rfl⟩ (fun _ _ _ => trivial) ?_ ?_
  · clear h
    rintro i v S' s E' hi ⟨t, rfl⟩ ⟨m, ks', rfl, m1, hl, hi', he⟩ h
    repeat tb_rel
    rename_i s h
    obtain ⟨k, hk'⟩ : ∃ k, ks.length / 2 - i = k + 1 := ⟨ks.length / 2 - i - 1, by omega⟩
    rw [show (((ks.length / 2 : Nat) : Int) - 1 + (i : Int) * -1) = (k : Int) by omega]
    replace h := h.perm (List.perm_middle (l₁ := [_, _, _])).symm
    refine t_siftup_max (pos := k) (ks := ks') O h room (fun y hy => (hi' y hy).sub fun _ h => .tail _ (.tail _ (.tail _ h))) (by omega) (by omega) ?_
    intro s h
    repeat tb_rel
    refine ⟨_, ?_, h.sink3⟩
    refine ⟨_, _, rfl, m1, by rw [siftup_len, hl], siftup_mem (p := fun (y : VK) => PairV S y.1 y.2) _ _ hi', ?_⟩
    rw [hk'] at he
    rw [show ks.length / 2 - (i + 1) = k by omega]
    exact he
  · clear h
    rintro S' s ⟨m, ks', rfl, m1, hl, hi', he⟩ h
    repeat tb_rel
    rw [Nat.sub_self] at he
    rw [show ks' = _ from he] at h
    exact hq _ h.tail.tail
end
section
variable {w : World} {mg mb : Str → Option Value} {b s : Shared} {S : Led} {A : Around} {E : Value → Shared → Prop} {env : Env}
theorem t_replace_max {ks : List VK} {y it : VK} {a : Addr} {Q : Value → Shared → Prop} (O : Ok w mg mb b) (h : At b ((a, lst ((y :: ks).map (·.1))) :: S) s) (room : Room A 3) (hk : ∀ x ∈ y :: ks, PairV S x.1 x.2) (hit : PairV S it.1 it.2) (hlen : ks.length < 2 ^ 19)
    (hq : ∀ s', At b ((a, lst ((siftupF gtK (it :: ks) 0).map (·.1))) :: S) s' → Q y.1 s') : wpAny (model prg w) A (call (.ref 49) [.ref a, it.1]) Q E s := by
  refine call_d ["heap", "item"] O h room rfl rfl rfl rfl rfl rfl rfl ?_
  clear h room
  intro L A s room h
  repeat tb_rel
  refine g_sub (k := 0) (v := y.1) (by assumption) (by kt_at_item) rfl rfl (by simp; omega) ?_
  repeat tb_rel
  refine s_item (k := 0) (by assumption) (.there .here) rfl (by simp) (by simp; omega) ?_
  intro _ _
  repeat tb_rel
  rename_i s h
  refine t_siftup_max (pos := 0) (ks := it :: ks) O h.swap room (fun x hx => ?_) (by simp) (by simp; omega) ?_
  · rcases List.mem_cons.mp hx with rfl | hx
    · exact hit.sub fun _ h => .tail _ h
    · exact (hk x (.tail _ hx)).sub fun _ h => .tail _ h
  · intro s h
    repeat tb_rel
    exact hq _ h.swap.tail
end
section
variable {w : World} {mg mb : Str → Option Value} {b s : Shared} {S : Led} {A : Around} {E : Value → Shared → Prop} {env : Env}
theorem At.ext {h' : Heap} {tk : Nat} (h : At b S s) (hx : Heap.ExtBut s.heap.objs.size s.heap h') : At b S { s with heap := h', toks := tk } :=
  h.keeps fun c o e => hx c o (Nat.ne_of_lt (Heap.lt_size e)) e
/-- a pair unpacked -/
theorem as_pair {e₁ e₂ : Expr} {x1} {pos : Pos} {t : Addr} {x y : Value} {Q : Unit → Shared → Prop} (h : At b S s) (hh : A.handled = none) (hm : (t, tup [x, y]) ∈ S)
    (hq : ∀ s', At b S s' → wpAny (model prg w) A (assign e₁ env x) (fun _ s₁ => wpAny (model prg w) A (assign e₂ env y) Q E s₁) E s')
    (he : assignEach [e₁, e₂] env = [(false, assign e₁ env), (false, assign e₂ env)] := by rfl) : wpAny (model prg w) A (assign (.Tuple [e₁, e₂] x1 pos) env (.ref t)) Q E s := by
  refine wpAny_assign_Tuple hh (h.tuple hm) (by rw [he]; rfl) (by rw [he]; rfl) fun h' hx => ?_
  rw [he]
  refine assignInOrder_cons (wpAny_mono (hq _ (h.ext (tk := s.toks) hx)) (fun _ s₁ h₁ => ?_) fun _ _ e => e)
  exact assignInOrder_cons (wpAny_mono h₁ (fun _ s₂ h₂ => assignInOrder_nil h₂) fun _ _ e => e)
theorem x_assignT {elts : List Expr} {k : Nat} {tpos pos : Pos} {value : Expr} {rest : List Stmt} {Q : Flow → Shared → Prop}
    (h : wpAny (model prg w) A (eval value env) (fun v s₁ => wpAny (model prg w) A (assign (.Tuple elts k tpos) env v) (fun _ s₂ => wpAny (model prg w) A (execs rest env) Q E s₂) E s₁) E s)
    (hs : swapsWithSole [.Tuple elts k tpos] value pos.line env = pure false := by rfl)
    (hw : swappedStores [.Tuple elts k tpos] value env = pure none := by rfl) :
    wpAny (model prg w) A (execs (.Assign [.Tuple elts k tpos] value pos :: rest) env) Q E s := wpAny_execs_cons (Assign_Tuple h hs hw)
theorem x_aug {x : Str} {pos' pos : Pos} {op : Operator} {value : Expr} {rest : List Stmt} {Q : Flow → Shared → Prop}
    (h : wpAny (model prg w) A (loadName env x) (fun old s₁ => wpAny (model prg w) A (eval value env) (fun v s₂ => wpAny (model prg w) A (inplaceOp op old v)
      (fun r s₃ => wpAny (model prg w) A (storeName env x r) (fun _ s₄ => wpAny (model prg w) A (execs rest env) Q E s₄) E s₃) E s₂) E s₁) E s) :
    wpAny (model prg w) A (execs (.AugAssign (.Name x pos') op value pos :: rest) env) Q E s := wpAny_execs_cons (wpAny_AugAssign_Name h)
theorem ld_local {L : Addr} {x : Str} {m : Str → Option Value} {v : Value} {Q : Value → Shared → Prop} (h : At b S s) (hL : env.locals = L) (hm : (L, nsr m) ∈ S) (hv : m x = some v)
    (hq : Q v s) (hk : env.scope.kind = .function := by rfl) (hl : env.kindOf x = some .local := by rfl) : wpAny (model prg w) A (loadName env x) Q E s := wpAny_loadName_local hk hl (hL ▸ h.ns hm) hv hq
theorem go_list {elts : List Expr} {x1} {pos : Pos} {I l T : Addr} {i : Nat} {Q : Unit → Shared → Prop} (h : At b S s) (hm : (I, lit l i) ∈ S) (hq : Q () s) : wpAny (model prg w) A (letOwnedTupleGo (.Tuple elts x1 pos) (.ref I) (.ref T)) Q E s := by
  obtain ⟨o, ho, hr⟩ := h.own _ hm
  exact wpAny_letOwnedTupleGo_listiter ⟨o, ho, hr⟩ hq
theorem g_subT {t : Addr} {l : List Value} {k : Nat} {i : Int} {u : Tok} {x : Value} {value slice : Expr} {Q : Value → Shared → Prop} (h : At b S s) (hm : (t, tup l) ∈ S) (hi : i = k) (hx : l[k]? = some x) (hfit : l.length < 2 ^ 60) (hq : Q x s)
    (hs : subscripted slice false (.ref t) (.int i u) = operate [.ref t, .int i u] (getItem (.ref t) (.int i u)) := by with_unfolding_all rfl) : wpAny (model prg w) A (subscriptTail value slice (.ref t) (.int i u)) Q E s := by
  subst hi
  have hk : k < l.length := (List.getElem?_eq_some_iff.mp hx).1
  refine item_tupleT (j := k) (h.tuple hm) (by omega) (by omega) ?_ hx hq hs
  unfold seqIndex?
  simp only
  split <;> first | rfl | (split <;> first | (congr 1; omega) | omega | rfl) | (simp; omega)
theorem x_tryE {body orelse : List Stmt} {h₀ : ExceptHandler} {hs : List ExceptHandler} {pos : Pos} {rest : List Stmt} {Q : Flow → Shared → Prop}
    (h : wpAny (model prg w) A (execs body env) (fun f s₁ => match f with | .next => wpAny (model prg w) A (execs orelse env) (fun f s' => match f with | .next => wpAny (model prg w) A (execs rest env) Q E s' | f => Q f s') E s₁ | f => Q f s₁) (fun _ _ => False) s) :
    wpAny (model prg w) A (execs (.Try body (h₀ :: hs) orelse [] pos :: rest) env) Q E s := by
  refine wpAny_execs_cons (wpAny_Try_except (wpAny_mono h (fun f s₁ hf => ?_) fun _ _ e => e.elim))
  cases f with
  | next => exact wpAny_mono hf (fun f s' h' => by cases f <;> exact h') fun _ _ e => e
  | _ => exact hf
theorem b_iter {a : Addr} {vs : List Value} {Q : Value → Shared → Prop} (h : At b S s) (hm : (a, lst vs) ∈ S) (hq : ∀ I s', At b ((I, lit a 0) :: S) s' → Q (.ref I) s') : wpAny (model prg w) A (call (.builtin "iter") [.ref a]) Q E s := by
  refine call_function_entry (by decide +kernel) (by decide +kernel) kdk_entry_iter (kdk_args_iter _) ?_
  unfold Builtin.«iter»
  refine wpAny_bind (m := someArgs "iter" 1 2 _) (wpAny_of_eq (a := [Value.ref a]) (by first | rfl | kernel_rfl!) ?_)
  show wpAny _ _ (pyIter (.ref a) >>= _) _ _ _
  refine wpAny_bind (p_iter h hm fun I s' h' => ?_)
  exact wpAny_pure ⟨_, rfl, hq _ _ h'⟩
end
theorem sort_key_none (a : Addr) : Builtin.«list.sort» ⟨[.ref a], [(Str.ofString "key", .none)]⟩ = Builtin.«list.sort» ⟨[.ref a], []⟩ := rfl
theorem args_sort_key (a v : Value) : argsOk "list.sort" ⟨[a], [(Str.ofString "key", v)]⟩ := by unfold argsOk; kernel_rfl
theorem args_min_dk (a d v : Value) : argsOk "min" ⟨[a], [(Str.ofString "default", d), (Str.ofString "key", v)]⟩ := by unfold argsOk; kernel_rfl
def plainO : Res := fun o => o.cls = .type "object"
section
variable {w : World} {mg mb : Str → Option Value} {b s : Shared} {S : Led} {A : Around} {E : Value → Shared → Prop} {env : Env}
theorem b_sortedK {a : Addr} {vs : List Value} {Q : Value → Shared → Prop} (h : At b S s) (hm : (a, lst vs) ∈ S) (hi : ∀ v ∈ vs, isI v) (h64 : vs.length < 64)
    (hq : ∀ D ws s', (∀ v ∈ ws, isI v) → ws.map iv = srt (vs.map iv) → At b ((D, lst ws) :: S) s' → Q (.ref D) s') : wpAny (model prg w) A (call (.builtin "sorted") [.ref a] [(Str.ofString "key", .none)]) Q E s := by
  have hl := h.list hm
  refine call_function_entry_kw kind_sorted plain_sorted entry_sorted (ksk_s1 _ _) ?_
  unfold Builtin.«sorted»
  refine wpAny_bind (m := checkCount "sorted" 1 1 _) (wpAny_pure ?_)
  refine wpAny_bind (collect_list hl ?_ (by rw [sizeLine_eq]; omega))
  refine wpAny_bind (wpAny_newList ?_ (by rw [sizeLine_eq]; omega))
  have hsz : ((s.heap.push (seqObj "list" #[] 0)).update s.heap.objs.size (Obj.mapSeq (· ++ vs.toArray))).objs.size = s.heap.objs.size + 1 := by
    rw [Heap.size_update, size_push']
  have hoL : (((s.heap.push (seqObj "list" #[] 0)).update s.heap.objs.size (Obj.mapSeq (· ++ vs.toArray))).push (seqObj "list" vs.toArray 0)).get? (s.heap.objs.size + 1) = some (seqObj "list" vs.toArray 0) := by
    rw [← hsz]; exact Heap.get?_push_size _ rfl
  show wpAny _ _ _ _ _ { s with heap := ((s.heap.push (seqObj "list" #[] 0)).update s.heap.objs.size (Obj.mapSeq (· ++ vs.toArray))).push (seqObj "list" vs.toArray 0) }
  rw [hsz]
  refine wpAny_bind (wpAny_holding (wpAny_call_entry_kw PyProof.Rows.slot_list_sort ⟨_, hoL, rfl⟩ PyProof.Rows.entry_list_sort ?body (args_sort_key _ _)))
  case body =>
    show wpAny (model prg w) A.in1.in1 (Builtin.«list.sort» ⟨[.ref (s.heap.objs.size + 1)], [(Str.ofString "key", .none)]⟩) _ _ _
    rw [sort_key_none]
    refine list_sort_tree hoL (ints_of hi) h64 fun out ns' a1 a2 a3 => ⟨_, rfl, ?_⟩
    obtain ⟨e, he⟩ := sortedAll_at s.heap vs out
    obtain ⟨b1, b2⟩ := of_ints a1
    refine wpAny_pure ⟨_, rfl, hq _ out.toList _ b1 (b2.trans (srt_unique a2 a3)) ?_⟩
    exact h.more (tk := s.toks) (fun _ _ => sortedAll_old) (Nat.le_succ _) ⟨_, he, e, by simp⟩

theorem min_loop {vs : List Value} {I a B : Addr} {d : Value} {R : Result → Shared → Prop} (hh : A.handled = none) (hm : (a, lst vs) ∈ S) (hi : ∀ v ∈ vs, isI v)
    (hR : ∀ v s', v ∈ vs → (∀ u ∈ vs, iv v ≤ iv u) → At b S s' → R (.ok (.ret v)) s') :
    ∀ (k j : Nat) (s : Shared) (vb : Value), vs.length - (j + 1) = k → j + 1 ≤ vs.length → vb ∈ vs → (∀ u ∈ vs.take (j + 1), iv vb ≤ iv u) → At b ((B, lst [vb, vb]) :: (I, lit a (j + 1)) :: S) s →
    codeAny (model prg w) A (.builtin "min.loop" ⟨[.ref I, .none, .ref B], [("default", d)]⟩) R s := by
  have hname : (toString "min" ++ toString ".loop" : String) = "min.loop" := by decide
  have W := st_list (w := w) (b := b) (A := A.in1) (I := I) (a := a) (vs := vs) hh
  intro k
  induction k with
  | zero =>
    intro j s vb hk hj hv hle h
    have hin : j + 1 = vs.length := by omega
    obtain ⟨n, hB⟩ := h.plain (.head _)
    refine codeAny_builtin PySem.F.entry_min_loop ?_
    rw [Around.under_plainId PySem.F.plain_min_loop _]
    show wpAny _ A.in1 (seqItems? (.ref B) >>= _) _ _ s
    refine wpAny_bind (wpAny_seqItems hB rfl ?_)
    show wpAny _ A.in1 (tryCatch (pyNext (.ref I)) _ >>= _) _ _ s
    rw [hin] at h
    refine wpAny_bind (wpAny_tryCatch (W.2 ((B, lst [vb, vb]) :: S) s _ _ (.tail _ (.tail _ hm)) h.swap fun s' h' => ?_))
    obtain ⟨n', hB'⟩ := h'.plain (.head _)
    show wpAny _ A.in1 (updateSeq B (fun _ => #[]) >>= _) _ _ _
    refine wpAny_bind ?_
    refine wpAny_updateSeq hB' rfl (wpAny_bind (wpAny_letGo (wpAny_pure ?_)))
    refine hR vb _ hv (by rwa [hin, List.take_length] at hle) ?_
    exact (h'.seq (tk := s'.toks) (ws := []) .here rfl).tail
  | succ k ih =>
    intro j s vb hk hj hv hle h
    have hlt : j + 1 < vs.length := by omega
    obtain ⟨n, hB⟩ := h.plain (.head _)
    refine codeAny_builtin PySem.F.entry_min_loop ?_
    rw [Around.under_plainId PySem.F.plain_min_loop _]
    show wpAny _ A.in1 (seqItems? (.ref B) >>= _) _ _ s
    refine wpAny_bind (wpAny_seqItems hB rfl ?_)
    show wpAny _ A.in1 (tryCatch (pyNext (.ref I)) _ >>= _) _ _ s
    refine wpAny_bind (wpAny_tryCatch (W.1 (j + 1) _ _ s _ _ hlt (.tail _ (.tail _ hm)) (.there .here) h fun v s' hP h' => ?_))
    have hvm := List.mem_of_getElem? hP
    obtain ⟨i1, t1, rfl⟩ := hi v hvm
    obtain ⟨i2, t2, rfl⟩ := hi vb hv
    obtain ⟨n', hB'⟩ := h'.plain (.head _)
    show wpAny _ A.in1 (tryCatch (holding [.int i1 t1, .int i1 t1] (richCompare .Lt (.int i1 t1) (.int i2 t2) >>= _)) _ >>= _) _ _ _
    refine wpAny_bind (wpAny_tryCatch (wpAny_holding (wpAny_bind (show wpAny _ _ (compareOp .Lt (.int i1 t1) (.int i2 t2)) _ _ _ from c_lt ?_))))
    refine wpAny_bind (wpAny_holding (wpAny_truthy_bool ?_))
    refine wpAny_bind (wpAny_letGo (wpAny_pure ?_))
    have htk : vs.take (j + 1 + 1) = vs.take (j + 1) ++ [.int i1 t1] := take_snoc hP
    by_cases hb : i1 < i2
    · simp only [hb, decide_true, if_true]
      refine wpAny_bind ?_
      refine wpAny_updateSeq hB' rfl (wpAny_bind (wpAny_letGo ?_))
      rw [hname]
      refine wpAny_pure ⟨plainId_quiet PySem.F.plain_min_loop _, ih (j + 1) _ (.int i1 t1) (by omega) hlt hvm (fun u hu => ?_) (h'.seq (tk := s'.toks) (ws := [.int i1 t1, .int i1 t1]) .here rfl)⟩
      rw [htk] at hu
      rcases List.mem_append.mp hu with hu | hu
      · have := hle u hu
        simp only [iv] at this ⊢
        omega
      · rw [List.mem_singleton.mp hu]; exact Int.le_refl _
    · simp only [hb, decide_false, Bool.false_eq_true, if_false]
      refine wpAny_bind (wpAny_letGo ?_)
      rw [hname]
      refine wpAny_pure ⟨plainId_quiet PySem.F.plain_min_loop _, ih (j + 1) _ (.int i2 t2) (by omega) hlt hv (fun u hu => ?_) h'⟩
      rw [htk] at hu
      rcases List.mem_append.mp hu with hu | hu
      · exact hle u hu
      · rw [List.mem_singleton.mp hu]
        simp only [iv]
        omega
theorem b_minK {I a : Addr} {vs : List Value} {d : Value} {Q : Value → Shared → Prop} (hh : A.handled = none) (h : At b ((I, lit a 0) :: S) s) (hm : (a, lst vs) ∈ S) (hi : ∀ v ∈ vs, isI v) (hn : 0 < vs.length)
    (hq : ∀ v s', v ∈ vs → (∀ u ∈ vs, iv v ≤ iv u) → At b S s' → Q v s') : wpAny (model prg w) A (call (.builtin "min") [.ref I] [(Str.ofString "default", d), (Str.ofString "key", .none)]) Q E s := by
  have hname : (toString "min" ++ toString ".loop" : String) = "min.loop" := by decide
  refine kmk_tree PySem.F.kind_min PySem.F.plain_min PySem.F.entry_min (args_min_dk _ _ _) ?_
  show wpAny _ A.in1 (Builtin.Builtins.bindParams "min" ["key", "default"] 0 ⟨[], [(Str.ofString "default", d), (Str.ofString "key", .none)]⟩ >>= _) _ _ s
  refine wpAny_bind (wpAny_of_eq (show Builtin.Builtins.bindParams "min" ["key", "default"] 0 ⟨[], [(Str.ofString "default", d), (Str.ofString "key", .none)]⟩ = pure [some .none, some d] from rfl) ?_)
  refine wpAny_bind (wpAny_pure ?_)
  refine wpAny_bind (self_list _ _ _ _ _ .here h ?_)
  refine wpAny_bind (newList_r h (by simp) fun B s h => ?_)
  rw [hname]
  refine wpAny_pure ⟨plainId_quiet PySem.F.plain_min_loop _, ?_⟩
  have W := st_list (w := w) (b := b) (A := A.in1) (I := I) (a := a) (vs := vs) hh
  obtain ⟨n, hB⟩ := h.plain (.head _)
  show codeAny (model prg w) A (.builtin "min.loop" ⟨[.ref I, .none, .ref B], [("default", d)]⟩) _ s
  refine codeAny_builtin PySem.F.entry_min_loop ?_
  rw [Around.under_plainId PySem.F.plain_min_loop _]
  show wpAny _ A.in1 (seqItems? (.ref B) >>= _) _ _ s
  refine wpAny_bind (wpAny_seqItems hB rfl ?_)
  show wpAny _ A.in1 (tryCatch (pyNext (.ref I)) _ >>= _) _ _ s
  refine wpAny_bind (wpAny_tryCatch (W.1 0 _ _ s _ _ hn (.tail _ (.tail _ hm)) (.there .here) h fun v s' hP h' => ?_))
  obtain ⟨n', hB'⟩ := h'.plain (.head _)
  show wpAny _ A.in1 (updateSeq B (fun _ => #[v, v]) >>= _) _ _ _
  refine wpAny_bind ?_
  refine wpAny_updateSeq hB' rfl ?_
  rw [hname]
  refine wpAny_pure ⟨plainId_quiet PySem.F.plain_min_loop _, min_loop hh hm hi (fun v s' h1 h2 h3 => hq v s' h1 h2 h3) _ 0 _ v rfl hn (List.mem_of_getElem? hP) (fun u hu => ?_) (h'.seq (tk := s'.toks) (ws := [v, v]) .here rfl)⟩
  rw [take_snoc hP] at hu
  simp at hu
  rw [hu]; exact Int.le_refl _
end
theorem look_obj_new : typeLookup (.type "object") "__new__" = pure (some (.builtin "object.__new__")) := by rw [typeLookup_type, builtinLookup_eq_fast]; kernel_rfl
theorem made_obj : Bind.madeBy (.type "object") = pure (some "object.__new__") := madeBy_type PySem.F.mro_object look_obj_new (by decide +kernel)
theorem called_obj : TypeCalled "object" "object.__new__" "object.__init__" :=
  ⟨by decide +kernel, by decide +kernel, ⟨_, _, PySem.F.mro_object⟩, made_obj, by decide +kernel, by rw [isSubtype_type]; kernel_rfl, PySem.F.slot_object_init⟩
theorem typeCall_obj : checkTypeCall "object" ⟨[], []⟩ = pure () := by kernel_rfl
theorem newCall_obj : checkBuiltinCall "object.__new__" ⟨[.type "object"], []⟩ = pure () := by kernel_rfl
theorem args_obj_init (a : Value) : argsOk "object.__init__" ⟨[a], []⟩ := by
  unfold argsOk; rw [signature?_of (id := "object.__init__") (n := ['_', '_', 't', 'i', 'n', 'i', '_', '_']) (o := ['t', 'c', 'e', 'j', 'b', 'o']) (by kernel_rfl) PySem.F.owner_object]; kernel_rfl
theorem mh_obj : Bind.madeHere "object.__new__" (.type "object") = pure () := by kernel_rfl
theorem obj_new_meets : Meets (Builtin.«object.__new__» ⟨[.type "object"], []⟩) (fun _ R s => R (.ok (.ret (.ref s.heap.objs.size))) { s with heap := s.heap.push { cls := .type "object", data := .plain } }) :=
  .of_wp fun prog w A R s h => by
    obtain ⟨hp, g, d, tk, os⟩ := s
    have hmh := mh_obj
    wp_walk
    exact ⟨_, rfl, h⟩
theorem obj_init_meets (a : Value) : Meets (Builtin.«object.__init__» ⟨[a], []⟩) (fun _ R s => R (.ok (.ret .none)) s) :=
  .of_wp fun prog w A R s h => wpAny_pure ⟨_, rfl, h⟩
section
variable {w : World} {b s : Shared} {S : Led} {A : Around} {E : Value → Shared → Prop}
theorem b_object {Q : Value → Shared → Prop} (h : At b S s) (hq : ∀ a s', At b ((a, plainO) :: S) s' → Q (.ref a) s') : wpAny (model prg w) A (call (.type "object") []) Q E s :=
  callType_meets called_obj typeCall_obj newCall_obj PySem.F.entry_object_new PySem.F.entry_object_init obj_new_meets (Q₁ := fun obj s₁ => obj = .ref s.heap.objs.size ∧ s₁ = { s with heap := s.heap.push { cls := .type "object", data := .plain } })
    ⟨rfl, rfl⟩ fun obj s₁ ⟨e1, e2⟩ => by
      subst e1 e2
      exact ⟨⟨_, Heap.get?_push_size _ rfl, rfl⟩, args_obj_init _, _, obj_init_meets _, rfl, hq _ _ (h.alloc (r := plainO) (tk := s.toks) rfl)⟩
end
def zpr (f0 : Value) (TI TO : Addr) : Res := fun o => o = { cls := .type "zip", dict := none, data := .fields #[f0, .bool false, .bool false, .ref TI, .ref TO], slots := #[] }
def pr (x y : Value) : Res := fun o => o = { cls := .type "tuple", data := .seq #[x, y] }
def prA : Res := fun o => ∃ x y, o = { cls := .type "tuple", data := .seq #[x, y] }
theorem pr_tup {x y : Value} : ∀ o, pr x y o → tup [x, y] o := fun o h => ⟨0, h⟩
/-- what an iterator hands to zip -/
def DrawI (w : World) (b : Shared) (I : Addr) (r r' : Res) (P : Value → Prop) (Src : Led → Prop) : Prop :=
  ∀ A S C s Q E, Src S → Has I r S C → At b S s → (∀ v s', P v → At b (C r') s' → Q v s') → wpAny (model prg w) A (Builtin.SmallTypes.nextOf (.ref I)) Q E s
def DrawE (w : World) (b : Shared) (I : Addr) (r : Res) (Src : Led → Prop) : Prop :=
  ∀ A S s Q E, A.handled = none → Src ((I, r) :: S) → At b ((I, r) :: S) s → (∀ e s', At b S s' → (∃ o, s'.heap.get? e = some o ∧ o.cls = .type "StopIteration") → E (.ref e) s') → wpAny (model prg w) A (Builtin.SmallTypes.nextOf (.ref I)) Q E s
section
variable {w : World} {mg mb : Str → Option Value} {b s : Shared} {S : Led} {A : Around} {E : Value → Shared → Prop} {env : Env}
theorem draw_list {I a : Addr} {vs : List Value} {i : Nat} {x : Value} (hx : vs[i]? = some x) : DrawI w b I (lit a i) (lit a (i + 1)) (fun v => v = x) (fun S => (a, lst vs) ∈ S) := by
  intro A S C s Q E hs hm h hq
  obtain ⟨o, ho, hr⟩ := h.own _ hm.mem
  refine wpAny_nextOf_list_item (x := x) ⟨o, ho, hr⟩ (h.list hs) (by simpa using hx) fun h' hl hsb => hq _ _ rfl (h.upd (tk := s.toks) hm hsb ?_)
  obtain ⟨o', ho', hr'⟩ := hl
  exact ⟨o', ho', hr'⟩
theorem draw_list_end {I a : Addr} {vs : List Value} : DrawE w b I (lit a vs.length) (fun S => (a, lst vs) ∈ S) := by
  intro A S s Q E hh hs h hq
  obtain ⟨o, ho, hr⟩ := h.own _ (.head _)
  exact wpAny_nextOf_list_end hh ⟨o, ho, hr⟩ (h.list hs) (by simp) fun h' e hsb he => hq _ _ (h.lose (tk := s.toks) hsb) he
theorem draw_range {I : Addr} {x c : Int} {n i : Nat} (hi : i < n) : DrawI w b I (rit x c n i) (rit x c n (i + 1)) (fun v => ∃ t, v = .int (x + i * c) t) (fun _ => True) := by
  intro A S C s Q E hs hm h hq
  obtain ⟨o, ho, rfl⟩ := h.own _ hm.mem
  have hT : s.TypeIs (.ref I) "range_iterator" := ⟨_, ho, rfl⟩
  unfold Builtin.SmallTypes.nextOf
  refine wpAny_bind (wpAny_callSpecial?_slot (name := Str.ofString "__next__") hT PySem.F.slot_range_iterator_next
    (call_meets PySem.F.slot_range_iterator_next hT PySem.F.entry_range_iterator_next (PySem.F.args_range_iterator_next_1 _) (AutoRange.range_iterator___next___range_iterator_1 I _ _ c (by omega)) ⟨ho, ?_⟩))
  refine wpAny_pure (hq _ _ ⟨_, rfl⟩ (h.upd (tk := s.toks + 1) hm ((Heap.SameBut.update ..).trans (Heap.SameBut.update ..)) ⟨_, Heap.get?_update_self _ (Heap.get?_update_self _ ho rfl) rfl, ?_⟩))
  unfold rit
  rw [show x + ((i + 1 : Nat) : Int) * c = x + i * c + c by rw [Int.natCast_add, Int.add_mul]; omega, show (n : Int) - ((i + 1 : Nat) : Int) = n - i - 1 by omega]
  rfl
theorem draw_range_end {I : Addr} {x c : Int} {n : Nat} : DrawE w b I (rit x c n n) (fun _ => True) := by
  intro A S s Q E hh hs h hq
  obtain ⟨o, ho, rfl⟩ := h.own _ (.head _)
  have hT : s.TypeIs (.ref I) "range_iterator" := ⟨_, ho, rfl⟩
  unfold Builtin.SmallTypes.nextOf
  refine wpAny_bind (wpAny_callSpecial?_slot (name := Str.ofString "__next__") hT PySem.F.slot_range_iterator_next
    (wpAny_call_entry PySem.F.slot_range_iterator_next hT PySem.F.entry_range_iterator_next ?_ (PySem.F.args_range_iterator_next_1 _)))
  show wpAny _ _ (field (.ref I) 0 >>= _) _ _ s
  refine wpAny_bind (wpAny_field ho rfl (x := rawInt _) rfl ?_)
  show wpAny _ _ (field (.ref I) 1 >>= _) _ _ s
  refine wpAny_bind (wpAny_field ho rfl (x := rawInt _) rfl ?_)
  show wpAny _ _ (field (.ref I) 2 >>= _) _ _ s
  refine wpAny_bind (wpAny_field ho rfl (x := rawInt c) rfl ?_)
  show wpAny _ _ (if (n : Int) - n ≤ 0 then _ else _) _ _ s
  rw [if_pos (by omega)]
  refine wpAny_bind (wpAny_rule ?_)
  refine wpAny_bind ?_
  show wpAny _ _ (newExc (.type "StopIteration") [] >>= _) _ _ _
  refine wpAny_bind ?_
  simp only [newExc, newTuple]
  refine wpAny_bind (wpAny_newObj_type ?_ (by size_fits))
  refine wpAny_bind (m := firstArgMember _ _) (wpAny_of_eq (a := Value.none) (by first | rfl | (simp only [firstArgMember]; rfl)) ?_)
  refine wpAny_newObj_type ?_ (by size_fits)
  simp only [raiseNew]
  refine wpAny_bind (wpAny_handled ?_)
  first | rw [show A.in1.handled = none from hh] | rw [hh]
  refine wpAny_bind (wpAny_pure (wpAny_throw ?_))
  exact hq _ _ (h.lose (tk := s.toks) (((Heap.ExtBut.refl I s.heap).push _).push _)) ⟨_, Heap.get?_push_size _ rfl, rfl⟩

theorem zip_item {z TI TO i1 i2 : Addr} {r1 r1' r2 r2' : Res} {P1 P2 : Value → Prop} {Src1 Src2 : Led → Prop} {Q : Option Value → Shared → Prop} (d1 : DrawI w b i1 r1 r1' P1 Src1) (d2 : DrawI w b i2 r2 r2' P2 Src2)
    (h1 : ∀ S', (∀ p ∈ S, p ∈ S') → Src1 S') (h2 : ∀ S', (∀ p ∈ S, p ∈ S') → Src2 S')
    (h : At b ((z, zpr .none TI TO) :: (TI, pr (.ref i1) (.ref i2)) :: (TO, prA) :: (i1, r1) :: (i2, r2) :: S) s)
    (hq : ∀ T x y s', P1 x → P2 y → At b ((T, pr x y) :: (z, zpr (rawInt T) TI TO) :: (TI, pr (.ref i1) (.ref i2)) :: (TO, prA) :: (i1, r1') :: (i2, r2') :: S) s' → Q (some (.ref T)) s') :
    wpAny (model prg w) A (pyNext (.ref z)) Q E s := by
  obtain ⟨oz, hz, rfl⟩ := h.own _ (.head _)
  obtain ⟨oT, hTI, rfl⟩ := h.own _ (.tail _ (.head _))
  have hz : IsZip s.heap z TI TO .none := hz
  have hTI : IsPair s.heap TI (.ref i1) (.ref i2) := hTI
  have hT : s.TypeIs (.ref z) "zip" := ⟨_, hz, rfl⟩
  unfold pyNext
  refine wpAny_bind (wpAny_attempt (wpAny_callSpecial?_slot (name := Str.ofString "__next__") hT PySem.F.slot_zip_next
    (wpAny_call_entry PySem.F.slot_zip_next hT PySem.F.entry_zip_next ?_ (PySem.F.args_zip_next_1 _))))
  show wpAny _ _ (field (.ref z) 2 >>= _) _ _ _
  refine wpAny_bind (wpAny_field hz rfl (x := .bool false) rfl ?_)
  show wpAny _ _ (field (.ref z) 3 >>= _) _ _ _
  refine wpAny_bind (wpAny_field hz rfl (x := .ref TI) rfl ?_)
  refine wpAny_bind (wpAny_seqItems hTI rfl ?_)
  show wpAny _ _ (Builtin.SmallTypes.ownedTupleIsFree (.ref z) >>= _) _ _ _
  refine wpAny_bind ?_
  unfold Builtin.SmallTypes.ownedTupleIsFree
  refine wpAny_bind (wpAny_field hz rfl (x := .none) rfl (wpAny_pure ?_))
  simp only [if_true]
  refine wpAny_bind (wpAny_rule ?_)
  refine wpAny_bind (wpAny_field hz rfl (x := .ref TO) rfl ?_)
  refine wpAny_bind (wpAny_setField_rec hz (by simp) fun h₁ hz₁ hs₁ => ?_)
  replace hz₁ : IsZip h₁ z TI TO .ellipsis := hz₁
  have g1 := h.upd (tk := s.toks) (r' := zpr .ellipsis TI TO) .here hs₁ ⟨_, hz₁, rfl⟩
  refine wpAny_bind ?_
  simp only [List.zipIdx_cons, List.zipIdx_nil, List.forIn_cons, List.forIn_nil]
  refine wpAny_bind (wpAny_bind (wpAny_onRaise ?_))
  show wpAny _ _ (Builtin.SmallTypes.nextOf (.ref i1) >>= _) _ _ _
  refine wpAny_bind (d1 _ _ _ _ _ _ (h1 _ fun p hp => .tail _ (.tail _ (.tail _ (.tail _ (.tail _ hp))))) (.there (.there (.there .here))) g1 fun x s2 px g2 => wpAny_pure ?_)
  obtain ⟨oO, hTO, xa, ya, rfl⟩ := g2.own _ (.tail _ (.tail _ (.head _)))
  refine wpAny_bind (wpAny_seqItems hTO rfl ?_)
  refine wpAny_bind (wpAny_updateSeq_pair hTO fun h₃ hTO₃ hs₃ => ?_)
  have g3 := g2.upd (tk := s2.toks) (r' := pr x ya) (.there (.there .here)) hs₃ ⟨_, hTO₃, rfl⟩
  refine wpAny_bind (wpAny_letGo (wpAny_pure ?_))
  refine wpAny_bind (wpAny_bind (wpAny_onRaise ?_))
  show wpAny _ _ (Builtin.SmallTypes.nextOf (.ref i2) >>= _) _ _ _
  refine wpAny_bind (d2 _ _ _ _ _ _ (h2 _ fun p hp => .tail _ (.tail _ (.tail _ (.tail _ (.tail _ hp))))) (.there (.there (.there (.there .here)))) g3 fun y s4 py g4 => wpAny_pure ?_)
  obtain ⟨oO, hTO, rfl⟩ := g4.own _ (.tail _ (.tail _ (.head _)))
  refine wpAny_bind (wpAny_seqItems hTO rfl ?_)
  refine wpAny_bind (wpAny_updateSeq_pair hTO fun h₅ hTO₅ hs₅ => ?_)
  replace hTO₅ : IsPair h₅ TO x y := hTO₅
  have g5 := g4.upd (tk := s4.toks) (r' := pr x y) (.there (.there .here)) hs₅ ⟨_, hTO₅, rfl⟩
  refine wpAny_bind (wpAny_letGo (wpAny_pure (wpAny_pure ?_)))
  refine wpAny_bind (wpAny_seqItems hTO₅ rfl ?_)
  refine wpAny_bind (wpAny_newTuple ?_)
  have g6 := g5.alloc (r := pr x y) (o := { cls := .type "tuple", data := .seq #[x, y] }) (tk := s4.toks) rfl
  show wpAny _ _ (Builtin.SmallTypes.ownedTupleHandOut (.ref z) (.ref h₅.objs.size) >>= _) _ _ _
  refine wpAny_bind ?_
  unfold Builtin.SmallTypes.ownedTupleHandOut
  obtain ⟨oz, hz₆, rfl⟩ := g6.own _ (.tail _ (.head _))
  have hz₆ : IsZip (h₅.push { cls := .type "tuple", data := .seq #[x, y] }) z TI TO .ellipsis := hz₆
  refine wpAny_bind (wpAny_setField_rec hz₆ (by simp) fun h₇ hz₇ hs₇ => ?_)
  replace hz₇ : IsZip h₇ z TI TO (rawInt h₅.objs.size) := hz₇
  refine wpAny_setField_rec hz₇ (by simp) fun h₈ hz₈ hs₈ => ?_
  replace hz₈ : IsZip h₈ z TI TO (rawInt h₅.objs.size) := hz₈
  have g8 := g6.upd (tk := s4.toks) (r' := zpr (rawInt h₅.objs.size) TI TO) (.there .here) (hs₇.trans hs₈) ⟨_, hz₈, rfl⟩
  refine wpAny_pure ⟨_, rfl, ?_⟩
  refine wpAny_pure (hq _ x y _ px py (g8.weaken (.there (.there (.there .here))) fun o ho => ⟨_, _, ho⟩))
theorem zip_end {z TI TO i1 i2 : Addr} {r1 r2 : Res} {Src1 : Led → Prop} {Q : Option Value → Shared → Prop} (hh : A.handled = none) (d1 : DrawE w b i1 r1 Src1)
    (h1 : ∀ S', (∀ p ∈ S, p ∈ S') → Src1 S')
    (h : At b ((z, zpr .none TI TO) :: (TI, pr (.ref i1) (.ref i2)) :: (TO, prA) :: (i1, r1) :: (i2, r2) :: S) s)
    (hq : ∀ s', At b ((i2, r2) :: S) s' → Q none s') :
    wpAny (model prg w) A (pyNext (.ref z)) Q E s := by
  obtain ⟨oz, hz, rfl⟩ := h.own _ (.head _)
  obtain ⟨oT, hTI, rfl⟩ := h.own _ (.tail _ (.head _))
  have hz : IsZip s.heap z TI TO .none := hz
  have hTI : IsPair s.heap TI (.ref i1) (.ref i2) := hTI
  have hT : s.TypeIs (.ref z) "zip" := ⟨_, hz, rfl⟩
  unfold pyNext
  refine wpAny_bind (wpAny_attempt (wpAny_callSpecial?_slot (name := Str.ofString "__next__") hT PySem.F.slot_zip_next
    (wpAny_call_entry PySem.F.slot_zip_next hT PySem.F.entry_zip_next ?_ (PySem.F.args_zip_next_1 _))))
  show wpAny _ _ (field (.ref z) 2 >>= _) _ _ _
  refine wpAny_bind (wpAny_field hz rfl (x := .bool false) rfl ?_)
  show wpAny _ _ (field (.ref z) 3 >>= _) _ _ _
  refine wpAny_bind (wpAny_field hz rfl (x := .ref TI) rfl ?_)
  refine wpAny_bind (wpAny_seqItems hTI rfl ?_)
  show wpAny _ _ (Builtin.SmallTypes.ownedTupleIsFree (.ref z) >>= _) _ _ _
  refine wpAny_bind ?_
  unfold Builtin.SmallTypes.ownedTupleIsFree
  refine wpAny_bind (wpAny_field hz rfl (x := .none) rfl (wpAny_pure ?_))
  simp only [if_true]
  refine wpAny_bind (wpAny_rule ?_)
  refine wpAny_bind (wpAny_field hz rfl (x := .ref TO) rfl ?_)
  refine wpAny_bind (wpAny_setField_rec hz (by simp) fun h₁ hz₁ hs₁ => ?_)
  replace hz₁ : IsZip h₁ z TI TO .ellipsis := hz₁
  have g1 := h.upd (tk := s.toks) (r' := zpr .ellipsis TI TO) .here hs₁ ⟨_, hz₁, rfl⟩
  refine wpAny_bind ?_
  simp only [List.zipIdx_cons, List.zipIdx_nil, List.forIn_cons, List.forIn_nil]
  refine wpAny_bind (wpAny_bind (wpAny_onRaise ?_))
  show wpAny _ _ (Builtin.SmallTypes.nextOf (.ref i1) >>= _) _ _ _
  refine wpAny_bind (d1 _ ((z, zpr .ellipsis TI TO) :: (TI, pr (.ref i1) (.ref i2)) :: (TO, prA) :: (i2, r2) :: S) _ _ _ hh (h1 _ fun p hp => .tail _ (.tail _ (.tail _ (.tail _ (.tail _ hp))))) (g1.perm (List.perm_middle (l₁ := [_, _, _])).symm) fun e s2 g2 he => ?_)
  obtain ⟨oe, hoe, hce⟩ := he
  obtain ⟨oz, hz₂, rfl⟩ := g2.own _ (.head _)
  have hz₂ : IsZip s2.heap z TI TO .ellipsis := hz₂
  have hez : e ≠ z := fun x => by subst x; rw [hz₂] at hoe; cases hoe; simp at hce
  refine wpAny_setField_rec hz₂ (by simp) fun h₃ _ hs₃ => ?_
  have hoe' := hs₃.extBut _ _ hez hoe
  refine wpAny_bind (wpAny_isInstance (T := "StopIteration") (b := true) ⟨oe, hoe', hce⟩ isSubtype_stop ?_)
  exact wpAny_pure (hq _ (g2.lose (tk := s2.toks) hs₃.extBut).tail.tail)
theorem go_zip {elts : List Expr} {x1} {pos : Pos} {z TI TO T : Addr} {C : Res → Led} {Q : Unit → Shared → Prop} (h : At b S s) (hm : Has z (zpr (rawInt T) TI TO) S C) (hq : ∀ s', At b (C (zpr .none TI TO)) s' → Q () s') :
    wpAny (model prg w) A (letOwnedTupleGo (.Tuple elts x1 pos) (.ref z) (.ref T)) Q E s := by
  obtain ⟨oz, hz, rfl⟩ := h.own _ hm.mem
  exact wpAny_letOwnedTupleGo_zip hz fun h' hz' hs' => hq _ (h.upd (tk := s.toks) hm hs' ⟨_, hz', rfl⟩)
theorem b_zip {l1 l2 : Addr} {xs ys : List Value} {Q : Value → Shared → Prop} (h : At b S s) (hm1 : (l1, lst xs) ∈ S) (hm2 : (l2, lst ys) ∈ S)
    (hq : ∀ z TI TO i1 i2 s', At b ((z, zpr .none TI TO) :: (TI, pr (.ref i1) (.ref i2)) :: (TO, prA) :: (i1, lit l1 0) :: (i2, lit l2 0) :: S) s' → Q (.ref z) s') :
    wpAny (model prg w) A (call (.type "zip") [.ref l1, .ref l2]) Q E s := by
  refine call_zip_2 (h.list hm1) (h.list hm2) fun h' hz hTI hTO hi1 hi2 hsz hk => hq _ (s.heap.objs.size + 2) (s.heap.objs.size + 3) s.heap.objs.size (s.heap.objs.size + 1) _ ?_
  have k := h.keeps (tk := s.toks) hk
  have hlt : ∀ p ∈ S, p.1 < s.heap.objs.size := fun p hp => h.lt (r := p.2) hp
  refine ⟨k.keep, fun p hp => ?_, fun p hp => ?_, ?_, h.gens, h.os⟩
  · simp only [List.mem_cons] at hp
    rcases hp with rfl | rfl | rfl | rfl | rfl | hp
    · exact ⟨_, hz, rfl⟩
    · exact ⟨_, hTI, rfl⟩
    · exact ⟨_, hTO, _, _, rfl⟩
    · exact hi1
    · exact hi2
    · exact k.own p hp
  · simp only [List.mem_cons] at hp
    rcases hp with rfl | rfl | rfl | rfl | rfl | hp
    · exact h.none_of_size (Nat.le_add_right _ _)
    · exact h.none_of_size (Nat.le_add_right _ _)
    · exact h.none_of_size (Nat.le_add_right _ _)
    · exact h.none_of_size (Nat.le_refl _)
    · exact h.none_of_size (Nat.le_add_right _ _)
    · exact h.fresh p hp
  · have nin : ∀ k, s.heap.objs.size + k ∉ S.map (·.1) := fun k => h.notin (Nat.le_add_right _ _)
    have n0 := nin 0
    simp only [List.map_cons, List.nodup_cons, List.mem_cons, not_or]
    refine ⟨⟨?_, ?_, ?_, ?_, nin 4⟩, ⟨?_, ?_, ?_, nin 2⟩, ⟨?_, ?_, nin 3⟩, ⟨?_, n0⟩, nin 1, h.nodup⟩ <;> first | exact Nat.ne_of_lt (by omega) | exact Nat.ne_of_gt (by omega)
end
abbrev Zl (z TI TO i1 i2 : Addr) (r1 r2 : Res) (S : Led) : Led := (z, zpr .none TI TO) :: (TI, pr (.ref i1) (.ref i2)) :: (TO, prA) :: (i1, r1) :: (i2, r2) :: S
theorem range_small' (x : Int) (n : Nat) (hx : 0 ≤ x ∧ x < 2 ^ 20) (hn : n < 2 ^ 20) : Builtin.Range.small x (x + n) 1 = true ∧ Builtin.Range.rangeSize x (x + n) 1 = n := by
  have hsz : Builtin.Range.rangeSize x (x + n) 1 = n := by
    unfold Builtin.Range.rangeSize
    rw [if_pos (by decide)]
    split <;> omega
  refine ⟨?_, hsz⟩
  unfold Builtin.Range.small
  rw [hsz]
  simp only [Builtin.Range.rangeFitsLong, Bool.and_eq_true, decide_eq_true_eq, Bool.or_eq_true]
  refine ⟨⟨⟨⟨⟨by omega, by omega⟩, by omega, by omega⟩, by decide, by decide⟩, by omega, by omega⟩, Or.inr ?_⟩
  rw [if_pos (by decide)]
  simp only [Bool.and_eq_true, decide_eq_true_eq]
  exact ⟨by omega, by omega⟩
theorem range_small (n : Nat) (hn : n < 2 ^ 20) : Builtin.Range.small 0 n 1 = true ∧ Builtin.Range.rangeSize 0 n 1 = n := by
  have := range_small' 0 n (by decide) hn
  rwa [Int.zero_add] at this
abbrev zrH1 (h : Heap) (n : Int) : Heap := h.push { cls := .type "range_iterator", data := .fields #[rawInt 0, rawInt (Builtin.Range.rangeSize 0 n 1), rawInt 1] }
abbrev zrH2 (h : Heap) (n : Int) (it : Addr) : Heap := (zrH1 h n).push { cls := .type "tuple", data := .seq #[.ref h.objs.size, .ref it] }
abbrev zrH3 (h : Heap) (n : Int) (it : Addr) : Heap := (zrH2 h n it).push { cls := .type "tuple", data := .seq #[.none, .none] }
abbrev zrH4 (h : Heap) (n : Int) (it : Addr) : Heap := (zrH3 h n it).push { cls := .type "zip", data := .fields #[.none, .bool false, .bool false, .ref (zrH1 h n).objs.size, .ref (zrH2 h n it).objs.size] }
theorem meets_zip_rl (r it l : Addr) (k : Nat) (n : Int) (t u v : Tok) (hsm : Builtin.Range.small 0 n 1 = true) :
    Meets (Builtin.«zip.__new__» ⟨[.type "zip", .ref r, .ref it], []⟩) (fun _ R s => IsRange s.heap r 0 n 1 t u v ∧ s.heap.IsListIter it l k ∧
      R (.ok (.ret (.ref (zrH3 s.heap n it).objs.size))) { s with heap := zrH4 s.heap n it }) :=
  .of_wp fun prog w A R s h => by
    obtain ⟨hp, g, d, tk, os⟩ := s; obtain ⟨hr, hit, h⟩ := h
    have hsub := sub_zip
    have hL1 : IsRange (Shared.heap ⟨hp, g, d, tk, os⟩) r 0 n 1 t u v := hr
    have hL2 : Heap.IsListIter (Shared.heap ⟨hp.push { cls := .type "range_iterator", data := .fields #[rawInt 0, rawInt (Builtin.Range.rangeSize 0 n 1), rawInt 1] }, g, d, tk, os⟩) it l k := by
      obtain ⟨o, ho, x⟩ := hit
      exact ⟨o, Heap.get?_push_of_some _ ho, x⟩
    wp_walk using wpAny_pyIter_range hL1 hsm, wpAny_pyIter_listiter hL2
    exact ⟨_, rfl, h⟩
section
variable {w : World} {mg mb : Str → Option Value} {b s : Shared} {S : Led} {A : Around} {E : Value → Shared → Prop} {env : Env}
theorem b_zipR {r it a : Addr} {n k : Nat} {Q : Value → Shared → Prop} (h : At b ((it, lit a k) :: S) s) (hm1 : (r, rng 0 n 1) ∈ S) (hn : n < 2 ^ 20)
    (hq : ∀ z TI TO i1 s', At b (Zl z TI TO i1 it (rit 0 1 n 0) (lit a k) S) s' → Q (.ref z) s') :
    wpAny (model prg w) A (call (.type "zip") [.ref r, .ref it]) Q E s := by
  obtain ⟨o, ho, t, u, v, rfl⟩ := h.own _ (.tail _ hm1)
  obtain ⟨oi, hoi, hri⟩ := h.own _ (.head _)
  obtain ⟨hsm, hsz⟩ := range_small n hn
  refine callType_new PySem.F.called_zip (by decide) (PySem.F.typeCall_zip_2 _ _) (PySem.F.newCall_zip_2 _ _) (fun obj => PySem.F.args_object_init_3 obj _ _) PySem.F.entry_zip_new
    (meets_zip_rl r it a k n t u v hsm) ⟨ho, ⟨oi, hoi, hri⟩, ?_⟩
  have a1 := h.alloc (r := rit 0 1 n 0) (tk := s.toks) (o := { cls := .type "range_iterator", data := .fields #[rawInt 0, rawInt (Builtin.Range.rangeSize 0 n 1), rawInt 1] }) (by unfold rit; rw [hsz]; simp)
  have a2 := a1.alloc (r := pr (.ref s.heap.objs.size) (.ref it)) (tk := s.toks) (o := { cls := .type "tuple", data := .seq #[.ref s.heap.objs.size, .ref it] }) rfl
  have a3 := a2.alloc (r := prA) (tk := s.toks) (o := { cls := .type "tuple", data := .seq #[.none, .none] }) ⟨_, _, rfl⟩
  have a4 := a3.alloc (r := zpr .none (zrH1 s.heap n).objs.size (zrH2 s.heap n it).objs.size) (tk := s.toks) (o := { cls := .type "zip", data := .fields #[.none, .bool false, .bool false, .ref (zrH1 s.heap n).objs.size, .ref (zrH2 s.heap n it).objs.size] }) rfl
  refine ⟨⟨_, Heap.get?_push_size _ rfl, rfl⟩, hq _ (zrH1 s.heap n).objs.size (zrH2 s.heap n it).objs.size s.heap.objs.size _ (a4.perm ?_)⟩
  exact .cons _ (.swap _ _ _)
theorem p_zip {z TI TO : Addr} {f0 : Value} {Q : Value → Shared → Prop} (h : At b S s) (hm : (z, zpr f0 TI TO) ∈ S) (hq : Q (.ref z) s) : wpAny (model prg w) A (pyIter (.ref z)) Q E s := by
  obtain ⟨o, ho, rfl⟩ := h.own _ hm
  exact wpAny_pyIter_zip ho hq

theorem for_zip {elts : List Expr} {x1} {tpos : Pos} {body} {rest : List Stmt} {Q : Flow → Shared → Prop} {z TI TO i1 i2 : Addr} {n : Nat} {R1 R2 : Nat → Res} {P1 P2 : Nat → Value → Prop} {Src1 Src2 : Led → Prop} {S₀ : Led} (hh : A.handled = none)
    (d1 : ∀ i, i < n → DrawI w b i1 (R1 i) (R1 (i + 1)) (P1 i) Src1) (d2 : ∀ i, i < n → DrawI w b i2 (R2 i) (R2 (i + 1)) (P2 i) Src2) (de : DrawE w b i1 (R1 n) Src1)
    (Inv : Nat → Led → Prop) (h : At b (Zl z TI TO i1 i2 (R1 0) (R2 0) S₀) s) (h0 : Inv 0 S₀) (hs1 : ∀ i S S', Inv i S → (∀ p ∈ S, p ∈ S') → Src1 S') (hs2 : ∀ i S S', Inv i S → (∀ p ∈ S, p ∈ S') → Src2 S')
    (turn : ∀ i T x y S s E', i < n → P1 i x → P2 i y → Inv i S → At b ((T, pr x y) :: Zl z TI TO i1 i2 (R1 (i + 1)) (R2 (i + 1)) S) s →
      wpAny (model prg w) A (assign (.Tuple elts x1 tpos) env (.ref T)) (fun _ s₂ => wpAny (model prg w) A (execs body env) (fun f s₃ => match f with
        | .next | .cont => ∃ S', Inv (i + 1) S' ∧ At b (Zl z TI TO i1 i2 (R1 (i + 1)) (R2 (i + 1)) S') s₃
        | .brk => wpAny (model prg w) A (execs rest env) Q E s₃
        | .ret v => Q (.ret v) s₃) E' s₂) E' s)
    (fin : ∀ S s, Inv n S → At b ((i2, R2 n) :: S) s → wpAny (model prg w) A (execs rest env) Q E s) :
    codeAny (model prg w) A (.forLoop (.Tuple elts x1 tpos) (.ref z) body [] env) (LoopR w A env rest Q E) s := by
  refine codeAny_forLoop_any (fun k s => ∃ i S, k + i = n ∧ Inv i S ∧ At b (Zl z TI TO i1 i2 (R1 i) (R2 i) S) s) (fun k s hI => ?_) n ⟨0, S₀, rfl, h0, h⟩
  obtain ⟨i, S, hk, hi, h⟩ := hI
  cases k with
  | zero =>
    obtain rfl : i = n := by omega
    refine zip_end hh de (fun S' hS' => hs1 _ _ _ hi hS') h fun s' h' => ?_
    exact wpAny_execs_nil (fin _ _ hi h')
  | succ k =>
    refine zip_item (d1 i (by omega)) (d2 i (by omega)) (fun S' hS' => hs1 _ _ _ hi hS') (fun S' hS' => hs2 _ _ _ hi hS') h fun T x y s' px py h' => ?_
    refine go_zip h' (.there .here) fun s' h' => ?_
    refine wpAny_mono (turn i T x y S s' _ (by omega) px py hi h') (fun _ s₂ h₂ => ?_) fun _ _ e => e
    refine wpAny_mono h₂ (fun f s₃ h₃ => ?_) fun _ _ e => e
    cases f with
    | next => obtain ⟨S', j1, j2⟩ := h₃; exact ⟨k, by omega, i + 1, S', by omega, j1, j2⟩
    | cont => obtain ⟨S', j1, j2⟩ := h₃; exact ⟨k, by omega, i + 1, S', by omega, j1, j2⟩
    | brk => exact h₃
    | ret v => exact h₃

/-- a comprehension over a zip, stored under a name -/
theorem lz_use {elt iter : Expr} {elts : List Expr} {x1} {tpos : Pos} {y : Str} {py : Pos} {scope : Scope} {pos : Pos} {cl : List (Str × Addr)} {z TI TO i1 i2 L : Addr} {n : Nat} {R1 R2 : Nat → Res} {P1 P2 : Nat → Value → Prop} {Src1 Src2 : Led → Prop} {S₀ : Led} {Qf : Value → Shared → Prop}
    (hh : A.handled = none) (d1 : ∀ i, i < n → DrawI w b i1 (R1 i) (R1 (i + 1)) (P1 i) Src1) (d2 : ∀ i, i < n → DrawI w b i2 (R2 i) (R2 (i + 1)) (P2 i) Src2) (de : DrawE w b i1 (R1 n) Src1)
    (Inv : Nat → List Value → Led → Prop) (h : At b (Zl z TI TO i1 i2 (R1 0) (R2 0) S₀) s) (h0 : Inv 0 [] S₀) (hn : n < 2 ^ 20)
    (hlen : ∀ i ys S, Inv i ys S → ys.length ≤ i) (hs1 : ∀ i ys S S', Inv i ys S → (∀ p ∈ S, p ∈ S') → Src1 S') (hs2 : ∀ i ys S S', Inv i ys S → (∀ p ∈ S, p ∈ S') → Src2 S')
    (turn : ∀ i T x y ys S s m C D E', i < n → P1 i x → P2 i y → Inv i ys S → At b ((T, pr x y) :: Zl z TI TO i1 i2 (R1 (i + 1)) (R2 (i + 1)) ((C, nsr m) :: (D, lst ys) :: S)) s →
      wpAny (model prg w) A (assign (.Tuple elts x1 tpos) (compEnvC scope cl C env) (.ref T)) (fun _ s₂ => wpAny (model prg w) A (eval elt (compEnvC scope cl C env)) (fun x s₄ => ∃ m S', Inv (i + 1) (ys ++ [x]) S' ∧
        At b (Zl z TI TO i1 i2 (R1 (i + 1)) (R2 (i + 1)) ((C, nsr m) :: (D, lst ys) :: S')) s₄) E' s₂) E' s)
    (hL : env.locals = L)
    (fin : ∀ D ys S, Inv n ys S → ∃ m Cx, Has L (nsr m) S Cx ∧ ∀ s, At b ((D, lst ys) :: (i2, R2 n) :: Cx (nsr fun z => if z = y then some (.ref D) else m z)) s → Qf .none s)
    (hcell : (scope.names.all fun x => x.2 != .cell) = true := by rfl) (hkind : scope.kind = .function := by rfl) (hy : env.kindOf y = some .local := by rfl)
    (hp : (env.scope.kind == .class || (env.scope.kind == .module && env.locals != env.globals)) = false := by rfl) :
    LcK w A E env (some (assign (.Name y py) env)) Qf elt (.Tuple elts x1 tpos) iter [] scope pos cl (.ref z) s := by
  unfold LcK
  refine wpAny_newList ?_ (Nat.zero_le _)
  have h1 := h.alloc (r := lst []) (tk := s.toks) (o := { cls := .type "list", data := .seq ([] : List Value).toArray }) ⟨0, rfl⟩
  generalize hD : s.heap.objs.size = D at h1 ⊢
  generalize hs1' : { s with heap := s.heap.push { cls := .type "list", data := .seq ([] : List Value).toArray } } = s₁
  have h1 : At b ((D, lst []) :: Zl z TI TO i1 i2 (R1 0) (R2 0) S₀) s₁ := by rw [← hs1']; exact h1
  refine wpAny_newFunctionEnv (fun y hy => by simpa using List.all_eq_true.mp hcell y hy) (by intro y hy; simp at hy) (fun h₂ hns hsb => ?_) hkind
  have h2 : At b ((s₁.heap.objs.size, nsr fun _ => none) :: (D, lst []) :: Zl z TI TO i1 i2 (R1 0) (R2 0) S₀) { s₁ with heap := h₂, toks := s₁.toks + ([] : List (Str × Value)).length } := by
    refine h1.more (fun c o e => ?_) (Nat.le_refl _) ?_
    · exact hsb.extBut c o (Nat.ne_of_lt (Heap.lt_size e)) (Heap.get?_push_of_some _ e)
    · obtain ⟨o, es, ep, e, r⟩ := hns
      exact ⟨o, e, es, ep, r⟩
  generalize hC : s₁.heap.objs.size = C at h2 ⊢
  generalize { s₁ with heap := h₂, toks := s₁.toks + ([] : List (Str × Value)).length } = s₂ at h2 ⊢
  have h2 : At b (Zl z TI TO i1 i2 (R1 0) (R2 0) ((C, nsr fun _ => none) :: (D, lst []) :: S₀)) s₂ := h2.perm (List.perm_append_comm_assoc [_, _, _, _, _] [_, _] S₀)
  have loop : codeAny (model prg w) A (.compLoop (.ListComp elt [⟨.Tuple elts x1 tpos, iter, [], 0⟩] scope pos) 0 (.ref z) (.ref D) (compEnvC scope cl C env)) (compPost (model prg w) A E (some (assign (.Name y py) env)) Qf (.ref D) C) s₂ := by
    refine comp_loop (fun k s => ∃ i ys S m, k + i = n ∧ Inv i ys S ∧ At b (Zl z TI TO i1 i2 (R1 i) (R2 i) ((C, nsr m) :: (D, lst ys) :: S)) s) (fun k s hI => ?_) n ⟨0, [], S₀, _, rfl, h0, h2⟩
    obtain ⟨i, ys, S, m, hk, hi, h⟩ := hI
    cases k with
    | zero =>
      obtain rfl : i = n := by omega
      refine zip_end hh de (fun S' hS' => hs1 _ _ _ _ hi fun p hp => hS' p (.tail _ (.tail _ hp))) h fun s' h' => ?_
      obtain ⟨m₀, Cx, hx, hf⟩ := fin D ys S hi
      refine wpAny_assign_Name (st_local h' hL (.there (.there (.there hx))) (fun s' h' => ?_) hy hp)
      exact ⟨m, h'.ns (.tail _ (.head _)), fun h₂ hs => hf _ ((h'.swap.lose (tk := s'.toks) hs.extBut).swap)⟩
    | succ k =>
      refine zip_item (d1 i (by omega)) (d2 i (by omega)) (fun S' hS' => hs1 _ _ _ _ hi fun p hp => hS' p (.tail _ (.tail _ hp))) (fun S' hS' => hs2 _ _ _ _ hi fun p hp => hS' p (.tail _ (.tail _ hp))) h fun T x y s' px py h' => ?_
      refine go_zip h' (.there .here) fun s' h' => ?_
      refine wpAny_mono (turn i T x y ys S s' m C D _ (by omega) px py hi h') (fun _ s₂ h₂ => ?_) fun _ _ e => e
      refine wpAny_tests_nil ?_
      simp only [if_true]
      refine wpAny_mono h₂ (fun x s₄ h₄ => ?_) fun _ _ e => e
      obtain ⟨m', S', i1, i2⟩ := h₄
      refine b_append i2 (.there (.there (.there (.there (.there (.there .here)))))) (by have := hlen _ _ _ hi; omega) fun s₅ h₅ => ?_
      exact ⟨k, by omega, i + 1, ys ++ [x], S', m', by omega, i1, h₅⟩
  exact codeAny_compStart_list loop (p_zip h2 (.head _) loop)
end
/-- a tree of questions answered -/
def runT {α : Type} (lt : Nat → Nat → Bool) : KasT α → α
  | .ret a => a
  | .ask i j k => runT lt (k (lt i j))
def okT {α : Type} (n : Nat) : KasT α → Bool
  | .ret _ => true
  | .ask i j k => decide (i < n) && decide (j < n) && okT n (k true) && okT n (k false)
theorem run_congr {α : Type} {n : Nat} {lt lt' : Nat → Nat → Bool} (e : ∀ i j, i < n → j < n → lt i j = lt' i j) : ∀ t : KasT α, okT n t = true → runT lt t = runT lt' t
  | .ret _, _ => rfl
  | .ask i j k, h => by
    simp only [okT, Bool.and_eq_true, decide_eq_true_eq] at h
    obtain ⟨⟨⟨hi, hj⟩, h1⟩, h2⟩ := h
    show runT lt (k (lt i j)) = runT lt' (k (lt' i j))
    rw [← e i j hi hj]
    cases lt i j with
    | true => exact run_congr e _ h1
    | false => exact run_congr e _ h2
theorem run_wp {α : Type} {n : Nat} {lt : Nat → Nat → Bool} {cmp : Nat → Nat → (Bool → Shared → Prop) → Shared → Prop} {G : α → Shared → Prop} {s : Shared} (hc : ∀ i j C, i < n → j < n → C (lt i j) s → cmp i j C s) :
    ∀ t : KasT α, okT n t = true → G (runT lt t) s → t.kasWp cmp G s
  | .ret a, _, h => h
  | .ask i j k, h, hg => by
    simp only [okT, Bool.and_eq_true, decide_eq_true_eq] at h
    obtain ⟨⟨⟨hi, hj⟩, h1⟩, h2⟩ := h
    refine hc i j _ hi hj ?_
    have hg : G (runT lt (k (lt i j))) s := hg
    cases e : lt i j with
    | true => rw [e] at hg; exact run_wp hc _ h1 hg
    | false => rw [e] at hg; exact run_wp hc _ h2 hg
def tb2 (x y : Bool) : Nat → Nat → Bool
  | 0, 1 => x
  | 1, 0 => y
  | _, _ => false
def tb3 (a b c d e f : Bool) : Nat → Nat → Bool
  | 0, 1 => a
  | 0, 2 => b
  | 1, 0 => c
  | 1, 2 => d
  | 2, 0 => e
  | 2, 1 => f
  | _, _ => false
def okLt (n : Nat) (lt : Nat → Nat → Bool) : Bool := (List.range n).all fun i => (List.range n).all fun j => !(lt i j && lt j i) && (List.range n).all fun k => !(lt i k) || lt i j || lt j k
def rises (lt : Nat → Nat → Bool) : List Nat → Bool
  | [] => true
  | x :: r => r.all (fun y => !(lt y x)) && rises lt r
def goodP (n : Nat) (lt : Nat → Nat → Bool) (p : List Nat) : Bool := p.isPerm (List.range n) && rises lt p
theorem ok2 : okT 2 (kas_sort 2) = true := by decide +kernel
theorem ok3 : okT 3 (kas_sort 3) = true := by decide +kernel
theorem good2 : ∀ x y : Bool, okLt 2 (tb2 x y) = true → goodP 2 (tb2 x y) (runT (tb2 x y) (kas_sort 2)).toList = true := by decide +kernel
theorem good3 : ∀ a b c d e f : Bool, okLt 3 (tb3 a b c d e f) = true → goodP 3 (tb3 a b c d e f) (runT (tb3 a b c d e f) (kas_sort 3)).toList = true := by decide +kernel
structure LtOk (lt : Nat → Nat → Bool) : Prop where
  irr : ∀ i, lt i i = false
  asy : ∀ i j, lt i j = true → lt j i = false
  neg : ∀ i j k, lt i k = true → lt i j = true ∨ lt j k = true
theorem LtOk.ok {lt : Nat → Nat → Bool} (h : LtOk lt) (n : Nat) : okLt n lt = true := by
  simp only [okLt, List.all_eq_true, Bool.and_eq_true, Bool.not_eq_true', Bool.or_eq_true]
  intro i _ j _
  refine ⟨?_, fun k _ => ?_⟩
  · cases e : lt i j with
    | false => rfl
    | true => rw [h.asy i j e]; rfl
  · cases e : lt i k with
    | false => exact .inl (.inl rfl)
    | true => rcases h.neg i j k e with h | h
              · exact .inl (.inr h)
              · exact .inr h
theorem okLt_congr {n : Nat} {lt lt' : Nat → Nat → Bool} (e : ∀ i j, i < n → j < n → lt i j = lt' i j) (h : okLt n lt = true) : okLt n lt' = true := by
  simp only [okLt, List.all_eq_true, List.mem_range] at h ⊢
  intro i hi j hj
  have h1 := h i hi j hj
  rw [e i j hi hj, e j i hj hi] at h1
  rw [Bool.and_eq_true] at h1 ⊢
  refine ⟨h1.1, ?_⟩
  have h2 := h1.2
  rw [List.all_eq_true] at h2 ⊢
  intro k hk
  have := h2 k hk
  rw [List.mem_range] at hk
  rw [e i k hi hk, e j k hj hk] at this
  exact this
theorem rises_pw {n : Nat} {lt lt' : Nat → Nat → Bool} (e : ∀ i j, i < n → j < n → lt i j = lt' i j) : ∀ p : List Nat, (∀ i ∈ p, i < n) → rises lt' p = true → p.Pairwise fun i j => lt j i = false
  | [], _, _ => .nil
  | x :: r, hb, h => by
    simp only [rises, Bool.and_eq_true, List.all_eq_true, Bool.not_eq_true'] at h
    refine .cons (fun y hy => ?_) (rises_pw e r (fun i hi => hb i (.tail _ hi)) h.2)
    rw [e y x (hb y (.tail _ hy)) (hb x (.head _))]
    exact h.1 y hy
theorem sort_small {n : Nat} (hn : n = 2 ∨ n = 3) {lt : Nat → Nat → Bool} (h : LtOk lt) : okT n (kas_sort n) = true ∧ (runT lt (kas_sort n)).toList.Perm (List.range n) ∧ (runT lt (kas_sort n)).toList.Pairwise fun i j => lt j i = false := by
  have fin : ∀ lt', okT n (kas_sort n) = true → (∀ i j, i < n → j < n → lt i j = lt' i j) → (okLt n lt' = true → goodP n lt' (runT lt' (kas_sort n)).toList = true) → (runT lt (kas_sort n)).toList.Perm (List.range n) ∧ (runT lt (kas_sort n)).toList.Pairwise fun i j => lt j i = false := by
    intro lt' ok e g
    rw [run_congr e _ ok]
    have g' := g (okLt_congr e (h.ok n))
    simp only [goodP, Bool.and_eq_true, List.isPerm_iff] at g'
    exact ⟨g'.1, rises_pw e _ (fun i hi => List.mem_range.mp (g'.1.subset hi)) g'.2⟩
  rcases hn with rfl | rfl
  · refine ⟨ok2, fin (tb2 (lt 0 1) (lt 1 0)) ok2 (fun i j hi hj => ?_) (good2 _ _)⟩
    match i, j, hi, hj with
    | 0, 0, _, _ => exact h.irr 0
    | 0, 1, _, _ => rfl
    | 1, 0, _, _ => rfl
    | 1, 1, _, _ => exact h.irr 1
  · refine ⟨ok3, fin (tb3 (lt 0 1) (lt 0 2) (lt 1 0) (lt 1 2) (lt 2 0) (lt 2 1)) ok3 (fun i j hi hj => ?_) (good3 _ _ _ _ _ _)⟩
    match i, j, hi, hj with
    | 0, 0, _, _ => exact h.irr 0
    | 0, 1, _, _ => rfl
    | 0, 2, _, _ => rfl
    | 1, 0, _, _ => rfl
    | 1, 1, _, _ => exact h.irr 1
    | 1, 2, _, _ => rfl
    | 2, 0, _, _ => rfl
    | 2, 1, _, _ => rfl
    | 2, 2, _, _ => exact h.irr 2
theorem lex_irr (p : Int × Int) : lexlt p p = false := by simp [lexlt]
theorem lex_iff (p q : Int × Int) : lexlt p q = true ↔ p.1 < q.1 ∨ (p.1 = q.1 ∧ p.2 < q.2) := by simp [lexlt]
theorem lex_asy {p q : Int × Int} (h : lexlt p q = true) : lexlt q p = false := by
  rw [← Bool.not_eq_true, lex_iff]
  rw [lex_iff] at h
  omega
theorem lex_neg {p q r : Int × Int} (h : lexlt p r = true) : lexlt p q = true ∨ lexlt q r = true := by
  rw [lex_iff] at h
  rw [lex_iff, lex_iff]
  omega
section
variable {w : World} {mg mb : Str → Option Value} {b s : Shared} {S : Led} {A : Around} {E : Value → Shared → Prop} {env : Env}
theorem tups_of (h : At b S s) : ∀ {ks : List VK}, (∀ y ∈ ks, PairV S y.1 y.2) → ∃ fs, KatTups s.heap (ks.map (·.1)) fs ∧ fs.length = ks.length ∧ ∀ v ∈ fs, isI v
  | [], _ => ⟨[], .nil, rfl, fun v hv => nomatch hv⟩
  | k :: r, hk => by
    obtain ⟨fs, h1, h2, h3⟩ := tups_of h fun y hy => hk y (.tail _ hy)
    obtain ⟨⟨v, p⟩, rfl⟩ : ∃ k', k = k' := ⟨k, rfl⟩
    obtain ⟨a, t1, t2, e, hm⟩ := hk _ (.head _)
    obtain ⟨n, ho⟩ := h.plainT hm
    refine ⟨.int p.1 t1 :: fs, ?_, by simp [h2], fun v hv => ?_⟩
    · rw [List.map_cons, show (v, p).1 = .ref a from e]
      exact KatTups.cons ho rfl rfl rfl h1
    · rcases List.mem_cons.mp hv with rfl | hv
      · exact ⟨_, _, rfl⟩
      · exact h3 v hv
theorem ask_pair {v u : Value} {p q : Int × Int} {C : Bool → Shared → Prop} (h : At b S s) (hv : PairV S v p) (hu : PairV S u q) (hc : C (lexlt p q) s) : wpAny (model prg w) A (keyLt' (tuples' true) v u) C (fun _ _ => False) s := by
  obtain ⟨a, t1, t2, rfl, hm⟩ := hv
  obtain ⟨c, t3, t4, rfl, hm'⟩ := hu
  obtain ⟨n1, ho⟩ := h.plainT hm
  obtain ⟨n2, ho'⟩ := h.plainT hm'
  refine kat_lt ho rfl ho' rfl ?_
  refine kat_cons (wpAny_eqBool_int ?_)
  by_cases e1 : p.1 = q.1
  · rw [show (p.1 == q.1) = true by simpa using e1]
    refine kat_yes (kat_cons (wpAny_eqBool_int ?_))
    by_cases e2 : p.2 = q.2
    · rw [show (p.2 == q.2) = true by simpa using e2]
      refine kat_yes (kat_nil ?_)
      have : lexlt p q = false := by simp [lexlt, e1, e2]
      rw [this] at hc
      exact hc
    · rw [show (p.2 == q.2) = false by simpa using e2]
      refine kat_no (kat_one _ _ (c_lt ?_))
      have : lexlt p q = decide (p.2 < q.2) := by simp [lexlt, e1]
      rw [this] at hc
      exact hc
  · rw [show (p.1 == q.1) = false by simpa using e1]
    refine kat_no (oneLt_int ?_)
    have : lexlt p q = decide (p.1 < q.1) := by simp [lexlt, e1]
    rw [this] at hc
    exact hc
def ksAt (ks : List VK) (i : Nat) : VK := ks.getD i (.none, (0, 0))
theorem ksAt_fst (ks : List VK) (i : Nat) : (ks.map (·.1)).getD i Value.none = (ksAt ks i).1 := by
  unfold ksAt
  rw [List.getD_eq_getElem?_getD, List.getD_eq_getElem?_getD, List.getElem?_map]
  cases ks[i]? <;> rfl
theorem ksAt_mem {ks : List VK} {i : Nat} (h : i < ks.length) : ksAt ks i ∈ ks := by
  unfold ksAt
  rw [List.getD_eq_getElem?_getD, List.getElem?_eq_getElem h]
  exact List.getElem_mem h
theorem ksAt_range (ks : List VK) : (List.range ks.length).map (ksAt ks) = ks := by
  apply List.ext_getElem
  · simp
  · intro i h1 h2
    simp [ksAt, h2]
theorem b_sortP {a : Addr} {ks : List VK} {Q : Value → Shared → Prop} (h : At b ((a, lst (ks.map (·.1))) :: S) s) (hk : ∀ y ∈ ks, PairV S y.1 y.2) (hn : ks.length = 2 ∨ ks.length = 3)
    (hq : ∀ (ks' : List VK) s', ks'.Perm ks → ks'.Pairwise (fun x y => lexlt y.2 x.2 = false) → At b ((a, lst (ks'.map (·.1))) :: S) s' → Q .none s') : wpAny (model prg w) A (call (.builtin "list.sort") [.ref a]) Q E s := by
  obtain ⟨n0, ho⟩ := h.plain (.head _)
  refine wpAny_call_entry PyProof.Rows.slot_list_sort ⟨_, ho, rfl⟩ PyProof.Rows.entry_list_sort ?_ (PyProof.Rows.args_list_sort _)
  rw [list_sort_plain]
  have hlen : (ks.map (·.1)).length = ks.length := List.length_map ..
  have hsz : (ks.map (·.1)).toArray.size = ks.length := by rw [List.size_toArray, hlen]
  refine wpAny_bind (listItems_at ho rfl ?_)
  refine wpAny_bind (listUpdate_at ho rfl ?_ (by rw [hsz, sizeLine_eq]; omega) (Nat.zero_le _))
  obtain ⟨e1, ho1⟩ : ∃ e1, (s.heap.update a (Obj.mapSeq fun _ => (#[] : Array Value))).get? a = some (seqObj "list" #[] e1) := ⟨_, get?_update_seq ho fun _ => #[]⟩
  have g1 : At b ((a, fun o => o = seqObj "list" #[] e1) :: S) _ := h.upd (tk := s.toks) .here (Heap.SameBut.update ..) ⟨_, ho1, rfl⟩
  refine wpAny_bind (seqEpoch_at ho1 rfl ?_)
  refine wpAny_bind (newTuple_r g1 (by rw [hlen]; omega) fun T s g2 => ?_)
  refine wpAny_bind (newList_r g2 (by simp) fun K s g3 => ?_)
  refine wpAny_holding ?_
  obtain ⟨_, ho3, rfl⟩ := g3.own _ (.tail _ (.tail _ (.head _)))
  have hn2 : ¬ (ks.map (·.1)).toArray.size < 2 := by rw [hsz]; omega
  rw [if_neg hn2, if_neg hn2]
  have hk3 : ∀ y ∈ ks, PairV ((K, lst []) :: (T, tup (ks.map (·.1)).toArray.toList) :: (a, fun o => o = seqObj "list" #[] e1) :: S) y.1 y.2 := fun y hy => (hk y hy).sub fun p hp => .tail _ (.tail _ (.tail _ hp))
  obtain ⟨fs, t1, t2, t3⟩ := tups_of g3 hk3
  refine wpAny_bind (kat_kind (T := .type "int") t1 (by omega) (fun v hv => ?_) rfl ?_)
  · obtain ⟨i, t, rfl⟩ := t3 v hv
    exact Looks.of_pure rfl
  have hlt : LtOk fun i j => lexlt (ksAt ks i).2 (ksAt ks j).2 := ⟨fun i => lex_irr _, fun i j h => lex_asy h, fun i j k h => lex_neg h⟩
  obtain ⟨ok, pm, pw⟩ := sort_small hn hlt
  have hrun : (kas_sort (ks.map (·.1)).length).kasWp (kas_ask prg w A.in1 (tuples' true) (ks.map (·.1))) (fun p s' => p.toList = (runT (fun i j => lexlt (ksAt ks i).2 (ksAt ks j).2) (kas_sort ks.length)).toList ∧ s' = s) s := by
    rw [hlen]
    refine run_wp (lt := fun i j => lexlt (ksAt ks i).2 (ksAt ks j).2) (fun i j C hi hj hc => ?_) _ ok ⟨rfl, rfl⟩
    show wpAny _ _ (keyLt' (tuples' true) ((ks.map (·.1)).getD i Value.none) ((ks.map (·.1)).getD j Value.none)) _ _ _
    rw [ksAt_fst, ksAt_fst]
    exact ask_pair g3 (hk3 _ (ksAt_mem hi)) (hk3 _ (ksAt_mem hj)) hc
  refine wpAny_bind (wpAny_mono (kat_run (κ := tuples' true) (vs := ks.map (·.1)) (Q := fun st' s' => ∃ p : Array Nat, arrOf st' = p.map (kas_item ((ks.map (·.1)).toArray.zip (ks.map (·.1)).toArray)) ∧ failedOf st' = none ∧
    p.toList = (runT (fun i j => lexlt (ksAt ks i).2 (ksAt ks j).2) (kas_sort ks.length)).toList ∧ s' = s) rfl (by omega) (by omega) (fun p st' s' a1 a2 a3 a4 => ⟨p, a2, a3, a4⟩) hrun) ?_ fun _ _ e => e)
  rintro ⟨⟨⟩, st'⟩ s' ⟨p, har, hf, hp, rfl⟩
  dsimp only
  have hout := kat_snds (ks := ks.map (·.1)) (vs := ks.map (·.1)) rfl har
  rw [hout, hp]
  have eout : ((runT (fun i j => lexlt (ksAt ks i).2 (ksAt ks j).2) (kas_sort ks.length)).toList.map fun i => (ks.map (·.1)).getD i Value.none) = ((runT (fun i j => lexlt (ksAt ks i).2 (ksAt ks j).2) (kas_sort ks.length)).toList.map (ksAt ks)).map (·.1) := by
    rw [List.map_map]
    exact List.map_congr_left fun i _ => ksAt_fst ks i
  rw [eout]
  have pk : ((runT (fun i j => lexlt (ksAt ks i).2 (ksAt ks j).2) (kas_sort ks.length)).toList.map (ksAt ks)).Perm ks := by
    have := pm.map (ksAt ks)
    rwa [ksAt_range] at this
  refine wpAny_bind (seqEpoch_at ho3 rfl ?_)
  refine wpAny_bind (listUpdate_at ho3 rfl ?_ (Nat.zero_le _) (by rw [List.size_toArray, List.length_map, pk.length_eq, sizeLine_eq]; omega))
  rw [hf]
  simp only [bne_self_eq_false, Bool.false_eq_true, if_false]
  refine wpAny_pure ⟨_, rfl, hq _ _ pk (List.pairwise_map.mpr pw) ?_⟩
  refine (g3.upd (tk := s'.toks) (r' := lst (((runT (fun i j => lexlt (ksAt ks i).2 (ksAt ks j).2) (kas_sort ks.length)).toList.map (ksAt ks)).map (·.1))) (.there (.there .here)) (Heap.SameBut.update ..) ⟨_, get?_update_seq ho3 fun _ => _, _, rfl⟩).tail.tail
end
structure LtA {α : Type} (lt : α → α → Bool) : Prop where
  irr : ∀ a, lt a a = false
  asy : ∀ a b, lt a b = true → lt b a = false
  neg : ∀ a b c, lt a c = true → lt a b = true ∨ lt b c = true
namespace LtA
variable {α : Type} {lt : α → α → Bool}
theorem tr (h : LtA lt) {a b c : α} (h1 : lt b a = false) (h2 : lt c b = false) : lt c a = false := by
  cases e : lt c a with
  | false => rfl
  | true => rcases h.neg c b a e with h | h
            · rw [h2] at h; cases h
            · rw [h1] at h; cases h
end LtA
def Ch (c p : Nat) : Prop := c = 2 * p + 1 ∨ c = 2 * p + 2
theorem Ch.lt {c p : Nat} (h : Ch c p) : p < c := by unfold Ch at h; (first | grind | omega)
theorem Ch.uniq {c p q : Nat} (h : Ch c p) (h' : Ch c q) : p = q := by unfold Ch at h h'; (first | grind | omega)
inductive Desc (st : Nat) : Nat → Prop
  | refl : Desc st st
  | step {p c : Nat} : Desc st p → Ch c p → Desc st c
theorem Desc.le {st p : Nat} (h : Desc st p) : st ≤ p := by
  induction h with
  | refl => exact Nat.le_refl _
  | step _ hc ih => have := hc.lt; (first | grind | omega)
theorem Desc.up {st p q : Nat} (h : Desc st p) (hne : p ≠ st) (hc : Ch p q) : Desc st q := by
  cases h with
  | refl => exact absurd rfl hne
  | step h hc' => rw [hc.uniq hc']; exact h
section
variable {α : Type} {lt : α → α → Bool}
/-- the edges of a heap whose upper ends lie at st or behind -/
def HP (lt : α → α → Bool) (xs : List α) (st : Nat) : Prop := ∀ p c x y, st ≤ p → Ch c p → xs[p]? = some x → xs[c]? = some y → lt y x = false
theorem get_set {xs : List α} {i j : Nat} {a x : α} (h : (xs.set i a)[j]? = some x) : (i = j ∧ x = a) ∨ (i ≠ j ∧ xs[j]? = some x) := by
  rw [List.getElem?_set] at h
  split at h
  · rename_i e
    split at h
    · exact .inl ⟨e, (Option.some.inj h).symm⟩
    · cases h
  · rename_i e
    exact .inr ⟨e, h⟩
theorem set_swap {xs : List α} {i j : Nat} {z a : α} (hi : i < xs.length) (hj : xs[j]? = some z) (hne : i ≠ j) : ((xs.set i z).set j a).Perm (xs.set i a) := by
  have hjl := (List.getElem?_eq_some_iff.mp hj).1
  have hz := (List.getElem?_eq_some_iff.mp hj).2
  have h := List.set_set_perm (as := xs.set i a) (i := i) (j := j) (by simpa using hi) (by simpa using hjl)
  have e1 : (xs.set i a)[j]'(by simpa using hjl) = z := by rw [List.getElem_set_ne hne]; exact hz
  have e2 : (xs.set i a)[i]'(by simpa using hi) = a := by simp
  rw [e1, e2, List.set_set] at h
  exact h
theorem sd_fin {it : α} {st pos : Nat} {xs : List α}
    (hA : ∀ p c x y, st ≤ p → Ch c p → c ≠ pos → p ≠ pos → xs[p]? = some x → xs[c]? = some y → lt y x = false)
    (hB : ∀ c y, Ch c pos → xs[c]? = some y → lt y it = false)
    (hs : ∀ p x, st ≤ p → Ch pos p → xs[p]? = some x → lt it x = false) : HP lt (xs.set pos it) st := by
  intro p c x y hp hc hx hy
  have hlt := hc.lt
  rcases get_set hx with ⟨e, e2⟩ | ⟨e, hx'⟩
  · rcases get_set hy with ⟨e', _⟩ | ⟨e', hy'⟩
    · (first | grind | omega)
    · subst e; rw [e2]; exact hB c y hc hy'
  · rcases get_set hy with ⟨e', e2⟩ | ⟨e', hy'⟩
    · subst e'; rw [e2]; exact hs p x hp hc hx'
    · exact hA p c x y hp hc (Ne.symm e') (Ne.symm e) hx' hy'
theorem sd_heap (L : LtA lt) {it : α} {st : Nat} : ∀ (f : Nat) (xs : List α) (pos : Nat), pos ≤ f → pos < xs.length → Desc st pos →
    (∀ p c x y, st ≤ p → Ch c p → c ≠ pos → p ≠ pos → xs[p]? = some x → xs[c]? = some y → lt y x = false) →
    (∀ c y, Ch c pos → xs[c]? = some y → lt y it = false) →
    (∀ p c x y, st ≤ p → Ch pos p → Ch c pos → xs[p]? = some x → xs[c]? = some y → lt y x = false) →
    HP lt (sdLoop lt it st f xs pos) st ∧ (sdLoop lt it st f xs pos).Perm (xs.set pos it)
  | 0, xs, pos, hf, hl, hd, hA, hB, hC => by
    refine ⟨sd_fin hA hB fun p x hp hc _ => ?_, List.Perm.refl _⟩
    have := hc.lt
    (first | grind | omega)
  | f + 1, xs, pos, hf, hl, hd, hA, hB, hC => by
    unfold sdLoop
    split
    · rename_i hst
      have hq : Ch pos ((pos - 1) / 2) := by unfold Ch; (first | grind | omega)
      have hql : (pos - 1) / 2 < xs.length := by (first | grind | omega)
      obtain ⟨z, hz⟩ : ∃ z, xs[(pos - 1) / 2]? = some z := ⟨_, List.getElem?_eq_getElem hql⟩
      rw [getD_at hz]
      generalize (pos - 1) / 2 = q at *
      have hqp := hq.lt
      have hdq := hd.up (by (first | grind | omega)) hq
      have hsq := hdq.le
      split
      · rename_i hlt
        have hzi := L.asy _ _ hlt
        have hp := set_swap (a := it) hl hz (by (first | grind | omega))
        have := sd_heap L (it := it) f (xs.set pos z) q (by (first | grind | omega)) (by simpa using hql) hdq ?_ ?_ ?_
        · exact ⟨this.1, this.2.trans hp⟩
        · intro p c x y hsp hc hcq hpq hx hy
          have hlt' := hc.lt
          rcases get_set hy with ⟨e, _⟩ | ⟨e, hy'⟩
          · subst e; exact absurd (hc.uniq hq) hpq
          · rcases get_set hx with ⟨e', e2⟩ | ⟨e', hx'⟩
            · subst e'; rw [e2]; exact hC q c z y hsq hq hc hz hy'
            · exact hA p c x y hsp hc (Ne.symm e) (Ne.symm e') hx' hy'
        · intro c y hc hy
          rcases get_set hy with ⟨e, e2⟩ | ⟨e, hy'⟩
          · rw [e2]; exact hzi
          · exact L.tr hzi (hA q c z y hsq hc (Ne.symm e) (by (first | grind | omega)) hz hy')
        · intro p c x y hsp hqp' hc hx hy
          have h1 := hqp'.lt
          rcases get_set hx with ⟨e', _⟩ | ⟨e', hx'⟩
          · (first | grind | omega)
          have h2 := hA p q x z hsp hqp' (by (first | grind | omega)) (by (first | grind | omega)) hx' hz
          rcases get_set hy with ⟨e, e2⟩ | ⟨e, hy'⟩
          · rw [e2]; exact h2
          · exact L.tr h2 (hA q c z y hsq hc (Ne.symm e) (by (first | grind | omega)) hz hy')
      · rename_i hlt
        refine ⟨sd_fin hA hB fun p x hp hc hx => ?_, List.Perm.refl _⟩
        rw [hc.uniq hq, hz] at hx
        cases hx
        simpa using hlt
    · rename_i hst
      refine ⟨sd_fin hA hB fun p x hp hc _ => ?_, List.Perm.refl _⟩
      have := hc.lt
      (first | grind | omega)
theorem su_heap (L : LtA lt) {d : α} {st : Nat} {vs : List α} : ∀ (f : Nat) (xs : List α) (pos : Nat), xs.length ≤ f + pos → pos < xs.length → Desc st pos →
    (∀ p c x y, st ≤ p → Ch c p → p ≠ pos → xs[p]? = some x → xs[c]? = some y → lt y x = false) →
    (∀ p c x y, st ≤ p → Ch pos p → Ch c pos → xs[p]? = some x → xs[c]? = some y → lt y x = false) → (xs.set pos d).Perm vs →
    HP lt (suF lt d st (suLoop lt d f xs pos)) st ∧ (suF lt d st (suLoop lt d f xs pos)).Perm vs
  | 0, xs, pos, hf, hl, _, _, _, _ => by (first | grind | omega)
  | f + 1, xs, pos, hf, hl, hd, hA, hC, hP => by
    have down : ∀ {c z : _}, Ch c pos → xs[c]? = some z → (∀ c' y, Ch c' pos → xs[c']? = some y → lt y z = false) →
        HP lt (suF lt d st (suLoop lt d f (xs.set pos z) c)) st ∧ (suF lt d st (suLoop lt d f (xs.set pos z) c)).Perm vs := by
      intro c z hc hz hmin
      have hcl := (List.getElem?_eq_some_iff.mp hz).1
      have hpc := hc.lt
      refine su_heap L f (xs.set pos z) c (by simp; (first | grind | omega)) (by simpa using hcl) (.step hd hc) ?_ ?_ ((set_swap hl hz (by (first | grind | omega))).trans hP)
      · intro p c' x y hsp hc' hpc' hx hy
        have h1 := hc'.lt
        rcases get_set hx with ⟨e, e2⟩ | ⟨e, hx'⟩
        · subst e
          rcases get_set hy with ⟨e', _⟩ | ⟨e', hy'⟩
          · (first | grind | omega)
          · rw [e2]; exact hmin c' y hc' hy'
        · rcases get_set hy with ⟨e', e2⟩ | ⟨e', hy'⟩
          · subst e'; rw [e2]; exact hC p c x z hsp hc' hc hx' hz
          · exact hA p c' x y hsp hc' (Ne.symm e) hx' hy'
      · intro p c' x y hsp hp hc' hx hy
        have h1 := hc'.lt
        obtain rfl : p = pos := hp.uniq hc
        rcases get_set hx with ⟨e, e2⟩ | ⟨e, hx'⟩
        · rcases get_set hy with ⟨e', _⟩ | ⟨e', hy'⟩
          · (first | grind | omega)
          · rw [e2]; exact hA c c' z y (by (first | grind | omega)) hc' (by (first | grind | omega)) hz hy'
        · exact absurd rfl e
    unfold suLoop
    split
    · rename_i h1
      obtain ⟨x, hx⟩ : ∃ x, xs[2 * pos + 1]? = some x := ⟨_, List.getElem?_eq_getElem h1⟩
      rw [getD_at hx]
      split
      · rename_i h2
        obtain ⟨y, hy⟩ : ∃ x, xs[2 * pos + 2]? = some x := ⟨_, List.getElem?_eq_getElem h2.1⟩
        rw [getD_at hy] at h2 ⊢
        refine down (.inr rfl) hy fun c' y' hc' hy' => ?_
        rcases hc' with rfl | rfl
        · rw [hx] at hy'; cases hy'; exact h2.2
        · rw [hy] at hy'; cases hy'; exact L.irr _
      · rename_i h2
        refine down (.inl rfl) hx fun c' y' hc' hy' => ?_
        rcases hc' with rfl | rfl
        · rw [hx] at hy'; cases hy'; exact L.irr _
        · have hl2 := (List.getElem?_eq_some_iff.mp hy').1
          rw [getD_at hy'] at h2
          have : lt x y' = true := by
            cases e : lt x y' with
            | true => rfl
            | false => exact absurd ⟨hl2, e⟩ h2
          exact L.asy _ _ this
    · rename_i h1
      have nc : ∀ c y, Ch c pos → (xs.set pos d)[c]? = some y → False := fun c y hc hy => by
        have := (List.getElem?_eq_some_iff.mp hy).1
        rw [List.length_set] at this
        unfold Ch at hc
        (first | grind | omega)
      have := sd_heap L (it := d) pos (xs.set pos d) pos (Nat.le_refl _) (by simpa using hl) hd ?_ (fun c y hc hy => (nc c y hc hy).elim) (fun p c x y _ _ hc _ hy => (nc c y hc hy).elim)
      · refine ⟨this.1, this.2.trans ?_⟩
        rw [List.set_set]
        exact hP
      · intro p c x y hsp hc hcp hpp hx hy
        rcases get_set hx with ⟨e, _⟩ | ⟨e, hx⟩
        · exact absurd e.symm hpp
        rcases get_set hy with ⟨e, _⟩ | ⟨e', hy⟩
        · exact absurd e.symm hcp
        exact hA p c x y hsp hc hpp hx hy
theorem siftup_heap (L : LtA lt) {vs : List α} {st : Nat} (hst : st < vs.length) (h : HP lt vs (st + 1)) : HP lt (siftupF lt vs st) st ∧ (siftupF lt vs st).Perm vs := by
  obtain ⟨it, hit⟩ : ∃ it, vs[st]? = some it := ⟨_, List.getElem?_eq_getElem hst⟩
  unfold siftupF
  rw [hit]
  refine su_heap L vs.length vs st (by (first | grind | omega)) hst .refl (fun p c x y hp hc hne hx hy => h p c x y (by (first | grind | omega)) hc hx hy) (fun p c x y hp hc _ _ _ => by have := hc.lt; (first | grind | omega)) ?_
  rw [show vs.set st it = vs from List.ext_getElem? fun j => by
    rw [List.getElem?_set]
    split
    · rename_i e; subst e; rw [hit]; try simp [hst]
    · rfl]
theorem hf_heap (L : LtA lt) : ∀ (k : Nat) (vs : List α), k ≤ vs.length → HP lt vs k → HP lt (hfLoop lt k vs) 0 ∧ (hfLoop lt k vs).Perm vs
  | 0, vs, _, h => ⟨h, List.Perm.refl _⟩
  | k + 1, vs, hk, h => by
    obtain ⟨h1, h2⟩ := siftup_heap L (st := k) (by (first | grind | omega)) h
    obtain ⟨h3, h4⟩ := hf_heap L k _ (by rw [h2.length_eq]; (first | grind | omega)) h1
    exact ⟨h3, h4.trans h2⟩
theorem heapify_heap (L : LtA lt) (vs : List α) : HP lt (hfLoop lt (vs.length / 2) vs) 0 ∧ (hfLoop lt (vs.length / 2) vs).Perm vs := by
  refine hf_heap L _ _ (by (first | grind | omega)) fun p c x y hp hc hx hy => ?_
  have := (List.getElem?_eq_some_iff.mp hy).1
  unfold Ch at hc
  (first | grind | omega)
theorem heap_root (L : LtA lt) {xs : List α} (h : HP lt xs 0) {y : α} (hy : xs[0]? = some y) : ∀ (i : Nat) (z : α), xs[i]? = some z → lt z y = false := by
  intro i
  induction i using Nat.strongRecOn with
  | _ i ih =>
    intro z hz
    by_cases e : i = 0
    · subst e; rw [hy] at hz; cases hz; exact L.irr _
    · have hc : Ch i ((i - 1) / 2) := by unfold Ch; (first | grind | omega)
      have hil := (List.getElem?_eq_some_iff.mp hz).1
      obtain ⟨x, hx⟩ : ∃ x, xs[(i - 1) / 2]? = some x := ⟨_, List.getElem?_eq_getElem (by (first | grind | omega))⟩
      exact L.tr (ih _ hc.lt x hx) (h _ _ _ _ (Nat.zero_le _) hc hx hz)
theorem heap_root_mem (L : LtA lt) {y : α} {r : List α} (h : HP lt (y :: r) 0) : ∀ z ∈ y :: r, lt z y = false := fun z hz => by
  obtain ⟨i, hi, e⟩ := List.mem_iff_getElem.mp hz
  exact heap_root L h rfl i z (by rw [List.getElem?_eq_getElem hi, e])
theorem HP.head {y x : α} {r s : List α} (h : HP lt (y :: r ++ s) 0) : HP lt (x :: r) 1 := by
  intro p c a b' hp hc ha hb
  have h1 := hc.lt
  have e : ∀ {i : Nat} {v : α}, 1 ≤ i → (x :: r)[i]? = some v → (y :: r ++ s)[i]? = some v := by
    intro i v hi hv
    obtain ⟨j, rfl⟩ : ∃ j, i = j + 1 := ⟨i - 1, by (first | grind | omega)⟩
    rw [List.getElem?_cons_succ] at hv
    have hj := (List.getElem?_eq_some_iff.mp hv).1
    rw [List.cons_append, List.getElem?_cons_succ, List.getElem?_append_left hj]
    exact hv
  exact h p c a b' (Nat.zero_le _) hc (e (by (first | grind | omega)) ha) (e (by (first | grind | omega)) hb)
theorem pop_heap (L : LtA lt) {vs : List α} {x : α} (h : HP lt (vs ++ [x]) 0) : HP lt (popF lt vs x).2 0 ∧ ((popF lt vs x).1 :: (popF lt vs x).2).Perm (vs ++ [x]) ∧ ∀ z ∈ vs ++ [x], lt z (popF lt vs x).1 = false := by
  cases vs with
  | nil =>
    refine ⟨fun p c a b' _ _ ha _ => by simp [popF] at ha, List.Perm.refl _, fun z hz => ?_⟩
    rw [show z = x by simpa using hz]; exact L.irr _
  | cons y r =>
    obtain ⟨h1, h2⟩ := siftup_heap L (vs := x :: r) (st := 0) (by simp) (HP.head h)
    refine ⟨h1, ?_, heap_root_mem L (y := y) (r := r ++ [x]) h⟩
    show (y :: siftupF lt (x :: r) 0).Perm (y :: (r ++ [x]))
    exact .cons _ (h2.trans (List.perm_append_comm (l₁ := [x])))
theorem pops_heap (L : LtA lt) : ∀ (k : Nat) (xs : List α), xs.length = k → HP lt xs 0 → (popsF lt k xs).Perm xs ∧ (popsF lt k xs).Pairwise fun a b => lt b a = false
  | 0, xs, hk, _ => by rw [List.eq_nil_of_length_eq_zero hk]; exact ⟨List.Perm.refl _, .nil⟩
  | k + 1, xs, hk, h => by
    obtain ⟨vs, x, rfl⟩ : ∃ vs x, xs = vs ++ [x] := ⟨xs.dropLast, xs.getLast (by intro e; simp [e] at hk), (List.dropLast_concat_getLast _).symm⟩
    simp only [popsF, List.getLast?_append, List.getLast?_singleton, Option.some_or, List.dropLast_concat]
    obtain ⟨h1, h2, h3⟩ := pop_heap L h
    obtain ⟨h4, h5⟩ := pops_heap L k (popF lt vs x).2 (by rw [pop_len]; simpa using hk) h1
    refine ⟨(List.Perm.cons _ h4).trans h2, .cons (fun z hz => ?_) h5⟩
    exact h3 z (h2.subset (.tail _ (h4.subset hz)))
end
theorem ltI_ok : LtA ltI := ⟨fun a => by simp [ltI], fun a b h => by simp [ltI] at h ⊢; (first | grind | omega), fun a b c h => by simp [ltI] at h ⊢; (first | grind | omega)⟩
/-- what comes off the heap is the row, rising -/
theorem off_srt (vs : List Value) : (popsF ltI vs.length (hfLoop ltI (vs.length / 2) vs)).map iv = srt (vs.map iv) := by
  obtain ⟨h1, h2⟩ := heapify_heap ltI_ok vs
  obtain ⟨h3, h4⟩ := pops_heap ltI_ok vs.length _ (by rw [h2.length_eq]) h1
  refine srt_unique ((h3.trans h2).map iv) (List.pairwise_map.mpr (h4.imp fun {a b} h => ?_))
  simpa [ltI] using h
theorem gtK_ok : LtA gtK := ⟨fun a => lex_irr _, fun a b h => lex_asy h, fun a b c h => (lex_neg (q := b.2) h).symm⟩
theorem srt_split {R T ns : List Int} (hp : (R ++ T).Perm ns) (hl : ∀ r ∈ R, ∀ t ∈ T, r ≤ t) : srt ns = srt R ++ srt T := by
  refine (srt_unique (((srt_perm R).append (srt_perm T)).trans hp) ?_).symm
  refine List.pairwise_append.mpr ⟨srt_sorted R, srt_sorted T, fun a ha b hb => ?_⟩
  exact hl a ((srt_perm R).subset ha) b ((srt_perm T).subset hb)
theorem srt_take {R T ns : List Int} (hp : (R ++ T).Perm ns) (hl : ∀ r ∈ R, ∀ t ∈ T, r ≤ t) : (srt ns).take R.length = srt R := by
  rw [srt_split hp hl, List.take_append_of_le_length (by rw [srt_len]; exact Nat.le_refl _), List.take_of_length_le (by rw [srt_len]; exact Nat.le_refl _)]
theorem top_max {y : VK} {r : List VK} (h : HP gtK (y :: r) 0) : ∀ z ∈ y :: r, z.2.1 ≤ y.2.1 := fun z hz => by
  have h1 : lexlt y.2 z.2 = false := heap_root_mem gtK_ok h z hz
  rw [← Bool.not_eq_true, lex_iff] at h1
  omega
/-- the few smallest so far, the others, and the next one -/
structure Few (ks : List VK) (T : List Int) (ns : List Int) : Prop where
  hp : HP gtK ks 0
  pm : (ks.map (·.2.1) ++ T).Perm ns
  le : ∀ k ∈ ks, ∀ t ∈ T, k.2.1 ≤ t
theorem Few.skip {y : VK} {r : List VK} {T ns : List Int} {x : Int} (h : Few (y :: r) T ns) (hx : ¬ x < y.2.1) : Few (y :: r) (T ++ [x]) (ns ++ [x]) := by
  refine ⟨h.hp, ?_, fun k hk t ht => ?_⟩
  · rw [← List.append_assoc]
    exact h.pm.append_right _
  · rcases List.mem_append.mp ht with ht | ht
    · exact h.le k hk t ht
    · rw [List.mem_singleton.mp ht]
      have := top_max h.hp k hk
      omega
theorem Few.take {y it : VK} {r : List VK} {T ns : List Int} (h : Few (y :: r) T ns) (hx : it.2.1 < y.2.1) : Few (siftupF gtK (it :: r) 0) (y.2.1 :: T) (ns ++ [it.2.1]) ∧ (siftupF gtK (it :: r) 0).Perm (it :: r) := by
  have h0 : HP gtK (it :: r) 1 := HP.head (s := []) (y := y) (by simpa using h.hp)
  obtain ⟨h1, h2⟩ := siftup_heap gtK_ok (vs := it :: r) (st := 0) (by simp) h0
  refine ⟨⟨h1, ?_, fun k hk t ht => ?_⟩, h2⟩
  · refine ((h2.map (·.2.1)).append_right _).trans ?_
    show (it.2.1 :: (r.map (·.2.1) ++ y.2.1 :: T)).Perm (ns ++ [it.2.1])
    refine List.Perm.trans (.cons _ (List.perm_middle.trans ?_)) (List.perm_append_comm (l₁ := [it.2.1]))
    exact h.pm
  · have hk' := h2.subset hk
    have hky : k.2.1 ≤ y.2.1 := by
      rcases List.mem_cons.mp hk' with rfl | hk'
      · omega
      · exact top_max h.hp k (.tail _ hk')
    rcases List.mem_cons.mp ht with rfl | ht
    · exact hky
    · have := h.le y (.head _) t ht
      omega
section
variable {w : World} {mg mb : Str → Option Value} {b s : Shared} {S : Led} {A : Around} {E : Value → Shared → Prop} {env : Env}
theorem code_cellsB {R : Result → Shared → Prop} {a : Addr} {o : Obj} {fd : FuncData} {body : List Stmt} {vals : List Value} {binds : List (Str × Value)}
    (hroom : A.depth < recursionLimit) (ho : s.heap.get? a = some o) (hdata : o.data = .func fd) (hlim : s.heap.NoLimit) (hcd : s.heap.CodeRec fd.code fd.qualname)
    (hbody : fd.body = .stmts body) (hbind : BindsTo s fd ⟨vals, []⟩ binds) (hclo : fd.closure = [])
    (hkind : ∀ x ∈ binds, fd.scope.names.lookup x.1 = some .local ∨ (fd.scope.names.lookup x.1 = some .cell ∧ ((cellsFrom (s.heap.objs.size + 1) fd.scope.names []).lookup x.1).isSome = true))
    (h : ∀ s₁, InCallC s (callEnvC fd s.heap.objs.size a).locals (bindL (callEnvC fd s.heap.objs.size a).kindOf binds fun _ => none) (callEnvC fd s.heap.objs.size a).cells
        (bindC (callEnvC fd s.heap.objs.size a).kindOf binds fun _ => none) s₁ →
      wpAny (model prg w) (A.deeper (callEnvC fd s.heap.objs.size a)) (execs body (callEnvC fd s.heap.objs.size a)) (fun f s' => R (.ok (.ret (match f with | .ret v => v | _ => .none))) s')
        (fun e s' => wpAny (model prg w) (A.deeper (callEnvC fd s.heap.objs.size a)) (leaving (callEnvC fd s.heap.objs.size a) e) (fun _ s'' => R (.error e) s'') (fun e' s'' => R (.error e') s'') s') s₁)
    (hco : fd.scope.isCoroutine = false) (hgen : fd.scope.isGenerator = false) (hk : fd.scope.kind = .function) :
    codeAny (model prg w) A (.call (.ref a) ⟨vals, []⟩) R s := by
  refine codeAny_call_function hroom ho hdata hco hgen hbody hcd (hbind _ _ _ _ ?_)
  rw [hclo]
  refine wpAny_newFunctionEnv_cells hk hkind fun env he s' x => ?_
  subst he
  exact ⟨hlim.keeps x.toInCall.keep, codeAny_func (h s' x)⟩
theorem call_cB {f : Addr} {o : Obj} {fd : FuncData} {body : List Stmt} {args : List Value} {binds : List (Str × Value)} {Q : Value → Shared → Prop} {n : Nat} {T : Addr} {oT : Obj} {items : Array Value} {k : Nat} {kk : Option (Array Value) → Sem (List (Str × Value))} (O : Ok w mg mb b) (h : At b S s) (room : Room A (n + 1))
    (ho : (KK w.params).lookup f = some o) (hd : o.data = .func fd) (hcode : codeIn (KK w.params) fd.code fd.qualname = true) (hbody : fd.body = .stmts body) (hclo : fd.closure = [])
    (hdef : fd.defaults = .ref T) (hT : (KK w.params).lookup T = some oT) (hTd : oT.data = .seq items k) (hb1 : bindArgs fd ⟨args, []⟩ = seqItems? fd.defaults >>= kk) (hb2 : kk (some items) = pure binds)
    (hloc : ∀ k, (binds.all fun x => decide (fd.scope.names.lookup x.1 = some .local) || (decide (fd.scope.names.lookup x.1 = some .cell) && ((cellsFrom k fd.scope.names []).lookup x.1).isSome)) = true)
    (hnd : ∀ k, decide ((cellsFrom k fd.scope.names []).map (·.1)).Nodup = true)
    (hq : ∀ L A s', Room A n → At b ((L, nsr (bindL (envG w.params f L).kindOf binds fun _ => none)) :: (cellsL (cellsFrom (L + 1) fd.scope.names []) (bindC (envG w.params f L).kindOf binds fun _ => none) ++ S)) s' →
      wpAny (model prg w) A (execs body (envG w.params f L)) (fun fl s'' => Q (match fl with | .ret v => v | _ => .none) s'') (fun _ _ => False) s')
    (hco : fd.scope.isCoroutine = false := by rfl) (hgen : fd.scope.isGenerator = false := by rfl) (hk : fd.scope.kind = .function := by rfl) :
    wpAny (model prg w) A (call (.ref f) args) Q E s := by
  refine wpAny_call (code_cellsB (fd := fd) (binds := binds) (body := body) (by have := room.depth; omega) (h.keep _ _ (O.K _ _ ho)) hd (O.lim.keeps h.keep) ((codeRec_of O.K hcode).keeps h.keep) hbody
    (BindsTo.of_defaults hdef (h.keep _ _ (O.K _ _ hT)) hTd hb1 hb2) hclo (fun x hx => ?_) (fun s₁ X => ?_) hco hgen hk)
  · have := List.all_eq_true.mp (hloc (s.heap.objs.size + 1)) x hx
    simpa using this
  · have e : ∀ L, callEnvC fd L f = envG w.params f L := fun L => by unfold envG; rw [fdAt_of ho hd]
    have room' := room.deeper (env := callEnvC fd s.heap.objs.size f)
    generalize A.deeper (callEnvC fd s.heap.objs.size f) = A' at room' ⊢
    rw [e] at X ⊢
    obtain ⟨h₁, tk, rfl, hk₁⟩ := X.done
    have hcs : (envG w.params f s.heap.objs.size).cells = cellsFrom (s.heap.objs.size + 1) fd.scope.names [] := by rw [← e]; rfl
    refine wpAny_mono (hq s.heap.objs.size A' _ room' (h.cells hk₁ (Nat.le_refl _) X.toInCall.ns _ (fun nm c hm => ?_) ?_)) (fun fl s' hf => hf) fun _ _ x => x.elim
    · have hm' : (nm, c) ∈ (envG w.params f s.heap.objs.size).cells := by rw [hcs]; exact hm
      refine ⟨X.cell nm c ?_, X.above nm c hm'⟩
      rw [hcs]
      exact lookup_of_mem_nodup (of_decide_eq_true (hnd _)) hm
    · rw [← hcs]; exact X.apart
end
local macro_rules | `(tactic| kt_at_get) => `(tactic| first
  | ((with_reducible show wpAny _ _ (callWith _ (Value.builtin _) [] (backTo _ (starEach (_ :: _) _)) (backToKw _ (keywordEach (_ :: _) _))) _ _ _); refine callWith_kw ?_)
  | ((with_reducible show wpAny _ _ (callWith _ (Value.type _) [] (backTo _ (starEach [] _)) (backToKw _ (keywordEach [] _))) _ _ _); refine PyProof.Rows.callWith_type0 ?_)
  | ((with_reducible show wpAny _ _ (evalAll ((backToKw _ (keywordEach (_ :: _) _)).map _)) _ _ _); refine kws_cons ?_)
  | ((with_reducible show wpAny _ _ (evalAll ((backToKw _ (keywordEach [] _)).map _)) _ _ _); refine kws_nil ?_))
local macro_rules | `(tactic| tb_start) => `(tactic| ((with_reducible show wpAny _ _ (eval (Expr.IfExp _ _ _ _) _) _ _ _); refine IfExp_ ?_))
local macro_rules | `(tactic| tb_start) => `(tactic| ((with_reducible show wpAny _ _ (eval (Expr.Constant Const.none _ _) _) _ _ _); refine wpAny_Constant_none ?_))
section
variable {w : World} {mg mb : Str → Option Value} {b s : Shared} {S : Led} {A : Around} {E : Value → Shared → Prop} {env : Env}
theorem t_ns1 {vs : List Value} {a : Addr} {t : Tok} {Q : Value → Shared → Prop} (O : Ok w mg mb b) (h : At b S s) (room : Room A 1) (hm : (a, lst vs) ∈ S) (hi : ∀ v ∈ vs, isI v) (hn : 0 < vs.length)
    (hq : ∀ D v s', v ∈ vs → (∀ u ∈ vs, iv v ≤ iv u) → At b ((D, lst [v]) :: S) s' → Q (.ref D) s') : wpAny (model prg w) A (call (.ref 90) [.int 1 t, .ref a]) Q E s := by
  refine call_cB (T := 85) O h room rfl rfl rfl rfl rfl rfl rfl rfl rfl rfl (by intro k; rfl) (by intro k; rfl) ?_
  clear h room
  intro L A s room h
  replace h : At b ((L, nsr fun y => if y = "iterable" then some (.ref a) else if y = "n" then some (.int 1 t) else none) :: (L + 1, cel (some .none)) :: S) s := h
  repeat tb_rel
  refine i_tt (p := wpAny _ _ _ _ _ _) ?_
  repeat tb_rel
  refine b_iter (by assumption) (by kt_at_item) ?_
  intro I _ _
  repeat tb_rel
  refine b_object (by assumption) ?_
  intro o _ _
  repeat tb_rel
  rename_i s h
  refine b_minK (I := I) room.hand (h.swap) (by kt_at_item) hi hn ?_
  intro v s hv hle h
  obtain ⟨i, t', rfl⟩ := hi v hv
  repeat tb_rel
  refine wpAny_is_other rfl (by intro x; cases x) ?_
  repeat tb_rel
  rename_i D s h
  exact hq D _ _ hv hle (h.sub (.cons_cons _ (.cons _ (.cons _ (.cons _ (List.Sublist.refl _))))))
theorem pick_to (vs : List Value) (c : Nat) (hb : c ≤ vs.length) : (slicePick vs.toArray none (some c) none).toList = vs.take c := by
  rw [slicePick_upto vs.toArray c (by simpa using hb)]
theorem t_nsAll {vs : List Value} {a : Addr} {t : Tok} {Q : Value → Shared → Prop} (O : Ok w mg mb b) (h : At b S s) (room : Room A 1) (hm : (a, lst vs) ∈ S) (hi : ∀ v ∈ vs, isI v) (hn : 2 ≤ vs.length) (h64 : vs.length < 64)
    (hq : ∀ D ws s', (∀ v ∈ ws, isI v) → ws.map iv = srt (vs.map iv) → At b ((D, lst ws) :: S) s' → Q (.ref D) s') : wpAny (model prg w) A (call (.ref 90) [.int vs.length t, .ref a]) Q E s := by
  refine call_cB (T := 85) O h room rfl rfl rfl rfl rfl rfl rfl rfl rfl rfl (by intro k; rfl) (by intro k; rfl) ?_
  clear h room
  intro L A s room h
  replace h : At b ((L, nsr fun y => if y = "iterable" then some (.ref a) else if y = "n" then some (.int vs.length t) else none) :: (L + 1, cel (some .none)) :: S) s := h
  repeat tb_rel
  rw [show ((vs.length : Int) == 1) = false by simp; omega]
  repeat tb_rel
  refine x_tryE ?_
  repeat tb_rel
  refine b_len (by assumption) (by kt_at_item) (by omega) ?_
  intro te _ _
  repeat tb_rel
  refine PyProof.Rows.ge_int ?_
  rw [show decide ((vs.length : Int) ≤ vs.length) = true by simp]
  repeat tb_rel
  refine b_sortedK (by assumption) (by kt_at_item) hi h64 ?_
  intro D0 ws _ hw he _
  have hl : ws.length = vs.length := by have := congrArg List.length he; simpa [srt_len] using this
  repeat tb_rel
  refine g_slice (by assumption) (by kt_at_item) (by kt_at_item) .none (.int _ _) .none (by simp) (by omega) ?_ (by with_unfolding_all rfl)
  rw [pick_to ws vs.length (by omega), List.take_of_length_le (by omega)]
  intro D s h
  exact hq D ws _ hw he (h.sub (.cons_cons _ (.cons _ (.cons _ (.cons _ (.cons _ (List.Sublist.refl _)))))))
theorem draw_list' {I a : Addr} {vs : List Value} {i : Nat} (hi : i < vs.length) : DrawI w b I (lit a i) (lit a (i + 1)) (fun v => vs[i]? = some v) (fun S => (a, lst vs) ∈ S) :=
  fun A S C s Q E h1 h2 h3 h4 => draw_list (List.getElem?_eq_getElem hi) A S C s Q E h1 h2 h3 fun v s' e => h4 v s' (by rw [e]; exact List.getElem?_eq_getElem hi)
theorem st_from {I a : Addr} {vs : List Value} {n : Nat} (hn : n ≤ vs.length) (hh : A.handled = none) : Steps w b A I (vs.length - n) (fun j => lit a (n + j)) (fun j v => vs[n + j]? = some v) (fun S => (a, lst vs) ∈ S) := by
  have W := st_list (w := w) (b := b) (A := A) (I := I) (a := a) (vs := vs) hh
  refine ⟨fun i S C s Q E hi hs hm h hq => W.1 (n + i) S C s Q E (by omega) hs hm h hq, fun S s Q E hs h hq => ?_⟩
  have e : n + (vs.length - n) = vs.length := by omega
  dsimp only at hs h
  rw [e] at hs h
  exact W.2 S s Q E hs h hq
end
section
variable {w : World} {mg mb : Str → Option Value} {b s : Shared} {S : Led} {A : Around} {E : Value → Shared → Prop} {env : Env}
theorem t_nsHalf {vs : List Value} {a : Addr} {n : Nat} {t : Tok} {Q : Value → Shared → Prop} (O : Ok w mg mb b) (h : At b S s) (room : Room A 4) (hm : (a, lst vs) ∈ S) (hi : ∀ v ∈ vs, isI v) (hn : n = 2 ∨ n = 3) (hlt : n < vs.length) (h64 : vs.length < 64)
    (hq : ∀ D ws s', (∀ v ∈ ws, isI v) → ws.map iv = (srt (vs.map iv)).take n → At b ((D, lst ws) :: S) s' → Q (.ref D) s') : wpAny (model prg w) A (call (.ref 90) [.int n t, .ref a]) Q E s := by
  refine call_cB (T := 85) O h room rfl rfl rfl rfl rfl rfl rfl rfl rfl rfl (by intro k; rfl) (by intro k; rfl) ?_
  clear h room
  intro L A s room h
  replace h : At b ((L, nsr fun y => if y = "iterable" then some (.ref a) else if y = "n" then some (.int n t) else none) :: (L + 1, cel (some .none)) :: S) s := h
  repeat tb_rel
  rw [show ((n : Int) == 1) = false by simp; omega]
  repeat tb_rel
  refine x_tryE ?_
  repeat tb_rel
  refine b_len (by assumption) (by kt_at_item) (by omega) ?_
  intro te _ _
  repeat tb_rel
  refine PyProof.Rows.ge_int ?_
  rw [show decide ((vs.length : Int) ≤ n) = false by simp; omega]
  repeat tb_rel
  refine PySem.is_none ?_
  rw [show (Value.none == Value.none) = true from rfl]
  repeat tb_rel
  refine b_iter (by assumption) (by kt_at_item) ?_
  intro I _ _
  repeat tb_rel
  refine x_assign_lc rfl ?_
  repeat tb_rel
  refine b_range1 (by assumption) ?_
  intro ar _ _
  repeat tb_rel
  rename_i s h
  refine b_zipR (a := a) (k := 0) (n := n) h.swap (by kt_at_item) (by omega) ?_
  intro z TI TO i1 s h
  refine p_zip h (.head _) ?_
  generalize hm0 : (fun y => if y = Str.ofString "it" then some (Value.ref I) else if y = Str.ofString "size" then some (Value.int (vs.length : Int) te) else if y = Str.ofString "iterable" then some (Value.ref a) else if y = Str.ofString "n" then some (Value.int (n : Int) t) else none) = m0 at h
  refine lz_use (L := L) (R1 := rit 0 1 n) (R2 := lit a) (P1 := fun i v => ∃ t, v = .int (0 + i * 1) t) (P2 := fun i v => vs[i]? = some v) (Src1 := fun _ => True) (Src2 := fun S => (a, lst vs) ∈ S) room.hand (fun i hi => draw_range hi) (fun i hi => draw_list' (by omega)) draw_range_end
    (fun i ys S' => ∃ (ks : List VK) (N : Led), ys = ks.map (·.1) ∧ S' = (ar, rng 0 n 1) :: (L, nsr m0) :: (L + 1, cel (some .none)) :: (N ++ S) ∧ ks.length = i ∧ (∀ y ∈ ks, PairV N y.1 y.2) ∧ ks.map (·.2.1) = (vs.take i).map iv)
    h ⟨[], [], rfl, rfl, rfl, (fun y hy => nomatch hy), rfl⟩ (by omega) ?_ ?_ ?_ ?_ envG_loc ?_
  · rintro i ys S' ⟨ks, N, rfl, rfl, e, _⟩; simp [e]
  · intros; trivial
  · rintro i ys S' S'' ⟨ks, N, rfl, rfl, e, _⟩ hs
    exact hs _ (.tail _ (.tail _ (.tail _ (List.mem_append_right _ hm))))
  · clear h
    rintro i T x y ys S' s m C D E' hin ⟨tx, rfl⟩ hy ⟨ks, N, rfl, rfl, e, hk, hv⟩ h
    obtain ⟨ky, ty, rfl⟩ := isI_at hi hy
    replace h := h.weaken .here pr_tup
    refine as_pair h room.hand (.head _) ?_
    intro _ _
    repeat tb_rel
    rename_i T2 s h
    refine ⟨_, (ar, rng 0 n 1) :: (L, nsr m0) :: (L + 1, cel (some .none)) :: (((T2, tup [.int ky ty, .int (0 + (i : Int) * 1) tx]) :: N) ++ S), ?_, (h.swap.tail).perm (List.perm_middle (l₁ := [_, _, _, _, _, _, _, _, _, _]))⟩
    refine ⟨ks ++ [(.ref T2, (ky, 0 + (i : Int) * 1))], _, by simp, rfl, by simp [e], fun y hy => ?_, ?_⟩
    · rcases List.mem_append.mp hy with hy | hy
      · exact (hk y hy).sub fun p hp => .tail _ hp
      · rw [List.mem_singleton.mp hy]
        exact ⟨T2, _, _, rfl, .head _⟩
    · rw [List.map_append, hv, take_snoc hy, List.map_append]
      rfl
  · clear h
    rintro D ys S' ⟨ks, N, rfl, rfl, hlk, hk, hv⟩
    refine ⟨m0, _, .there .here, fun s h => ?_⟩
    subst hm0
    have hnp : 0 < n := by omega
    repeat tb_rel
    refine b_truth (by assumption) (by kt_at_item) (by simp; omega) ?_
    intro _ _
    rw [show (!(ks.map (·.1)).isEmpty) = true by cases ks with | nil => simp at hlk; omega | cons _ _ => rfl]
    repeat tb_rel
    rename_i s h
    refine t_heapify_max O h room (fun y hy => (hk y hy).sub fun p hp => .tail _ (.tail _ (.tail _ (.tail _ (List.mem_append_left _ hp))))) (by omega) ?_
    intro s h
    obtain ⟨hH, hP⟩ := heapify_heap gtK_ok ks
    generalize hfLoop gtK (ks.length / 2) ks = ks1 at h hH hP
    obtain ⟨y, r, rfl⟩ : ∃ y r, ks1 = y :: r := by
      cases ks1 with
      | nil => have := hP.length_eq; simp at this; omega
      | cons y r => exact ⟨y, r, rfl⟩
    have hk1 : ∀ z ∈ y :: r, PairV N z.1 z.2 := fun z hz => hk z (hP.subset hz)
    have hl1 : (y :: r).length = n := by rw [hP.length_eq, hlk]
    have hfew : Few (y :: r) [] ((vs.take (n + 0)).map iv) := ⟨hH, by rw [List.append_nil, Nat.add_zero, ← hv]; exact hP.map _, fun k _ t ht => nomatch ht⟩
    clear hH hP hv hk hlk
    obtain ⟨ay, t1, t2, ey, hmy⟩ := hk1 y (.head _)
    repeat tb_rel
    refine g_sub (k := 0) (v := y.1) (by assumption) (by kt_at_item) rfl rfl (by simp at hl1 ⊢; omega) ?_
    rw [ey]
    repeat tb_rel
    refine g_subT (k := 0) (by assumption) (by kt_at_item) rfl rfl (by simp) ?_
    repeat tb_rel
    rename_i s h
    refine self_list _ _ _ _ _ (.there .here) h ?_
    refine for_loop (st_from (vs := vs) (n := n) (by omega) room.hand) (fun j S' => ∃ m N y r T ord to tt, S' = (D, lst ((y :: r).map (·.1))) :: (ar, rng 0 n 1) :: (L, nsr m) :: (L + 1, cel (some .none)) :: (N ++ S) ∧ m "result" = some (.ref D) ∧ m "top" = some (.int y.2.1 tt) ∧
      m "order" = some (.int ord to) ∧ m "_heapreplace" = some (.ref 49) ∧ (y :: r).length = n ∧ (∀ z ∈ y :: r, PairV N z.1 z.2) ∧ Few (y :: r) T ((vs.take (n + j)).map iv)) h.swap
      ⟨_, N, y, r, [], _, _, _, rfl, rfl, rfl, rfl, rfl, hl1, hk1, hfew⟩ ?_ ?_ ?_
    · rintro j S' ⟨m, N, y, r, T, ord, to, tt, rfl, _⟩
      exact .tail _ (.tail _ (.tail _ (.tail _ (.tail _ (List.mem_append_right _ hm)))))
    · clear h hfew hk1 hl1 hmy ey
      rintro j v S' s E' hj hv ⟨m, N, y, r, T, ord, to, tt, rfl, m1, m2, m3, m4, hl1, hk1, hfew⟩ h
      obtain ⟨kv, tv, rfl⟩ := isI_at hi hv
      have htk : (vs.take (n + (j + 1))).map iv = (vs.take (n + j)).map iv ++ [kv] := by rw [show n + (j + 1) = n + j + 1 by omega, take_snoc hv, List.map_append]; rfl
      repeat tb_rel
      rename_i s h
      split
      · rename_i hc
        have hc : kv < y.2.1 := by simpa using hc
        repeat tb_rel
        rename_i T2 s h
        replace h := h.perm (List.perm_middle (l₁ := [_, _])).symm
        refine t_replace_max (y := y) (ks := r) (it := (.ref T2, (kv, ord))) O h room (fun x hx => (hk1 x hx).sub fun p hp => .tail _ (.tail _ (.tail _ (.tail _ (.tail _ (List.mem_append_left _ hp)))))) ⟨T2, _, _, rfl, .head _⟩ (by simp at hl1; omega) ?_
        intro s h
        obtain ⟨hfew', hP'⟩ := hfew.take (it := (.ref T2, (kv, ord))) hc
        generalize siftupF gtK ((.ref T2, (kv, ord)) :: r) 0 = ks1 at h hfew' hP'
        obtain ⟨y', r', rfl⟩ : ∃ y r, ks1 = y :: r := by
          cases ks1 with
          | nil => have := hP'.length_eq; simp at this
          | cons y r => exact ⟨y, r, rfl⟩
        have hl2 : (y' :: r').length = n := by rw [hP'.length_eq]; exact hl1
        have hk2 : ∀ z ∈ y' :: r', PairV ((T2, tup [.int kv tv, .int ord to]) :: N) z.1 z.2 := fun z hz => by
          rcases List.mem_cons.mp (hP'.subset hz) with rfl | hz
          · exact ⟨T2, _, _, rfl, .head _⟩
          · exact (hk1 z (.tail _ hz)).sub fun p hp => .tail _ hp
        obtain ⟨ay, t1, t2, ey, hmy⟩ := hk2 y' (.head _)
        replace h := h.swap.sink5
        repeat tb_rel
        refine x_assignT ?_
        repeat tb_rel
        refine g_sub (k := 0) (v := y'.1) (by assumption) (by kt_at_item) rfl rfl (by simp at hl2 ⊢; omega) ?_
        rw [ey]
        refine as_pair (x := .int y'.2.1 t1) (y := .int y'.2.2 t2) (by assumption) room.hand (.tail _ (.tail _ (.tail _ (.tail _ (.tail _ (List.mem_append_left S hmy)))))) ?_
        intro _ _
        repeat tb_rel
        refine x_aug ?_
        refine ld_local (by assumption) (by kt_at_notin) (by kt_at_item) (by kt_at_in) ?_
        repeat tb_rel
        refine PySem.P.iadd_int ?_
        rename_i s h
        replace h := h.tk (t := s.toks + 1)
        generalize s.toks = tk at h ⊢
        repeat tb_rel
        rename_i s h
        refine ⟨_, ?_, h.swap⟩
        exact ⟨_, _, y', r', y.2.1 :: T, _, _, _, rfl, m1, rfl, rfl, m4, hl2, hk2, by rw [htk]; exact hfew'⟩
      · rename_i hc
        have hc : ¬ kv < y.2.1 := by simpa using hc
        repeat tb_rel
        refine ⟨_, ?_, h⟩
        exact ⟨_, N, y, r, T ++ [kv], _, _, _, rfl, m1, m2, m3, m4, hl1, hk1, by rw [htk]; exact hfew.skip hc⟩
    · clear h hfew hk1 hl1 hmy ey
      rintro S' s ⟨m, N, y, r, T, ord, to, tt, rfl, m1, m2, m3, m4, hl1, hk1, hfew⟩ h
      rw [show n + (vs.length - n) = vs.length by omega, List.take_length] at hfew
      repeat tb_rel
      refine b_sortP (ks := y :: r) h (fun z hz => (hk1 z hz).sub fun p hp => .tail _ (.tail _ (.tail _ (List.mem_append_left _ hp)))) (by omega) ?_
      intro ks' s hP hS h
      have hk2 : ∀ z ∈ ks', PairV N z.1 z.2 := fun z hz => hk1 z (hP.subset hz)
      have hl2 : ks'.length = n := by rw [hP.length_eq]; exact hl1
      repeat tb_rel
      refine r_lc rfl ?_
      repeat tb_rel
      refine p_iter (by assumption) (by kt_at_item) ?_
      intro J s h
      refine lc_eval (st_list (vs := ks'.map (·.1)) room.hand) self_list (fun i ys S' => S' = (D, lst (ks'.map (·.1))) :: (ar, rng 0 n 1) :: (L, nsr m) :: (L + 1, cel (some .none)) :: (N ++ S) ∧ (∀ v ∈ ys, isI v) ∧ ys.map iv = (ks'.take i).map (·.2.1) ∧ ys.length = i) h
        ⟨rfl, (fun v hv => nomatch hv), rfl, rfl⟩ (by simp; omega) ?_ ?_ ?_ ?_ ?_
      · rintro i ys S' ⟨rfl, _, _, e⟩; omega
      · rintro i ys S' ⟨rfl, _⟩; exact .head _
      · intro S S' hs h; exact hs _ h
      · clear h
        rintro i v ys S' s m' C D' E' hi' hv ⟨rfl, hI, he, hy⟩ h
        obtain ⟨z, hz⟩ : ∃ z, ks'[i]? = some z := ⟨_, List.getElem?_eq_getElem (by simpa using hi')⟩
        have hv : some z.1 = some v := by rw [← hv, List.getElem?_map, hz]; rfl
        cases hv
        obtain ⟨az, t1, t2, ez, hmz⟩ := hk2 z (List.mem_of_getElem? hz)
        rw [ez]
        unfold LcTurn
        refine go_list h (.tail _ (.head _)) ?_
        refine as_pair h room.hand (.tail _ (.tail _ (.tail _ (.tail _ (.tail _ (.tail _ (.tail _ (List.mem_append_left _ hmz)))))))) ?_
        intro _ _
        repeat tb_rel
        refine wpAny_tests_nil ?_
        repeat tb_rel
        rename_i s h
        refine ⟨_, _, ?_, h⟩
        refine ⟨rfl, fun v hv => ?_, ?_, by simp [hy]⟩
        · rcases List.mem_append.mp hv with hv | hv
          · exact hI v hv
          · rw [List.mem_singleton.mp hv]; exact ⟨_, _, rfl⟩
        · rw [List.map_append, he, take_snoc hz, List.map_append]; rfl
      · clear h
        rintro D' ys S' s ⟨rfl, hI, he, hy⟩ h
        rw [List.length_map, List.take_length] at he
        refine hq D' ys s hI ?_ (h.sub (.cons_cons _ (.cons _ (.cons _ (.cons _ (.cons _ (List.sublist_append_right _ _)))))))
        have e1 := srt_take hfew.pm fun r' hr t ht => by
          obtain ⟨k, hk, rfl⟩ := List.mem_map.mp hr
          exact hfew.le k hk t ht
        rw [List.length_map, hl1] at e1
        rw [e1, he]
        refine srt_unique (hP.map _) (List.pairwise_map.mpr (hS.imp fun {x y} h => ?_))
        rw [← Bool.not_eq_true, lex_iff] at h
        omega
end
theorem frames_caller : callerA.frames = some [] := rfl
theorem pick_mem {vs : List Value} {lo hi st : Option Int} {v : Value} (h : v ∈ (slicePick vs.toArray lo hi st).toList) : v ∈ vs := by
  unfold slicePick at h
  simp only [List.mem_filterMap] at h
  obtain ⟨i, _, hi⟩ := h
  have hi : vs[i]? = some v := by simpa using hi
  exact List.mem_of_getElem? hi
theorem fm_map {g : Nat → Option Value} {f : Nat → Value} : ∀ {l : List Nat}, (∀ k ∈ l, g k = some (f k)) → l.filterMap g = l.map f
  | [], _ => rfl
  | k :: l, h => by rw [List.filterMap_cons, h k (.head _), List.map_cons, fm_map fun k hk => h k (.tail _ hk)]
theorem pick_rev (vs : List Value) : (slicePick vs.toArray none none (some (-1))).toList = vs.reverse := by
  unfold slicePick
  have e : sliceBounds none none (some (-1)) vs.toArray.size = ((vs.length : Int) - 1, -1, -1) := by simp [sliceBounds]
  rw [e]
  simp only
  have r : sliceRange ((vs.length : Int) - 1) (-1) (-1) = (List.range vs.length).map fun k => vs.length - 1 - k := by
    unfold sliceRange
    simp only
    rw [if_neg (by decide)]
    have c : (if (vs.length : Int) - 1 > -1 then ((vs.length : Int) - 1 - -1 - -1 - 1) / (- -1) else 0).toNat = vs.length := by
      rw [show (- -1 : Int) = 1 by decide, Int.ediv_one]
      split <;> omega
    rw [c]
    refine List.map_congr_left fun k hk => ?_
    have := List.mem_range.mp hk
    omega
  rw [r, List.filterMap_map, fm_map (f := fun k => vs.getD (vs.length - 1 - k) Value.none) fun k hk => by
    have := List.mem_range.mp hk
    have h2 : vs.length - 1 - k < vs.length := by omega
    simp [h2]]
  apply List.ext_getElem
  · simp
  · intro i h1 h2
    have h3 : i < vs.length := by simpa using h1
    have h4 : vs.length - 1 - i < vs.length := by omega
    simp [List.getElem_reverse, h4]
section
variable {w : World} {mg mb : Str → Option Value} {b s : Shared} {S : Led} {A : Around} {E : Value → Shared → Prop} {env : Env}
theorem call_cF {f : Addr} {o : Obj} {fd : FuncData} {body : List Stmt} {args : List Value} {Q : Value → Shared → Prop} {n : Nat} {l : List Env} (names : List Str) (O : Ok w mg mb b) (h : At b S s) (room : Room A (n + 1)) (hfr : A.frames = some l)
    (ho : (KK w.params).lookup f = some o) (hd : o.data = .func fd) (hcode : codeIn (KK w.params) fd.code fd.qualname = true) (hbody : fd.body = .stmts body) (hclo : fd.closure = [])
    (hbind : bindArgs fd ⟨args, []⟩ = pure (names.zip args))
    (hloc : ∀ k, (names.all fun x => decide (fd.scope.names.lookup x = some .local) || (decide (fd.scope.names.lookup x = some .cell) && ((cellsFrom k fd.scope.names []).lookup x).isSome)) = true)
    (hnd : ∀ k, decide ((cellsFrom k fd.scope.names []).map (·.1)).Nodup = true)
    (hq : ∀ L A s', Room A n → A.frames = some (envG w.params f L :: l) → At b ((L, nsr (bindL (envG w.params f L).kindOf (names.zip args) fun _ => none)) :: (cellsL (cellsFrom (L + 1) fd.scope.names []) (bindC (envG w.params f L).kindOf (names.zip args) fun _ => none) ++ S)) s' →
      wpAny (model prg w) A (execs body (envG w.params f L)) (fun fl s'' => Q (match fl with | .ret v => v | _ => .none) s'') (fun _ _ => False) s')
    (hco : fd.scope.isCoroutine = false := by rfl) (hgen : fd.scope.isGenerator = false := by rfl) (hk : fd.scope.kind = .function := by rfl) :
    wpAny (model prg w) A (call (.ref f) args) Q E s := by
  refine wpAny_call (codeAny_call_cells (fd := fd) (binds := names.zip args) (body := body) (by have := room.depth; omega) (h.keep _ _ (O.K _ _ ho)) hd (O.lim.keeps h.keep) ((codeRec_of O.K hcode).keeps h.keep) hbody hbind hclo
    (fun x hx => ?_) (fun s₁ X => ?_) hco hgen hk)
  · have := List.all_eq_true.mp (hloc (s.heap.objs.size + 1)) x.1 (List.of_mem_zip (a := x.1) (b := x.2) hx).1
    simpa using this
  · have e : ∀ L, callEnvC fd L f = envG w.params f L := fun L => by unfold envG; rw [fdAt_of ho hd]
    have room' := room.deeper (env := callEnvC fd s.heap.objs.size f)
    have hf' : (A.deeper (callEnvC fd s.heap.objs.size f)).frames = some (callEnvC fd s.heap.objs.size f :: l) := Around.frames_deeper hfr
    rw [e] at X hf' room' ⊢
    generalize A.deeper (envG w.params f s.heap.objs.size) = A' at room' hf' ⊢
    obtain ⟨h₁, tk, rfl, hk₁⟩ := X.done
    have hcs : (envG w.params f s.heap.objs.size).cells = cellsFrom (s.heap.objs.size + 1) fd.scope.names [] := by rw [← e]; rfl
    refine wpAny_mono (hq s.heap.objs.size A' _ room' hf' (h.cells hk₁ (Nat.le_refl _) X.toInCall.ns _ (fun nm c hm => ?_) ?_)) (fun fl s' hf => hf) fun _ _ x => x.elim
    · have hm' : (nm, c) ∈ (envG w.params f s.heap.objs.size).cells := by rw [hcs]; exact hm
      refine ⟨X.cell nm c ?_, X.above nm c hm'⟩
      rw [hcs]
      exact lookup_of_mem_nodup (of_decide_eq_true (hnd _)) hm
    · rw [← hcs]; exact X.apart
/-! the script lies in the base -/
theorem base_list {a : Addr} {vs : List Value} (h : At b S s) (hl : b.heap.IsList a vs.toArray) : s.heap.IsList a vs.toArray := let ⟨o, ho, r⟩ := hl; ⟨o, h.keep _ _ ho, r⟩
theorem b_len' {a : Addr} {vs : List Value} {Q : Value → Shared → Prop} (h : At b S s) (hl : b.heap.IsList a vs.toArray) (hfit : vs.length < 2 ^ 62) (hq : ∀ t s', At b S s' → Q (.int vs.length t) s') : wpAny (model prg w) A (call (.builtin "len") [.ref a]) Q E s := by
  refine Calls.call_len_list (base_list h hl) (by simp; omega) ?_
  have := hq (s.toks + 1) _ (h.tk (t := s.toks + 1 + 1))
  simpa using this
theorem g_slice' {a sl : Addr} {vs : List Value} {vl vu vk : Value} {lo hi st : Option Int} {ops : List Value} {value slice : Expr} {Q : Value → Shared → Prop} (h : At b S s) (hl : b.heap.IsList a vs.toArray) (hs : (sl, slc vl vu vk) ∈ S)
    (pl : IsPart vl lo) (pu : IsPart vu hi) (pk : IsPart vk st) (h0 : st ≠ some 0) (hlen : vs.length < 2 ^ 20)
    (hq : ∀ D s', At b ((D, lst (slicePick vs.toArray lo hi st).toList) :: S) s' → Q (.ref D) s')
    (hss : subscripted slice false (.ref a) (.ref sl) = operate ops (getItem (.ref a) (.ref sl))) : wpAny (model prg w) A (subscriptTail value slice (.ref a) (.ref sl)) Q E s := by
  obtain ⟨o, ho, hr⟩ := h.own _ hs
  have hl' := base_list h hl
  refine tail_any hl'.typeIs slot_list_getitem.lookup (wpAny_getItem_list_slice hl' ⟨o, ho, hr⟩ pl pu pk h0 (hq _ _ (h.alloc (tk := s.toks) ⟨0, by simp⟩)) (by simp [sizeLine]; omega)) hss
/-! lists times ints, membership -/
theorem b_rep {a : Addr} {vs : List Value} {x : Int} {u : Tok} {Q : Value → Shared → Prop} (h : At b S s) (hm : (a, lst vs) ∈ S) (hlo : -(2 ^ 20 : Int) ≤ x) (hhi : x < 2 ^ 20) (hsz : vs.length * x.toNat ≤ 2 ^ 24)
    (hq : ∀ D s', At b ((D, lst (List.replicate x.toNat vs).flatten) :: S) s' → Q (.ref D) s') : wpAny (model prg w) A (binaryOp .Mult (.ref a) (.int x u)) Q E s := by
  obtain ⟨k, ho⟩ := h.plain hm
  have hsz' : vs.toArray.size * x.toNat ≤ 2 ^ 24 := by simpa using hsz
  refine wpAny_binaryOp_repeat_ref (T := "list") (U := "int") (by decide) ⟨_, ho, rfl⟩ (fun s' => typeIs_int s' x u) noFill_list_mul PySem.F.fills_int_mul PySem.F.slot_int_rmul repeat_list PySem.F.slot_int_index.lookup
    (call_meets PySem.F.slot_int_rmul (typeIs_int s x u) PySem.F.entry_int_rmul (PySem.F.args_int_rmul_2 _ _) (lm_int_rmul_list_any x u a vs.toArray k none #[])
      ⟨ho, rfl, ⟨_, ho, rfl⟩, call_meets PySem.F.slot_list_mul ⟨_, ho, rfl⟩ PySem.F.entry_list_mul (PySem.F.args_list_mul_2 _ _)
        (lm_list_mul_any a vs.toArray k none #[] x u (by simp [Builtin.List.listFitsIndex]; omega) (by omega) (by simp [Builtin.List.listTooLong, sizeLine]; omega))
        ⟨ho, ?_⟩⟩)
  rw [listMul_foldl_if]
  exact hq _ _ (h.alloc (tk := s.toks) ⟨0, rfl⟩)
theorem c_notin {a : Addr} {vs : List Value} {k : Int} {t : Tok} {Q : Value → Shared → Prop} (h : At b S s) (hm : (a, lst vs) ∈ S) (hi : ∀ v ∈ vs, isI v) (hq : Q (.bool (!decide (k ∈ vs.map iv))) s) : wpAny (model prg w) A (compareOp .NotIn (.int k t) (.ref a)) Q E s := by
  refine notin_list_ints (h.list hm) (ints_of hi) ?_
  have e : ((vs.map iv).any fun n => n == k) = decide (k ∈ vs.map iv) := by
    rw [Bool.eq_iff_iff]; simp
  first
  | (rw [e]; exact hq)
  | (have e2 : ((vs.map iv).any fun n => k == n) = decide (k ∈ vs.map iv) := by
       rw [Bool.eq_iff_iff]; simp
     rw [e2]; exact hq)
theorem c_inB {a : Addr} {vs : List Value} {Q : Value → Shared → Prop} (h : At b S s) (hm : (a, lst vs) ∈ S) (hv : ∀ v ∈ vs, v = .bool false) (hq : Q (.bool false) s) : wpAny (model prg w) A (compareOp .In (.bool true) (.ref a)) Q E s := by
  refine PySem.SeqAt.in_listAt (fun _ => false) (h.list hm) (fun y hy => ?_) ?_
  · rw [hv y (by simpa using hy)]
    exact PySem.SeqAt.EqAt.bool_bool false true
  · have : (vs.toArray.any fun _ => false) = false := by simp
    rw [this]
    exact hq
/-! tuples walked -/
def tit (t : Addr) (i : Nat) : Res := fun o => o.cls = .type "tuple_iterator" ∧ o.data = .fields #[.ref t, .int i 0]
theorem p_iterT {t : Addr} {vs : List Value} {Q : Value → Shared → Prop} (h : At b S s) (hm : (t, tup vs) ∈ S) (hq : ∀ I s', At b ((I, tit t 0) :: S) s' → Q (.ref I) s') : wpAny (model prg w) A (pyIter (.ref t)) Q E s :=
  wpAny_pyIter_tuple (h.tuple hm) (hq _ _ (h.alloc (r := tit t 0) (tk := s.toks) ⟨rfl, rfl⟩))
theorem st_tuple {I t : Addr} {vs : List Value} (hh : A.handled = none) : Steps w b A I vs.length (tit t) (fun i v => vs[i]? = some v) (fun S => (t, tup vs) ∈ S) := by
  refine ⟨fun i S C s Q E hi hs hm h hq => ?_, fun S s Q E hs h hq => ?_⟩
  · obtain ⟨o, ho, hr⟩ := h.own _ hm.mem
    refine wpAny_pyNext_tuple_item (x := vs[i]) ⟨o, ho, hr⟩ (h.tuple hs) (by simp [hi]) fun h' hl hsb => hq _ _ (by simp [hi]) (h.upd (tk := s.toks) hm hsb ?_)
    obtain ⟨o', ho', hr'⟩ := hl
    exact ⟨o', ho', hr'⟩
  · obtain ⟨o, ho, hr⟩ := h.own _ (.head _)
    exact wpAny_pyNext_tuple_end hh ⟨o, ho, hr⟩ (h.tuple hs) (by simp) fun h' hsb => hq _ (h.lose (tk := s.toks) hsb)
theorem self_tuple {I t : Addr} {i : Nat} : Self w b A I (tit t i) := fun S C s Q E hm h hq => by
  obtain ⟨o, ho, hr⟩ := h.own _ hm.mem
  exact wpAny_pyIter_tupleiter ⟨o, ho, hr⟩ hq
/-! lists of int lists compared -/
def IntL (S : Led) (v : Value) (ns : List Int) : Prop := ∃ a vs, v = .ref a ∧ (a, lst vs) ∈ S ∧ (∀ x ∈ vs, isI x) ∧ vs.map iv = ns
end
def dataL (nss : List (List Int)) : PyData := .list (nss.map fun ns => .list (ns.map PyData.int))
theorem readsL {b s : Shared} {S : Led} (h : At b S s) : ∀ {vs : List Value} {nss : List (List Int)}, All2 (IntL S) vs nss → ∃ as, ReadsAll s.heap vs (nss.map fun ns => .list (ns.map PyData.int)) as
  | _, _, .nil => ⟨[], .nil⟩
  | _, _, .cons h1 r => by
    obtain ⟨as, hr⟩ := readsL h r
    obtain ⟨a, vs, rfl, hm, hi, rfl⟩ := h1
    exact ⟨_, .cons (reads_of_ints (h.list hm) (ints_of hi)) hr⟩
section
open PySem PySem.W PySem.Calls PyProof.Rows PyProof.V PySem.Spec PySem.SeqAt
theorem canLay_L : ∀ nss : List (List Int), PyData.canLayAll0 (nss.map fun ns => .list (ns.map PyData.int)) = true
  | [] => by simp [PyData.canLayAll0]
  | ns :: r => by simp [PyData.canLayAll0, PyData.canLay0, canLayAll0_ints ns, canLay_L r]
theorem depth_L : ∀ nss : List (List Int), PyData.depthAll (nss.map fun ns => .list (ns.map PyData.int)) ≤ 3
  | [] => by simp [PyData.depthAll]
  | ns :: r => by
    have h1 := PySem.W.depthAll_ints ns
    have h2 := depth_L r
    simp only [List.map_cons, PyData.depthAll, PyData.depth]
    omega
theorem shaped_L (nss : List (List Int)) : shaped (dataL nss) = true := by
  have h1 := depth_L nss
  have h2 : PyData.depth (dataL nss) ≤ 64 := by unfold dataL; simp only [PyData.depth]; omega
  show (PyData.canLay0 (dataL nss) && decide (PyData.depth (dataL nss) ≤ 64)) = true
  rw [Bool.and_eq_true]
  exact ⟨by unfold dataL; simp only [PyData.canLay0]; exact canLay_L nss, decide_eq_true h2⟩
theorem noMix_L : ∀ xs ys : List (List Int), noMixAll (xs.map fun ns => .list (ns.map PyData.int)) (ys.map fun ns => .list (ns.map PyData.int)) = true
  | [], [] => by simp [noMixAll]
  | [], _ :: _ => by simp [noMixAll]
  | _ :: _, [] => by simp [noMixAll]
  | x :: r, y :: q => by simp [noMixAll, noMix, noMix_L r q, noMix_ints x y]
theorem same_L : ∀ xs ys : List (List Int), PySem.Spec.sameAll (xs.map fun ns => .list (ns.map PyData.int)) (ys.map fun ns => .list (ns.map PyData.int)) = decide (xs = ys)
  | [], [] => by simp [PySem.Spec.sameAll]
  | [], _ :: _ => by simp [PySem.Spec.sameAll]
  | _ :: _, [] => by simp [PySem.Spec.sameAll]
  | x :: r, y :: q => by
    simp only [List.map_cons, PySem.Spec.sameAll, PySem.Spec.same, same_ints, same_L r q]
    by_cases h : x = y <;> simp [h]
section
variable {w : World} {mg mb : Str → Option Value} {b s : Shared} {S : Led} {A : Around} {E : Value → Shared → Prop} {env : Env}
theorem b_neL {a c : Addr} {vs ws : List Value} {xs ys : List (List Int)} {n : Nat} {Q : Value → Shared → Prop} (h : At b S s) (room : Room A n) (hm : (a, lst vs) ∈ S) (hm' : (c, lst ws) ∈ S) (hi : All2 (IntL S) vs xs) (hi' : All2 (IntL S) ws ys)
    (hq : Q (.bool (!decide (xs = ys))) s) : wpAny (model prg w) A (compareOp .NotEq (.ref a) (.ref c)) Q E s := by
  obtain ⟨as1, r1⟩ := readsL h hi
  obtain ⟨as2, r2⟩ := readsL h hi'
  obtain ⟨o1, ho1, hc1, n1, hd1⟩ := h.list hm
  obtain ⟨o2, ho2, hc2, n2, hd2⟩ := h.list hm'
  refine ne_dataH_same (da := dataL xs) (db := dataL ys) (Reads.list ho1 hc1 hd1 (by simpa using r1)) (Reads.list ho2 hc2 hd2 (by simpa using r2)) (shaped_L xs) (shaped_L ys) (by have := room.units; omega)
    (by unfold dataL; simp only [noMix]; exact noMix_L xs ys) (by unfold dataL; simp only [PySem.Spec.same]; rw [same_L]; exact hq)
end
end
/-- a turn of a comprehension over pairs -/
def PTurn (w : World) (b : Shared) (A : Around) (cenv : Env) (elt e₁ e₂ : Expr) (ifs : List Expr) (f : Int × Int → Option Int) (p : Int × Int) (t u : Tok) (Z : (Str → Option Value) → Led) (s : Shared) (E' : Value → Shared → Prop) : Prop :=
  wpAny (model prg w) A (assign e₁ cenv (.int p.1 t)) (fun _ s₁ => wpAny (model prg w) A (assign e₂ cenv (.int p.2 u)) (fun _ s₂ =>
    wpAny (model prg w) A (forIn ifs true fun c r => if r = true then do let ok ← isTrue c cenv (eval c cenv); pure (ForInStep.yield ok) else pure (ForInStep.yield r)) (fun ok s₃ =>
      if ok = true then wpAny (model prg w) A (eval elt cenv) (fun x s₄ => ∃ i t m, f p = some i ∧ x = .int i t ∧ At b (Z m) s₄) E' s₃
      else f p = none ∧ ∃ m, At b (Z m) s₃) E' s₂) E' s₁) E' s
section
variable {w : World} {mg mb : Str → Option Value} {b s : Shared} {S : Led} {A : Around} {E : Value → Shared → Prop} {env : Env}
theorem lcp_block {elt e₁ e₂ iter : Expr} {x1} {tpos : Pos} {ifs : List Expr} {scope : Scope} {pos : Pos} {cl : List (Str × Addr)} {use : Option (Value → Sem Unit)} {I a : Addr} {vs : List Value} {ps : List (Int × Int)} {Qf : Value → Shared → Prop} (f : Int × Int → Option Int)
    (hh : A.handled = none) (h : At b ((I, lit a 0) :: S) s) (hm : (a, lst vs) ∈ S) (hp : All2 (PairV S) vs ps) (hn : vs.length < 2 ^ 18)
    (turn : ∀ p t u ys k s m C D E', At b ((C, nsr m) :: (I, lit a k) :: (D, lst ys) :: S) s → PTurn w b A (compEnvC scope cl C env) elt e₁ e₂ ifs f p t u (fun m => (C, nsr m) :: (I, lit a k) :: (D, lst ys) :: S) s E')
    (fin : ∀ D C m ys s, (∀ v ∈ ys, isI v) → ys.map iv = ps.filterMap f → At b ((C, nsr m) :: (D, lst ys) :: S) s → compPost (model prg w) A E use Qf (.ref D) C (.ok .next) s)
    (hcell : (scope.names.all fun x => x.2 != .cell) = true := by rfl) (hkind : scope.kind = .function := by rfl)
    (he : ∀ C, assignEach [e₁, e₂] (compEnvC scope cl C env) = [(false, assign e₁ (compEnvC scope cl C env)), (false, assign e₂ (compEnvC scope cl C env))] := by intro _; rfl) :
    LcK w A E env use Qf elt (.Tuple [e₁, e₂] x1 tpos) iter ifs scope pos cl (.ref I) s := by
  refine lc_block (st_list (vs := vs) hh) self_list (fun i ys S' => S' = S ∧ (∀ v ∈ ys, isI v) ∧ ys.map iv = (ps.take i).filterMap f ∧ ys.length ≤ i) h ⟨rfl, (fun v hv => nomatch hv), rfl, Nat.le_refl _⟩ (by omega)
    (fun i ys S' ⟨_, _, _, e⟩ => e) (fun i ys S' ⟨e, _⟩ => e ▸ hm) (fun S S' hs h => hs _ h) (fun y hy => by simpa using List.all_eq_true.mp hcell y hy) hkind ?_ ?_
  · rintro i v ys S' s m C D E' hi hv ⟨rfl, hI, hy, hl⟩ h
    obtain ⟨p, hpi, ap, t, u, rfl, hmp⟩ := hp.get hv
    unfold LcTurn
    refine go_list h (.tail _ (.head _)) ?_
    refine as_pair h hh (.tail _ (.tail _ (.tail _ hmp))) (fun s₁ h₁ => ?_) (he C)
    have T := turn p t u ys (i + 1) s₁ m C D E' h₁
    refine wpAny_mono T (fun _ s₂ h₂ => wpAny_mono h₂ (fun _ s₃ h₃ => wpAny_mono h₃ (fun ok s₄ h₄ => ?_) fun _ _ e => e) fun _ _ e => e) fun _ _ e => e
    cases ok with
    | true =>
      simp only [if_true] at h₄ ⊢
      refine wpAny_mono h₄ (fun x s₅ h₅ => ?_) fun _ _ e => e
      obtain ⟨k, tk, m', hf, rfl, h₅⟩ := h₅
      refine ⟨m', _, ⟨rfl, fun v hv => ?_, ?_, by simp; omega⟩, h₅⟩
      · rcases List.mem_append.mp hv with hv | hv
        · exact hI v hv
        · rw [List.mem_singleton.mp hv]; exact ⟨_, _, rfl⟩
      · rw [List.map_append, hy, take_snoc hpi, List.filterMap_append]
        simp [hf, iv]
    | false =>
      simp only [Bool.false_eq_true, if_false] at h₄ ⊢
      obtain ⟨hf, m', h₄⟩ := h₄
      refine ⟨m', _, ⟨rfl, hI, ?_, by omega⟩, h₄⟩
      rw [hy, take_snoc hpi, List.filterMap_append]
      simp [hf]
  · rintro D C m ys S' s ⟨rfl, hI, hy, hl⟩ h
    rw [show vs.length = ps.length from hp.length, List.take_length] at hy
    exact fin D C m ys s hI hy h
theorem lcp_eval {elt e₁ e₂ iter : Expr} {x1} {tpos : Pos} {ifs : List Expr} {scope : Scope} {pos : Pos} {cl : List (Str × Addr)} {I a : Addr} {vs : List Value} {ps : List (Int × Int)} {Qf : Value → Shared → Prop} (f : Int × Int → Option Int)
    (hh : A.handled = none) (h : At b ((I, lit a 0) :: S) s) (hm : (a, lst vs) ∈ S) (hp : All2 (PairV S) vs ps) (hn : vs.length < 2 ^ 18)
    (turn : ∀ p t u ys k s m C D E', At b ((C, nsr m) :: (I, lit a k) :: (D, lst ys) :: S) s → PTurn w b A (compEnvC scope cl C env) elt e₁ e₂ ifs f p t u (fun m => (C, nsr m) :: (I, lit a k) :: (D, lst ys) :: S) s E')
    (fin : ∀ D ys s, (∀ v ∈ ys, isI v) → ys.map iv = ps.filterMap f → At b ((D, lst ys) :: S) s → Qf (.ref D) s)
    (hcell : (scope.names.all fun x => x.2 != .cell) = true := by rfl) (hkind : scope.kind = .function := by rfl)
    (he : ∀ C, assignEach [e₁, e₂] (compEnvC scope cl C env) = [(false, assign e₁ (compEnvC scope cl C env)), (false, assign e₂ (compEnvC scope cl C env))] := by intro _; rfl) :
    LcK w A E env none Qf elt (.Tuple [e₁, e₂] x1 tpos) iter ifs scope pos cl (.ref I) s :=
  lcp_block f hh h hm hp hn turn (fun D C m ys s hI hy h => ⟨m, h.ns (.head _), fun h' hs => fin D ys _ hI hy (h.lose (tk := s.toks) hs.extBut)⟩) hcell hkind he
theorem lcp_use {elt e₁ e₂ iter : Expr} {x1} {tpos : Pos} {y : Str} {py : Pos} {ifs : List Expr} {scope : Scope} {pos : Pos} {cl : List (Str × Addr)} {I a L : Addr} {vs : List Value} {ps : List (Int × Int)} {m₀ : Str → Option Value} {Cx : Res → Led} {Qf : Value → Shared → Prop} (f : Int × Int → Option Int)
    (hh : A.handled = none) (h : At b ((I, lit a 0) :: S) s) (hm : (a, lst vs) ∈ S) (hp : All2 (PairV S) vs ps) (hn : vs.length < 2 ^ 18)
    (turn : ∀ p t u ys k s m C D E', At b ((C, nsr m) :: (I, lit a k) :: (D, lst ys) :: S) s → PTurn w b A (compEnvC scope cl C env) elt e₁ e₂ ifs f p t u (fun m => (C, nsr m) :: (I, lit a k) :: (D, lst ys) :: S) s E')
    (hL : env.locals = L) (hx : Has L (nsr m₀) S Cx)
    (fin : ∀ D ys s, (∀ v ∈ ys, isI v) → ys.map iv = ps.filterMap f → At b ((D, lst ys) :: Cx (nsr fun z => if z = y then some (.ref D) else m₀ z)) s → Qf .none s)
    (hcell : (scope.names.all fun x => x.2 != .cell) = true := by rfl) (hkind : scope.kind = .function := by rfl) (hy : env.kindOf y = some .local := by rfl)
    (hp' : (env.scope.kind == .class || (env.scope.kind == .module && env.locals != env.globals)) = false := by rfl)
    (he : ∀ C, assignEach [e₁, e₂] (compEnvC scope cl C env) = [(false, assign e₁ (compEnvC scope cl C env)), (false, assign e₂ (compEnvC scope cl C env))] := by intro _; rfl) :
    LcK w A E env (some (assign (.Name y py) env)) Qf elt (.Tuple [e₁, e₂] x1 tpos) iter ifs scope pos cl (.ref I) s :=
  lcp_block f hh h hm hp hn turn (fun D C m ys s hI hy' h => by
    refine wpAny_assign_Name (st_local h hL (.there (.there hx)) (fun s' h' => ?_) hy hp')
    exact ⟨m, h'.ns (.head _), fun h₂ hs => fin D ys _ hI hy' (h'.lose (tk := s'.toks) hs.extBut)⟩) hcell hkind he
theorem enterFor {st : Stmt} {t i : Expr} {body o : List Stmt} {p : Pos} {Q : Flow → Shared → Prop} {g : Stmt → List Stmt} (hg : ∀ t i body o p, g (.For t i body o p) = body) (h : st = .For t i body o p) (k : wpAny (model prg w) A (execs body env) Q E s) : wpAny (model prg w) A (execs (g st) env) Q E s := by
  subst h; rw [hg]; exact k
end
def forB : Stmt → List Stmt
  | .For _ _ body _ _ => body
  | _ => []
noncomputable def lawB (P : Params) : List Stmt := match (fdAt P 146).body with
  | .stmts l => l
  | _ => []
noncomputable def outerSt (P : Params) : Stmt := (lawB P).getD 2 (.Pass ⟨0, 0, 0, 0⟩)
noncomputable def innerSt (P : Params) : Stmt := (forB (outerSt P)).getD 12 (.Pass ⟨0, 0, 0, 0⟩)
/-- list.remove's work on plain ints -/
def diffI : List Int → List Int → List Int → List Int × List Int
  | [], mis, act => (mis, act)
  | v :: r, mis, act => if v ∈ act then diffI r mis (act.erase v) else diffI r (mis ++ [v]) act
theorem rm_iv {k : Int} : ∀ {vs ws : List Value}, rmF k vs = some ws → k ∈ vs.map iv ∧ ws.map iv = (vs.map iv).erase k
  | [], _, h => nomatch h
  | v :: r, ws, h => by
    unfold rmF at h
    split at h
    · rename_i hv
      cases h
      exact ⟨by simp [hv], by simp [hv]⟩
    · rename_i hv
      obtain ⟨ws', h1, rfl⟩ := Option.map_eq_some_iff.mp h
      obtain ⟨a1, a2⟩ := rm_iv h1
      refine ⟨by simp; exact .inr (by simpa using a1), ?_⟩
      rw [List.map_cons, List.map_cons, a2, List.erase_cons_tail (by simpa using hv)]
theorem rm_iv_none {k : Int} {vs : List Value} (h : rmF k vs = none) : k ∉ vs.map iv := fun hk => by
  obtain ⟨v, hv, e⟩ := List.mem_map.mp hk
  exact rm_none h v hv e
theorem diff_iv : ∀ (r mis act : List Value), ((diffF r mis act).1.map iv, (diffF r mis act).2.map iv) = diffI (r.map iv) (mis.map iv) (act.map iv)
  | [], mis, act => rfl
  | v :: r, mis, act => by
    simp only [List.map_cons]
    unfold diffF diffI
    cases h : rmF (iv v) act with
    | some act' =>
      obtain ⟨h1, h2⟩ := rm_iv h
      simp only
      rw [if_pos h1, ← h2]
      exact diff_iv r mis act'
    | none =>
      simp only
      rw [if_neg (rm_iv_none h)]
      have := diff_iv r (mis ++ [v]) act
      simpa using this
theorem diff_ints : ∀ (r mis act : List Value), (∀ v ∈ r, isI v) → (∀ v ∈ mis, isI v) → (∀ v ∈ act, isI v) → (∀ v ∈ (diffF r mis act).1, isI v) ∧ (∀ v ∈ (diffF r mis act).2, isI v)
  | [], mis, act, _, h2, h3 => ⟨h2, h3⟩
  | v :: r, mis, act, h1, h2, h3 => by
    unfold diffF
    cases h : rmF (iv v) act with
    | some act' => exact diff_ints r mis act' (fun u hu => h1 u (.tail _ hu)) h2 fun u hu => h3 u (rm_sub h u hu)
    | none => exact diff_ints r (mis ++ [v]) act (fun u hu => h1 u (.tail _ hu)) (fun u hu => by
        rcases List.mem_append.mp hu with hu | hu
        · exact h2 u hu
        · rw [List.mem_singleton.mp hu]; exact h1 v (.head _)) h3
def minP (p : Int × Int) : Int := min p.1 p.2
def maxP (p : Int × Int) : Int := max p.1 p.2
def upF (low : Int) (p : Int × Int) : Option Int := if low < minP p then some (minP p) else none
def downF (high : Int) (p : Int × Int) : Option Int := if maxP p < high then some (maxP p) else none
def signF (ps : List (Int × Int)) : List Int := (sharedF ps ps.length).map fun q => cmp3 q.1 q.2
/-- what the plain law says of one pairing -/
structure InnerF (ps : List (Int × Int)) (W V N low high : Int) (small : List Int) : Prop where
  way1 : W + 2 * (ps.map (wayF low)).sum = V
  way2 : W + 2 * (ps.map (wayF high)).sum = V
  mis : (diffI (srt (ps.map minP)).reverse [] small).1 = (srt (ps.filterMap (upF low))).reverse ++ List.replicate ((srt (ps.filterMap (downF high))).length - (srt (ps.filterMap (upF low))).length) low
  left : (diffI (srt (ps.map minP)).reverse [] small).2 = srt (ps.filterMap (downF high)) ++ List.replicate ((srt (ps.filterMap (upF low))).length - (srt (ps.filterMap (downF high))).length) high
  sg1 : W = V ↔ -1 ∉ signF ps
  sg2 : W = N ↔ 1 ∉ signF ps
local macro_rules | `(tactic| regstrif_gather) => `(tactic| ((with_reducible show wpAny _ _ (execs (Stmt.Assign [Expr.Tuple _ _ _] _ _ :: _) _) _ _ _); refine x_assignT ?_))
local macro_rules | `(tactic| tb_start) => `(tactic| first
  | ((with_reducible show wpAny _ _ (eval (Expr.Constant (Const.bool _) _ _) _) _ _ _); refine wpAny_Constant_bool ?_)
  | ((with_reducible show wpAny _ _ (eval (Expr.UnaryOp UnaryOp.USub _ _) _) _ _ _); refine wpAny_UnaryOp ?_))
section
variable {w : World} {mg mb : Str → Option Value} {b s : Shared} {S : Led} {A : Around} {E : Value → Shared → Prop} {env : Env}
theorem isI_cons {i : Int} {t : Tok} {vs : List Value} (h : ∀ v ∈ vs, isI v) : ∀ v ∈ Value.int i t :: vs, isI v := fun v hv => by
  rcases List.mem_cons.mp hv with rfl | hv
  · exact ⟨i, t, rfl⟩
  · exact h v hv
theorem isI_nil : ∀ v ∈ ([] : List Value), isI v := fun v hv => nomatch hv
theorem isI_app {xs ys : List Value} (h : ∀ v ∈ xs, isI v) (h' : ∀ v ∈ ys, isI v) : ∀ v ∈ xs ++ ys, isI v := fun v hv => (List.mem_append.mp hv).elim (h v) (h' v)
theorem isI_rev {xs : List Value} (h : ∀ v ∈ xs, isI v) : ∀ v ∈ xs.reverse, isI v := fun v hv => h v (List.mem_reverse.mp hv)
theorem ne_false {W V x : Int} {l : List Int} (h : W = V ↔ x ∉ l) : ((W == V) != (!decide (x ∈ l))) = false := by
  by_cases e : x ∈ l
  · have : W ≠ V := fun q => (h.mp q) e
    simp [e, this]
  · have := h.mpr e
    simp [e, this]
theorem rep_one (k : Nat) (v : Value) : (List.replicate k [v]).flatten = List.replicate k v := by
  induction k with
  | zero => rfl
  | succ k ih => simp [List.replicate_succ, ih]
theorem isI_rep {k : Nat} {i : Int} {t : Tok} : ∀ v ∈ List.replicate k (Value.int i t), isI v := fun v hv => by rw [List.eq_of_mem_replicate hv]; exact ⟨_, _, rfl⟩
theorem enterCons {l rest : List Stmt} {s0 : Stmt} {Q : Flow → Shared → Prop} (h : l = s0 :: rest) (k : wpAny (model prg w) A (execs (s0 :: rest) env) Q E s) : wpAny (model prg w) A (execs l env) Q E s := by subst h; exact k
theorem o_neg {i : Int} {t : Tok} {Q : Value → Shared → Prop} (h : At b S s) (hq : ∀ t s', At b S s' → Q (.int (-i) t) s') : wpAny (model prg w) A (unaryOp .USub (.int i t)) Q E s := PyProof.Rows.neg_int (hq _ _ h.tk)
end
local macro_rules | `(tactic| regstrif_slice) => `(tactic| (with_reducible refine o_neg (by assumption) ?_; intro _ _ _))
noncomputable def innerU (P : Params) : List Stmt := (forB (innerSt P)).drop 7
section
variable {w : World} {mg mb : Str → Option Value} {b s : Shared} {S : Led} {A : Around} {E : Value → Shared → Prop} {env : Env}
theorem t_inner3 {m : Str → Option Value} {L ap Ds Dl : Addr} {W V N low high : Int} {tw tv tn : Tok} {sm : List Int} {vp fs : List Value} {ps : List (Int × Int)} {Q : Flow → Shared → Prop} (O : Ok w mg mb b) (room : Room A 3)
    (h : At b ((Dl, lst []) :: (Ds, lst fs) :: (L, nsr m) :: S) s) (m1 : m "pairing" = some (.ref ap)) (m2 : m "wide" = some (.int W tw)) (m3 : m "widest" = some (.int V tv)) (m4 : m "narrowest" = some (.int N tn))
    (m5 : m "small" = some (.ref Ds)) (m6 : m "lesser" = some (.ref Dl)) (m7 : m "left" = some (.ref Ds)) (hp : (ap, lst vp) ∈ S) (hps : All2 (PairV S) vp ps) (hpl : ps.length < 32) (F : InnerF ps W V N low high sm)
    (hq : ∀ m' s', m' "widest" = m "widest" → m' "narrowest" = m "narrowest" → m' "few" = m "few" → At b ((L, nsr m') :: S) s' → Q .next s') :
    wpAny (model prg w) A (execs (innerU w.params) (envG w.params 146 L)) Q E s := by
  have hvl := hps.length
  refine enterCons rfl ?_
  repeat tb_rel
  refine t_shared O h (room.le (by omega)) (.tail _ (.tail _ (.tail _ hp))) (hps.mono fun _ _ h => h.sub fun _ h => .tail _ (.tail _ (.tail _ h))) (by omega) ?_
  intro Dh ts M s hts h
  replace h : At b ((Dh, lst ts) :: (Dl, lst []) :: (Ds, lst fs) :: (L, nsr m) :: (M ++ S)) s := h.perm (.cons _ (List.perm_append_comm_assoc M [_, _, _] S).symm)
  have htl : ts.length < 2 ^ 12 := by
    have := hts.length
    have := shared_len ps ps.length
    have : ps.length * ps.length < 2 ^ 10 := Nat.lt_of_lt_of_le (Nat.mul_lt_mul'' hpl hpl) (by decide)
    omega
  repeat tb_rel
  refine x_assign_lc rfl ?_
  repeat tb_rel
  refine p_iter (by assumption) (by kt_at_item) ?_
  intro I s h
  refine lcp_use (L := L) (m₀ := fun y => if y = "shared" then some (.ref Dh) else m y) (fun q => some (cmp3 q.1 q.2)) room.hand h (.head _) (hts.mono fun _ _ h => h.sub fun _ h => .tail _ (.tail _ (.tail _ (.tail _ (List.mem_append_left _ h))))) (by omega) ?_ envG_loc (.there (.there (.there .here))) ?_
  · clear h
    intro p t u ys k s m' C D E' h
    unfold PTurn
    repeat tb_rel
    refine wpAny_tests_nil ?_
    repeat tb_rel
    refine t_cmp O (by assumption) (room.le (by omega)) ?_
    intro _ _ h
    exact ⟨_, _, _, rfl, rfl, h⟩
  intro Dg gs s hg eg h
  rw [List.filterMap_eq_map'] at eg
  have eg : gs.map iv = signF ps := eg
  repeat tb_rel
  refine r_lc rfl ?_
  repeat tb_rel
  refine p_iter (by assumption) (by kt_at_item) ?_
  intro I s h
  refine lcp_eval (fun q => some (cmp3 q.1 q.2)) room.hand h (.tail _ (.head _)) (hts.mono fun _ _ h => h.sub fun _ h => .tail _ (.tail _ (.tail _ (.tail _ (.tail _ (List.mem_append_left _ h)))))) (by omega) ?_ ?_
  · clear h
    intro p t u ys k s m' C D E' h
    unfold PTurn
    repeat tb_rel
    refine wpAny_tests_nil ?_
    repeat tb_rel
    split
    · rename_i hc
      repeat tb_rel
      rename_i h
      exact ⟨_, _, _, by show some (cmp3 p.1 p.2) = _; unfold cmp3; rw [if_pos (by simpa using hc)], rfl, h⟩
    · rename_i hc
      repeat tb_rel
      split
      · rename_i hc'
        repeat tb_rel
        rename_i h
        exact ⟨_, _, _, by show some (cmp3 p.1 p.2) = _; unfold cmp3; rw [if_neg (by simpa using hc), if_pos (by simpa using hc')], rfl, h⟩
      · rename_i hc'
        repeat tb_rel
        rename_i h
        exact ⟨_, _, _, by show some (cmp3 p.1 p.2) = _; unfold cmp3; rw [if_neg (by simpa using hc), if_neg (by simpa using hc')], rfl, h⟩
  intro Dk ks s hk ek h
  rw [List.filterMap_eq_map'] at ek
  have ek : ks.map iv = signF ps := ek
  repeat tb_rel
  refine b_ne (by assumption) room (by kt_at_item) (by kt_at_item) hg hk ?_
  rw [eg, ek, show (!decide (signF ps = signF ps)) = false by simp]
  repeat tb_rel
  refine b_ne (by assumption) room (by kt_at_item) (by kt_at_item) isI_nil isI_nil ?_
  rw [show (!decide (([] : List Value).map iv = ([] : List Value).map iv)) = false by simp]
  repeat tb_rel
  refine wpAny_isNot_ref_self ?_
  repeat tb_rel
  rename_i T0 s h
  replace h := h.tail.tail
  refine r_lc rfl ?_
  repeat tb_rel
  refine p_iter (by assumption) (by kt_at_item) ?_
  intro I s h
  refine lc_eval (st_list (vs := gs) room.hand) self_list (fun i ys S' => S' = (Dg, lst gs) :: (Dh, lst ts) :: (Dl, lst []) :: (Ds, lst fs) :: (L, nsr fun y => if y = "signs" then some (.ref Dg) else if y = "shared" then some (.ref Dh) else m y) :: (M ++ S) ∧ (∀ v ∈ ys, v = .bool false) ∧ ys.length = i) h
    ⟨rfl, (fun v hv => nomatch hv), rfl⟩ (by have := congrArg List.length eg; have := hts.length; simp [signF] at *; omega) ?_ ?_ ?_ ?_ ?_
  · rintro i ys S' ⟨rfl, _, e⟩; omega
  · rintro i ys S' ⟨rfl, _⟩; exact .head _
  · intro S S' hs h; exact hs _ h
  · clear h
    rintro i v ys S' s m' C D' E' hi' hv ⟨rfl, hI, hy⟩ h
    obtain ⟨k, t, rfl⟩ := isI_at hg hv
    unfold LcTurn
    refine wpAny_pure ?_
    repeat tb_rel
    refine wpAny_tests_nil ?_
    repeat tb_rel
    refine PySem.IsiPair.int_bool ?_
    rename_i s h
    refine ⟨_, _, ?_, h.tk (t := s.toks + 1)⟩
    refine ⟨rfl, fun v hv => ?_, by simp [hy]⟩
    rcases List.mem_append.mp hv with hv | hv
    · exact hI v hv
    · exact List.mem_singleton.mp hv
  clear h
  rintro Db bs S' s ⟨rfl, hB, _⟩ h
  repeat tb_rel
  refine c_inB (by assumption) (by kt_at_item) hB ?_
  repeat tb_rel
  refine c_notin (by assumption) (by kt_at_item) hg ?_
  refine PyProof.Rows.ne_bool ?_
  rw [eg, ne_false F.sg1]
  repeat tb_rel
  refine c_notin (by assumption) (by kt_at_item) hg ?_
  refine PyProof.Rows.ne_bool ?_
  rw [eg, ne_false F.sg2]
  repeat tb_rel
  rename_i s h
  replace h := h.sub (S' := (L, nsr _) :: S) (.cons _ (.cons _ (.cons _ (.cons _ (.cons _ (.cons_cons _ (List.sublist_append_right _ _)))))))
  refine hq _ _ ?_ ?_ ?_ h <;> rfl
end
noncomputable def innerT (P : Params) : List Stmt := (forB (innerSt P)).drop 5
section
variable {w : World} {mg mb : Str → Option Value} {b s : Shared} {S : Led} {A : Around} {E : Value → Shared → Prop} {env : Env}
theorem t_inner2 {m : Str → Option Value} {L ap Ds Dl Dd Du : Addr} {W V N low high : Int} {tw tv tn tl th : Tok} {sm vp ls ds us : List Value} {ps : List (Int × Int)} {Q : Flow → Shared → Prop} (O : Ok w mg mb b) (room : Room A 3) (hfr : A.frames = some [envG w.params 146 L])
    (h : At b ((Ds, lst sm) :: (Dl, lst ls) :: (Dd, lst ds) :: (Du, lst us) :: (L, nsr m) :: S) s) (m1 : m "pairing" = some (.ref ap)) (m2 : m "wide" = some (.int W tw)) (m3 : m "widest" = some (.int V tv)) (m4 : m "narrowest" = some (.int N tn))
    (m5 : m "small" = some (.ref Ds)) (m6 : m "lesser" = some (.ref Dl)) (m7 : m "down" = some (.ref Dd)) (m8 : m "up" = some (.ref Du))
    (c1 : (L + 4, cel (some (.int low tl))) ∈ S) (c2 : (L + 5, cel (some (.int high th))) ∈ S) (hsm : ∀ v ∈ sm, isI v) (hl : ∀ v ∈ ls, isI v) (hd : ∀ v ∈ ds, isI v) (hu : ∀ v ∈ us, isI v)
    (el : ls.map iv = srt (ps.map minP)) (ed : ds.map iv = srt (ps.filterMap (downF high))) (eu : us.map iv = srt (ps.filterMap (upF low))) (hp : (ap, lst vp) ∈ S) (hps : All2 (PairV S) vp ps)
    (hpl : ps.length < 32) (hsl : sm.length < 32) (F : InnerF ps W V N low high (sm.map iv))
    (hq : ∀ m' s', m' "widest" = m "widest" → m' "narrowest" = m "narrowest" → m' "few" = m "few" → At b ((L, nsr m') :: S) s' → Q .next s') :
    wpAny (model prg w) A (execs (innerT w.params) (envG w.params 146 L)) Q E s := by
  have hvl := hps.length
  have hll : ls.length < 32 := by have := congrArg List.length el; simp [srt_len] at this; omega
  have hdl : ds.length < 32 := by have := congrArg List.length ed; have := List.length_filterMap_le (downF high) ps; simp [srt_len] at *; omega
  have hul : us.length < 32 := by have := congrArg List.length eu; have := List.length_filterMap_le (upF low) ps; simp [srt_len] at *; omega
  have hdv := diff_iv ls.reverse [] sm
  obtain ⟨hdi1, hdi2⟩ := diff_ints ls.reverse [] sm (isI_rev hl) isI_nil hsm
  rw [List.map_reverse, el] at hdv
  refine enterCons rfl ?_
  repeat tb_rel
  refine t_diff O h.swap (room.le (by omega)) hfr ?_ hl hsm (by omega) (by omega) ?_
  · intro e he
    rw [List.mem_singleton.mp he]
    exact ⟨show ScopeKind.function ≠ ScopeKind.module by decide, L, _, rfl, .tail _ (.tail _ (.head _))⟩
  intro T M s h
  refine as_pair h room.hand (.head _) ?_
  intro s h
  replace h := h.tail
  generalize (diffF ls.reverse [] sm).1 = ms at h hdv hdi1
  generalize (diffF ls.reverse [] sm).2 = fs at h hdv hdi2
  have hms : ms.map iv = _ := (congrArg Prod.fst hdv).trans F.mis
  have hfs : fs.map iv = _ := (congrArg Prod.snd hdv).trans F.left
  clear hdv
  rw [← eu, ← ed, List.length_map, List.length_map] at hms hfs
  have hml : ms.length < 64 := by have := congrArg List.length hms; simp at this; omega
  have hfl : fs.length < 64 := by have := congrArg List.length hfs; simp at this; omega
  repeat tb_rel
  refine g_slice (by assumption) (by kt_at_item) (by kt_at_item) .none .none (.int _ _) (by simp) (by omega) ?_ (by with_unfolding_all rfl)
  rw [pick_rev]
  intro c1' _ _
  repeat tb_rel
  refine b_len (by assumption) (by kt_at_item) (by omega) ?_
  intro _ _ _
  repeat tb_rel
  refine b_len (by assumption) (by kt_at_item) (by omega) ?_
  intro _ _ _
  repeat tb_rel
  refine b_rep (by assumption) (by kt_at_item) (by omega) (by omega) (by simp; omega) ?_
  rw [rep_one, show ((ds.length : Int) - us.length).toNat = ds.length - us.length by omega]
  intro c2' _ _
  repeat tb_rel
  refine b_concat (by assumption) (by kt_at_item) (by kt_at_item) (by simp; omega) ?_
  intro c3' _ _
  repeat tb_rel
  refine b_ne (by assumption) room (by kt_at_item) (by kt_at_item) hdi1 (isI_app (isI_rev hu) isI_rep) ?_
  rw [show (!decide (ms.map iv = (us.reverse ++ List.replicate (ds.length - us.length) (Value.int low tl)).map iv)) = false by rw [hms, List.map_append, List.map_reverse, List.map_replicate]; simp [iv]]
  repeat tb_rel
  refine b_len (by assumption) (by kt_at_item) (by omega) ?_
  intro _ _ _
  repeat tb_rel
  refine b_len (by assumption) (by kt_at_item) (by omega) ?_
  intro _ _ _
  repeat tb_rel
  refine b_rep (by assumption) (by kt_at_item) (by omega) (by omega) (by simp; omega) ?_
  rw [rep_one, show ((us.length : Int) - ds.length).toNat = us.length - ds.length by omega]
  intro c4' _ _
  repeat tb_rel
  refine b_concat (by assumption) (by kt_at_item) (by kt_at_item) (by simp; omega) ?_
  intro c5' _ _
  repeat tb_rel
  refine b_ne (by assumption) room (by kt_at_item) (by kt_at_item) hdi2 (isI_app hd isI_rep) ?_
  rw [show (!decide (fs.map iv = (ds ++ List.replicate (us.length - ds.length) (Value.int high th)).map iv)) = false by rw [hfs, List.map_append, List.map_replicate]; simp [iv]]
  repeat (first | regstrif_fact | with_reducible refine wpAny_execs_nil ?_)
  rename_i s h
  replace h := h.sub (S' := (Dl, lst []) :: (Ds, lst fs) :: (L, nsr _) :: S) (.cons _ (.cons _ (.cons _ (.cons _ (.cons _ (.cons _ (.cons _ (.cons _ (.cons _ (.cons_cons _ (.cons_cons _ (.cons _ (.cons _ (.cons_cons _ (List.Sublist.refl _)))))))))))))))
  exact t_inner3 (vp := vp) O room h m1 m2 m3 m4 m5 m6 rfl hp hps hpl F fun m' s' a1 a2 a3 h' => hq m' s' a1 a2 a3 h'
end
section
variable {w : World} {mg mb : Str → Option Value} {b s : Shared} {S : Led} {A : Around} {E : Value → Shared → Prop} {env : Env}
theorem t_inner {m : Str → Option Value} {L ap fw f1 : Addr} {W V N low high : Int} {tw tv tn tl th : Tok} {v0 v2 : Value} {sm vp : List Value} {ps : List (Int × Int)} {Q : Flow → Shared → Prop} (O : Ok w mg mb b) (room : Room A 3) (hfr : A.frames = some [envG w.params 146 L])
    (h : At b ((L, nsr m) :: S) s) (m1 : m "pairing" = some (.ref ap)) (m2 : m "wide" = some (.int W tw)) (m3 : m "widest" = some (.int V tv)) (m4 : m "narrowest" = some (.int N tn)) (m5 : m "few" = some (.ref fw))
    (c1 : (L + 4, cel (some (.int low tl))) ∈ S) (c2 : (L + 5, cel (some (.int high th))) ∈ S) (hfw : (fw, lst [v0, .ref f1, v2]) ∈ S) (hf1 : (f1, lst sm) ∈ S) (hsm : ∀ v ∈ sm, isI v) (hp : (ap, lst vp) ∈ S) (hps : All2 (PairV S) vp ps)
    (hpl : ps.length < 32) (hsl : sm.length < 32) (F : InnerF ps W V N low high (sm.map iv))
    (hq : ∀ m' s', m' "widest" = m "widest" → m' "narrowest" = m "narrowest" → m' "few" = m "few" → At b ((L, nsr m') :: S) s' → Q .next s') :
    wpAny (model prg w) A (execs (forB (innerSt w.params)) (envG w.params 146 L)) Q E s := by
  have hvl := hps.length
  refine enterFor (fun _ _ _ _ _ => rfl) rfl ?_
  repeat tb_rel
  refine t_ways O (by assumption) (room.le (by omega)) (.tail _ hp) (hps.mono fun _ _ h => h.sub fun _ h => .tail _ h) (by omega) ?_
  intro _ _ _
  repeat tb_rel
  refine t_ways O (by assumption) (room.le (by omega)) (.tail _ hp) (hps.mono fun _ _ h => h.sub fun _ h => .tail _ h) (by omega) ?_
  intro _ _ _
  repeat tb_rel
  refine b_ne (by assumption) room (by kt_at_item) (by kt_at_item) (isI_cons (isI_cons isI_nil)) (isI_cons (isI_cons isI_nil)) ?_
  simp only [List.map_cons, List.map_nil, iv]
  rw [F.way1, F.way2]
  rw [show (!decide ([V, V] = [V, V])) = false by simp]
  repeat tb_rel
  rename_i s h
  replace h := h.tail.tail
  have sb : ∀ (X : Addr × Res) (q : Addr × Res), q ∈ S → q ∈ X :: S := fun _ _ h => .tail _ h
  refine r_lc rfl ?_
  repeat tb_rel
  refine p_iter (by assumption) (by kt_at_item) ?_
  intro I s h
  refine lcp_eval (upF low) room.hand h (.tail _ hp) (hps.mono fun _ _ h => h.sub fun _ h => .tail _ h) (by omega) ?_ ?_
  · clear h
    intro p t u ys k s m' C D E' h
    unfold PTurn
    repeat tb_rel
    refine wpAny_tests_one ?_
    repeat tb_rel
    refine b_min2 (by assumption) room.hand ?_
    intro _ _ _
    repeat tb_rel
    split
    · rename_i hc
      repeat tb_rel
      refine b_min2 (by assumption) room.hand ?_
      intro _ _ h
      exact ⟨_, _, _, by unfold upF minP; rw [if_pos (by simpa using hc)], rfl, h⟩
    · rename_i hc
      exact ⟨by unfold upF minP; rw [if_neg (by simpa using hc)], _, by assumption⟩
  intro D0 ys0 s hI0 hy0 h
  repeat tb_rel
  refine b_sorted (by assumption) (by kt_at_item) hI0 (by have := congrArg List.length hy0; have := List.length_filterMap_le (upF low) ps; simp at *; omega) ?_
  intro Du us s hu eu h
  rw [hy0] at eu
  replace h := h.swap.tail
  clear hI0 hy0
  repeat tb_rel
  rename_i s h
  refine r_lc rfl ?_
  repeat tb_rel
  refine p_iter (by assumption) (by kt_at_item) ?_
  intro I s h
  refine lcp_eval (downF high) room.hand h (.tail _ (.tail _ hp)) (hps.mono fun _ _ h => h.sub fun _ h => .tail _ (.tail _ h)) (by omega) ?_ ?_
  · clear h
    intro p t u ys k s m' C D E' h
    unfold PTurn
    repeat tb_rel
    refine wpAny_tests_one ?_
    repeat tb_rel
    refine b_max2 (by assumption) room.hand ?_
    intro _ _ _
    repeat tb_rel
    split
    · rename_i hc
      repeat tb_rel
      refine b_max2 (by assumption) room.hand ?_
      intro _ _ h
      exact ⟨_, _, _, by unfold downF maxP; rw [if_pos (by simpa using hc)], rfl, h⟩
    · rename_i hc
      exact ⟨by unfold downF maxP; rw [if_neg (by simpa using hc)], _, by assumption⟩
  intro D0 ys0 s hI0 hy0 h
  repeat tb_rel
  refine b_sorted (by assumption) (by kt_at_item) hI0 (by have := congrArg List.length hy0; have := List.length_filterMap_le (downF high) ps; simp at *; omega) ?_
  intro Dd ds s hd ed h
  rw [hy0] at ed
  replace h := h.swap.tail
  clear hI0 hy0
  repeat tb_rel
  rename_i s h
  refine r_lc rfl ?_
  repeat tb_rel
  refine p_iter (by assumption) (by kt_at_item) ?_
  intro I s h
  refine lcp_eval (fun p => some (minP p)) room.hand h (.tail _ (.tail _ (.tail _ hp))) (hps.mono fun _ _ h => h.sub fun _ h => .tail _ (.tail _ (.tail _ h))) (by omega) ?_ ?_
  · clear h
    intro p t u ys k s m' C D E' h
    unfold PTurn
    repeat tb_rel
    refine wpAny_tests_nil ?_
    repeat tb_rel
    refine b_min2 (by assumption) room.hand ?_
    intro _ _ h
    exact ⟨_, _, _, rfl, rfl, h⟩
  intro D0 ys0 s hI0 hy0 h
  rw [List.filterMap_eq_map'] at hy0
  repeat tb_rel
  refine b_sorted (by assumption) (by kt_at_item) hI0 (by have := congrArg List.length hy0; simp at *; omega) ?_
  intro Dl ls s hl el h
  rw [hy0] at el
  replace h := h.swap.tail
  clear hI0 hy0
  repeat tb_rel
  refine g_sub (k := 1) (v := .ref f1) (by assumption) (by kt_at_item) rfl rfl (by simp) ?_
  repeat tb_rel
  refine b_list (by assumption) (by kt_at_item) (by omega) ?_
  intro Ds s h
  regstrif_slice
  rename_i s h
  exact t_inner2 (vp := vp) O room hfr h m1 m2 m3 m4 rfl rfl rfl rfl c1 c2 hsm hl hd hu el ed eu hp hps hpl hsl F fun m' s' a1 a2 a3 h' => hq m' s' a1 a2 a3 h'
end
def absI (x : Int) : Int := if x < 0 then -x else x
def wdF (ps : List (Int × Int)) : Int := (ps.map fun p => absI (p.1 - p.2)).sum
def nar : List Int → Int
  | x :: y :: r => (y - x) + nar r
  | _ => 0
/-- what the plain law says of a row -/
structure OuterF (ns : List Int) (h : Nat) (V N low high : Int) : Prop where
  each : ∀ ps ∈ prsF 6 ns, InnerF ps (wdF ps) V N low high ((srt ns).take h)
  up : ∀ ps ∈ prsF 6 ns, wdF ps ≤ V
  down : ∀ ps ∈ prsF 6 ns, N ≤ wdF ps
  top : ∃ ps ∈ prsF 6 ns, wdF ps = V
  bot : ∃ ps ∈ prsF 6 ns, wdF ps = N
  isV : V = ((srt ns).drop h).sum - ((srt ns).take h).sum
  isN : N = nar (srt ns)
theorem pick_at {items : Array Value} {lo hi st : Option Int} {n : Nat} {l : List Nat} (hn : items.size = n) (h : sliceRange (sliceBounds lo hi st n).1 (sliceBounds lo hi st n).2.1 (sliceBounds lo hi st n).2.2 = l) : (slicePick items lo hi st).toList = l.filterMap (items[·]?) := by
  subst hn
  unfold slicePick
  rw [h]
theorem pick_nar {os : List Value} {h : Nat} (hh : h = 2 ∨ h = 3) (hl : os.length = 2 * h) : ((slicePick os.toArray (some 1) none (some 2)).toList.map iv).sum - ((slicePick os.toArray (some 0) none (some 2)).toList.map iv).sum = nar (os.map iv) := by
  rcases hh with rfl | rfl
  · match os, hl with
    | [a, b, c, d], _ =>
      have e1 : (slicePick [a, b, c, d].toArray (some 1) none (some 2)).toList = [b, d] := pick_at (n := 4) (l := [1, 3]) rfl (by decide +kernel)
      have e2 : (slicePick [a, b, c, d].toArray (some 0) none (some 2)).toList = [a, c] := pick_at (n := 4) (l := [0, 2]) rfl (by decide +kernel)
      rw [e1, e2]
      simp [nar]; omega
  · match os, hl with
    | [a, b, c, d, e, f], _ =>
      have e1 : (slicePick [a, b, c, d, e, f].toArray (some 1) none (some 2)).toList = [b, d, f] := pick_at (n := 6) (l := [1, 3, 5]) rfl (by decide +kernel)
      have e2 : (slicePick [a, b, c, d, e, f].toArray (some 0) none (some 2)).toList = [a, c, e] := pick_at (n := 6) (l := [0, 2, 4]) rfl (by decide +kernel)
      rw [e1, e2]
      simp [nar]; omega
noncomputable def outerU (P : Params) : List Stmt := (forB (outerSt P)).drop 12
section
variable {w : World} {mg mb : Str → Option Value} {b s : Shared} {S : Led} {A : Around} {E : Value → Shared → Prop} {env : Env}
theorem t_outer3 {m : Str → Option Value} {L R Dw Dp fw f1 : Addr} {V N low high : Int} {tl th tV tN : Tok} {v0 v2 : Value} {ts ws sm : List Value} {M : Led} {pss : List (List (Int × Int))} {c1 c2 : Option Value} {Q : Flow → Shared → Prop} (O : Ok w mg mb b) (room : Room A 8) (hfr : A.frames = some [envG w.params 146 L])
    (h : At b ((Dw, lst ws) :: (Dp, lst ts) :: (L, nsr m) :: (L + 1, cel c1) :: (L + 2, cel c2) :: (L + 3, cel (some (.ref R))) :: (L + 4, cel (some (.int low tl))) :: (L + 5, cel (some (.int high th))) :: (M ++ S)) s)
    (m1 : m "narrowest" = some (.int N tN)) (m2 : m "widest" = some (.int V tV)) (m3 : m "wides" = some (.ref Dw)) (m0 : True = True) (m4 : m "pairings" = some (.ref Dp)) (m5 : m "few" = some (.ref fw)) (hts : All2 (PairingV M) ts pss) (hw : ∀ v ∈ ws, isI v) (ew : ws.map iv = pss.map wdF)
    (hfw : (fw, lst [v0, .ref f1, v2]) ∈ S) (hf1 : (f1, lst sm) ∈ S) (hs : ∀ v ∈ sm, isI v) (hsl : sm.length < 32) (hpl : ∀ ps ∈ pss, ps.length < 32) (F : ∀ ps ∈ pss, InnerF ps (wdF ps) V N low high (sm.map iv))
    (hq : ∀ m' s', At b ((L, nsr m') :: (L + 1, cel c1) :: (L + 2, cel c2) :: (L + 3, cel (some (.ref R))) :: (L + 4, cel (some (.int low tl))) :: (L + 5, cel (some (.int high th))) :: S) s' → Q .next s') :
    wpAny (model prg w) A (execs (outerU w.params) (envG w.params 146 L)) Q E s := by
  have hwl : ws.length = ts.length := by have := congrArg List.length ew; have := hts.length; simp at *; omega
  refine enterCons rfl ?_
  repeat tb_rel
  refine b_zip (by assumption) (by kt_at_item) (by kt_at_item) ?_
  intro z TI TO i1 i2 s h
  refine p_zip h (.head _) ?_
  refine for_zip (n := ts.length) (R1 := lit Dp) (R2 := lit Dw) (P1 := fun i v => ts[i]? = some v) (P2 := fun i v => ws[i]? = some v) (Src1 := fun S => (Dp, lst ts) ∈ S) (Src2 := fun S => (Dw, lst ws) ∈ S) room.hand (fun i hi => draw_list' hi) (fun i hi => draw_list' (by omega)) draw_list_end
    (fun i S' => ∃ m, S' = (Dw, lst ws) :: (Dp, lst ts) :: (L, nsr m) :: (L + 1, cel c1) :: (L + 2, cel c2) :: (L + 3, cel (some (.ref R))) :: (L + 4, cel (some (.int low tl))) :: (L + 5, cel (some (.int high th))) :: (M ++ S) ∧ m "narrowest" = some (.int N tN) ∧ m "widest" = some (.int V tV) ∧ m "few" = some (.ref fw)) h
    ⟨m, rfl, m1, m2, m5⟩ ?_ ?_ ?_ ?_
  · rintro i S' S'' ⟨m, rfl, _⟩ hsub; exact hsub _ (.tail _ (.head _))
  · rintro i S' S'' ⟨m, rfl, _⟩ hsub; exact hsub _ (.head _)
  · clear h
    rintro i T x y S' s E' hi px py ⟨m, rfl, n1, n2, n3⟩ h
    obtain ⟨ps, hpi, ap, vp, rfl, hmp, hps⟩ := hts.get px
    obtain ⟨iw, tw, rfl⟩ := isI_at hw py
    obtain rfl : iw = wdF ps := by
      have e1 : (ws.map iv)[i]? = some iw := by rw [List.getElem?_map, py]; rfl
      rw [ew, List.getElem?_map, hpi] at e1
      exact (Option.some.inj e1).symm
    have hmem := List.mem_of_getElem? hpi
    replace h := h.weaken .here pr_tup
    refine as_pair h room.hand (.head _) ?_
    intro _ _
    repeat (first | regstrif_slice)
    rename_i s h
    replace h := h.tail.perm (List.perm_middle (l₁ := [_, _, _, _, _, _, _])).symm
    show wpAny (model prg w) A (execs (forB (innerSt w.params)) (envG w.params 146 L)) _ _ _
    refine t_inner (ap := ap) (fw := fw) (f1 := f1) (vp := vp) (v0 := v0) (v2 := v2) (sm := sm) O (room.le (by omega)) hfr h rfl rfl n2 n1 n3 (by kt_at_item) (by kt_at_item) (by kt_at_item) (by kt_at_item) hs (by kt_at_item)
      (hps.mono fun _ _ h => h.sub fun _ h => by kt_at_item) (hpl ps hmem) hsl (F ps hmem) ?_
    intro m' s' a1 a2 a3 h'
    refine ⟨_, ?_, h'.perm (List.perm_middle (l₁ := [_, _, _, _, _, _, _]))⟩
    exact ⟨m', rfl, a2.trans n1, a1.trans n2, a3.trans n3⟩
  · clear h
    rintro S' s ⟨m, rfl, n1, n2, n3⟩ h
    repeat tb_rel
    exact hq _ _ (h.sub (.cons _ (.cons _ (.cons _ (.cons_cons _ (.cons_cons _ (.cons_cons _ (.cons_cons _ (.cons_cons _ (.cons_cons _ (List.sublist_append_right _ _)))))))))))
end
noncomputable def outerT (P : Params) : List Stmt := (forB (outerSt P)).drop 7
section
variable {w : World} {mg mb : Str → Option Value} {b s : Shared} {S : Led} {A : Around} {E : Value → Shared → Prop} {env : Env}
theorem t_outer2 {m : Str → Option Value} {L R Of fw f1 : Addr} {h₀ : Nat} {V N low high : Int} {tl th t0 : Tok} {v0 v2 : Value} {vs os sm : List Value} {c1 c2 : Option Value} {Q : Flow → Shared → Prop} (O : Ok w mg mb b) (room : Room A 8) (hfr : A.frames = some [envG w.params 146 L])
    (h : At b ((L, nsr m) :: (L + 1, cel c1) :: (L + 2, cel c2) :: (L + 3, cel (some (.ref R))) :: (L + 4, cel (some (.int low tl))) :: (L + 5, cel (some (.int high th))) :: S) s)
    (m1 : m "off" = some (.ref Of)) (m2 : m "few" = some (.ref fw)) (m3 : m "half" = some (.int h₀ t0)) (hR : (R, lst vs) ∈ S) (hOf : (Of, lst os) ∈ S) (hfw : (fw, lst [v0, .ref f1, v2]) ∈ S) (hf1 : (f1, lst sm) ∈ S)
    (hv : ∀ v ∈ vs, isI v) (ho : ∀ v ∈ os, isI v) (hs : ∀ v ∈ sm, isI v) (hh : h₀ = 2 ∨ h₀ = 3) (hl : vs.length = 2 * h₀) (eo : os.map iv = srt (vs.map iv)) (es : sm.map iv = (srt (vs.map iv)).take h₀) (F : OuterF (vs.map iv) h₀ V N low high)
    (hq : ∀ m' s', At b ((L, nsr m') :: (L + 1, cel c1) :: (L + 2, cel c2) :: (L + 3, cel (some (.ref R))) :: (L + 4, cel (some (.int low tl))) :: (L + 5, cel (some (.int high th))) :: S) s' → Q .next s') :
    wpAny (model prg w) A (execs (outerT w.params) (envG w.params 146 L)) Q E s := by
  have hol : os.length = 2 * h₀ := by have := congrArg List.length eo; simp [srt_len] at this; omega
  have hsml : sm.length < 32 := by have := congrArg List.length es; simp at this; omega
  refine enterCons rfl ?_
  repeat tb_rel
  refine t_pairings O 6 (Nat.le_refl _) (vs := vs) (by omega) (by assumption) (room.le (by omega)) (by kt_at_item) hv ?_
  intro Dp ts M s hts h
  replace h : At b ((Dp, lst ts) :: (L, nsr m) :: (L + 1, cel c1) :: (L + 2, cel c2) :: (L + 3, cel (some (.ref R))) :: (L + 4, cel (some (.int low tl))) :: (L + 5, cel (some (.int high th))) :: (M ++ S)) s := h.perm (.cons _ (List.perm_append_comm_assoc M [_, _, _, _, _, _] S).symm)
  have hplen := prs_len 6 (vs.map iv) (by simp; omega)
  have htl : ts.length < 2 ^ 19 := by have := hts.length; omega
  regstrif_slice
  refine x_assign_lc rfl ?_
  repeat tb_rel
  refine p_iter (by assumption) (by kt_at_item) ?_
  intro I s h
  generalize hm0 : (fun y => if y = Str.ofString "pairings" then some (Value.ref Dp) else m y) = m0 at h
  have q1 : m0 "off" = some (.ref Of) := by rw [← hm0]; exact m1
  have q2 : m0 "few" = some (.ref fw) := by rw [← hm0]; exact m2
  have q3 : m0 "half" = some (.int h₀ t0) := by rw [← hm0]; exact m3
  have q4 : m0 "pairings" = some (.ref Dp) := by rw [← hm0]; rfl
  clear hm0 m1 m2 m3
  refine lc_use (L := L) (st_list (vs := ts) room.hand) self_list (fun i ys S' => S' = (Dp, lst ts) :: (L, nsr m0) :: (L + 1, cel c1) :: (L + 2, cel c2) :: (L + 3, cel (some (.ref R))) :: (L + 4, cel (some (.int low tl))) :: (L + 5, cel (some (.int high th))) :: (M ++ S) ∧ (∀ v ∈ ys, isI v) ∧
    ys.map iv = ((prsF 6 (vs.map iv)).take i).map wdF ∧ ys.length = i) h ⟨rfl, isI_nil, rfl, rfl⟩ (by omega) ?_ ?_ ?_ ?_ envG_loc ?_
  · rintro i ys S' ⟨rfl, _, _, e⟩; omega
  · rintro i ys S' ⟨rfl, _⟩; exact .head _
  · intro S S' hs h; exact hs _ h
  · clear h
    rintro i v ys S' s m' C D' E' hi' hv' ⟨rfl, hI, hy, hyl⟩ h
    obtain ⟨ps, hpi, ap, vp, rfl, hmp, hps⟩ := hts.get hv'
    have hpl := prs_each 6 _ _ (List.mem_of_getElem? hpi)
    have hvl := hps.length
    unfold LcTurn
    refine wpAny_pure ?_
    repeat tb_rel
    refine wpAny_tests_nil ?_
    repeat tb_rel
    refine r_lc rfl ?_
    repeat tb_rel
    refine p_iter (by assumption) (by kt_at_item) ?_
    intro I2 s h
    refine lcp_eval (fun p => some (absI (p.1 - p.2))) room.hand h (by kt_at_item) (hps.mono fun _ _ h => h.sub fun _ h => by kt_at_item) (by omega) ?_ ?_
    · clear h
      intro p t u ys k s m' C D E' h
      unfold PTurn
      repeat tb_rel
      refine wpAny_tests_nil ?_
      repeat tb_rel
      refine b_abs (by assumption) ?_
      intro _ _ h
      exact ⟨_, _, _, rfl, rfl, h⟩
    intro D2 ys2 s hI2 hy2 h
    rw [List.filterMap_eq_map'] at hy2
    repeat tb_rel
    refine b_sum (by assumption) room.hand (by kt_at_item) hI2 ?_
    intro t s h
    refine ⟨_, _, ?_, h.tail⟩
    refine ⟨rfl, fun v hv => ?_, ?_, by simp [hyl]⟩
    · rcases List.mem_append.mp hv with hv | hv
      · exact hI v hv
      · rw [List.mem_singleton.mp hv]; exact ⟨_, _, rfl⟩
    · rw [List.map_append, hy, take_snoc hpi, List.map_append, hy2]; rfl
  clear h
  rintro Dw ws S' ⟨rfl, hw, ew, hwl⟩
  refine ⟨m0, _, .there .here, fun s h => ?_⟩
  rw [show ts.length = (prsF 6 (vs.map iv)).length from hts.length, List.take_length] at ew
  have hwn : 0 < ws.length := by
    obtain ⟨ps, hps, _⟩ := F.top
    have := congrArg List.length ew
    have := List.length_pos_of_mem hps
    simp at *; omega
  have hmem : ∀ v ∈ ws, ∃ ps ∈ prsF 6 (vs.map iv), wdF ps = iv v := fun v hv => by
    have : iv v ∈ ws.map iv := List.mem_map_of_mem hv
    rw [ew] at this
    obtain ⟨ps, h1, h2⟩ := List.mem_map.mp this
    exact ⟨ps, h1, h2⟩
  have hmem' : ∀ ps ∈ prsF 6 (vs.map iv), ∃ v ∈ ws, iv v = wdF ps := fun ps hps => by
    have : wdF ps ∈ ws.map iv := by rw [ew]; exact List.mem_map_of_mem hps
    obtain ⟨v, h1, h2⟩ := List.mem_map.mp this
    exact ⟨v, h1, h2⟩
  repeat tb_rel
  refine b_max (by assumption) room.hand (by kt_at_item) hw hwn ?_
  intro v s hvm hvx h
  obtain ⟨iV, tV, rfl⟩ := hw v hvm
  obtain rfl : iV = V := by
    obtain ⟨ps, h1, h2⟩ := hmem _ hvm
    obtain ⟨ps', h1', h2'⟩ := F.top
    obtain ⟨u, hu, hu'⟩ := hmem' ps' h1'
    have a1 := F.up ps h1
    have a2 : iv u ≤ iV := hvx u hu
    have h2 : wdF ps = iV := h2
    omega
  repeat tb_rel
  refine b_min (by assumption) room.hand (by kt_at_item) hw hwn ?_
  intro v s hvm hvx h
  obtain ⟨iN, tN, rfl⟩ := hw v hvm
  obtain rfl : iN = N := by
    obtain ⟨ps, h1, h2⟩ := hmem _ hvm
    obtain ⟨ps', h1', h2'⟩ := F.bot
    obtain ⟨u, hu, hu'⟩ := hmem' ps' h1'
    have a1 := F.down ps h1
    have a2 : iN ≤ iv u := hvx u hu
    have h2 : wdF ps = iN := h2
    omega
  clear hvm hvx hmem hmem'
  repeat tb_rel
  refine g_slice (by assumption) (by kt_at_item) (by kt_at_item) (.int _ _) .none .none (by simp) (by omega) ?_ (by with_unfolding_all rfl)
  rw [pick_from os h₀ (by omega)]
  intro e1 _ _
  repeat tb_rel
  refine b_sum (by assumption) room.hand (by kt_at_item) (fun v hv => ho v (List.mem_of_mem_drop hv)) ?_
  intro _ _ _
  repeat tb_rel
  refine g_slice (by assumption) (by kt_at_item) (by kt_at_item) .none (.int _ _) .none (by simp) (by omega) ?_ (by with_unfolding_all rfl)
  rw [pick_to os h₀ (by omega)]
  intro e2 _ _
  repeat tb_rel
  refine b_sum (by assumption) room.hand (by kt_at_item) (fun v hv => ho v (List.mem_of_mem_take hv)) ?_
  intro _ _ _
  repeat tb_rel
  refine g_slice (by assumption) (by kt_at_item) (by kt_at_item) (.int _ _) .none (.int _ _) (by simp) (by omega) ?_ (by with_unfolding_all rfl)
  intro e3 _ _
  repeat tb_rel
  refine b_sum (by assumption) room.hand (by kt_at_item) (fun v hv => ho v (pick_mem hv)) ?_
  intro _ _ _
  repeat tb_rel
  refine g_slice (by assumption) (by kt_at_item) (by kt_at_item) (.int _ _) .none (.int _ _) (by simp) (by omega) ?_ (by with_unfolding_all rfl)
  intro e4 _ _
  repeat tb_rel
  refine b_sum (by assumption) room.hand (by kt_at_item) (fun v hv => ho v (pick_mem hv)) ?_
  intro _ _ _
  repeat tb_rel
  refine b_ne (by assumption) room (by kt_at_item) (by kt_at_item) (isI_cons (isI_cons isI_nil)) (isI_cons (isI_cons isI_nil)) ?_
  simp only [List.map_cons, List.map_nil, iv]
  rw [pick_nar hh hol, List.map_drop, List.map_take, eo, ← F.isV, ← F.isN, show (!decide ([iV, iN] = [iV, iN])) = false by simp]
  repeat (first | regstrif_fact | with_reducible refine wpAny_execs_nil ?_)
  rename_i s h
  replace h := h.sub (S' := (Dw, lst ws) :: (Dp, lst ts) :: (L, nsr _) :: (L + 1, cel c1) :: (L + 2, cel c2) :: (L + 3, cel (some (.ref R))) :: (L + 4, cel (some (.int low tl))) :: (L + 5, cel (some (.int high th))) :: (M ++ S))
    (.cons _ (.cons _ (.cons _ (.cons _ (.cons _ (.cons _ (.cons _ (.cons _ (.cons _ (.cons _ (List.Sublist.refl _)))))))))))
  show wpAny (model prg w) A (execs (outerU w.params) (envG w.params 146 L)) Q E s
  refine t_outer3 (v0 := v0) (v2 := v2) (pss := prsF 6 (vs.map iv)) O room hfr h rfl rfl rfl rfl q4 q2 hts hw ew hfw hf1 hs hsml (fun ps hps => ?_) (fun ps hps => by rw [es]; exact F.each ps hps) fun m' s' h' => hq m' s' h'
  have := prs_each 6 _ ps hps
  omega
end
theorem IntL.sub {S S' : Led} {v : Value} {ns : List Int} (h : IntL S v ns) (hs : ∀ p ∈ S, p ∈ S') : IntL S' v ns := let ⟨a, vs, e, m, i, q⟩ := h; ⟨a, vs, e, hs _ m, i, q⟩
section
variable {w : World} {mg mb : Str → Option Value} {b s : Shared} {S : Led} {A : Around} {E : Value → Shared → Prop} {env : Env}
theorem srt_take_one {ns : List Int} {x : Int} (hx : x ∈ ns) (hle : ∀ y ∈ ns, x ≤ y) : (srt ns).take 1 = [x] := by
  have hs := srt_sorted ns
  have hp := srt_perm ns
  have hx' : x ∈ srt ns := hp.symm.subset hx
  cases e : srt ns with
  | nil => rw [e] at hx'; cases hx'
  | cons y r =>
    rw [e] at hs hp hx'
    have h1 := hle y (hp.subset (.head _))
    have h2 : y ≤ x := by
      rcases List.mem_cons.mp hx' with rfl | h
      · exact Int.le_refl _
      · exact (List.pairwise_cons.mp hs).1 x h
    rw [show y = x by omega]
    rfl
end
noncomputable def outerV (P : Params) : List Stmt := (forB (outerSt P)).drop 4
section
variable {w : World} {mg mb : Str → Option Value} {b s : Shared} {S : Led} {A : Around} {E : Value → Shared → Prop} {env : Env}
theorem t_outerB {m : Str → Option Value} {L K R Of Fw : Addr} {k : Nat} {V N : Int} {th : Tok} {vs os ys : List Value} {M : Led} {c1 c2 c4 c5 : Option Value} {Q : Flow → Shared → Prop} (O : Ok w mg mb b) (room : Room A 8) (hfr : A.frames = some [envG w.params 146 L])
    (h : At b ((Fw, lst ys) :: (Of, lst os) :: (R, lst vs) :: (L, nsr m) :: (L + 1, cel c1) :: (L + 2, cel c2) :: (L + 3, cel (some (.ref R))) :: (L + 4, cel c4) :: (L + 5, cel c5) :: (M ++ S)) s)
    (q0 : m "few" = some (.ref Fw)) (q1 : m "off" = some (.ref Of)) (q2 : m "half" = some (.int ((k + 1 : Nat) : Int) th)) (q3 : m "kept" = some (.ref K)) (hK : (K, lst vs) ∈ S) (hv : ∀ v ∈ vs, isI v) (hh : k = 1 ∨ k = 2) (hl : vs.length = 2 * (k + 1))
    (ho : ∀ v ∈ os, isI v) (eo : os.map iv = srt (vs.map iv)) (hy : All2 (IntL M) ys ([(srt (vs.map iv)).take 1, (srt (vs.map iv)).take (k + 1), srt (vs.map iv)].take 3))
    (plain : ∀ low high, (srt (vs.map iv))[k]? = some low → (srt (vs.map iv))[k + 1]? = some high → OuterF (vs.map iv) (k + 1) V N low high)
    (hq : ∀ m' c3 c4 c5 s', At b ((L, nsr m') :: (L + 1, cel c1) :: (L + 2, cel c2) :: (L + 3, cel c3) :: (L + 4, cel c4) :: (L + 5, cel c5) :: S) s' → Q .next s') :
    wpAny (model prg w) A (execs (outerV w.params) (envG w.params 146 L)) Q E s := by
  have hol : os.length = 2 * (k + 1) := by have := congrArg List.length eo; simp [srt_len] at this; omega
  refine enterCons rfl ?_
  repeat tb_rel
  refine t_low O (by assumption) (room.le (by omega)) (by kt_at_item) hv (by omega) hl ?_
  intro v s hvi hlow h
  obtain ⟨low, tl, rfl⟩ := hvi
  repeat tb_rel
  refine t_high O (by assumption) (room.le (by omega)) (by kt_at_item) hv (by omega) hl ?_
  intro v s hvi hhigh h
  obtain ⟨high, th', rfl⟩ := hvi
  have F := plain low high hlow hhigh
  repeat tb_rel
  refine g_slice (by assumption) (by kt_at_item) (by kt_at_item) .none (.int _ _) .none (by simp) (by omega) ?_ (by with_unfolding_all rfl)
  rw [show (slicePick os.toArray none (some 1) none).toList = os.take 1 from pick_to os 1 (by omega)]
  intro e1 _ _
  repeat tb_rel
  refine g_slice (by assumption) (by kt_at_item) (by kt_at_item) .none (.int _ _) .none (by simp) (by omega) ?_ (by with_unfolding_all rfl)
  rw [pick_to os (k + 1) (by omega)]
  intro e2 _ _
  repeat tb_rel
  have i1 : ∀ v ∈ os.take 1, isI v := fun v hv => ho v (List.mem_of_mem_take hv)
  have i2 : ∀ v ∈ os.take (k + 1), isI v := fun v hv => ho v (List.mem_of_mem_take hv)
  refine b_neL (xs := [(srt (vs.map iv)).take 1, (srt (vs.map iv)).take (k + 1), srt (vs.map iv)]) (ys := [(srt (vs.map iv)).take 1, (srt (vs.map iv)).take (k + 1), srt (vs.map iv)]) (by assumption) room (by kt_at_item) (by kt_at_item)
    (hy.mono fun _ _ h => h.sub fun _ h => by kt_at_item)
    (.cons ⟨e1, _, rfl, by kt_at_item, i1, by rw [List.map_take, eo]⟩ (.cons ⟨e2, _, rfl, by kt_at_item, i2, by rw [List.map_take, eo]⟩ (.cons ⟨Of, _, rfl, by kt_at_item, ho, eo⟩ .nil))) ?_
  rw [show (!decide ([(srt (vs.map iv)).take 1, (srt (vs.map iv)).take (k + 1), srt (vs.map iv)] = [(srt (vs.map iv)).take 1, (srt (vs.map iv)).take (k + 1), srt (vs.map iv)])) = false by simp]
  repeat tb_rel
  refine g_slice (by assumption) (by kt_at_item) (by kt_at_item) (.int _ _) (.int _ _) .none (by simp) (by omega) ?_ (by with_unfolding_all rfl)
  rw [show (((k + 1 : Nat) : Int) - 1) = (k : Nat) by omega, show (((k + 1 : Nat) : Int) + 1) = (k + 2 : Nat) by omega, pick_run os k (k + 2) (by omega) (by omega)]
  intro e3 _ _
  have i3 : ∀ v ∈ (os.drop k).take (k + 2 - k), isI v := fun v hv => ho v (List.mem_of_mem_drop (List.mem_of_mem_take hv))
  have h3 : ((os.drop k).take (k + 2 - k)).map iv = [low, high] := by
    rw [List.map_take, List.map_drop, eo, show k + 2 - k = 2 by omega]
    apply List.ext_getElem?
    intro j
    match j with
    | 0 => rw [List.getElem?_take_of_lt (by decide), List.getElem?_drop]; exact hlow
    | 1 => rw [List.getElem?_take_of_lt (by decide), List.getElem?_drop]; exact hhigh
    | j + 2 => rw [List.getElem?_take_eq_none (by omega)]; rfl
  repeat tb_rel
  refine b_ne (by assumption) room (by kt_at_item) (by kt_at_item) (isI_cons (isI_cons isI_nil)) i3 ?_
  rw [h3, show (!decide ([Value.int low tl, Value.int high th'].map iv = [low, high])) = false by simp [iv]]
  repeat tb_rel
  refine b_ne (by assumption) room (by kt_at_item) (by kt_at_item) hv hv ?_
  rw [show (!decide (vs.map iv = vs.map iv)) = false by simp]
  repeat (first | regstrif_fact | with_reducible refine wpAny_execs_nil ?_)
  rename_i s h
  replace h : At b ((Fw, lst ys) :: (Of, lst os) :: (R, lst vs) :: (L, nsr m) :: (L + 1, cel c1) :: (L + 2, cel c2) :: (L + 3, cel (some (.ref R))) :: (L + 4, cel (some (.int low tl))) :: (L + 5, cel (some (.int high th'))) :: (M ++ S)) s :=
    h.sub (.cons _ (.cons _ (.cons _ (.cons _ (.cons _ (.cons _ (.cons _ (.cons _ (List.Sublist.refl _)))))))))
  replace h : At b ((L, nsr m) :: (L + 1, cel c1) :: (L + 2, cel c2) :: (L + 3, cel (some (.ref R))) :: (L + 4, cel (some (.int low tl))) :: (L + 5, cel (some (.int high th'))) :: (Fw, lst ys) :: (Of, lst os) :: (R, lst vs) :: (M ++ S)) s :=
    h.perm (List.perm_append_comm_assoc [_, _, _, _, _, _] [_, _, _] (M ++ S))
  show wpAny (model prg w) A (execs (outerT w.params) (envG w.params 146 L)) Q E s
  obtain ⟨y0, y1, y2, rfl, g0, g1, g2⟩ : ∃ y0 y1 y2, ys = [y0, y1, y2] ∧ IntL M y0 ((srt (vs.map iv)).take 1) ∧ IntL M y1 ((srt (vs.map iv)).take (k + 1)) ∧ IntL M y2 (srt (vs.map iv)) := by
    cases hy with
    | cons a1 r => cases r with
      | cons a2 r => cases r with
        | cons a3 r => cases r with
          | nil => exact ⟨_, _, _, rfl, a1, a2, a3⟩
  obtain ⟨f1, sm, rfl, hf1, hsm, esm⟩ := g1
  refine t_outer2 (v0 := y0) (v2 := y2) (os := os) (sm := sm) (vs := vs) O room hfr h q1 q0 q2 (by kt_at_item) (by kt_at_item) (by kt_at_item) (by kt_at_item) hv ho hsm (by omega) hl eo esm F ?_
  intro m' s' h'
  exact hq _ _ _ _ _ (h'.sub (.cons_cons _ (.cons_cons _ (.cons_cons _ (.cons_cons _ (.cons_cons _ (.cons_cons _ (.cons _ (.cons _ (.cons _ (List.sublist_append_right _ _)))))))))))
theorem t_outer {m : Str → Option Value} {L K : Addr} {k : Nat} {V N : Int} {vs : List Value} {c1 c2 c3 c4 c5 : Option Value} {Q : Flow → Shared → Prop} (O : Ok w mg mb b) (room : Room A 8) (hfr : A.frames = some [envG w.params 146 L])
    (h : At b ((L, nsr m) :: (L + 1, cel c1) :: (L + 2, cel c2) :: (L + 3, cel c3) :: (L + 4, cel c4) :: (L + 5, cel c5) :: S) s)
    (m1 : m "kept" = some (.ref K)) (hK : (K, lst vs) ∈ S) (hv : ∀ v ∈ vs, isI v) (hh : k = 1 ∨ k = 2) (hl : vs.length = 2 * (k + 1))
    (plain : ∀ low high, (srt (vs.map iv))[k]? = some low → (srt (vs.map iv))[k + 1]? = some high → OuterF (vs.map iv) (k + 1) V N low high)
    (hq : ∀ m' c3 c4 c5 s', At b ((L, nsr m') :: (L + 1, cel c1) :: (L + 2, cel c2) :: (L + 3, cel c3) :: (L + 4, cel c4) :: (L + 5, cel c5) :: S) s' → Q .next s') :
    wpAny (model prg w) A (execs (forB (outerSt w.params)) (envG w.params 146 L)) Q E s := by
  refine enterFor (fun _ _ _ _ _ => rfl) rfl ?_
  repeat tb_rel
  refine b_list (by assumption) (by kt_at_item) (by omega) ?_
  intro R _ _
  repeat tb_rel
  refine b_len (by assumption) (by kt_at_item) (by omega) ?_
  intro _ _ _
  repeat tb_rel
  rename_i th _ _ s h
  rw [show ((vs.length : Int).fdiv 2) = ((k + 1 : Nat) : Int) by rw [Int.fdiv_eq_ediv_of_nonneg _ (by decide)]; omega] at h
  refine t_off O h (room.le (by omega)) (by kt_at_item) hv (by omega) ?_
  intro Of s h
  have eo := off_srt vs
  have ho : ∀ v ∈ popsF ltI vs.length (hfLoop ltI (vs.length / 2) vs), isI v := fun v hv' => by
    obtain ⟨h1, h2⟩ := heapify_heap ltI_ok vs
    obtain ⟨h3, _⟩ := pops_heap ltI_ok vs.length _ (by rw [h2.length_eq]) h1
    exact hv v (h2.subset (h3.subset hv'))
  generalize popsF ltI vs.length (hfLoop ltI (vs.length / 2) vs) = os at h eo ho
  have hol : os.length = 2 * (k + 1) := by have := congrArg List.length eo; simp [srt_len] at this; omega
  regstrif_slice
  refine x_assign_lc rfl ?_
  repeat tb_rel
  rename_i t1 _ _
  refine b_len (by assumption) (by kt_at_item) (by omega) ?_
  intro tn _ _
  repeat tb_rel
  rename_i T _ _
  refine p_iterT (by assumption) (by kt_at_item) ?_
  intro I s h
  replace h : At b ((I, tit T 0) :: (T, tup [.int 1 t1, .int ((k + 1 : Nat) : Int) th, .int vs.length tn]) :: (Of, lst os) :: (R, lst vs) :: (L, nsr fun y => if y = "off" then some (.ref Of) else if y = "half" then some (.int ((k + 1 : Nat) : Int) th) else m y) ::
    (L + 1, cel c1) :: (L + 2, cel c2) :: (L + 3, cel (some (.ref R))) :: (L + 4, cel c4) :: (L + 5, cel c5) :: S) s := h
  generalize hm0 : (fun y => if y = Str.ofString "off" then some (Value.ref Of) else if y = Str.ofString "half" then some (Value.int ((k + 1 : Nat) : Int) th) else m y) = m0 at h
  have q1 : m0 "off" = some (.ref Of) := by rw [← hm0]; rfl
  have q2 : m0 "half" = some (.int ((k + 1 : Nat) : Int) th) := by rw [← hm0]; rfl
  have q3 : m0 "kept" = some (.ref K) := by rw [← hm0]; exact m1
  clear hm0 m1
  refine lc_use (L := L) (st_tuple (vs := [.int 1 t1, .int ((k + 1 : Nat) : Int) th, .int vs.length tn]) room.hand) self_tuple (fun i ys S' => ∃ M, S' = (T, tup [.int 1 t1, .int ((k + 1 : Nat) : Int) th, .int vs.length tn]) :: (Of, lst os) :: (R, lst vs) :: (L, nsr m0) ::
    (L + 1, cel c1) :: (L + 2, cel c2) :: (L + 3, cel (some (.ref R))) :: (L + 4, cel c4) :: (L + 5, cel c5) :: (M ++ S) ∧ All2 (IntL M) ys ([(srt (vs.map iv)).take 1, (srt (vs.map iv)).take (k + 1), srt (vs.map iv)].take i) ∧ ys.length = i) h ⟨[], rfl, .nil, rfl⟩ (by simp) ?_ ?_ ?_ ?_ envG_loc ?_
  · rintro i ys S' ⟨M, rfl, _, e⟩; omega
  · rintro i ys S' ⟨M, rfl, _⟩; exact .head _
  · intro S S' hs h; exact hs _ h
  · clear h
    rintro i v ys S' s m' C D' E' hi' hv' ⟨M, rfl, hy, hyl⟩ h
    have done : ∀ (D : Addr) (ws : List Value) (ns : List Int) (m' : Str → Option Value) (s : Shared), (∀ x ∈ ws, isI x) → ws.map iv = ns → [(srt (vs.map iv)).take 1, (srt (vs.map iv)).take (k + 1), srt (vs.map iv)][i]? = some ns →
        At b ((D, lst ws) :: (C, nsr m') :: (I, tit T (i + 1)) :: (D', lst ys) :: (T, tup [.int 1 t1, .int ((k + 1 : Nat) : Int) th, .int vs.length tn]) :: (Of, lst os) :: (R, lst vs) :: (L, nsr m0) ::
          (L + 1, cel c1) :: (L + 2, cel c2) :: (L + 3, cel (some (.ref R))) :: (L + 4, cel c4) :: (L + 5, cel c5) :: (M ++ S)) s →
        ∃ m'' S'', (∃ M, S'' = (T, tup [.int 1 t1, .int ((k + 1 : Nat) : Int) th, .int vs.length tn]) :: (Of, lst os) :: (R, lst vs) :: (L, nsr m0) ::
          (L + 1, cel c1) :: (L + 2, cel c2) :: (L + 3, cel (some (.ref R))) :: (L + 4, cel c4) :: (L + 5, cel c5) :: (M ++ S) ∧ All2 (IntL M) (ys ++ [Value.ref D]) ([(srt (vs.map iv)).take 1, (srt (vs.map iv)).take (k + 1), srt (vs.map iv)].take (i + 1)) ∧ (ys ++ [Value.ref D]).length = i + 1) ∧
          At b ((C, nsr m'') :: (I, tit T (i + 1)) :: (D', lst ys) :: S'') s := by
      intro D ws ns m' s hw he hi h
      refine ⟨m', _, ⟨(D, lst ws) :: M, rfl, ?_, by simp [hyl]⟩, h.perm (List.perm_middle (l₁ := [_, _, _, _, _, _, _, _, _, _, _, _]))⟩
      rw [take_snoc hi]
      exact (hy.mono fun _ _ h => h.sub fun _ h => .tail _ h).snoc ⟨D, ws, rfl, .head _, hw, he⟩
    unfold LcTurn
    refine wpAny_pure ?_
    repeat tb_rel
    refine wpAny_tests_nil ?_
    repeat tb_rel
    have hi3 : i = 0 ∨ i = 1 ∨ i = 2 := by simp at hi'; omega
    rcases hi3 with rfl | rfl | rfl
    · cases hv'
      refine t_ns1 O (by assumption) (room.le (by omega)) (by kt_at_item) hv (by omega) ?_
      intro D v s hvm hvle h
      obtain ⟨kv, tv, rfl⟩ := hv v hvm
      refine done D _ _ _ _ (isI_cons isI_nil) ?_ rfl h
      exact (srt_take_one (List.mem_map_of_mem hvm) fun y hy => by obtain ⟨u, hu, rfl⟩ := List.mem_map.mp hy; exact hvle u hu).symm
    · cases hv'
      refine t_nsHalf (n := k + 1) O (by assumption) (room.le (by omega)) (by kt_at_item) hv (by omega) (by omega) (by omega) ?_
      intro D ws s hw he h
      exact done D ws _ _ _ hw he rfl h
    · cases hv'
      refine t_nsAll O (by assumption) (room.le (by omega)) (by kt_at_item) hv (by omega) (by omega) ?_
      intro D ws s hw he h
      exact done D ws _ _ _ hw he rfl h
  clear h
  rintro Fw ys S' ⟨M, rfl, hy, hyl⟩
  refine ⟨m0, _, .there (.there (.there .here)), fun s h => ?_⟩
  replace h := h.sub (S' := (Fw, lst ys) :: (Of, lst os) :: (R, lst vs) :: (L, nsr _) :: (L + 1, cel c1) :: (L + 2, cel c2) :: (L + 3, cel (some (.ref R))) :: (L + 4, cel c4) :: (L + 5, cel c5) :: (M ++ S)) (.cons_cons _ (.cons _ (List.Sublist.refl _)))
  show wpAny (model prg w) A (execs (outerV w.params) (envG w.params 146 L)) Q E s
  exact t_outerB O room hfr h rfl q1 q2 q3 hK hv hh hl ho eo hy plain hq
end
def PlainLaw : Prop := ∀ (ns : List Int) (k : Nat), (k = 1 ∨ k = 2) → ns.length = 2 * (k + 1) → ∃ V N, ∀ low high, (srt ns)[k]? = some low → (srt ns)[k + 1]? = some high → OuterF ns (k + 1) V N low high
noncomputable def lawT (P : Params) : List Stmt := (lawB P).drop 1
section
variable {w : World} {mg mb : Str → Option Value} {b s : Shared} {S : Led} {A : Around} {E : Value → Shared → Prop} {env : Env}
theorem t_law2 {m : Str → Option Value} {L l D : Addr} {k : Nat} {xs sv : List Value} {c3 c4 c5 : Option Value} {Q : Flow → Shared → Prop} (PL : PlainLaw) (O : Ok w mg mb b) (room : Room A 8) (hfr : A.frames = some [envG w.params 146 L])
    (h : At b ((D, lst sv) :: (L, nsr m) :: (L + 1, cel (some (.ref l))) :: (L + 2, cel (some (.ref D))) :: (L + 3, cel c3) :: (L + 4, cel c4) :: (L + 5, cel c5) :: []) s) (hl : b.heap.IsList l xs.toArray) (hx : ∀ v ∈ xs, isI v) (hxl : xs.length < 64)
    (hs : ∀ v ∈ sv, isI v) (hk : k = 1 ∨ k = 2) (hsl : sv.length = 2 * (k + 1)) (hq : ∀ s', At b [] s' → Q (.ret (.bool true)) s') :
    wpAny (model prg w) A (execs (lawT w.params) (envG w.params 146 L)) Q E s := by
  refine enterCons rfl ?_
  refine x_assign_lc rfl ?_
  repeat tb_rel
  refine b_len (by assumption) (by kt_at_item) (by omega) ?_
  intro _ _ _
  repeat tb_rel
  refine b_range1 (by assumption) ?_
  intro ar _ _
  refine p_range (x := 0) (n := sv.length) (by assumption) (by rw [Int.zero_add]; kt_at_item) (by decide) (by omega) ?_
  intro I s h
  refine lc_use (L := L) (st_range room.hand) self_range (fun i ys S' => S' = (ar, rng 0 sv.length 1) :: (D, lst sv) :: (L, nsr m) :: (L + 1, cel (some (.ref l))) :: (L + 2, cel (some (.ref D))) :: (L + 3, cel c3) :: (L + 4, cel c4) :: (L + 5, cel c5) :: [] ∧ (∀ v ∈ ys, isI v) ∧ ys.length = i) h
    ⟨rfl, isI_nil, rfl⟩ (by omega) ?_ ?_ ?_ ?_ envG_loc ?_
  · rintro i ys S' ⟨rfl, _, e⟩; omega
  · intros; trivial
  · intros; trivial
  · clear h
    rintro i v ys S' s m' C D' E' hi' ⟨t, rfl⟩ ⟨rfl, hI, hyl⟩ h
    obtain ⟨v, hv⟩ : ∃ v, sv[i]? = some v := ⟨_, List.getElem?_eq_getElem hi'⟩
    obtain ⟨kv, tv, rfl⟩ := isI_at hs hv
    unfold LcTurn
    refine wpAny_pure ?_
    repeat tb_rel
    refine wpAny_tests_nil ?_
    repeat tb_rel
    refine g_sub (k := i) (by assumption) (by kt_at_item) (by omega) hv (by omega) ?_
    repeat tb_rel
    refine b_len (by assumption) (by kt_at_item) (by omega) ?_
    intro _ _ _
    repeat tb_rel
    refine g_slice' (by assumption) hl (by kt_at_item) (.int _ _) .none (.int _ _) (by intro e; have := Option.some.inj e; omega) (by omega) ?_ (by with_unfolding_all rfl)
    intro e1 _ _
    repeat tb_rel
    refine b_sum (by assumption) room.hand (by kt_at_item) (fun v hv => hx v (pick_mem hv)) ?_
    intro _ _ _
    repeat tb_rel
    rename_i s h
    refine ⟨_, _, ?_, h.tail.tail⟩
    refine ⟨rfl, fun v hv => ?_, by simp [hyl]⟩
    rcases List.mem_append.mp hv with hv | hv
    · exact hI v hv
    · rw [List.mem_singleton.mp hv]; exact ⟨_, _, rfl⟩
  clear h
  rintro F1 fs S' ⟨rfl, hf, hfl⟩
  refine ⟨m, _, .there (.there .here), fun s h => ?_⟩
  repeat tb_rel
  refine r_lc rfl ?_
  repeat tb_rel
  refine p_iter (by assumption) (by kt_at_item) ?_
  intro I s h
  refine lc_eval (st_list (vs := fs) room.hand) self_list (fun i ys S' => S' = (F1, lst fs) :: (ar, rng 0 sv.length 1) :: (D, lst sv) :: (L, nsr fun z => if z = "first" then some (.ref F1) else m z) :: (L + 1, cel (some (.ref l))) :: (L + 2, cel (some (.ref D))) :: (L + 3, cel c3) :: (L + 4, cel c4) :: (L + 5, cel c5) :: [] ∧ (∀ v ∈ ys, isI v) ∧ ys.length = i) h
    ⟨rfl, isI_nil, rfl⟩ (by omega) ?_ ?_ ?_ ?_ ?_
  · rintro i ys S' ⟨rfl, _, e⟩; omega
  · rintro i ys S' ⟨rfl, _⟩; exact .head _
  · intro S S' hs h; exact hs _ h
  · clear h
    rintro i v ys S' s m' C D' E' hi' hv ⟨rfl, hI, hyl⟩ h
    obtain ⟨kv, tv, rfl⟩ := isI_at hf hv
    unfold LcTurn
    refine wpAny_pure ?_
    repeat tb_rel
    refine wpAny_tests_nil ?_
    repeat tb_rel
    rename_i s h
    refine ⟨_, _, ?_, h⟩
    refine ⟨rfl, fun v hv => ?_, by simp [hyl]⟩
    rcases List.mem_append.mp hv with hv | hv
    · exact hI v hv
    · rw [List.mem_singleton.mp hv]; exact ⟨_, _, rfl⟩
  clear h
  rintro F2 gs S' s ⟨rfl, hg, hgl⟩ h
  repeat tb_rel
  rename_i T _ _
  refine p_iterT (by assumption) (by kt_at_item) ?_
  intro I s h
  refine for_loop (st_tuple (vs := [.ref F1, .ref F2]) room.hand) (fun i S' => ∃ m c3 c4 c5, S' = (T, tup [.ref F1, .ref F2]) :: (F2, lst gs) :: (F1, lst fs) :: (ar, rng 0 sv.length 1) :: (D, lst sv) :: (L, nsr m) :: (L + 1, cel (some (.ref l))) :: (L + 2, cel (some (.ref D))) :: (L + 3, cel c3) :: (L + 4, cel c4) :: (L + 5, cel c5) :: []) h
    ⟨_, _, _, _, rfl⟩ (fun i S' ⟨m, c3, c4, c5, e⟩ => by rw [e]; exact .tail _ (.head _)) ?_ ?_
  · clear h
    rintro i v S' s E' hi hv ⟨m, c3, c4, c5, rfl⟩ h
    obtain ⟨K, ks, rfl, hK, hki, hkl⟩ : ∃ K ks, v = .ref K ∧ (K, lst ks) ∈ [(F2, lst gs), (F1, lst fs)] ∧ (∀ x ∈ ks, isI x) ∧ ks.length = 2 * (k + 1) := by
      have hi : i = 0 ∨ i = 1 := by simp at hi; omega
      rcases hi with rfl | rfl
      · cases hv; exact ⟨F1, fs, rfl, .tail _ (.head _), hf, by omega⟩
      · cases hv; exact ⟨F2, gs, rfl, .head _, hg, by omega⟩
    refine wpAny_assign_Name ?_
    regstrif_slice
    rename_i s h
    obtain ⟨V, N, plain⟩ := PL (ks.map iv) k hk (by simpa using hkl)
    replace h := h.perm (S' := (L, nsr _) :: (L + 1, cel (some (.ref l))) :: (L + 2, cel (some (.ref D))) :: (L + 3, cel c3) :: (L + 4, cel c4) :: (L + 5, cel c5) :: (I, tit T (i + 1)) :: (T, tup [.ref F1, .ref F2]) :: (F2, lst gs) :: (F1, lst fs) :: (ar, rng 0 sv.length 1) :: (D, lst sv) :: [])
      (List.perm_append_comm (l₁ := [_, _, _, _, _, _]) (l₂ := [_, _, _, _, _, _]))
    show wpAny (model prg w) A (execs (forB (outerSt w.params)) (envG w.params 146 L)) _ _ _
    refine t_outer (K := K) (vs := ks) O room hfr h rfl (.tail _ (.tail _ ?_)) hki hk hkl plain ?_
    · rcases List.mem_cons.mp hK with e | e
      · rw [e]; exact .head _
      · rw [List.mem_singleton.mp e]; exact .tail _ (.head _)
    · intro m' c3 c4 c5 s' h'
      exact ⟨_, ⟨m', c3, c4, c5, rfl⟩, h'.perm (List.perm_append_comm (l₁ := [_, _, _, _, _, _]) (l₂ := [_, _, _, _, _, _]))⟩
  · clear h
    rintro S' s ⟨m, c3, c4, c5, rfl⟩ h
    repeat tb_rel
    exact hq _ (h.sub (List.nil_sublist _))
end
theorem gl_law (P : Params) : nsIn (KK P) mainGlobals "law" = some (some (.ref 146)) := rfl
section
variable {w : World} {mg mb : Str → Option Value} {b s : Shared} {S : Led} {A : Around} {E : Value → Shared → Prop} {env : Env}
theorem t_law {l : Addr} {xs : List Value} {Q : Value → Shared → Prop} (PL : PlainLaw) (O : Ok w mg mb b) (room : Room A 9) (hfr : A.frames = some []) (h : At b [] s) (hl : b.heap.IsList l xs.toArray) (hx : ∀ v ∈ xs, isI v) (hxl : xs.length < 64)
    (hq : ∀ s', At b [] s' → Q (.bool true) s') : wpAny (model prg w) A (call (.ref 146) [.ref l]) Q E s := by
  refine call_cF ["script"] O h room hfr rfl rfl rfl rfl rfl rfl (by intro k; rfl) (by intro k; rfl) ?_
  clear h room hfr
  intro L A s room hfr h
  have h0 : At b ((L, nsr fun y => none) :: (L + 5, cel none) :: (L + 4, cel none) :: (L + 3, cel none) :: (L + 2, cel none) :: (L + 1, cel (some (.ref l))) :: []) s := h
  replace h : At b ((L, nsr fun y => none) :: (L + 1, cel (some (.ref l))) :: (L + 2, cel none) :: (L + 3, cel none) :: (L + 4, cel none) :: (L + 5, cel none) :: []) s :=
    h0.perm (.cons _ (List.reverse_perm [(L + 5, cel none), (L + 4, cel none), (L + 3, cel none), (L + 2, cel none), (L + 1, cel (some (.ref l)))]))
  repeat tb_rel
  refine b_len' (by assumption) hl (by omega) ?_
  intro _ _ _
  repeat tb_rel
  split
  · tb_rel
    repeat (first | tb_start | kt_at_get)
    regstrif_slice
    rename_i D _ _ s h
    show wpAny (model prg w) A (execs (lawT w.params) (envG w.params 146 L)) _ _ s
    exact t_law2 (k := 1) PL O room hfr h hl hx hxl (isI_cons (isI_cons (isI_cons (isI_cons isI_nil)))) (.inl rfl) rfl fun s' h' => hq s' h'
  · tb_rel
    repeat (first | tb_start | kt_at_get)
    regstrif_slice
    rename_i D _ _ s h
    show wpAny (model prg w) A (execs (lawT w.params) (envG w.params 146 L)) _ _ s
    exact t_law2 (k := 2) PL O room hfr h hl hx hxl (isI_cons (isI_cons (isI_cons (isI_cons (isI_cons (isI_cons isI_nil)))))) (.inr rfl) rfl fun s' h' => hq s' h'
end
theorem top (PL : PlainLaw) : PySem.Challenge.rw_oc0148_01.Holds := Mine.hd (by
  intro w s₀ s₁ mg mb G Y fa o pm cd doc dV kV ho hd hcd hD hmg hg args vals as hpre hlay hrd hwl hlo
  have KX : (KK w.params).In s₁.heap := Y
  refine Ground.open G ?_
  intro T B D TE TW
  have h146 : mg "law" = some (.ref 146) := mg_of KX T.g (gl_law _)
  have e146 : fa = 146 := by
    have : some (Value.ref fa) = some (.ref 146) := hmg.symm.trans h146
    cases this
    rfl
  subst e146
  have O : Ok w mg mb s₁ := ⟨KX, T.g, T.b, T.nolimit, T.builtins⟩
  clear ho hd hcd hD hmg B D TE TW G Y
  wrow_args hpre hlay hrd hwl hlo
  rename_i ns _ _ _ _ _ _ _ l xs _ hL _ _ _ hI _ hlen _
  obtain ⟨b1, b2⟩ := of_ints hI
  refine t_law PL O ⟨by decide, by decide, rfl⟩ frames_caller ⟨fun _ _ e => e, (fun p hp => nomatch hp), (fun p hp => nomatch hp), .nil, hg, rfl⟩ hL b1 (by have := congrArg List.length b2; simp at this; omega) fun s' h' => ?_
  refine GoodW.toG ⟨.inl ⟨_, .bool true, [], rfl, fun _ => rfl, ?_, ?_, ?_⟩, h'.keep, h'.os, h'.gens⟩
  · exact ReadsW.bool true
  · refine postW_of (X := true) (by first | rfl | decide | simp [WShape.has, WShape.arms, WShape.hasAll]) ?_ rfl
    show (WTm.eq .res (.lit (.bool true))).value _ _ = _
    simp [WTm.value]
    first | rfl | decide | simp [PySem.W.same]
  · intro _
    exact ⟨.nil, (fun a ha => nomatch ha)⟩)
def flat : List (Int × Int) → List Int
  | [] => []
  | p :: r => p.1 :: p.2 :: flat r
theorem sum_perm {l l' : List Int} (h : l.Perm l') : l.sum = l'.sum := by
  induction h with
  | nil => rfl
  | cons x _ ih => simp [ih]
  | swap x y l => simp; (first | grind | omega)
  | trans _ _ a b => rw [a, b]
theorem flat_perm {ps qs : List (Int × Int)} (h : ps.Perm qs) : (flat ps).Perm (flat qs) := by
  induction h with
  | nil => exact .nil
  | cons x _ ih => exact .cons _ (.cons _ ih)
  | swap x y l => exact (List.perm_append_comm_assoc [_, _] [_, _] _)
  | trans _ _ a b => exact a.trans b
theorem erase_perm : ∀ {r : List Int} {k : Nat} (hk : k < r.length), (r[k] :: r.eraseIdx k).Perm r
  | x :: r, 0, _ => .refl _
  | x :: r, k + 1, hk => by
    have ih := erase_perm (r := r) (k := k) (by simpa using hk)
    simp only [List.getElem_cons_succ, List.eraseIdx_cons_succ]
    exact (List.Perm.swap _ _ _).trans (.cons _ ih)
/-! pairings -/
theorem prs_flat : ∀ (f : Nat) (ns : List Int) (ps : List (Int × Int)), ps ∈ prsF f ns → (flat ps).Perm ns
  | f, [], ps, h => by rw [prs_nil, List.mem_singleton] at h; rw [h]; exact .nil
  | 0, _ :: _, ps, h => by simp [prsF] at h
  | f + 1, x :: r, ps, h => by
    obtain ⟨k, hk, h⟩ := List.mem_flatMap.mp h
    obtain ⟨qs, hqs, rfl⟩ := List.mem_map.mp h
    have hk := List.mem_range.mp hk
    have ih := prs_flat f _ qs hqs
    refine .cons _ ?_
    refine (List.Perm.cons _ ih).trans ?_
    rw [show r.getD k 0 = r[k] by simp [hk]]
    exact erase_perm hk
def nrm (p : Int × Int) : Int × Int := (minP p, maxP p)
theorem wd_nrm (ps : List (Int × Int)) : wdF ps = ((ps.map nrm).map fun q => q.2 - q.1).sum := by
  unfold wdF
  rw [List.map_map]
  congr 1
  refine List.map_congr_left fun p _ => ?_
  show absI (p.1 - p.2) = maxP p - minP p
  unfold absI minP maxP
  split <;> (first | grind | omega)
theorem mem_flat {x : Int} : ∀ {ps : List (Int × Int)}, x ∈ flat ps → ∃ p ∈ ps, x = p.1 ∨ x = p.2
  | [], h => nomatch h
  | p :: r, h => by
    simp only [flat, List.mem_cons] at h
    rcases h with h | h | h
    · exact ⟨p, .head _, .inl h⟩
    · exact ⟨p, .head _, .inr h⟩
    · obtain ⟨q, hq, e⟩ := mem_flat h
      exact ⟨q, .tail _ hq, e⟩
theorem prs_all : ∀ (f : Nat) (ns : List Int) (qs : List (Int × Int)), ns.length ≤ f → (flat qs).Perm ns → ∃ ps ∈ prsF f ns, (ps.map nrm).Perm (qs.map nrm)
  | f, [], qs, _, h => by
    cases qs with
    | nil => exact ⟨[], by rw [prs_nil]; exact .head _, .nil⟩
    | cons p r => exact absurd h.length_eq (by simp [flat])
  | 0, _ :: _, qs, h, _ => absurd h (by simp)
  | f + 1, x :: r, qs, hl, h => by
    obtain ⟨p, hp, hx⟩ := mem_flat (h.symm.subset (.head _))
    have e := List.perm_cons_erase hp
    obtain ⟨y, hxy, hn⟩ : ∃ y, [x, y].Perm [p.1, p.2] ∧ nrm (x, y) = nrm p := by
      rcases hx with rfl | rfl
      · exact ⟨p.2, .refl _, rfl⟩
      · refine ⟨p.1, .swap _ _ _, ?_⟩
        unfold nrm minP maxP
        simp [Int.min_comm, Int.max_comm]
    have h1 : (x :: y :: flat (qs.erase p)).Perm (x :: r) := ((hxy.append_right (flat (qs.erase p))).trans (flat_perm e).symm).trans h
    have h2 := h1.cons_inv
    obtain ⟨k, hk, hky⟩ := List.mem_iff_getElem.mp (h2.subset (.head _))
    have h3 : (flat (qs.erase p)).Perm (r.eraseIdx k) := by
      have := h2.trans (erase_perm hk).symm
      rw [hky] at this
      exact this.cons_inv
    obtain ⟨ps, hps, hpp⟩ := prs_all f (r.eraseIdx k) (qs.erase p) (by rw [List.length_eraseIdx_of_lt hk]; simp at hl; (first | grind | omega)) h3
    refine ⟨(x, y) :: ps, ?_, ?_⟩
    · refine List.mem_flatMap.mpr ⟨k, List.mem_range.mpr hk, List.mem_map.mpr ⟨ps, hps, ?_⟩⟩
      rw [show r.getD k 0 = y by simp [hk, hky]]
    · rw [List.map_cons, hn]
      exact (List.Perm.cons _ hpp).trans (e.map nrm).symm
theorem prs_wd {f : Nat} {ns : List Int} {qs : List (Int × Int)} (hl : ns.length ≤ f) (h : (flat qs).Perm ns) : ∃ ps ∈ prsF f ns, wdF ps = wdF qs := by
  obtain ⟨ps, h1, h2⟩ := prs_all f ns qs hl h
  exact ⟨ps, h1, by rw [wd_nrm, wd_nrm]; exact sum_perm (h2.map _)⟩
/-! lesser and greater ends -/
theorem ab_flat : ∀ ps : List (Int × Int), (ps.map minP ++ ps.map maxP).Perm (flat ps)
  | [] => .nil
  | p :: r => by
    have ih := ab_flat r
    simp only [List.map_cons, List.cons_append, flat]
    have h1 : (minP p :: (r.map minP ++ maxP p :: r.map maxP)).Perm (minP p :: maxP p :: (r.map minP ++ r.map maxP)) := .cons _ List.perm_middle
    refine h1.trans ?_
    have h2 : [minP p, maxP p].Perm [p.1, p.2] := by
      unfold minP maxP
      by_cases e : p.1 ≤ p.2
      · rw [show min p.1 p.2 = p.1 by (first | grind | omega), show max p.1 p.2 = p.2 by (first | grind | omega)]
      · rw [show min p.1 p.2 = p.2 by (first | grind | omega), show max p.1 p.2 = p.1 by (first | grind | omega)]
        exact .swap _ _ _
    exact h2.append ih
theorem wd_ab (ps : List (Int × Int)) : wdF ps = (ps.map maxP).sum - (ps.map minP).sum := by
  induction ps with
  | nil => rfl
  | cons p r ih =>
    have : wdF (p :: r) = absI (p.1 - p.2) + wdF r := rfl
    rw [this, ih]
    simp only [List.map_cons, List.sum_cons]
    unfold absI minP maxP
    split <;> (first | grind | omega)
/-- the width that none exceeds -/
def widV (ns : List Int) (h : Nat) : Int := ((srt ns).drop h).sum - ((srt ns).take h).sum
theorem srt_drop {R T ns : List Int} (hp : (R ++ T).Perm ns) (hl : ∀ r ∈ R, ∀ t ∈ T, r ≤ t) : (srt ns).drop R.length = srt T := by
  rw [srt_split hp hl, List.drop_append_of_le_length (by rw [srt_len]; exact Nat.le_refl _), List.drop_of_length_le (by rw [srt_len]; exact Nat.le_refl _)]
  rfl
theorem widV_of {R T ns : List Int} (hp : (R ++ T).Perm ns) (hl : ∀ r ∈ R, ∀ t ∈ T, r ≤ t) : widV ns R.length = T.sum - R.sum := by
  unfold widV
  rw [srt_take hp hl, srt_drop hp hl, sum_perm (srt_perm R), sum_perm (srt_perm T)]
/-! the ways to a point -/
theorem way_nonneg (c : Int) (q : Int × Int) : 0 ≤ wayF c q := by unfold wayF; (first | grind | omega)
theorem way_pair (c : Int) (q : Int × Int) : absI (q.1 - q.2) + 2 * wayF c q = absI (q.1 - c) + absI (q.2 - c) := by
  unfold wayF absI
  split <;> split <;> split <;> (first | grind | omega)
theorem way_all (c : Int) (ps : List (Int × Int)) : wdF ps + 2 * (ps.map (wayF c)).sum = ((flat ps).map fun x => absI (x - c)).sum := by
  induction ps with
  | nil => rfl
  | cons p r ih =>
    have h1 : wdF (p :: r) = absI (p.1 - p.2) + wdF r := rfl
    have h2 := way_pair c p
    rw [h1]
    simp only [List.map_cons, List.sum_cons, flat]
    (first | grind | omega)
theorem dist_lo (c : Int) : ∀ l : List Int, (∀ x ∈ l, x ≤ c) → (l.map fun x => absI (x - c)).sum = l.length * c - l.sum
  | [], _ => by simp
  | x :: r, h => by
    have ih := dist_lo c r fun y hy => h y (.tail _ hy)
    have hx := h x (.head _)
    simp only [List.map_cons, List.sum_cons, List.length_cons, ih]
    rw [show ((r.length + 1 : Nat) : Int) * c = r.length * c + c by rw [Int.natCast_add, Int.add_mul]; simp]
    unfold absI
    split <;> (first | grind | omega)
theorem dist_hi (c : Int) : ∀ l : List Int, (∀ x ∈ l, c ≤ x) → (l.map fun x => absI (x - c)).sum = l.sum - l.length * c
  | [], _ => by simp
  | x :: r, h => by
    have ih := dist_hi c r fun y hy => h y (.tail _ hy)
    have hx := h x (.head _)
    simp only [List.map_cons, List.sum_cons, List.length_cons, ih]
    rw [show ((r.length + 1 : Nat) : Int) * c = r.length * c + c by rw [Int.natCast_add, Int.add_mul]; simp]
    unfold absI
    split <;> (first | grind | omega)
theorem dist_mid {ns : List Int} {h : Nat} {c : Int} (hl : ns.length = 2 * h) (h1 : ∀ x ∈ (srt ns).take h, x ≤ c) (h2 : ∀ x ∈ (srt ns).drop h, c ≤ x) : (ns.map fun x => absI (x - c)).sum = widV ns h := by
  have e : (ns.map fun x => absI (x - c)).sum = (((srt ns).take h ++ (srt ns).drop h).map fun x => absI (x - c)).sum := by
    rw [List.take_append_drop]
    exact sum_perm ((srt_perm ns).symm.map _)
  rw [e, List.map_append, List.sum_append, dist_lo c _ h1, dist_hi c _ h2, List.length_take, List.length_drop, srt_len, hl, show min h (2 * h) = h by (first | grind | omega), show 2 * h - h = h by (first | grind | omega)]
  unfold widV
  (first | grind | omega)
theorem way_V {ns : List Int} {h : Nat} {c : Int} {ps : List (Int × Int)} (hf : (flat ps).Perm ns) (hl : ns.length = 2 * h) (h1 : ∀ x ∈ (srt ns).take h, x ≤ c) (h2 : ∀ x ∈ (srt ns).drop h, c ≤ x) : wdF ps + 2 * (ps.map (wayF c)).sum = widV ns h := by
  rw [way_all, ← dist_mid hl h1 h2]
  exact sum_perm (hf.map _)
theorem ways_nonneg (c : Int) (ps : List (Int × Int)) : 0 ≤ (ps.map (wayF c)).sum := by
  induction ps with
  | nil => simp
  | cons p r ih => have := way_nonneg c p; simp only [List.map_cons, List.sum_cons]; (first | grind | omega)
theorem ways_zero {c : Int} {ps : List (Int × Int)} (h : (ps.map (wayF c)).sum = 0) : ∀ p ∈ ps, wayF c p = 0 := by
  induction ps with
  | nil => intro p hp; cases hp
  | cons q r ih =>
    have h1 := way_nonneg c q
    have h2 := ways_nonneg c r
    simp only [List.map_cons, List.sum_cons] at h
    intro p hp
    rcases List.mem_cons.mp hp with rfl | hp
    · (first | grind | omega)
    · exact ih (by (first | grind | omega)) p hp
/-! the signs -/
theorem shared_mem (ps : List (Int × Int)) (q : Int × Int) : ∀ n, q ∈ sharedF ps n ↔ ∃ i j p r, i < n ∧ j < i ∧ ps[i]? = some p ∧ ps[j]? = some r ∧ q = meetF p r
  | 0 => by simp [sharedF]
  | n + 1 => by
    simp only [sharedF, List.mem_append, shared_mem ps q n]
    constructor
    · rintro (⟨i, j, p, r, h1, h2⟩ | h)
      · exact ⟨i, j, p, r, by (first | grind | omega), h2⟩
      · cases e : ps[n]? with
        | none => rw [e] at h; cases h
        | some p =>
          rw [e] at h
          obtain ⟨r, hr, rfl⟩ := List.mem_map.mp h
          obtain ⟨j, hj, rfl⟩ := List.mem_iff_getElem.mp hr
          have hj' : j < n ∧ j < ps.length := by rw [List.length_take] at hj; (first | grind | omega)
          exact ⟨n, j, p, _, by (first | grind | omega), hj'.1, e, by rw [List.getElem_take]; exact List.getElem?_eq_getElem hj'.2, rfl⟩
    · rintro ⟨i, j, p, r, h1, h2, h3, h4, rfl⟩
      by_cases e : i = n
      · subst e
        right
        rw [h3]
        refine List.mem_map.mpr ⟨r, ?_, rfl⟩
        have := (List.getElem?_eq_some_iff.mp h4)
        refine List.mem_of_getElem? (i := j) ?_
        rw [List.getElem?_take_of_lt h2]
        exact h4
      · left
        exact ⟨i, j, p, r, by (first | grind | omega), h2, h3, h4, rfl⟩
def rel (x : Int) (r p : Int × Int) : Prop := cmp3 (meetF p r).1 (meetF p r).2 ≠ x
theorem sign_pw (x : Int) (ps : List (Int × Int)) : x ∉ signF ps ↔ ps.Pairwise (rel x) := by
  rw [List.pairwise_iff_getElem]
  constructor
  · intro h i j hi hj hij e
    refine h (List.mem_map.mpr ⟨meetF ps[j] ps[i], ?_, e⟩)
    exact (shared_mem ps _ _).mpr ⟨j, i, ps[j], ps[i], hj, hij, List.getElem?_eq_getElem hj, List.getElem?_eq_getElem hi, rfl⟩
  · intro h hx
    obtain ⟨q, hq, e⟩ := List.mem_map.mp hx
    obtain ⟨i, j, p, r, h1, h2, h3, h4, rfl⟩ := (shared_mem ps q _).mp hq
    obtain ⟨h3', rfl⟩ := List.getElem?_eq_some_iff.mp h3
    obtain ⟨h4', rfl⟩ := List.getElem?_eq_some_iff.mp h4
    exact h j i h4' h3' h2 e
theorem rel_apart {r p : Int × Int} : rel (-1) r p ↔ minP p ≤ maxP r ∧ minP r ≤ maxP p := by
  unfold rel cmp3 meetF minP maxP
  simp only
  split <;> (try split) <;> constructor <;> intro h <;> first | (first | grind | omega) | (constructor <;> (first | grind | omega)) | (intro e; (first | grind | omega)) | simp_all
theorem rel_over {r p : Int × Int} : rel 1 r p ↔ min (maxP p) (maxP r) ≤ max (minP p) (minP r) := by
  unfold rel cmp3 meetF minP maxP
  simp only
  split <;> (try split) <;> constructor <;> intro h <;> first | (first | grind | omega) | (intro e; (first | grind | omega)) | simp_all
theorem pw_all {α : Type} {R : α → α → Prop} (hs : ∀ a b, R a b → R b a) : ∀ {l : List α}, (∀ x ∈ l, R x x) → l.Pairwise R → ∀ x ∈ l, ∀ y ∈ l, R x y
  | [], _, _, x, hx, _, _ => nomatch hx
  | a :: l, hr, hp, x, hx, y, hy => by
    obtain ⟨h1, h2⟩ := List.pairwise_cons.mp hp
    rcases List.mem_cons.mp hx with ex | hx' <;> rcases List.mem_cons.mp hy with ey | hy'
    · rw [ex, ey]; exact hr _ (.head _)
    · rw [ex]; exact h1 y hy'
    · rw [ey]; exact hs _ _ (h1 x hx')
    · exact pw_all hs (fun z hz => hr z (.tail _ hz)) h2 x hx' y hy'
/-! widest ones -/
theorem rel_wide {ns : List Int} {h : Nat} {c : Int} {ps : List (Int × Int)} (hf : (flat ps).Perm ns) (hl : ns.length = 2 * h) (h1 : ∀ x ∈ (srt ns).take h, x ≤ c) (h2 : ∀ x ∈ (srt ns).drop h, c ≤ x) (hpl : ps.length = h) :
    wdF ps = widV ns h ↔ -1 ∉ signF ps := by
  rw [sign_pw]
  constructor
  · intro e
    have hw := way_V hf hl h1 h2
    have hz := ways_zero (c := c) (ps := ps) (by (first | grind | omega))
    have hin : ∀ p ∈ ps, minP p ≤ c ∧ c ≤ maxP p := fun p hp => by
      have := hz p hp
      unfold wayF at this
      unfold minP maxP
      (first | grind | omega)
    refine List.pairwise_iff_getElem.mpr fun i j hi hj _ => rel_apart.mpr ?_
    have a := hin _ (List.getElem_mem hi)
    have b := hin _ (List.getElem_mem hj)
    (first | grind | omega)
  · intro hp
    have hall := pw_all (R := rel (-1)) (fun a b h => rel_apart.mpr ⟨(rel_apart.mp h).2, (rel_apart.mp h).1⟩) (fun x _ => rel_apart.mpr (by unfold minP maxP; (first | grind | omega))) hp
    have hle : ∀ r ∈ ps.map minP, ∀ t ∈ ps.map maxP, r ≤ t := fun r hr t ht => by
      obtain ⟨p, hp, rfl⟩ := List.mem_map.mp hr
      obtain ⟨q, hq, rfl⟩ := List.mem_map.mp ht
      exact (rel_apart.mp (hall q hq p hp)).1
    have := widV_of ((ab_flat ps).trans hf) hle
    rw [List.length_map, hpl] at this
    rw [this, wd_ab]
theorem zip_flat : ∀ (xs ys : List Int), xs.length = ys.length → (flat (xs.zip ys)).Perm (xs ++ ys)
  | [], [], _ => .nil
  | x :: xs, y :: ys, h => by
    have ih := zip_flat xs ys (by simpa using h)
    simp only [List.zip_cons_cons, flat, List.cons_append]
    exact .cons _ ((List.Perm.cons _ ih).trans List.perm_middle.symm)
theorem zip_wd : ∀ (xs ys : List Int), xs.length = ys.length → (∀ x ∈ xs, ∀ y ∈ ys, x ≤ y) → wdF (xs.zip ys) = ys.sum - xs.sum
  | [], [], _, _ => rfl
  | x :: xs, y :: ys, h, hl => by
    have ih := zip_wd xs ys (by simpa using h) fun a ha b hb => hl a (.tail _ ha) b (.tail _ hb)
    have h1 := hl x (.head _) y (.head _)
    have e : wdF ((x :: xs).zip (y :: ys)) = absI (x - y) + wdF (xs.zip ys) := rfl
    rw [e, ih]
    simp only [List.sum_cons]
    unfold absI
    split <;> (first | grind | omega)
theorem take_le_drop (ns : List Int) (h : Nat) : ∀ x ∈ (srt ns).take h, ∀ y ∈ (srt ns).drop h, x ≤ y := by
  have := srt_sorted ns
  rw [← List.take_append_drop h (srt ns)] at this
  exact (List.pairwise_append.mp this).2.2
theorem wide_top {ns : List Int} {h f : Nat} (hl : ns.length = 2 * h) (hf : ns.length ≤ f) : ∃ ps ∈ prsF f ns, wdF ps = widV ns h := by
  have e : ((srt ns).take h).length = ((srt ns).drop h).length := by rw [List.length_take, List.length_drop, srt_len, hl]; (first | grind | omega)
  obtain ⟨ps, h1, h2⟩ := prs_wd hf (((zip_flat _ _ e).trans (by rw [List.take_append_drop])).trans (srt_perm ns))
  exact ⟨ps, h1, by rw [h2, zip_wd _ _ e (take_le_drop ns h)]; rfl⟩
/-! narrowest ones: how many pairs cover a step -/
def cov (p : Int × Int) (t : Int) : Int := if minP p ≤ t ∧ t < maxP p then 1 else 0
def covs (ps : List (Int × Int)) (t : Int) : Int := (ps.map fun p => cov p t).sum
def sumR (n : Nat) (lo : Int) (g : Int → Int) : Int := match n with
  | 0 => 0
  | n + 1 => sumR n lo g + g (lo + n)
theorem sumR_add (n : Nat) (lo : Int) (f g : Int → Int) : sumR n lo (fun t => f t + g t) = sumR n lo f + sumR n lo g := by
  induction n with
  | zero => rfl
  | succ n ih => simp only [sumR, ih]; (first | grind | omega)
theorem sumR_zero (n : Nat) (lo : Int) : sumR n lo (fun _ => 0) = 0 := by
  induction n with
  | zero => rfl
  | succ n ih => simp only [sumR, ih]; (first | grind | omega)
theorem sumR_le {n : Nat} {lo : Int} {f g : Int → Int} (h : ∀ t, f t ≤ g t) : sumR n lo f ≤ sumR n lo g := by
  induction n with
  | zero => exact Int.le_refl _
  | succ n ih => simp only [sumR]; have := h (lo + n); (first | grind | omega)
theorem sumR_lt {n : Nat} {lo : Int} {f g : Int → Int} (h : ∀ t, f t ≤ g t) {t : Int} (h1 : lo ≤ t) (h2 : t < lo + n) (hlt : f t < g t) : sumR n lo f < sumR n lo g := by
  induction n with
  | zero => (first | grind | omega)
  | succ n ih =>
    simp only [sumR]
    have := h (lo + n)
    by_cases e : t = lo + n
    · have := sumR_le (n := n) (lo := lo) h
      rw [e] at hlt
      (first | grind | omega)
    · have := ih (by (first | grind | omega))
      (first | grind | omega)
theorem sumR_cov (lo a b : Int) (h1 : lo ≤ a) (h2 : a ≤ b) : ∀ n : Nat, sumR n lo (fun t => if a ≤ t ∧ t < b then 1 else 0) = min b (lo + n) - min a (lo + n)
  | 0 => by simp only [sumR]; (first | grind | omega)
  | n + 1 => by
    simp only [sumR, sumR_cov lo a b h1 h2 n]
    split <;> (first | grind | omega)
theorem covs_wd {lo : Int} {n : Nat} : ∀ {ps : List (Int × Int)}, (∀ x ∈ flat ps, lo ≤ x ∧ x ≤ lo + n) → sumR n lo (covs ps) = wdF ps
  | [], _ => sumR_zero n lo
  | p :: r, h => by
    have ih := covs_wd (ps := r) fun x hx => h x (.tail _ (.tail _ hx))
    have h1 := h p.1 (.head _)
    have h2 := h p.2 (.tail _ (.head _))
    have e : (covs (p :: r)) = fun t => cov p t + covs r t := by funext t; rfl
    rw [e, sumR_add, ih]
    have e2 : sumR n lo (cov p) = maxP p - minP p := by
      have := sumR_cov lo (minP p) (maxP p) (by unfold minP; (first | grind | omega)) (by unfold minP maxP; (first | grind | omega)) n
      have e3 : cov p = fun t => if minP p ≤ t ∧ t < maxP p then 1 else 0 := rfl
      rw [e3, this]
      unfold minP maxP
      (first | grind | omega)
    rw [e2]
    have : wdF (p :: r) = absI (p.1 - p.2) + wdF r := rfl
    rw [this]
    unfold absI minP maxP
    split <;> (first | grind | omega)
/-- how many lie at t or below -/
def cnt (l : List Int) (t : Int) : Int := (l.map fun x => if x ≤ t then (1 : Int) else 0).sum
theorem cnt_perm {l l' : List Int} (h : l.Perm l') (t : Int) : cnt l t = cnt l' t := sum_perm (h.map _)
theorem cov_pair (p : Int × Int) (t : Int) : ∃ k : Int, (if p.1 ≤ t then (1 : Int) else 0) + (if p.2 ≤ t then 1 else 0) = cov p t + 2 * k := by
  unfold cov minP maxP
  by_cases h1 : p.1 ≤ t <;> by_cases h2 : p.2 ≤ t
  · exact ⟨1, by rw [if_pos h1, if_pos h2, if_neg (by (first | grind | omega))]; (first | grind | omega)⟩
  · exact ⟨0, by rw [if_pos h1, if_neg h2, if_pos (by (first | grind | omega))]; (first | grind | omega)⟩
  · exact ⟨0, by rw [if_neg h1, if_pos h2, if_pos (by (first | grind | omega))]; (first | grind | omega)⟩
  · exact ⟨0, by rw [if_neg h1, if_neg h2, if_neg (by (first | grind | omega))]; (first | grind | omega)⟩
theorem covs_cnt (t : Int) : ∀ ps : List (Int × Int), ∃ k : Int, cnt (flat ps) t = covs ps t + 2 * k
  | [] => ⟨0, rfl⟩
  | p :: r => by
    obtain ⟨k, hk⟩ := covs_cnt t r
    obtain ⟨j, hj⟩ := cov_pair p t
    refine ⟨k + j, ?_⟩
    have e1 : cnt (flat (p :: r)) t = (if p.1 ≤ t then (1 : Int) else 0) + ((if p.2 ≤ t then (1 : Int) else 0) + cnt (flat r) t) := rfl
    have e2 : covs (p :: r) t = cov p t + covs r t := rfl
    rw [e1, e2, hk]
    (first | grind | omega)
theorem cov_01 (p : Int × Int) (t : Int) : cov p t = 0 ∨ cov p t = 1 := by unfold cov; split <;> simp
theorem covs_nonneg (t : Int) (ps : List (Int × Int)) : 0 ≤ covs ps t := by
  induction ps with
  | nil => exact Int.le_refl _
  | cons p r ih =>
    have e2 : covs (p :: r) t = cov p t + covs r t := rfl
    have := cov_01 p t
    (first | grind | omega)
theorem covs_mem {t : Int} {ps : List (Int × Int)} {q : Int × Int} (h : q ∈ ps) : cov q t ≤ covs ps t := by
  induction ps with
  | nil => cases h
  | cons p r ih =>
    have e2 : covs (p :: r) t = cov p t + covs r t := rfl
    have := cov_01 p t
    have := covs_nonneg t r
    rcases List.mem_cons.mp h with rfl | h
    · (first | grind | omega)
    · have := ih h
      (first | grind | omega)
theorem covs_zero {t : Int} {ps : List (Int × Int)} (h : ∀ p ∈ ps, cov p t = 0) : covs ps t = 0 := by
  induction ps with
  | nil => rfl
  | cons p r ih =>
    have e2 : covs (p :: r) t = cov p t + covs r t := rfl
    rw [e2, h p (.head _), ih fun q hq => h q (.tail _ hq)]
    rfl
theorem covs_le_one {ps : List (Int × Int)} (h : ps.Pairwise (rel 1)) (t : Int) : covs ps t ≤ 1 := by
  induction ps with
  | nil => exact (by decide : (0 : Int) ≤ 1)
  | cons p r ih =>
    obtain ⟨h1, h2⟩ := List.pairwise_cons.mp h
    have e2 : covs (p :: r) t = cov p t + covs r t := rfl
    have := ih h2
    by_cases e : cov p t = 0
    · (first | grind | omega)
    · have hc : minP p ≤ t ∧ t < maxP p := by
        unfold cov at e
        by_cases q : minP p ≤ t ∧ t < maxP p
        · exact q
        · rw [if_neg q] at e; exact absurd rfl e
      have hz := covs_zero (t := t) (ps := r) fun q hq => by
        have := rel_over.mp (h1 q hq)
        unfold cov
        rw [if_neg (by (first | grind | omega))]
      have := cov_01 p t
      (first | grind | omega)
theorem covs_two {lo : Int} {n : Nat} : ∀ {ps : List (Int × Int)}, (∀ x ∈ flat ps, lo ≤ x ∧ x ≤ lo + n) → ¬ ps.Pairwise (rel 1) → ∃ t, lo ≤ t ∧ t < lo + n ∧ 2 ≤ covs ps t
  | [], _, h => absurd .nil h
  | p :: r, hb, h => by
    have e2 : ∀ t, covs (p :: r) t = cov p t + covs r t := fun t => rfl
    by_cases h2 : r.Pairwise (rel 1)
    · have : ¬ ∀ q ∈ r, rel 1 p q := fun h1 => h (List.pairwise_cons.mpr ⟨h1, h2⟩)
      obtain ⟨q, hq⟩ := Classical.not_forall.mp this
      obtain ⟨hq, ho⟩ := Classical.not_imp.mp hq
      rw [rel_over] at ho
      have hb1 := hb p.1 (.head _)
      have hb2 := hb p.2 (.tail _ (.head _))
      refine ⟨max (minP q) (minP p), ?_, ?_, ?_⟩
      · unfold minP; (first | grind | omega)
      · unfold minP maxP at *; (first | grind | omega)
      · have := covs_mem (t := max (minP q) (minP p)) hq
        rw [e2]
        have c1 : cov p (max (minP q) (minP p)) = 1 := by unfold cov; rw [if_pos (by (first | grind | omega))]
        have c2 : cov q (max (minP q) (minP p)) = 1 := by unfold cov; rw [if_pos (by (first | grind | omega))]
        (first | grind | omega)
    · obtain ⟨t, a1, a2, a3⟩ := covs_two (ps := r) (fun x hx => hb x (.tail _ (.tail _ hx))) h2
      refine ⟨t, a1, a2, ?_⟩
      rw [e2]
      have := cov_01 p t
      (first | grind | omega)
theorem span (ns : List Int) : ∃ (lo : Int) (n : Nat), ∀ x ∈ ns, lo ≤ x ∧ x ≤ lo + n := by
  induction ns with
  | nil => exact ⟨0, 0, fun x hx => nomatch hx⟩
  | cons y r ih =>
    obtain ⟨lo, n, h⟩ := ih
    refine ⟨min lo y, (max (lo + n) y - min lo y).toNat, fun x hx => ?_⟩
    rcases List.mem_cons.mp hx with rfl | hx
    · (first | grind | omega)
    · have := h x hx
      (first | grind | omega)
/-- the width that none falls below -/
def narJ (ns : List Int) (n : Nat) (lo : Int) : Int := sumR n lo fun t => cnt ns t % 2
theorem nar_ge {ns : List Int} {n : Nat} {lo : Int} {ps : List (Int × Int)} (hf : (flat ps).Perm ns) (hb : ∀ x ∈ ns, lo ≤ x ∧ x ≤ lo + n) : narJ ns n lo ≤ wdF ps := by
  rw [← covs_wd (lo := lo) (n := n) fun x hx => hb x (hf.subset hx)]
  refine sumR_le fun t => ?_
  obtain ⟨k, hk⟩ := covs_cnt t ps
  rw [cnt_perm hf] at hk
  have := covs_nonneg t ps
  (first | grind | omega)
theorem nar_iff {ns : List Int} {n : Nat} {lo : Int} {ps : List (Int × Int)} (hf : (flat ps).Perm ns) (hb : ∀ x ∈ ns, lo ≤ x ∧ x ≤ lo + n) : wdF ps = narJ ns n lo ↔ ps.Pairwise (rel 1) := by
  have hw := covs_wd (lo := lo) (n := n) (ps := ps) fun x hx => hb x (hf.subset hx)
  have hle : ∀ t, cnt ns t % 2 ≤ covs ps t := fun t => by
    obtain ⟨k, hk⟩ := covs_cnt t ps
    rw [cnt_perm hf] at hk
    have := covs_nonneg t ps
    (first | grind | omega)
  constructor
  · intro e
    refine Classical.byContradiction fun hn => ?_
    obtain ⟨t, a1, a2, a3⟩ := covs_two (lo := lo) (n := n) (fun x hx => hb x (hf.subset hx)) hn
    have := sumR_lt hle a1 a2 (by (first | grind | omega))
    rw [hw, e] at this
    exact Int.lt_irrefl _ this
  · intro hp
    rw [← hw]
    have : covs ps = fun t => cnt ns t % 2 := by
      funext t
      obtain ⟨k, hk⟩ := covs_cnt t ps
      rw [cnt_perm hf] at hk
      have h1 := covs_nonneg t ps
      have h2 := covs_le_one hp t
      (first | grind | omega)
    rw [this]
    rfl
def pairUp : List Int → List (Int × Int)
  | x :: y :: r => (x, y) :: pairUp r
  | _ => []
theorem pairUp_flat : ∀ (h : Nat) (l : List Int), l.length = 2 * h → flat (pairUp l) = l
  | 0, l, hl => by
    obtain rfl : l = [] := List.eq_nil_of_length_eq_zero (by (first | grind | omega))
    rfl
  | h + 1, x :: y :: r, hl => by
    show x :: y :: flat (pairUp r) = _
    rw [pairUp_flat h r (by simp at hl; (first | grind | omega))]
  | h + 1, [x], hl => by simp at hl; (first | grind | omega)
  | h + 1, [], hl => by simp at hl
theorem pairUp_mem : ∀ (l : List Int) (p : Int × Int), p ∈ pairUp l → p.1 ∈ l ∧ p.2 ∈ l
  | x :: y :: r, p, h => by
    rcases List.mem_cons.mp h with rfl | h
    · exact ⟨.head _, .tail _ (.head _)⟩
    · have := pairUp_mem r p h
      exact ⟨.tail _ (.tail _ this.1), .tail _ (.tail _ this.2)⟩
  | [x], p, h => nomatch h
  | [], p, h => nomatch h
theorem pairUp_pw : ∀ (l : List Int), l.Pairwise (· ≤ ·) → (pairUp l).Pairwise (rel 1) ∧ wdF (pairUp l) = nar l
  | x :: y :: r, h => by
    obtain ⟨h1, h'⟩ := List.pairwise_cons.mp h
    obtain ⟨h2, h3⟩ := List.pairwise_cons.mp h'
    obtain ⟨i1, i2⟩ := pairUp_pw r h3
    have hxy := h1 y (.head _)
    refine ⟨.cons (fun p hp => rel_over.mpr ?_) i1, ?_⟩
    · have hm := pairUp_mem r p hp
      have a1 := h2 _ hm.1
      have a2 := h2 _ hm.2
      unfold minP maxP
      (first | grind | omega)
    · have : wdF (pairUp (x :: y :: r)) = absI (x - y) + wdF (pairUp r) := rfl
      rw [this, i2]
      show _ = (y - x) + nar r
      unfold absI
      split <;> (first | grind | omega)
  | [x], _ => ⟨.nil, rfl⟩
  | [], _ => ⟨.nil, rfl⟩
theorem narJ_eq {ns : List Int} {h n : Nat} {lo : Int} (hl : ns.length = 2 * h) (hb : ∀ x ∈ ns, lo ≤ x ∧ x ≤ lo + n) : narJ ns n lo = nar (srt ns) := by
  obtain ⟨h1, h2⟩ := pairUp_pw (srt ns) (srt_sorted ns)
  have hf : (flat (pairUp (srt ns))).Perm ns := by rw [pairUp_flat h _ (by rw [srt_len, hl])]; exact srt_perm ns
  rw [← h2]
  exact ((nar_iff hf hb).mpr h1).symm
theorem nar_bot {ns : List Int} {h f : Nat} (hl : ns.length = 2 * h) (hf : ns.length ≤ f) : ∃ ps ∈ prsF f ns, wdF ps = nar (srt ns) := by
  have hp : (flat (pairUp (srt ns))).Perm ns := by rw [pairUp_flat h _ (by rw [srt_len, hl])]; exact srt_perm ns
  obtain ⟨ps, h1, h2⟩ := prs_wd hf hp
  exact ⟨ps, h1, h2.trans (pairUp_pw (srt ns) (srt_sorted ns)).2⟩
theorem diff_count (v : Int) : ∀ r mis act : List Int, List.count v (diffI r mis act).1 = List.count v mis + (List.count v r - List.count v act) ∧ List.count v (diffI r mis act).2 = List.count v act - List.count v r
  | [], mis, act => by simp [diffI]
  | x :: r, mis, act => by
    unfold diffI
    split
    · rename_i hx
      obtain ⟨h1, h2⟩ := diff_count v r mis (act.erase x)
      have hp := List.count_pos_iff.mpr hx
      rw [h1, h2, List.count_erase, List.count_cons]
      by_cases e : x = v
      · subst e
        simp only [beq_self_eq_true, if_true]
        (first | grind | omega)
      · have : (x == v) = false := by simpa using e
        simp only [this, Bool.false_eq_true, if_false]
        (first | grind | omega)
    · rename_i hx
      obtain ⟨h1, h2⟩ := diff_count v r (mis ++ [x]) act
      have hp := List.count_eq_zero.mpr hx
      rw [h1, h2, List.count_append, List.count_cons, List.count_cons, List.count_nil]
      by_cases e : x = v
      · subst e
        simp only [beq_self_eq_true, if_true]
        (first | grind | omega)
      · have : (x == v) = false := by simpa using e
        simp only [this, Bool.false_eq_true, if_false]
        (first | grind | omega)
theorem diff_sub : ∀ r mis act : List Int, (∃ M', (diffI r mis act).1 = mis ++ M' ∧ M'.Sublist r) ∧ (diffI r mis act).2.Sublist act
  | [], mis, act => ⟨⟨[], by simp [diffI], .slnil⟩, List.Sublist.refl _⟩
  | x :: r, mis, act => by
    unfold diffI
    split
    · obtain ⟨⟨M', h1, h2⟩, h3⟩ := diff_sub r mis (act.erase x)
      exact ⟨⟨M', h1, .cons _ h2⟩, h3.trans List.erase_sublist⟩
    · obtain ⟨⟨M', h1, h2⟩, h3⟩ := diff_sub r (mis ++ [x]) act
      exact ⟨⟨x :: M', by rw [h1]; simp, .cons_cons _ h2⟩, h3⟩
theorem diff_len : ∀ r mis act : List Int, (diffI r mis act).1.length + act.length = mis.length + r.length + (diffI r mis act).2.length
  | [], mis, act => by simp [diffI]
  | x :: r, mis, act => by
    unfold diffI
    split
    · rename_i hx
      have := diff_len r mis (act.erase x)
      rw [List.length_erase_of_mem hx] at this
      have := List.length_pos_of_mem hx
      simp only [List.length_cons]
      (first | grind | omega)
    · have := diff_len r (mis ++ [x]) act
      simp only [List.length_cons, List.length_append, List.length_nil] at this ⊢
      (first | grind | omega)
theorem up_filter (low : Int) : ∀ ps : List (Int × Int), ps.filterMap (upF low) = (ps.map minP).filter fun x => decide (low < x)
  | [] => rfl
  | p :: r => by
    have ih := up_filter low r
    rw [List.filterMap_cons, List.map_cons, List.filter_cons]
    unfold upF
    by_cases h : low < minP p
    · simp only [h, if_true, decide_true]; rw [← ih]; rfl
    · simp only [h, if_false, decide_false, Bool.false_eq_true]; rw [← ih]; rfl
theorem down_filter (high : Int) : ∀ ps : List (Int × Int), ps.filterMap (downF high) = (ps.map maxP).filter fun x => decide (x < high)
  | [] => rfl
  | p :: r => by
    have ih := down_filter high r
    rw [List.filterMap_cons, List.map_cons, List.filter_cons]
    unfold downF
    by_cases h : maxP p < high
    · simp only [h, if_true, decide_true]; rw [← ih]; rfl
    · simp only [h, if_false, decide_false, Bool.false_eq_true]; rw [← ih]; rfl
theorem count_filter_if (p : Int → Bool) (v : Int) (l : List Int) : List.count v (l.filter p) = if p v = true then List.count v l else 0 := by
  split
  · rename_i h; exact List.count_filter h
  · rename_i h
    refine List.count_eq_zero.mpr fun hm => h (List.mem_filter.mp hm).2
theorem count_rep (v x : Int) (n : Nat) : List.count v (List.replicate n x) = if x = v then n else 0 := by
  rw [List.count_replicate]
  by_cases e : x = v <;> simp [e]
theorem perm_counts {l l' : List Int} (h : ∀ v, List.count v l = List.count v l') : l.Perm l' := List.perm_iff_count.mpr h
theorem diff_law {ns : List Int} {k : Nat} {low high : Int} {ps : List (Int × Int)} (hf : (flat ps).Perm ns) (hl : ns.length = 2 * (k + 1)) (hpl : ps.length = k + 1)
    (s1 : ∀ x ∈ (srt ns).take (k + 1), x ≤ low) (s2 : ∀ x ∈ (srt ns).drop (k + 1), high ≤ x) (s0 : low ≤ high) :
    (diffI (srt (ps.map minP)).reverse [] ((srt ns).take (k + 1))).1.Perm (ps.filterMap (upF low) ++ List.replicate ((ps.filterMap (downF high)).length - (ps.filterMap (upF low)).length) low) ∧
    (diffI (srt (ps.map minP)).reverse [] ((srt ns).take (k + 1))).2.Perm (ps.filterMap (downF high) ++ List.replicate ((ps.filterMap (upF low)).length - (ps.filterMap (downF high)).length) high) := by
  have cAB : ∀ v, List.count v ns = List.count v (ps.map minP) + List.count v (ps.map maxP) := fun v => by
    rw [← List.count_append]; exact ((ab_flat ps).trans hf).symm.count_eq v
  have cS : ∀ v, List.count v ((srt ns).take (k + 1)) + List.count v ((srt ns).drop (k + 1)) = List.count v ns := fun v => by
    rw [← List.count_append, List.take_append_drop]; exact (srt_perm ns).count_eq v
  have cA : ∀ v, List.count v (srt (ps.map minP)).reverse = List.count v (ps.map minP) := fun v => by
    rw [List.count_reverse]; exact (srt_perm _).count_eq v
  have mns : ∀ x ∈ ns, x ≤ low ∨ high ≤ x := fun x hx => by
    have : x ∈ (srt ns).take (k + 1) ++ (srt ns).drop (k + 1) := by rw [List.take_append_drop]; exact (srt_perm ns).symm.subset hx
    rcases List.mem_append.mp this with h | h
    · exact .inl (s1 x h)
    · exact .inr (s2 x h)
  have mB : ∀ v, low < v → v < high → List.count v (ps.map maxP) = 0 := fun v h1 h2 => by
    refine List.count_eq_zero.mpr fun hm => ?_
    have := mns v (((ab_flat ps).trans hf).subset (List.mem_append_right _ hm))
    (first | grind | omega)
  have z1 : ∀ v, low < v → List.count v ((srt ns).take (k + 1)) = 0 := fun v h => List.count_eq_zero.mpr fun hm => by have := s1 v hm; (first | grind | omega)
  have z2 : ∀ v, v < high → List.count v ((srt ns).drop (k + 1)) = 0 := fun v h => List.count_eq_zero.mpr fun hm => by have := s2 v hm; (first | grind | omega)
  have hlen := diff_len (srt (ps.map minP)).reverse [] ((srt ns).take (k + 1))
  rw [List.length_reverse, srt_len, List.length_map, hpl, List.length_take, srt_len, hl, show min (k + 1) (2 * (k + 1)) = k + 1 by (first | grind | omega)] at hlen
  have cM := fun v => (diff_count v (srt (ps.map minP)).reverse [] ((srt ns).take (k + 1))).1
  have cL := fun v => (diff_count v (srt (ps.map minP)).reverse [] ((srt ns).take (k + 1))).2
  simp only [cA, List.count_nil, Nat.zero_add] at cM cL
  generalize (diffI (srt (ps.map minP)).reverse [] ((srt ns).take (k + 1))).1 = M at *
  generalize (diffI (srt (ps.map minP)).reverse [] ((srt ns).take (k + 1))).2 = Lf at *
  rw [up_filter, down_filter]
  generalize ps.map minP = A at *
  generalize ps.map maxP = B at *
  generalize (srt ns).take (k + 1) = sm at *
  generalize (srt ns).drop (k + 1) = dr at *
  have PM : M.Perm (A.filter (fun x => decide (low < x)) ++ List.replicate (List.count low A - List.count low sm) low) := perm_counts fun v => by
    rw [List.count_append, count_rep, count_filter_if, cM]
    by_cases e : low = v
    · subst e; simp
    · by_cases e2 : low < v
      · have := z1 v e2
        simp [e, e2, this]
      · have a1 := z2 v (by (first | grind | omega))
        have a2 := cS v
        have a3 := cAB v
        simp [e, e2]
        (first | grind | omega)
  have PB : Lf.Perm (B.filter (fun x => decide (x < low)) ++ List.replicate (List.count low sm - List.count low A) low) := perm_counts fun v => by
    rw [List.count_append, count_rep, count_filter_if, cL]
    by_cases e : low = v
    · subst e; simp
    · by_cases e2 : low < v
      · have := z1 v e2
        have e3 : ¬ v < low := by (first | grind | omega)
        simp [e, e3, this]
      · have a1 := z2 v (by (first | grind | omega))
        have a2 := cS v
        have a3 := cAB v
        have e3 : v < low := by (first | grind | omega)
        simp [e, e3]
        (first | grind | omega)
  have lM := PM.length_eq
  have lL := PB.length_eq
  rw [List.length_append, List.length_replicate] at lM lL
  simp only [List.length_nil] at hlen
  by_cases hlh : low < high
  · have q1 := z2 low hlh
    have q2 := cS low
    have q3 := cAB low
    have PD : Lf.Perm (B.filter fun x => decide (x < high)) := perm_counts fun v => by
      rw [count_filter_if, cL]
      by_cases e : v < high
      · have a1 := z2 v e
        have a2 := cS v
        have a3 := cAB v
        simp only [e, decide_true, if_true]
        (first | grind | omega)
      · have a1 := z1 v (by (first | grind | omega))
        simp only [e, decide_false, Bool.false_eq_true, if_false]
        (first | grind | omega)
    have lD := PD.length_eq
    have e1 : List.count low A - List.count low sm = 0 := by (first | grind | omega)
    rw [e1] at PM lM
    have e2 : (B.filter fun x => decide (x < high)).length = (A.filter fun x => decide (low < x)).length := by (first | grind | omega)
    rw [e2, Nat.sub_self]
    exact ⟨PM, by simpa using PD⟩
  · obtain rfl : low = high := by (first | grind | omega)
    have e1 : List.count low A - List.count low sm = (B.filter fun x => decide (x < low)).length - (A.filter fun x => decide (low < x)).length := by (first | grind | omega)
    have e2 : List.count low sm - List.count low A = (A.filter fun x => decide (low < x)).length - (B.filter fun x => decide (x < low)).length := by (first | grind | omega)
    rw [e1] at PM
    rw [e2] at PB
    exact ⟨PM, PB⟩
theorem desc_unique {l l' : List Int} (hp : l.Perm l') (h1 : l.Pairwise (· ≥ ·)) (h2 : l'.Pairwise (· ≥ ·)) : l = l' :=
  List.Perm.eq_of_pairwise (le := (· ≥ ·)) (fun a b _ _ h1 h2 => Int.le_antisymm h2 h1) h1 h2 hp
theorem asc_unique {l l' : List Int} (hp : l.Perm l') (h1 : l.Pairwise (· ≤ ·)) (h2 : l'.Pairwise (· ≤ ·)) : l = l' :=
  List.Perm.eq_of_pairwise (le := (· ≤ ·)) (fun a b _ _ h1 h2 => Int.le_antisymm h1 h2) h1 h2 hp
theorem rep_pw (R : Int → Int → Prop) (x : Int) (h : R x x) : ∀ n, (List.replicate n x).Pairwise R
  | 0 => .nil
  | n + 1 => .cons (fun y hy => by rw [List.eq_of_mem_replicate hy]; exact h) (rep_pw R x h n)
theorem rev_desc (l : List Int) : (srt l).reverse.Pairwise (· ≥ ·) := List.pairwise_reverse.mpr ((srt_sorted l).imp fun h => h)
theorem flatP_len : ∀ ps : List (Int × Int), (flat ps).length = 2 * ps.length
  | [] => rfl
  | p :: r => by have := flatP_len r; simp only [flat, List.length_cons]; (first | grind | omega)
theorem plain_inner {ns : List Int} {k : Nat} {low high : Int} {ps : List (Int × Int)} (hf : (flat ps).Perm ns) (hl : ns.length = 2 * (k + 1)) (hlow : (srt ns)[k]? = some low) (hhigh : (srt ns)[k + 1]? = some high) :
    InnerF ps (wdF ps) (widV ns (k + 1)) (nar (srt ns)) low high ((srt ns).take (k + 1)) := by
  have hpl : ps.length = k + 1 := by have := hf.length_eq; rw [flatP_len, hl] at this; (first | grind | omega)
  have sst := srt_sorted ns
  have t1 := take_snoc hlow
  have s1 : ∀ x ∈ (srt ns).take (k + 1), x ≤ low := fun x hx => by
    have hp : ((srt ns).take (k + 1)).Pairwise (· ≤ ·) := sst.sublist (List.take_sublist _ _)
    rw [t1] at hx hp
    rcases List.mem_append.mp hx with hx | hx
    · exact (List.pairwise_append.mp hp).2.2 x hx low (.head _)
    · rw [List.mem_singleton.mp hx]; exact Int.le_refl _
  have hlt := (List.getElem?_eq_some_iff.mp hhigh).1
  have t2 : (srt ns).drop (k + 1) = high :: (srt ns).drop (k + 2) := by
    rw [List.drop_eq_getElem_cons hlt, (List.getElem?_eq_some_iff.mp hhigh).2]
  have s2 : ∀ x ∈ (srt ns).drop (k + 1), high ≤ x := fun x hx => by
    have hp : ((srt ns).drop (k + 1)).Pairwise (· ≤ ·) := sst.sublist (List.drop_sublist _ _)
    rw [t2] at hx hp
    rcases List.mem_cons.mp hx with rfl | hx
    · exact Int.le_refl _
    · exact (List.pairwise_cons.mp hp).1 x hx
  have s0 : low ≤ high := take_le_drop ns (k + 1) low (by rw [t1]; simp) high (by rw [t2]; exact .head _)
  have s1h : ∀ x ∈ (srt ns).take (k + 1), x ≤ high := fun x hx => Int.le_trans (s1 x hx) s0
  have s2l : ∀ x ∈ (srt ns).drop (k + 1), low ≤ x := fun x hx => Int.le_trans s0 (s2 x hx)
  obtain ⟨d1, d2⟩ := diff_law hf hl hpl s1 s2 s0
  obtain ⟨⟨M', hM, hMs⟩, hLs⟩ := diff_sub (srt (ps.map minP)).reverse [] ((srt ns).take (k + 1))
  rw [List.nil_append] at hM
  obtain ⟨lo, n, hb⟩ := span ns
  refine ⟨way_V hf hl s1 s2l, way_V hf hl s1h s2, ?_, ?_, rel_wide hf hl s1 s2l hpl, ?_⟩
  · rw [srt_len, srt_len]
    refine desc_unique (d1.trans (((srt_perm _).symm.trans (List.reverse_perm _).symm).append_right _)) ?_ ?_
    · rw [hM]; exact (rev_desc _).sublist hMs
    · refine List.pairwise_append.mpr ⟨rev_desc _, rep_pw (· ≥ ·) _ (Int.le_refl _) _, fun a ha b hb => ?_⟩
      rw [List.eq_of_mem_replicate hb]
      have ha := (srt_perm _).subset (List.mem_reverse.mp ha)
      rw [up_filter] at ha
      have := (List.mem_filter.mp ha).2
      simp at this
      exact Int.le_of_lt this
  · rw [srt_len, srt_len]
    refine asc_unique (d2.trans ((srt_perm _).symm.append_right _)) ?_ ?_
    · exact (sst.sublist (List.take_sublist _ _)).sublist hLs
    · refine List.pairwise_append.mpr ⟨srt_sorted _, rep_pw _ _ (Int.le_refl _) _, fun a ha b hb => ?_⟩
      rw [List.eq_of_mem_replicate hb]
      have ha := (srt_perm _).subset ha
      rw [down_filter] at ha
      have := (List.mem_filter.mp ha).2
      simp at this
      exact Int.le_of_lt this
  · rw [← narJ_eq hl hb, nar_iff hf hb, sign_pw]
theorem plain_outer {ns : List Int} {k : Nat} {low high : Int} (hk : k = 1 ∨ k = 2) (hl : ns.length = 2 * (k + 1)) (hlow : (srt ns)[k]? = some low) (hhigh : (srt ns)[k + 1]? = some high) : OuterF ns (k + 1) (widV ns (k + 1)) (nar (srt ns)) low high := by
  obtain ⟨lo, n, hb⟩ := span ns
  refine ⟨fun ps hps => plain_inner (prs_flat 6 ns ps hps) hl hlow hhigh, fun ps hps => ?_, fun ps hps => ?_, wide_top hl (by (first | grind | omega)), nar_bot hl (by (first | grind | omega)), rfl, rfl⟩
  · have := (plain_inner (prs_flat 6 ns ps hps) hl hlow hhigh).way1
    have := ways_nonneg low ps
    (first | grind | omega)
  · rw [← narJ_eq hl hb]
    exact nar_ge (prs_flat 6 ns ps hps) hb
theorem plain_law : PlainLaw := fun ns k hk hl => ⟨widV ns (k + 1), nar (srt ns), fun low high h1 h2 => plain_outer hk hl h1 h2⟩
end Mine
theorem PySem.Challenge.cw_oc0148_01_holds : PySem.Challenge.rw_oc0148_01.Holds :=
  Mine.top Mine.plain_law
