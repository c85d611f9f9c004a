import PyProof.Rows.All
import Wide.All
import OpenK.AllK
import Wide.FinOn
import PySem.Challenge.RW_il0108_01
set_option Elab.async false
open PySem PySem.W PyProof.Rows
set_option maxRecDepth 100000
namespace Mine
/-! ## the head: the top's run, seen at once -/
abbrev pw : Program := PySem.Challenge.pw_il0108_01
/-- the text without its lines about __name__ -/
noncomputable def bodyV : List Stmt := match pw.main.body with
  | [s0, _, s2, s3, _, s5, s6, _, s8, s9, _, s11, s12, s13, s14, s15, _, s17, s18, s19, s20] => [s0, s2, s3, s5, s6, s8, s9, s11, s12, s13, s14, s15, s17, s18, s19, s20]
  | _ => []
noncomputable def hd.view_39 : Program := { pw with main := { pw.main with body := bodyV } }
def hd.loose : List Str := [Str.ofString "twin_re_1_fnmatch", Str.ofString "_special_chars_map", Str.ofString "twin_re_1_smtplib", Str.ofString "_twin_re_2"]

/-! ## what of its end state is written out -/
noncomputable def fnO (A i : Nat) (pm : String) (t : Nat) : Obj := match pw.main.body.drop i with
  | .FunctionDef name args body _ _ _ scope _ _ _ :: _ => { cls := .type "function", data := .func { name, qualname := name, params := args, body := .stmts body, scope, globals := 3, closure := [], defaults := .none, kwdefaults := .none, pyModule := .str (Str.ofString pm) t, code := .ref (A - 1) } }
  | _ => default
def codeO (A : Nat) (name : String) (t line argc n : Nat) (loc : Bool) : Obj :=
  { cls := .type "code", data := .fields #[.str (Str.ofString name) t, .str (Str.ofString name) (t + 1), .str (Str.ofString "/claim/cut.py") (t + 2), .int line 0, .int argc 0, .int 0 0, .int 0 0, .int 3 0, .ref (if loc then A - 5 else A - 3), .bool true, .int 276 0, .ref (if loc then A - 4 else A - 2),
    .none, if loc then .ref (A - 3) else .none, if loc then .ref (A - 2) else .none, .ref (A - 1), .int n 0, .int line 0, .str (Str.ofString "/claim/cut.py") (n + 1)] }
def tupI (xs : List Nat) : Obj := { cls := .type "tuple", data := .seq (xs.map fun (n : Nat) => Value.int (Int.ofNat n) 0).toArray }
def patO (s : String) (t flags u groups code : Nat) : Obj := { cls := .type "re.Pattern", data := .fields #[.str (Str.ofString s) t, .int flags u, .int groups 0, .none, .none, .ref code, .int 0 0] }
def ent (P : Params) (e : String × Nat × Value) : DictEntry := { hash := PyData.keyHash P (Str.ofString e.1), key := .str (Str.ofString e.1) e.2.1, val := e.2.2 }
def mainL : List (String × Nat × Value) := [("__name__", 165, .str (Str.ofString "law_il0108_01") 596), ("__doc__", 166, .none), ("__package__", 167, .none), ("__loader__", 168, .builtin "__main__.__loader__#opaque"), ("__spec__", 169, .none),
  ("__annotations__", 170, .ref 6), ("__builtins__", 171, .ref 4), ("__file__", 173, .str (Str.ofString "/claim/cut.py") 172), ("__cached__", 174, .none), ("_sre", 275, .ref 12), ("twin_re_1_fnmatch", 321, .ref 36), ("translate", 330, .ref 43),
  ("_special_chars_map", 478, .ref 45), ("escape", 485, .ref 55), ("_translate", 506, .ref 62), ("_join_translated_parts", 519, .ref 69), ("twin_re_1_smtplib", 537, .ref 74), ("_twin_re_2", 579, .ref 79), ("CRLF", 581, .str (Str.ofString "\x0d\n") 580),
  ("quotedata", 588, .ref 86), ("_fix_eols", 595, .ref 93), ("_law_pieces", 613, .ref 100), ("_law_ahead", 627, .ref 107), ("_law_text", 633, .ref 112), ("law", 639, .ref 117)]
def charE (e : Nat × Nat) : DictEntry := { hash := (e.1 : Int), key := .int (e.1 : Int) (334 + 6 * e.2), val := .str ⟨#[92, e.1]⟩ (338 + 6 * e.2) }
def charL : List Nat := [40, 41, 91, 93, 123, 125, 63, 42, 43, 45, 124, 94, 36, 92, 46, 38, 126, 35, 32, 9, 10, 13, 11, 12]
def re0 : List Nat := [14, 14, 4, 1, 1, 9, 0, 64, 0, 1342177280, 0, 0, 0, 0, 0, 17, 0, 13, 11, 9, 0, 64, 0, 1342177280, 0, 0, 0, 0, 0, 17, 1, 1]
def re1 : List Nat := [14, 4, 0, 1, 1, 6, 1, 16, 46, 1]
def re2 : List Nat := [14, 9, 4, 1, 2, 16, 10, 16, 13, 0, 7, 7, 16, 13, 16, 10, 15, 18, 5, 16, 10, 15, 13, 11, 16, 13, 5, 5, 0, 16, 10, 1, 15, 2, 0, 1]
noncomputable def hd.heap_39 (P : Params) : Frag := [
  (3, { cls := .type "dict", data := .dict (mainL.map (ent P)).toArray 25 }),
  (35, tupI re0), (36, patO "([&~|])" 285 32 320 1 35), (42, codeO 42 "translate" 322 4 1 328 true), (43, fnO 43 3 "cpy313.fnmatch" 282),
  (45, { cls := .type "dict", data := .dict (charL.zipIdx.map charE).toArray 24 }), (54, codeO 54 "escape" 479 10 1 483 true), (55, fnO 55 6 "re" 331), (61, codeO 61 "_translate" 488 17 3 504 true), (62, fnO 62 8 "cpy313.fnmatch" 486),
  (68, codeO 68 "_join_translated_parts" 507 79 2 517 true), (69, fnO 69 9 "cpy313.fnmatch" 486), (73, tupI re1), (74, patO "(?m)^\\." 523 40 536 0 73), (78, tupI re2), (79, patO "(?:\\r\\n|\\n|\\r(?!\\n))" 539 32 578 0 78),
  (85, codeO 85 "quotedata" 582 110 1 586 true), (86, fnO 86 14 "cpy313.smtplib" 520), (92, codeO 92 "_fix_eols" 589 112 1 593 true), (93, fnO 93 15 "cpy313.smtplib" 520), (99, codeO 99 "_law_pieces" 598 115 1 611 true), (100, fnO 100 17 "law_il0108_01" 596),
  (106, codeO 106 "_law_ahead" 614 128 2 625 true), (107, fnO 107 18 "law_il0108_01" 596), (111, codeO 111 "_law_text" 628 142 1 631 false), (112, fnO 112 19 "law_il0108_01" 596), (116, codeO 116 "law" 634 151 1 637 false), (117, fnO 117 20 "law_il0108_01" 596)]
def hd.places : List Addr := [3, 35, 36, 42, 43, 45, 54, 55, 61, 62, 68, 69, 73, 74, 78, 79, 85, 86, 92, 93, 99, 100, 106, 107, 111, 112, 116, 117]
theorem hd.same (P : Params) : hd.places = (hd.heap_39 P).map (·.1) := by rfl
noncomputable def hd.hook : Hook := kmHook hd.heap_39 hd.places hd.same [57]
noncomputable def hd.xt (s : Shared) : Bool := xlAt hd.view_39 [] s && recOk (RowW.records PySem.Challenge.rw_il0108_01.row.toRowW) s
end Mine
open PySem PySem.W PyProof.Rows PySem.Calls
set_option linter.unusedVariables false
namespace Mine

/-! ## names of a frame -/
def fm : List Str → List (Option Value) → Str → Option Value
  | n :: ns, v :: vs, x => if x = n then v else fm ns vs x
  | _, _, _ => none

theorem fm_notin : ∀ {ns : List Str} {vs : List (Option Value)} {x : Str}, x ∉ ns → fm ns vs x = none
  | [], _, _, _ => by simp [fm]
  | _ :: _, [], _, _ => by simp [fm]
  | n :: ns, v :: vs, x, h => by
    have hne : x ≠ n := fun e => h (by rw [e]; exact List.mem_cons_self ..)
    rw [fm, if_neg hne]
    exact fm_notin fun m => h (List.mem_cons_of_mem _ m)

theorem fm_get : ∀ {ns : List Str} {vs : List (Option Value)} {k : Nat} {x : Str} {v : Value}, ns.Nodup → ns[k]? = some x → vs[k]? = some (some v) → fm ns vs x = some v
  | [], _, k, x, v, _, h, _ => by simp at h
  | _ :: _, [], _, _, _, _, _, h => by simp at h
  | n :: ns, u :: vs, 0, x, v, _, h, g => by
    simp at h g; subst h; subst g; simp [fm]
  | n :: ns, u :: vs, k + 1, x, v, nd, h, g => by
    simp at h g
    have hm : x ∈ ns := List.mem_of_getElem? h
    have hne : x ≠ n := fun e => (List.nodup_cons.mp nd).1 (e ▸ hm)
    rw [fm, if_neg hne]
    exact fm_get (List.nodup_cons.mp nd).2 h g

theorem fm_set : ∀ {ns : List Str} {vs : List (Option Value)} {k : Nat} {x : Str} {v : Value}, ns.Nodup → ns.length = vs.length → ns[k]? = some x →
    (fun y => if y = x then some v else fm ns vs y) = fm ns (vs.set k (some v))
  | [], _, k, x, v, _, _, h => by simp at h
  | _ :: _, [], _, _, _, _, l, _ => by simp at l
  | n :: ns, u :: vs, 0, x, v, nd, l, h => by
    simp at h; subst h
    funext y
    by_cases e : y = n
    · simp [fm, e]
    · simp [fm, e]
  | n :: ns, u :: vs, k + 1, x, v, nd, l, h => by
    simp at h l
    have hm : x ∈ ns := List.mem_of_getElem? h
    have hne : x ≠ n := fun e => (List.nodup_cons.mp nd).1 (e ▸ hm)
    have ih := fm_set (v := v) (List.nodup_cons.mp nd).2 l h
    funext y
    have ihy := congrFun ih y
    by_cases e : y = n
    · have hyx : y ≠ x := fun q => hne (q.symm.trans e)
      subst e
      rw [if_neg hyx]
      simp [fm]
    · simp only [List.set_cons_succ, fm, if_neg e]
      exact ihy

theorem fm_none : ∀ (ns : List Str) (y : Str), fm ns (ns.map fun _ => none) y = none
  | [], y => by simp [fm]
  | n :: ns, y => by
    simp only [List.map_cons, fm]
    split
    · rfl
    · exact fm_none ns y

theorem fm_one (x : Str) (v : Value) (ns : List Str) : (fun y => [(x, v)].reverse.lookup y) = fm (x :: ns) (some v :: ns.map fun _ => none) := by
  funext y
  by_cases e : y = x
  · subst e; simp [fm, List.lookup]
  · have : (y == x) = false := by simpa using e
    simp [fm, List.lookup, this, e, fm_none]
theorem fm_two (x₁ x₂ : Str) (v₁ v₂ : Value) (ns : List Str) (h : x₁ ≠ x₂) : (fun y => [(x₁, v₁), (x₂, v₂)].reverse.lookup y) = fm (x₁ :: x₂ :: ns) (some v₁ :: some v₂ :: ns.map fun _ => none) := by
  funext y
  by_cases e : y = x₁
  · subst e
    have h2 : (y == x₂) = false := by simpa using h
    simp [fm, List.lookup, h2]
  · have h1 : (y == x₁) = false := by simpa using e
    by_cases e2 : y = x₂
    · subst e2
      simp [fm, List.lookup, e]
    · have h2 : (y == x₂) = false := by simpa using e2
      simp [fm, List.lookup, h1, h2, e, e2, fm_none]
theorem fm_three (x₁ x₂ x₃ : Str) (v₁ v₂ v₃ : Value) (ns : List Str) (h : x₁ ≠ x₂) (h' : x₁ ≠ x₃) (h'' : x₂ ≠ x₃) :
    (fun y => [(x₁, v₁), (x₂, v₂), (x₃, v₃)].reverse.lookup y) = fm (x₁ :: x₂ :: x₃ :: ns) (some v₁ :: some v₂ :: some v₃ :: ns.map fun _ => none) := by
  funext y
  by_cases e : y = x₁
  · subst e
    have h2 : (y == x₂) = false := by simpa using h
    have h3 : (y == x₃) = false := by simpa using h'
    simp [fm, List.lookup, h2, h3]
  · have h1 : (y == x₁) = false := by simpa using e
    by_cases e2 : y = x₂
    · subst e2
      have h3 : (y == x₃) = false := by simpa using h''
      simp [fm, List.lookup, e, h3]
    · have h2 : (y == x₂) = false := by simpa using e2
      by_cases e3 : y = x₃
      · subst e3
        simp [fm, List.lookup, e, e2]
      · have h3 : (y == x₃) = false := by simpa using e3
        simp [fm, List.lookup, h1, h2, h3, e, e2, e3, fm_none]

/-! ## what stands and what a step keeps -/
/-- what the walks know of the world's own objects -/
structure Bs (w : World) (H : Heap) : Prop where
  K : (hd.heap_39 w.params).In H
  g : ∃ mg, H.Ns mainGlobals mg ∧ ∃ bm ob, mg "__builtins__" = some (.ref bm) ∧ bm ≠ builtinsNs ∧ H.get? bm = some ob ∧ ob.cls = .type "module" ∧ ob.dict = some builtinsNs ∧ ob.data = .plain
  b : ∃ mb, H.Ns builtinsNs mb ∧ ∀ x : Str, x ≠ "__name__" → mb x = bootBuiltins x
  lim : H.NoLimit
  cd : CodeHd H 61 57

/-- the code table of _translate -/
def Tab (h : Heap) (ps : Array Value) : Prop := h.get? 57 = some (tabObj ps) ∧ TriplesOk ps.toList

structure Good (w : World) (s : Shared) : Prop where
  bs : Bs w s.heap
  tab : ∃ ps, Tab s.heap ps
  bare : AllBare s.gens

structure Ext (s s' : Shared) : Prop where
  keep : ∀ b o, b ≠ 57 → s.heap.get? b = some o → s'.heap.get? b = some o
  tab : ∀ ps, Tab s.heap ps → ∃ more, Tab s'.heap (ps ++ more)
  bare : AllBare s.gens → AllBare s'.gens
  os : s'.os = s.os
  toks : s.toks ≤ s'.toks
  size : s.heap.objs.size ≤ s'.heap.objs.size

theorem Ext.refl (s : Shared) : Ext s s := ⟨fun _ _ _ e => e, fun ps h => ⟨#[], by simpa using h⟩, fun h => h, rfl, Nat.le_refl _, Nat.le_refl _⟩
theorem Ext.trans {s s' s'' : Shared} (x : Ext s s') (y : Ext s' s'') : Ext s s'' :=
  ⟨fun b o n e => y.keep b o n (x.keep b o n e), fun ps h => by
    obtain ⟨m, h'⟩ := x.tab ps h
    obtain ⟨m', h''⟩ := y.tab _ h'
    exact ⟨m ++ m', by rw [← Array.append_assoc]; exact h''⟩, fun h => y.bare (x.bare h), y.os.trans x.os, Nat.le_trans x.toks y.toks, Nat.le_trans x.size y.size⟩

/-- a step that keeps every object -/
theorem Ext.of_keep {s : Shared} {h' : Heap} {tk : Nat} (hk : ∀ b o, s.heap.get? b = some o → h'.get? b = some o) (ht : s.toks ≤ tk) (hz : s.heap.objs.size ≤ h'.objs.size) : Ext s { s with heap := h', toks := tk } :=
  ⟨fun b o _ e => hk b o e, fun ps h => ⟨#[], by simpa [Tab] using ⟨hk _ _ h.1, h.2⟩⟩, fun h => h, rfl, ht, hz⟩

theorem ns_not57 {h : Heap} {a : Addr} {m : Str → Option Value} {ps : Array Value} (n : h.Ns a m) (t : Tab h ps) : a ≠ 57 := by
  rintro rfl
  obtain ⟨o, es, ep, e, hd, _⟩ := n
  rw [t.1] at e; cases e; cases hd

theorem K57 (P : Params) : (hd.heap_39 P).lookup 57 = none := by rfl

theorem Bs.ext {w : World} {H H' : Heap} (x : Bs w H) {ps : Array Value} (t : Tab H ps) (hk : ∀ b o, b ≠ 57 → H.get? b = some o → H'.get? b = some o) : Bs w H' := by
  obtain ⟨mg, hg, bm, ob, e1, e2, e3, e4⟩ := x.g
  obtain ⟨mb, hb, e5⟩ := x.b
  obtain ⟨mc, hc, e6⟩ := x.lim
  refine ⟨fun a o q => hk a o (fun e => by rw [e, K57] at q; cases q) (x.K a o q), ⟨mg, hg.at' fun o e => hk _ o (ns_not57 hg t) e, bm, ob, e1, e2, hk _ _ (fun e => by
    rw [e, t.1] at e3; cases e3; cases e4.1) e3, e4⟩, ⟨mb, hb.at' fun o e => hk _ o (ns_not57 hb t) e, e5⟩, ⟨mc, hc.at' fun o e => hk _ o (ns_not57 hc t) e, e6⟩, ?_⟩
  obtain ⟨o, vs, file, tf, flags, tg, inF, text, tt, e, r⟩ := x.cd
  exact ⟨o, vs, file, tf, flags, tg, inF, text, tt, hk _ _ (by decide) e, r⟩

theorem Good.ext {w : World} {s s' : Shared} (g : Good w s) (x : Ext s s') : Good w s' := by
  obtain ⟨ps, t⟩ := g.tab
  obtain ⟨m, t'⟩ := x.tab ps t
  exact ⟨g.bs.ext t x.keep, ⟨_, t'⟩, x.bare g.bare⟩

/-- a frame: entered at s₀, its names and values, the objects that it has made -/
structure Mst (w : World) (s₀ : Shared) (L : Addr) (ns : List Str) (vs : List (Option Value)) (objs : List (Addr × Obj)) (s : Shared) : Prop where
  ext : Ext s₀ s
  good : Good w s₀
  loc : s.heap.Ns L (fm ns vs)
  nd : ns.Nodup
  len : ns.length = vs.length
  newL : s₀.heap.get? L = none
  L57 : L ≠ 57
  obj : ∀ p ∈ objs, s.heap.get? p.1 = some p.2 ∧ p.1 ≠ L ∧ s₀.heap.get? p.1 = none ∧ p.1 ≠ 57
  ond : (objs.map (·.1)).Nodup

section
variable {w : World} {s₀ s s' : Shared} {L : Addr} {ns : List Str} {vs : List (Option Value)} {objs objs' : List (Addr × Obj)}

theorem Mst.good' (S : Mst w s₀ L ns vs objs s) : Good w s := S.good.ext S.ext
theorem Mst.get (S : Mst w s₀ L ns vs objs s) {a : Addr} {o : Obj} (h : (a, o) ∈ objs) : s.heap.get? a = some o := (S.obj _ h).1

/-- behind a call or a step that keeps -/
theorem Mst.step (S : Mst w s₀ L ns vs objs s) (x : Ext s s') : Mst w s₀ L ns vs objs s' :=
  ⟨S.ext.trans x, S.good, S.loc.at' fun o e => x.keep _ o S.L57 e, S.nd, S.len, S.newL, S.L57, fun p hp => ⟨x.keep _ _ (S.obj p hp).2.2.2 (S.obj p hp).1, (S.obj p hp).2⟩, S.ond⟩
theorem Mst.sub (S : Mst w s₀ L ns vs objs s) (h : ∀ p ∈ objs', p ∈ objs) (hn : (objs'.map (·.1)).Nodup) : Mst w s₀ L ns vs objs' s :=
  ⟨S.ext, S.good, S.loc, S.nd, S.len, S.newL, S.L57, fun p hp => S.obj p (h p hp), hn⟩
theorem Mst.tok (S : Mst w s₀ L ns vs objs s) {tk : Nat} (h : s.toks ≤ tk) : Mst w s₀ L ns vs objs { s with toks := tk } :=
  S.step (Ext.of_keep (fun _ _ e => e) h (Nat.le_refl _))

theorem Mst.above (S : Mst w s₀ L ns vs objs s) {a : Addr} {o : Obj} (h : s₀.heap.get? a = some o) : a < s.heap.objs.size := Nat.lt_of_lt_of_le (Heap.lt_size h) S.ext.size
theorem tab_lt {h : Heap} {ps : Array Value} (t : Tab h ps) : 57 < h.objs.size := Heap.lt_size t.1
theorem Good.lt57 (g : Good w s) : 57 < s.heap.objs.size := let ⟨_, t⟩ := g.tab; tab_lt t

theorem get_none_size (h : Heap) : h.get? h.objs.size = none := by
  cases q : h.get? h.objs.size with
  | none => rfl
  | some o => exact absurd (Heap.lt_size q) (Nat.lt_irrefl _)

/-- a new object -/
theorem Mst.push (S : Mst w s₀ L ns vs objs s) {o : Obj} (hf : o.isFreed = false := by rfl) {tk : Nat} (ht : s.toks ≤ tk := by exact Nat.le_refl _) :
    Mst w s₀ L ns vs ((s.heap.objs.size, o) :: objs) { s with heap := s.heap.push o, toks := tk } := by
  have S' := S.step (Ext.of_keep (h' := s.heap.push o) (tk := tk) (fun b o e => Heap.get?_push_of_some _ e) ht (by rw [Heap.size_push]; omega))
  refine ⟨S'.ext, S'.good, S'.loc, S'.nd, S'.len, S'.newL, S'.L57, fun p hp => ?_, ?_⟩
  · rcases List.mem_cons.mp hp with rfl | hp
    · refine ⟨Heap.get?_push_size _ hf, Nat.ne_of_gt S.loc.lt, ?_, Nat.ne_of_gt S.good'.lt57⟩
      cases q : s₀.heap.get? s.heap.objs.size with
      | none => rfl
      | some o' => exact absurd (S.above q) (Nat.lt_irrefl _)
    · exact S'.obj p hp
  · rw [List.map_cons, List.nodup_cons]
    refine ⟨fun hm => ?_, S.ond⟩
    obtain ⟨p, hp, e⟩ := List.mem_map.mp hm
    have h1 := Heap.lt_size (S.obj p hp).1
    have e' : p.1 = s.heap.objs.size := e
    rw [e'] at h1
    exact Nat.lt_irrefl _ h1

/-- only an object of the frame's own changes -/
theorem Mst.change (S : Mst w s₀ L ns vs objs s) {a : Addr} (ha : s₀.heap.get? a = none) (h57 : a ≠ 57) {h' : Heap} {tk : Nat} (hs : Heap.SameBut a s.heap h') (ht : s.toks ≤ tk) : Ext s₀ { s with heap := h', toks := tk } :=
  ⟨fun b o n e => (hs.2 b fun q => by rw [← q, e] at ha; cases ha).trans (S.ext.keep b o n e),
   fun ps h => let ⟨m, t⟩ := S.ext.tab ps h; ⟨m, (hs.2 57 h57.symm).trans t.1, t.2⟩, S.ext.bare, S.ext.os, Nat.le_trans S.ext.toks ht, by show _ ≤ h'.objs.size; rw [hs.1]; exact S.ext.size⟩

/-- a name stored -/
theorem Mst.store (S : Mst w s₀ L ns vs objs s) {k : Nat} {x : Str} {v : Value} (hx : ns[k]? = some x) {h' : Heap} {tk : Nat} (hn : h'.Ns L (fun y => if y = x then some v else fm ns vs y)) (hs : Heap.SameBut L s.heap h') (ht : s.toks ≤ tk) :
    Mst w s₀ L ns (vs.set k (some v)) objs { s with heap := h', toks := tk } :=
  ⟨S.change S.newL S.L57 hs ht, S.good, by rw [fm_set S.nd S.len hx] at hn; exact hn, S.nd, by rw [List.length_set]; exact S.len, S.newL, S.L57, fun p hp => ⟨(hs.2 _ (S.obj p hp).2.1).trans (S.obj p hp).1, (S.obj p hp).2⟩, S.ond⟩

/-- an own object changed, at its place in the list -/
theorem Mst.upd (S : Mst w s₀ L ns vs objs s) {k : Nat} {a : Addr} {o o' : Obj} (hk : objs[k]? = some (a, o)) {f : Obj → Obj} (hf : f o = o') (hfr : o'.isFreed = false := by rfl) {tk : Nat} (ht : s.toks ≤ tk := by exact Nat.le_refl _) :
    Mst w s₀ L ns vs (objs.set k (a, o')) { s with heap := s.heap.update a f, toks := tk } := by
  have hm := List.mem_of_getElem? hk
  obtain ⟨e1, e2, e3, e4⟩ := S.obj _ hm
  have hs : Heap.SameBut a s.heap (s.heap.update a f) := Heap.SameBut.update ..
  have em : (objs.set k (a, o')).map (·.1) = objs.map (·.1) := by
    rw [List.map_set]
    apply List.ext_getElem?
    intro i
    rw [List.getElem?_set]
    split
    · rename_i h
      subst h
      split
      · rw [List.getElem?_map, hk]; rfl
      · rename_i h2
        rw [List.length_map] at h2
        exact absurd (List.getElem?_eq_some_iff.mp hk).1 h2
    · rfl
  refine ⟨S.change e3 e4 hs ht, S.good, S.loc.at' fun o e => (hs.2 L (Ne.symm e2)).trans e, S.nd, S.len, S.newL, S.L57, fun p hp => ?_, by rw [em]; exact S.ond⟩
  obtain ⟨i, hi⟩ := List.getElem?_of_mem hp
  rw [List.getElem?_set] at hi
  split at hi
  · split at hi
    · cases hi
      exact ⟨hf ▸ Heap.get?_update_self f e1 (hf ▸ hfr), e2, e3, e4⟩
    · cases hi
  · rename_i hne
    have hp' := List.mem_of_getElem? hi
    have hpa : p.1 ≠ a := fun q => by
      have n := S.ond
      have h1 : (objs.map (·.1))[i]? = some a := by rw [List.getElem?_map, hi, ← q]; rfl
      have h2 : (objs.map (·.1))[k]? = some a := by rw [List.getElem?_map, hk]; rfl
      obtain ⟨l1, g1⟩ := List.getElem?_eq_some_iff.mp h1
      obtain ⟨l2, g2⟩ := List.getElem?_eq_some_iff.mp h2
      rcases Nat.lt_or_gt_of_ne hne with lt | lt
      · exact (List.pairwise_iff_getElem.mp n) k i l2 l1 lt (g2.trans g1.symm)
      · exact (List.pairwise_iff_getElem.mp n) i k l1 l2 lt (g1.trans g2.symm)
    exact ⟨(hs.2 _ hpa).trans (S.obj p hp').1, (S.obj p hp').2⟩
end
end Mine
open PySem PySem.W PyProof.Rows PySem.Calls
set_option linter.unusedVariables false
namespace Mine

/-- every run counts upwards -/
structure Mono (s s' : Shared) : Prop where
  toks : s.toks ≤ s'.toks
  size : s.heap.objs.size ≤ s'.heap.objs.size
theorem Mono.refl (s : Shared) : Mono s s := ⟨Nat.le_refl _, Nat.le_refl _⟩
theorem Mono.trans {s s' s'' : Shared} (x : Mono s s') (y : Mono s' s'') : Mono s s'' := ⟨Nat.le_trans x.toks y.toks, Nat.le_trans x.size y.size⟩
theorem size_update (h : Heap) (a : Addr) (f : Obj → Obj) : (h.update a f).objs.size = h.objs.size := by
  obtain ⟨objs, l⟩ := h
  exact Array.size_modify
theorem mono_setGen (s : Shared) (g : Nat) (x : GenState) : Mono s (s.setGen g x) := ⟨Nat.le_refl _, Nat.le_refl _⟩
theorem mono_heap (s : Shared) {h' : Heap} (hh : s.heap.objs.size ≤ h'.objs.size) : Mono s { s with heap := h' } := ⟨Nat.le_refl _, hh⟩

theorem mono_same {s s₁ s' : Shared} (h1 : s.toks ≤ s₁.toks) (h2 : s₁.heap = s.heap) (x : Mono s₁ s') : Mono s s' := ⟨Nat.le_trans h1 x.toks, by have := x.size; rw [h2] at this; exact this⟩
theorem runs_mono {M : Model} {Γ : Ctx} {p : Pos} {t : Sem Fin} {fs : List Frame} {s : Shared} {e : End} {s' : Shared} (h : Runs M Γ p t fs s e s') : Mono s s' := by
  induction h with
  | done => exact .refl _
  | raise => exact .refl _
  | yield => exact .refl _
  | again _ _ ih => exact ih
  | rule _ ih => exact ih
  | «at» _ ih => exact ih
  | load _ _ ih => exact ih
  | update _ _ ih => exact (mono_heap _ (Nat.le_of_eq (size_update _ _ _).symm)).trans ih
  | loadIfAlive _ ih => exact ih
  | point _ ih => exact ih
  | alloc _ ih => exact (mono_heap _ (by rw [Heap.size_push]; omega)).trans ih
  | fresh _ ih => refine mono_same ?_ ?_ ih <;> first | exact Nat.le_succ _ | rfl
  | ask _ ih => exact ih
  | choose _ _ ih => refine mono_same ?_ ?_ ih <;> first | exact Nat.le_refl _ | rfl
  | os _ ih => refine mono_same ?_ ?_ ih <;> first | exact Nat.le_refl _ | rfl
  | handled _ ih => exact ih
  | genState _ _ ih => exact ih
  | stack _ ih => exact ih
  | thread _ ih => exact ih
  | newGen _ ih => refine mono_same ?_ ?_ ih <;> first | exact Nat.le_refl _ | rfl
  | call _ _ i1 i2 => exact i1.trans i2
  | callSusp _ i1 => exact i1
  | resumeFresh _ _ _ _ i1 i2 => exact (mono_setGen _ _ _).trans (i1.trans ((mono_setGen _ _ _).trans i2))
  | resumeSuspended _ _ _ _ i1 i2 => exact (mono_setGen _ _ _).trans (i1.trans ((mono_setGen _ _ _).trans i2))
  | resumeJustStarted _ _ _ ih => exact ih
  | resumeThrowFresh _ _ ih => exact (mono_setGen _ _ _).trans ih
  | resumeRunning _ _ ih => exact ih
  | resumeFinished _ _ ih => exact ih
  | segRet _ _ i1 i2 => exact i1.trans i2
  | segGen _ _ i1 i2 => exact i1.trans ((mono_setGen _ _ _).trans i2)
  | segSuspOut _ _ i1 => exact i1
  | segSuspGen _ _ _ _ i1 i2 => exact i1.trans ((mono_setGen _ _ _).trans i2)

theorem wakes_mono {M : Model} {Γ : Ctx} {p : Pos} {g : Nat} {r : Resume} {s : Shared} {res : GenResult} {s' : Shared} (h : Wakes M Γ p g r s res s') : Mono s s' := by
  unfold Wakes at h
  split at h
  · exact h.elim
  · split at h
    · obtain ⟨e₁, s₁, hr, _, _, rfl⟩ := h
      exact (mono_setGen _ _ _).trans ((runs_mono hr).trans (mono_setGen _ _ _))
    · rw [h.2]; exact .refl _
    · rw [h.2]; exact mono_setGen _ _ _
  · obtain ⟨e₁, s₁, hr, _, _, rfl⟩ := h
    exact (mono_setGen _ _ _).trans ((runs_mono hr).trans (mono_setGen _ _ _))
  · rw [h.2]; exact .refl _
  · first | (rw [h.2]; exact .refl _) | exact h.elim

theorem wp_gain {α : Type} (M : Model) (Γ : Ctx) (t : Sem α) : ∀ (Q : α → Pos → Shared → Prop) (E : Value → Pos → Shared → Prop) (p : Pos) (s s₀ : Shared), Mono s₀ s →
    Sem.wp M Γ t (fun a p' s' => Mono s₀ s' → Q a p' s') (fun e p' s' => Mono s₀ s' → E e p' s') p s → Sem.wp M Γ t Q E p s := by
  induction t with
  | pure a => intro Q E p s s₀ m h; exact h m
  | raise e => intro Q E p s s₀ m h; exact h m
  | unsupported w => intro Q E p s s₀ m h; exact h
  | finish e => intro Q E p s s₀ m h; exact h
  | rule _ k ih => intro Q E p s s₀ m h; exact ih () Q E p s s₀ m h
  | «at» p' k ih => intro Q E p s s₀ m h; exact ih () Q E p' s s₀ m h
  | load a pt k ih => intro Q E p s s₀ m h; obtain ⟨o, ho, h⟩ := h; exact ⟨o, ho, ih o Q E p s s₀ m h⟩
  | update a pt f k ih => intro Q E p s s₀ m h; exact ⟨h.1, ih () Q E p _ s₀ (m.trans (mono_heap _ (Nat.le_of_eq (size_update _ _ _).symm))) h.2⟩
  | alloc o k ih => intro Q E p s s₀ m h; exact ih _ Q E p _ s₀ (m.trans (mono_heap _ (by rw [Heap.size_push]; omega))) h
  | loadIfAlive a k ih => intro Q E p s s₀ m h; exact ih _ Q E p s s₀ m h
  | point l k ih => intro Q E p s s₀ m h; exact ih () Q E p s s₀ m h
  | register a k ih => intro Q E p s s₀ m h; exact h
  | fresh k ih => intro Q E p s s₀ m h; exact ih _ Q E p _ s₀ (m.trans ⟨Nat.le_succ _, Nat.le_refl _⟩) h
  | ask k ih => intro Q E p s s₀ m h; exact ih _ Q E p s s₀ m h
  | choose src n k ih => intro Q E p s s₀ m h; exact ⟨h.1, ih _ Q E p _ s₀ (m.trans ⟨Nat.le_refl _, Nat.le_refl _⟩) h.2⟩
  | os q l k ih => intro Q E p s s₀ m h; exact ih _ Q E p _ s₀ (m.trans ⟨Nat.le_refl _, Nat.le_refl _⟩) h
  | call c hd g l k ih =>
    intro Q E p s s₀ m h
    obtain ⟨r, s', hr, h⟩ := h
    exact ⟨r, s', hr, ih r Q E p s' s₀ (m.trans (runs_mono hr)) h⟩
  | handled own k ih => intro Q E p s s₀ m h; exact ih _ Q E p s s₀ m h
  | newGen c k ih => intro Q E p s s₀ m h; exact ih _ Q E p _ s₀ (m.trans ⟨Nat.le_refl _, Nat.le_refl _⟩) h
  | genState g k ih => intro Q E p s s₀ m h; obtain ⟨st, hst, h⟩ := h; exact ⟨st, hst, ih _ Q E p s s₀ m h⟩
  | resume g r l k ih => intro Q E p s s₀ m h; obtain ⟨res, s', hw, h⟩ := h; exact ⟨res, s', hw, ih _ Q E p s' s₀ (m.trans (wakes_mono hw)) h⟩
  | yield v g l k ih => intro Q E p s s₀ m h; exact h
  | stack k ih => intro Q E p s s₀ m h; exact ih _ Q E p s s₀ m h
  | fork c k ih => intro Q E p s s₀ m h; exact h
  | thread k ih => intro Q E p s s₀ m h; exact ih _ Q E p s s₀ m h
  | await a t d l k ih => intro Q E p s s₀ m h; exact h

theorem gain {α : Type} {M : Model} {A : Around} {t : Sem α} {Q : α → Shared → Prop} {E : Value → Shared → Prop} {s : Shared}
    (h : wpAny M A t (fun a s' => Mono s s' → Q a s') (fun e s' => Mono s s' → E e s') s) : wpAny M A t Q E s :=
  fun Γ p hΓ => wp_gain M Γ t _ _ p s s (.refl s) (h Γ p hΓ)
theorem gainQ {α : Type} {M : Model} {A : Around} {t : Sem α} {Q : α → Shared → Prop} {E : Value → Shared → Prop} {s : Shared}
    (h : wpAny M A t (fun a s' => Mono s s' → Q a s') E s) : wpAny M A t Q E s := gain (wpAny_mono h (fun _ _ x => x) fun _ _ x _ => x)
end Mine
open PySem PySem.W PyProof.Rows PySem.Calls
set_option linter.unusedVariables false
set_option maxRecDepth 100000
namespace Mine

abbrev Md (w : World) : Model := model PySem.Challenge.rw_il0108_01.row.prog w

/-- room around a walk -/
structure OkA (A : Around) (d u : Nat) : Prop where
  hh : A.handled = none
  dep : A.depth + d < recursionLimit
  un : A.units + u < cLine
theorem OkA.mono {A : Around} {d u d' u' : Nat} (k : OkA A d u) (h1 : d' ≤ d := by omega) (h2 : u' ≤ u := by omega) : OkA A d' u' :=
  ⟨k.hh, by have := k.dep; omega, by have := k.un; omega⟩
theorem OkA.in1 {A : Around} {d u : Nat} (k : OkA A d (u + 1)) : OkA A.in1 d u := ⟨k.hh, k.dep, by show A.units + 1 + u < _; have := k.un; omega⟩
theorem OkA.deeper {A : Around} {d u : Nat} (k : OkA A (d + 1) (u + 3)) (env : Env) : OkA (A.deeper env) d u :=
  ⟨k.hh, by show A.depth + 1 + d < _; have := k.dep; omega, by show A.units + 3 + u < _; have := k.un; omega⟩
theorem OkA.room {A : Around} {d u : Nat} (k : OkA A d u) : A.depth < recursionLimit := by have := k.dep; omega
theorem OkA.units {A : Around} {d u : Nat} (k : OkA A d u) : A.units < cLine := by have := k.un; omega

/-- what is asked of a frame's environment -/
structure EnvOk (env : Env) (L : Addr) (ns gs : List Str) : Prop where
  kind : env.scope.kind = .function
  loc : env.locals = L
  gl : env.globals = mainGlobals
  bi : env.builtins = builtinsNs
  names : ∀ x ∈ ns, env.kindOf x = some .local
  globs : ∀ x ∈ gs, env.kindOf x = some .globalImplicit
  nodebug : ∀ x ∈ ns ++ gs, (x == ("__debug__" : Str)) = false
theorem EnvOk.inter {env : Env} {L : Addr} {ns gs : List Str} (V : EnvOk env L ns gs) : interactive env = false := by
  unfold interactive; rw [V.kind]; rfl

section
variable {w : World} {A : Around} {E : Value → Shared → Prop} {s₀ s : Shared} {L : Addr} {ns gs : List Str} {vs : List (Option Value)} {objs : List (Addr × Obj)} {env : Env}

/-! ## names and constants -/
theorem ev_loc {x : Str} {pos : Pos} {k : Nat} {v : Value} {Q : Value → Shared → Prop} (V : EnvOk env L ns gs) (S : Mst w s₀ L ns vs objs s) (hx : ns[k]? = some x) (hv : vs[k]? = some (some v)) (h : Q v s) :
    wpAny (Md w) A (eval (.Name x pos) env) Q E s := by
  have hm := List.mem_of_getElem? hx
  refine wpAny_Name (wpAny_loadName_local V.kind (V.names x hm) (by rw [V.loc]; exact S.loc) (fm_get S.nd hx hv) h) (V.nodebug x (List.mem_append_left _ hm))
theorem ld_loc {x : Str} {k : Nat} {v : Value} {Q : Value → Shared → Prop} (V : EnvOk env L ns gs) (S : Mst w s₀ L ns vs objs s) (hx : ns[k]? = some x) (hv : vs[k]? = some (some v)) (h : Q v s) :
    wpAny (Md w) A (loadName env x) Q E s :=
  wpAny_loadName_local V.kind (V.names x (List.mem_of_getElem? hx)) (by rw [V.loc]; exact S.loc) (fm_get S.nd hx hv) h
theorem st_loc {x : Str} {k : Nat} {v : Value} {Q : Unit → Shared → Prop} (V : EnvOk env L ns gs) (S : Mst w s₀ L ns vs objs s) (hx : ns[k]? = some x) (h : ∀ s', Mst w s₀ L ns (vs.set k (some v)) objs s' → s.toks ≤ s'.toks → Q () s') :
    wpAny (Md w) A (storeName env x v) Q E s := by
  have hm := List.mem_of_getElem? hx
  refine wpAny_storeName_local (m := fm ns vs) (V.names x hm) (by rw [V.loc]; exact S.loc) (fun h' hn hs => ?_) (by rw [V.kind]; rfl)
  rw [V.loc] at hn hs
  exact h _ (S.store hx hn hs (Nat.le_succ _)) (Nat.le_succ _)
theorem ev_str {x : Str} {c : Nat} {pos : Pos} {Q : Value → Shared → Prop} (S : Mst w s₀ L ns vs objs s) (h : ∀ t s', Mst w s₀ L ns vs objs s' → s.toks ≤ t → t < s'.toks → Q (.str x t) s') : wpAny (Md w) A (eval (.Constant (.str x) c pos) env) Q E s :=
  wpAny_Constant_str (h _ _ (S.tok (Nat.le_succ _)) (Nat.le_refl _) (Nat.lt_succ_self _))
theorem ev_int {i : Int} {c : Nat} {pos : Pos} {Q : Value → Shared → Prop} (S : Mst w s₀ L ns vs objs s) (h : ∀ t s', Mst w s₀ L ns vs objs s' → s.toks ≤ t → t < s'.toks → Q (.int i t) s') : wpAny (Md w) A (eval (.Constant (.int i) c pos) env) Q E s :=
  wpAny_Constant_int (h _ _ (S.tok (Nat.le_succ _)) (Nat.le_refl _) (Nat.lt_succ_self _))

theorem nsIn_some {P : Params} {h : Heap} {mg : Str → Option Value} {n : Str} {v : Value} (X : (hd.heap_39 P).In h) (G : h.Ns mainGlobals mg) (e : nsIn (hd.heap_39 P) mainGlobals n = some (some v)) : mg n = some v := mg_of X G e

theorem ev_glob {x : Str} {pos : Pos} {k : Nat} {v : Value} {Q : Value → Shared → Prop} (V : EnvOk env L ns gs) (S : Mst w s₀ L ns vs objs s) (hx : gs[k]? = some x) (e : ∀ P, nsIn (hd.heap_39 P) mainGlobals x = some (some v)) (h : Q v s) :
    wpAny (Md w) A (eval (.Name x pos) env) Q E s := by
  have hm := List.mem_of_getElem? hx
  obtain ⟨mg, hg, _⟩ := S.good'.bs.g
  have hv := nsIn_some S.good'.bs.K hg (e w.params)
  exact Calls.Name_function_global V.kind (V.globs x hm) (Calls.loadGlobal_global (by rw [V.gl]; exact hg) hv h) (V.nodebug x (List.mem_append_right _ hm))
theorem ev_bi {x : Str} {pos : Pos} {k : Nat} {v : Value} {Q : Value → Shared → Prop} (V : EnvOk env L ns gs) (S : Mst w s₀ L ns vs objs s) (hx : gs[k]? = some x) (e : ∀ P, nsIn (hd.heap_39 P) mainGlobals x = some none) (hb : bootBuiltins x = some v) (hn : x ≠ "__name__") (h : Q v s) :
    wpAny (Md w) A (eval (.Name x pos) env) Q E s := by
  have hm := List.mem_of_getElem? hx
  obtain ⟨mg, hg, _⟩ := S.good'.bs.g
  obtain ⟨mb, hb', e'⟩ := S.good'.bs.b
  have hv := mg_none_of S.good'.bs.K hg (e w.params)
  exact Calls.Name_function_global V.kind (V.globs x hm) (Calls.loadGlobal_builtin (by rw [V.gl]; exact hg) hv (by rw [V.bi]; exact hb') ((e' x hn).trans hb) h) (V.nodebug x (List.mem_append_right _ hm))

/-! ## calls -/
theorem cw_fn {a : Addr} {pos : Pos} {e : Expr} {rest : List Expr} {Q : Value → Shared → Prop} (hk : ∀ P, keepIn (hd.heap_39 P) (.ref a) = true)
    (h : wpAny (Md w) A (spliced (backTo pos (starEach (e :: rest) env))) (fun vs s₁ => Good w s₁ ∧ wpAny (Md w) A (call (.ref a) vs) Q E s₁) E s)
    (he : starEach (e :: rest) env = (false, eval e env) :: starEach rest env := by rfl) (hplain : (backTo pos (starEach rest env)).any (·.1) = false := by rfl) :
    wpAny (Md w) A (callWith pos (.ref a) [] (backTo pos (starEach (e :: rest) env)) []) Q E s := by
  rw [he] at h ⊢
  exact callWith_of (P := fun h => (hd.heap_39 w.params).In h) (by show ((false || (backTo pos (starEach rest env)).any (·.1)) || false) = false; rw [hplain]; rfl) (keeps_K (hk w.params))
    (evalArgs_plain (wpAny_mono h (fun vs s₁ h₁ => ⟨h₁.1.bs.K, h₁.2⟩) fun _ _ x => x))
theorem cw_bi {id : String} {first : List Value} {pos : Pos} {e : Expr} {rest : List Expr} {Q : Value → Shared → Prop}
    (h : wpAny (Md w) A (spliced (backTo pos (starEach (e :: rest) env))) (fun vs s₁ => wpAny (Md w) A (call (.builtin id) (first ++ vs)) Q E s₁) E s)
    (he : starEach (e :: rest) env = (false, eval e env) :: starEach rest env := by rfl) (hplain : (backTo pos (starEach rest env)).any (·.1) = false := by rfl) :
    wpAny (Md w) A (callWith pos (.builtin id) first (backTo pos (starEach (e :: rest) env)) []) Q E s := by
  rw [he] at h ⊢
  exact Calls.callWith_builtin (by show (false || (backTo pos (starEach rest env)).any (·.1)) = false; rw [hplain]; rfl) (Calls.evalArgs_plain h)

theorem cw_m {id : String} {self : Value} {pos : Pos} {e : Expr} {rest : List Expr} {Q : Value → Shared → Prop}
    (h : wpAny (Md w) A (spliced (backTo pos (starEach (e :: rest) env))) (fun vs s₁ => wpAny (Md w) A (call (.builtin id) (self :: vs)) Q E s₁) E s)
    (he : starEach (e :: rest) env = (false, eval e env) :: starEach rest env := by rfl) (hplain : (backTo pos (starEach rest env)).any (·.1) = false := by rfl) :
    wpAny (Md w) A (callWith pos (.builtin id) [self] (backTo pos (starEach (e :: rest) env)) []) Q E s := cw_bi (first := [self]) h he hplain
theorem cw_b {id : String} {pos : Pos} {e : Expr} {rest : List Expr} {Q : Value → Shared → Prop}
    (h : wpAny (Md w) A (spliced (backTo pos (starEach (e :: rest) env))) (fun vs s₁ => wpAny (Md w) A (call (.builtin id) vs) Q E s₁) E s)
    (he : starEach (e :: rest) env = (false, eval e env) :: starEach rest env := by rfl) (hplain : (backTo pos (starEach rest env)).any (·.1) = false := by rfl) :
    wpAny (Md w) A (callWith pos (.builtin id) [] (backTo pos (starEach (e :: rest) env)) []) Q E s := cw_bi (first := []) h he hplain

/-- a def is entered -/
theorem enter {f : Addr} {fd : FuncData} {oc : Value} {od : Option Addr} {osl : Array (Option Value)} {args : List Value} {binds : List (Str × Value)} {body : List Stmt} {d u : Nat} {Q : Value → Shared → Prop}
    (ok : OkA A (d + 1) (u + 3)) (g : Good w s) (hK : ∀ P, (hd.heap_39 P).lookup f = some ⟨oc, od, .func fd, osl⟩) (hcd : ∀ P, codeIn (hd.heap_39 P) fd.code fd.qualname = true)
    (hbody : fd.body = .stmts body) (hbind : bindArgs fd ⟨args, []⟩ = pure binds) (hcell : ∀ x ∈ fd.scope.names, x.2 ≠ .cell) (hloc : ∀ x ∈ binds, fd.scope.names.lookup x.1 = some .local)
    (hfm : (fun x => binds.reverse.lookup x) = fm ns vs) (nd : ns.Nodup) (len : ns.length = vs.length) (hE : EnvOk (callEnv fd s.heap.objs.size f) s.heap.objs.size ns gs)
    (h : ∀ env L s₁ A', OkA A' d u → EnvOk env L ns gs → env.code = fd.code → env.qual = fd.qualname ++ ".<locals>." → env.cells = [] ∨ True → Mst w s L ns vs [] s₁ →
      wpAny (Md w) A' (execs body env) (fun fl s' => Q (match fl with | .ret v => v | _ => .none) s') (fun _ _ => False) s₁)
    (hco : fd.scope.isCoroutine = false := by rfl) (hgen : fd.scope.isGenerator = false := by rfl) (hk : fd.scope.kind = .function := by rfl) :
    wpAny (Md w) A (call (.ref f) args) Q E s := by
  refine wpAny_call (codeAny_call_def (fd := fd) (body := body) (binds := binds) ok.room (g.bs.K _ _ (hK w.params)) rfl g.bs.lim (codeRec_of g.bs.K (hcd w.params)) hbody (BindsTo.of_eq hbind) hcell hloc (fun h₀ hns hkp => ?_) hco hgen hk)
  refine gainQ ?_
  obtain ⟨ps, t⟩ := g.tab
  rw [hfm] at hns
  have hz : s.heap.objs.size ≤ h₀.objs.size := Nat.le_of_lt hns.lt
  have S : Mst w s s.heap.objs.size ns vs [] { s with heap := h₀, toks := s.toks + binds.length } :=
    ⟨Ext.of_keep hkp (Nat.le_add_right _ _) hz, g, hns, nd, len, get_none_size _, fun e => Nat.lt_irrefl _ (e ▸ tab_lt t), fun _ hp => (nomatch hp), List.nodup_nil⟩
  refine wpAny_mono (h _ _ _ _ (ok.deeper _) hE rfl rfl (.inr trivial) S) (fun fl s' hq _ => hq) fun _ _ x => x.elim
end
end Mine
open PySem PySem.W PyProof.Rows PySem.Calls
set_option linter.unusedVariables false
set_option maxRecDepth 100000
namespace Mine

abbrev lstO (vs : List Value) (n : Nat) : Obj := { cls := .type "list", data := .seq vs.toArray n }
abbrev bmO (l : Addr) : Obj := { cls := .type "builtin_function_or_method", data := .fields #[.builtin "list.append", .ref l] }

theorem tl_list_ga : typeLookup (.type "list") "__getattribute__" = pure (some (.builtin "list.__getattribute__")) := by rw [typeLookup_type, builtinLookup_eq_fast]; kernel_rfl
theorem bind_list_ga (v : Value) : bindSpecial (.builtin "list.__getattribute__") v = pure (.builtin "list.__getattribute__", [v]) := by
  have h : typeOf (.builtin "list.__getattribute__") = pure (.type "wrapper_descriptor") := by show builtinType _ = _; rw [builtinType_eq_fast]; kernel_rfl
  unfold bindSpecial
  rw [h]; rfl
theorem entry_list_ga : entryFor table "list.__getattribute__" = some Builtin.«object.__getattribute__» :=
  entryFor_alias (id' := "object.__getattribute__") (by kernel_rfl) (by first | rfl | decide +kernel | (unfold String.splitOn; simp +decide [String.splitOnAux])) (by decide +kernel) (by kernel_rfl)
theorem args_list_ga (a b : Value) : argsOk "list.__getattribute__" ⟨[a, b], []⟩ := by
  unfold argsOk; rw [signature?_of (id := "list.__getattribute__") (n := ['_', '_', 'e', 't', 'u', 'b', 'i', 'r', 't', 't', 'a', 't', 'e', 'g', '_', '_']) (o := ['t', 's', 'i', 'l']) (by kernel_rfl) F.owner_list]; kernel_rfl
theorem args_md_get (a b c : Value) : argsOk "method_descriptor.__get__" ⟨[a, b, c], []⟩ := by
  unfold argsOk; kernel_rfl
theorem slot_list_ga : Slot "list" "__getattribute__" "list.__getattribute__" :=
  .of (owner := "list") (n := "__getattribute__") (by rw [typeLookup_type, builtinLookup_eq_fast]; kernel_rfl) (by decide +kernel) (by decide +kernel) (by decide +kernel)
    (by first | exact .inl (by decide +kernel) | exact .inr (by decide +kernel)) (by rw [isSubtype_type]; kernel_rfl)
theorem tl_md_get : typeLookup (.type "method_descriptor") "__get__" = pure (some (.builtin "method_descriptor.__get__")) := by rw [typeLookup_type, builtinLookup_eq_fast]; kernel_rfl
theorem tl_md_set : typeLookup (.type "method_descriptor") "__set__" = pure none := by rw [typeLookup_type, builtinLookup_eq_fast]; kernel_rfl
theorem tl_md_del : typeLookup (.type "method_descriptor") "__delete__" = pure none := by rw [typeLookup_type, builtinLookup_eq_fast]; kernel_rfl
theorem slot_md_get : Slot "method_descriptor" "__get__" "method_descriptor.__get__" :=
  .of (owner := "method_descriptor") (n := "__get__") (by rw [typeLookup_type, builtinLookup_eq_fast]; kernel_rfl) (by decide +kernel) (by decide +kernel) (by decide +kernel)
    (by first | exact .inl (by decide +kernel) | exact .inr (by decide +kernel)) (by rw [isSubtype_type]; kernel_rfl)
theorem entry_md_get : entryFor table "method_descriptor.__get__" = some Builtin.«method_descriptor.__get__» := entryFor_of_tree (by kernel_rfl)

theorem st_list : isSubtype (.type "list") (.type "list") = pure true := by rw [isSubtype_type]; kernel_rfl
section
variable {prog : Program} {w : World} {A : Around} {E : Value → Shared → Prop} {s : Shared}
open Builtin.ObjectAttr

theorem md_get {l : Addr} {vs : List Value} {n : Nat} {Q : Value → Shared → Prop} (hl : s.heap.get? l = some (lstO vs n)) (h : Q (.ref s.heap.objs.size) { s with heap := s.heap.push (bmO l) }) :
    wpAny (model prog w) A (call (.builtin "method_descriptor.__get__") [.builtin "list.append", .ref l, .type "list"]) Q E s := by
  refine wpAny_call (codeAny_call_builtin (R := wants Q E) slot_md_get.plain entry_md_get (slot_md_get.check _ _ _ _ _ _ _ _ (show s.TypeIs (.builtin "list.append") "method_descriptor" from F.type_list_append) (args_md_get _ _ _) ?_))
  unfold Builtin.«method_descriptor.__get__»
  refine wpAny_bind (wpAny_of_eq (a := (.builtin "list.append", some (.ref l), some (.type "list"))) (by rfl) ?_)
  dsimp only
  rw [if_neg (by decide +kernel)]
  refine wpAny_bind (wpAny_bind (wpAny_of_eq (a := (Str.ofString "append", .type "list")) (by kernel_rfl) ?_))
  dsimp only
  refine wpAny_bind (wpAny_isInstance (T := "list") (b := true) ⟨_, hl, rfl⟩ st_list ?_)
  simp only [Bool.not_true, Bool.false_eq_true, if_false]
  refine wpAny_pure ?_
  refine wpAny_bind (wpAny_newObj_type ?_ (by size_fits))
  exact wpAny_pure h

theorem find_append {l : Addr} {vs : List Value} {n : Nat} {Q : Found → Shared → Prop} (hl : s.heap.get? l = some (lstO vs n)) (h : Q (.bind (.builtin "method_descriptor.__get__") (.builtin "list.append")) s) :
    wpAny (model prog w) A (find (.ref l) (.type "list") (Str.ofString "append")) Q E s := by
  unfold find
  refine wpAny_bind (wpAny_of_eq F.slot_list_append.lookup ?_)
  unfold getOf
  refine wpAny_bind (wpAny_specialOf (show s.TypeIs (.builtin "list.append") "method_descriptor" from F.type_list_append) tl_md_get ?_)
  unfold dataDescriptor? takesStores
  refine wpAny_bind (wpAny_bind (wpAny_bind (wpAny_specialOf (show s.TypeIs (.builtin "list.append") "method_descriptor" from F.type_list_append) tl_md_set ?_)))
  rw [if_neg (by decide)]
  refine wpAny_bind (wpAny_specialOf (show s.TypeIs (.builtin "list.append") "method_descriptor" from F.type_list_append) tl_md_del ?_)
  refine wpAny_pure ?_
  rw [if_neg (by decide)]
  refine wpAny_pure ?_
  dsimp only
  unfold ownThenClass inOwnDict Builtin.ObjectAttr.ownDict loadHead
  refine wpAny_bind (wpAny_bind (wpAny_bind (wpAny_loadPart hl ?_)))
  dsimp only
  unfold instanceDict
  refine wpAny_bind (wpAny_loadPart hl ?_)
  dsimp only
  refine wpAny_pure ?_
  unfold inDict
  refine wpAny_pure ?_
  dsimp only
  unfold copiedAttributeGuard
  refine wpAny_bind ?_
  dsimp only
  rw [if_neg (by decide +kernel)]
  refine wpAny_pure ?_
  unfold byTheClass
  exact wpAny_bind (wpAny_rule (wpAny_pure h))

theorem ga_append {l : Addr} {vs : List Value} {n : Nat} {Q : Value → Shared → Prop} (hl : s.heap.get? l = some (lstO vs n)) (h : Q (.ref s.heap.objs.size) { s with heap := s.heap.push (bmO l), toks := s.toks + 1 }) :
    wpAny (model prog w) A (getAttr (.ref l) (Str.ofString "append") true) Q E s := by
  unfold getAttr getAttrBy
  refine wpAny_bind (wpAny_mkText (wpAny_holding ?_))
  have hT : ({ s with toks := s.toks + 1 } : Shared).TypeIs (.ref l) "list" := ⟨_, hl, rfl⟩
  refine wpAny_bind (wpAny_typeOf hT ?_)
  refine wpAny_bind (wpAny_of_eq tl_list_ga ?_)
  dsimp only
  rw [if_neg (by decide)]
  unfold getAttrByItsOwn hookBefore callGetattribute boundAndCalled
  rw [if_neg (by decide)]
  refine wpAny_bind (wpAny_pure ?_)
  refine wpAny_bind (wpAny_attempt (wpAny_holding ?_))
  rw [if_neg (by decide), bind_list_ga]
  refine wpAny_bind (wpAny_pure ?_)
  dsimp only [List.cons_append, List.nil_append]
  refine wpAny_call (codeAny_call_builtin (R := wants _ _) slot_list_ga.plain entry_list_ga (slot_list_ga.check _ _ _ _ _ _ _ _ hT (args_list_ga _ _) ?_))
  unfold Builtin.«object.__getattribute__»
  refine wpAny_bind (wpAny_of_eq (a := (.ref l, [.str (Str.ofString "append") s.toks])) (by rfl) ?_)
  dsimp only
  refine wpAny_bind (wpAny_of_eq (a := Str.ofString "append") (by rfl) ?_)
  refine wpAny_bind (wpAny_typeOf hT ?_)
  refine wpAny_bind (find_append hl ?_)
  dsimp only
  unfold bindTo
  dsimp only
  refine wpAny_bind (wpAny_holding (md_get hl ?_))
  refine wpAny_pure ?_
  exact wpAny_pure h
end
end Mine
open PySem PySem.W PyProof.Rows PySem.Calls
set_option linter.unusedVariables false
set_option maxRecDepth 100000
namespace Mine

/-! ## the bound append is called -/
theorem st_list_mod : isSubtype (.type "list") (.type "module") = pure false := by rw [isSubtype_type]; kernel_rfl
theorem sig_append : ∃ sig, Manifest.signature? "list.append" = some sig ∧ ∀ a b, Bind.checkArgs "list.append" { sig with full := s!"{Bind.lastOf "list"}.{Bind.lastOf "list.append"}" } ⟨[a, b], []⟩ = pure () :=
  ⟨_, signature?_of (id := "list.append") (n := ['d', 'n', 'e', 'p', 'p', 'a']) (o := ['t', 's', 'i', 'l']) (by kernel_rfl) F.owner_list, fun a b => by kernel_rfl⟩

section
variable {prog : Program} {w : World} {A : Around} {E : Value → Shared → Prop} {s : Shared}

theorem call_bm {b l : Addr} {vs : List Value} {n : Nat} {x : Value} {Q : Value → Shared → Prop} (hb : s.heap.get? b = some (bmO l)) (hl : s.heap.get? l = some (lstO vs n)) (hsz : vs.length ≤ sizeLine)
    (h : Q .none { s with heap := s.heap.update l (Obj.mapSeq fun a => a.push x) }) : wpAny (model prog w) A (call (.ref b) [x]) Q E s := by
  refine wpAny_call (codeAny_of_tree ?_)
  show wpAny _ _ (callAny (.ref b) _) _ _ _
  unfold callAny
  refine wpAny_bind (wpAny_loadPart hb ?_)
  dsimp only
  rw [if_pos (by decide)]
  show wpAny _ _ (checkBoundCall "list.append" ⟨[.ref l, x], []⟩ >>= fun _ => again (.builtin "list.append" ⟨[.ref l, x], []⟩)) _ _ _
  obtain ⟨sig, e1, e2⟩ := sig_append
  have hT : s.TypeIs (.ref l) "list" := ⟨_, hl, rfl⟩
  refine wpAny_bind ?_
  unfold checkBoundCall
  rw [e1]
  dsimp only
  rw [show builtinKind "list.append" = some .method from by decide +kernel]
  dsimp only
  rw [if_neg (by decide)]
  refine wpAny_bind (wpAny_isInstance (b := false) hT st_list_mod ?_)
  rw [if_neg (by decide +kernel)]
  refine wpAny_bind ?_
  unfold isType loadHead
  refine wpAny_bind (wpAny_loadPart hl ?_)
  refine wpAny_pure ?_
  rw [if_neg (by exact Bool.false_ne_true)]
  refine wpAny_bind (wpAny_typeOf hT ?_)
  dsimp only
  rw [e2]
  refine wpAny_pure ?_
  refine wpAny_pure ⟨Code.quiet_builtin _ (by decide +kernel), codeAny_builtin F.entry_list_append ?_⟩
  rw [Around.under_plain (by rfl) (by rfl)]
  have g := list_append l vs.toArray n x (by rw [List.size_toArray]; exact hsz) prog w A (fun r s' =>
                  match r with
                  | Except.ok (Flow.ret v) => Q v s'
                  | Except.ok a => False
                  | Except.error e => E e s') s ⟨hl, h⟩
  exact g
end
end Mine
open PySem PySem.W PyProof.Rows PySem.Calls
set_option linter.unusedVariables false
set_option maxRecDepth 100000
namespace Mine
open Sre

/-- the machine halts within n steps as m' -/
def Halts (m : M) (k : Nat) (m' : M) : Prop := ∃ n, n ≤ k ∧ M.runFor n m = m' ∧ m'.outcome.isSome = true

theorem runFor_done : ∀ (n : Nat) (m : M), m.outcome.isSome = true → M.runFor n m = m
  | 0, _, _ => rfl
  | n + 1, m, h => by simp only [M.runFor, h, if_true]
theorem runFor_succ {n : Nat} {m : M} (h : m.outcome = none) : M.runFor (n + 1) m = M.runFor n m.step := by
  simp only [M.runFor, h, Option.isSome_none, Bool.false_eq_true, if_false]
theorem runFor_add : ∀ (a b : Nat) (m : M), M.runFor (a + b) m = M.runFor b (M.runFor a m)
  | 0, b, m => by simp [M.runFor]
  | a + 1, b, m => by
    by_cases h : m.outcome.isSome = true
    · rw [runFor_done _ _ h, runFor_done _ _ h, runFor_done _ _ h]
    · have h' : m.outcome = none := by simpa using h
      rw [Nat.add_right_comm, runFor_succ h', runFor_succ h', runFor_add a b]
theorem Halts.step {m m' : M} {k : Nat} (h : m.outcome = none) (x : Halts m.step k m') : Halts m (k + 1) m' := by
  obtain ⟨n, hn, e, o⟩ := x
  exact ⟨n + 1, by omega, by rw [runFor_succ h]; exact e, o⟩
theorem Halts.done {m : M} {k : Nat} (h : m.outcome.isSome = true) : Halts m k m := ⟨0, Nat.zero_le _, rfl, h⟩
theorem Halts.mono {m m' : M} {k k' : Nat} (x : Halts m k m') (h : k ≤ k') : Halts m k' m' := let ⟨n, a, b⟩ := x; ⟨n, Nat.le_trans a h, b⟩
theorem Halts.eq {m m' m'' : M} {k : Nat} (e : m = m'') (x : Halts m'' k m') : Halts m k m' := e ▸ x

def code2 : Array Nat := #[14, 9, 4, 1, 2, 16, 10, 16, 13, 0, 7, 7, 16, 13, 16, 10, 15, 18, 5, 16, 10, 15, 13, 11, 16, 13, 5, 5, 0, 16, 10, 1, 15, 2, 0, 1]

/-- the first line end from s on -/
def eol (text : Array Nat) : (fuel s : Nat) → Option Nat
  | 0, _ => none
  | f + 1, s => if s ≥ text.size then none else if text.getD s 0 = 10 ∨ text.getD s 0 = 13 then some s else eol text f (s + 1)

theorem inSet2 (c : Nat) (seen : Sre.Seen) : ∃ seen', inSet code2 c code2.size 5 true seen = .ok (decide (c = 10 ∨ c = 13), seen') := by
  have e : inSet code2 c code2.size 5 true seen = (if c == 10 then .ok (true, seen.add 16) else if c == 13 then .ok (true, (seen.add 16).add 16) else .ok (false, ((seen.add 16).add 16).add 0)) := by rfl
  rw [e]
  by_cases h : c = 10
  · subst h; exact ⟨_, by simp; rfl⟩
  · by_cases h2 : c = 13
    · subst h2; exact ⟨_, by simp; rfl⟩
    · exact ⟨_, by simp [h, h2]; rfl⟩

section
variable {m : M}
theorem step_exec (h1 : m.outcome = none) (h2 : m.answer = none) (h3 : m.pc < m.code.size) : m.step = m.exec := by
  unfold M.step
  simp only [h1, h2, Option.isSome_none, Bool.false_eq_true, if_false, h3, if_true]
theorem step_back {f : Sre.Frame} {r : List Sre.Frame} {b : Bool} (h1 : m.outcome = none) (h2 : m.answer = some b) (h3 : m.frames = f :: r) :
    m.step = M.resume { m with answer := none, frames := r, weight := m.weight - (1 + f.kept.marks.size), pc := f.pc, pos := f.pos, outermost := f.outermost } f b := by
  unfold M.step
  simp only [h1, h2, h3, Option.isSome_none, Bool.false_eq_true, if_false]
theorem step_end {b : Bool} (h1 : m.outcome = none) (h2 : m.answer = some b) (h3 : m.frames = []) : m.step = { m with outcome := some (if b then .matched else .failed) } := by
  unfold M.step
  simp only [h1, h2, h3, Option.isSome_none, Bool.false_eq_true, if_false]
theorem exec_lit (h : ops[m.word 0]? = some .LITERAL) : m.exec = if m.pos ≥ m.lim then M.say { m with seen := m.seen.add (m.word 0) } false else
    if m.text.getD m.pos 0 == m.code.getD (m.pc + 1) 0 then { m with seen := m.seen.add (m.word 0), pc := m.pc + 2, pos := m.pos + 1 } else M.say { m with seen := m.seen.add (m.word 0) } false := by
  have h' : ops[m.code.getD m.pc 0]? = some .LITERAL := h
  unfold M.exec
  rw [h]
  simp only [accepts, itemWidth, h']
  split
  · rfl
  · cases hb : (m.text.getD m.pos 0 == m.code.getD (m.pc + 1) 0) <;> simp
theorem exec_jump (h : ops[m.word 0]? = some .JUMP) : m.exec = { m with seen := m.seen.add (m.word 0), pc := m.pc + 1 + m.word 1 } := by
  unfold M.exec; rw [h]; rfl
theorem exec_branch (h : ops[m.word 0]? = some .BRANCH) : m.exec = M.alternative { m with seen := m.seen.add (m.word 0) } (m.pc + 1) (M.keep { m with seen := m.seen.add (m.word 0) } m.inner.isSome) := by
  unfold M.exec; rw [h]
theorem exec_success (h : ops[m.word 0]? = some .SUCCESS) (h1 : m.wholeText = false) (h2 : m.mustAdvance = false ∨ m.pos ≠ m.start ∨ m.outermost = false) : m.exec = M.say { m with seen := m.seen.add (m.word 0), handed := m.pos } true := by
  unfold M.exec; rw [h]
  have : (m.outermost && ((m.wholeText && m.pos != m.lim) || (m.mustAdvance && m.pos == m.start))) = false := by
    rw [h1]
    rcases h2 with h2 | h2 | h2
    · rw [h2]; simp
    · have : (m.pos == m.start) = false := by simpa using h2
      rw [this]; simp
    · rw [h2]; simp
  simp only [this, Bool.false_eq_true, if_false]
theorem exec_lookNot (h : ops[m.word 0]? = some .ASSERT_NOT) (h0 : m.word 2 = 0) : m.exec =
    M.attempt { m with seen := m.seen.add (m.word 0) } { M.frame { m with seen := m.seen.add (m.word 0) } .lookNot with kept := M.keep { m with seen := m.seen.add (m.word 0) } (true && m.inner.isSome) } (m.pc + 3) m.pos false := by
  have h0' : M.word { m with seen := m.seen.add (m.word 0) } 2 = 0 := h0
  unfold M.exec; rw [h]
  simp only [h0', Nat.not_lt_zero, if_false, if_true, Nat.sub_zero]
theorem exec_bol (h : ops[m.word 0]? = some .AT) (h1 : m.word 1 = 1) : m.exec = if (m.pos == 0 || m.text.getD (m.pos - 1) 0 == 10) then { m with seen := (m.seen.add (m.word 0)).add 44, pc := m.pc + 2 } else
    M.say { m with seen := (m.seen.add (m.word 0)).add 44 } false := by
  have h1' : M.word { m with seen := m.seen.add (m.word 0) } 1 = 1 := h1
  unfold M.exec; rw [h]
  simp only [h1', M.isAt]
end

theorem forSearch2 (text : Array Nat) (p : Nat) : forSearch code2 text 0 p text.size false =
    if (p > text.size || text.size - p < 1) = true then
      M.say { code := code2, text, lim := text.size, start := p, pc := 10, pos := p, handed := p, marks := #[], mustAdvance := false, seen := ({} : Sre.Seen).add 14 } false
    else M.attemptFrom { code := code2, text, lim := text.size, start := p, pc := 10, pos := p, handed := p, marks := #[], mustAdvance := false, seen := ({} : Sre.Seen).add 14, lastStart := text.size } p true := by rfl

theorem admitted2 (m : M) (text : Array Nat) (hc : m.code = code2) (ht : m.text = text) (hl : m.lim = text.size) : ∀ (f s : Nat) (seen : Sre.Seen), ∃ seen', M.admitted m f s seen = .ok (eol text f s, seen')
  | 0, s, seen => ⟨seen, rfl⟩
  | f + 1, s, seen => by
    unfold M.admitted eol
    rw [hl]
    by_cases h : s ≥ text.size
    · exact ⟨seen, by rw [if_pos h, if_pos h]⟩
    · rw [if_neg h, if_neg h, hc, ht]
      obtain ⟨seen1, e⟩ := inSet2 (text.getD s 0) seen
      rw [e]
      by_cases q : text.getD s 0 = 10 ∨ text.getD s 0 = 13
      · exact ⟨seen1, by simp only [decide_eq_true q, if_pos q]⟩
      · obtain ⟨seen2, e2⟩ := admitted2 m text hc ht hl f (s + 1) seen1
        exact ⟨seen2, by simp only [decide_eq_false q, if_neg q]; exact e2⟩

/-- how long the line end at s is -/
def eolLen (text : Array Nat) (s : Nat) : Nat := if text.getD s 0 = 13 ∧ s + 1 < text.size ∧ text.getD (s + 1) 0 = 10 then 2 else 1

/-- the machine halts within k steps, and P is so of it then -/
def Ends (P : M → Prop) (m : M) (k : Nat) : Prop := ∃ m', Halts m k m' ∧ P m'
theorem Ends.mono {P : M → Prop} {m : M} {k k' : Nat} (x : Ends P m k) (h : k ≤ k') : Ends P m k' := let ⟨m', a, b⟩ := x; ⟨m', a.mono h, b⟩
theorem Ends.step {P : M → Prop} {m m₁ : M} {k : Nat} (h : m.outcome = none) (e : m.step = m₁) (x : Ends P m₁ k) : Ends P m (k + 1) := let ⟨m', a, b⟩ := x; ⟨m', Halts.step h (e ▸ a), b⟩

section
variable {m : M} {k : Nat} {P : M → Prop}
theorem lit_yes (h1 : m.outcome = none) (h2 : m.answer = none) (h3 : Nat.blt m.pc m.code.size = true) (h : ops[m.word 0]? = some .LITERAL) (hp : m.pos < m.lim) (hc : m.text.getD m.pos 0 = m.code.getD (m.pc + 1) 0)
    (x : ∀ seen, Ends P { m with seen := seen, pc := m.pc + 2, pos := m.pos + 1 } k) : Ends P m (k + 1) := by
  refine Ends.step h1 ((step_exec h1 h2 (Nat.le_of_ble_eq_true h3)).trans (exec_lit h)) ?_
  rw [if_neg (by omega), if_pos (by simpa using hc)]
  exact x _
theorem lit_no (h1 : m.outcome = none) (h2 : m.answer = none) (h3 : Nat.blt m.pc m.code.size = true) (h : ops[m.word 0]? = some .LITERAL) (hc : m.pos < m.lim → m.text.getD m.pos 0 ≠ m.code.getD (m.pc + 1) 0)
    (x : ∀ seen, Ends P { m with seen := seen, answer := some false } k) : Ends P m (k + 1) := by
  refine Ends.step h1 ((step_exec h1 h2 (Nat.le_of_ble_eq_true h3)).trans (exec_lit h)) ?_
  by_cases hp : m.pos ≥ m.lim
  · rw [if_pos hp]; exact x _
  · rw [if_neg hp, if_neg (by simpa using hc (by omega))]; exact x _
theorem go_jump (h1 : m.outcome = none) (h2 : m.answer = none) (h3 : Nat.blt m.pc m.code.size = true) (h : ops[m.word 0]? = some .JUMP)
    (x : ∀ seen, Ends P { m with seen := seen, pc := m.pc + 1 + m.word 1 } k) : Ends P m (k + 1) :=
  Ends.step h1 ((step_exec h1 h2 (Nat.le_of_ble_eq_true h3)).trans (exec_jump h)) (x _)
theorem go_success (h1 : m.outcome = none) (h2 : m.answer = none) (h3 : Nat.blt m.pc m.code.size = true) (h : ops[m.word 0]? = some .SUCCESS) (hw : m.wholeText = false) (hm : m.mustAdvance = false ∨ m.pos ≠ m.start ∨ m.outermost = false)
    (x : ∀ seen, Ends P { m with seen := seen, handed := m.pos, answer := some true } k) : Ends P m (k + 1) :=
  Ends.step h1 ((step_exec h1 h2 (Nat.le_of_ble_eq_true h3)).trans (exec_success h hw hm)) (x _)
theorem alt_go {alt : Nat} {kept : Sre.Kept} (h : Nat.ble 1 (m.code.getD alt 0) = true) (hz : kept.marks.size = 0) (hw : Nat.ble (m.weight + 1) 16777216 = true)
    (x : Ends P { m with frames := { wait := .nextBranch, pc := alt, pos := m.pos, outermost := m.outermost, kept } :: m.frames, weight := m.weight + 1, pc := alt + 1, pos := m.pos, handed := m.pos, outermost := m.outermost } k) :
    Ends P (m.alternative alt kept) k := by
  have h0 := Nat.le_of_ble_eq_true h
  have hw := Nat.le_of_ble_eq_true hw
  unfold M.alternative
  rw [if_neg (by have : m.code.getD alt 0 ≠ 0 := by omega
                 simpa using this)]
  unfold M.attempt
  rw [if_neg (by show ¬ (m.weight + 1 + kept.marks.size > 16777216); omega)]
  have e : m.weight + 1 + kept.marks.size = m.weight + 1 := by omega
  show Ends P { m with frames := { wait := .nextBranch, pc := alt, pos := m.pos, outermost := m.outermost, kept } :: m.frames, weight := m.weight + 1 + kept.marks.size, pc := alt + 1, pos := m.pos, handed := m.pos, outermost := m.outermost } k
  rw [e]
  exact x
theorem go_branch (h1 : m.outcome = none) (h2 : m.answer = none) (h3 : Nat.blt m.pc m.code.size = true) (h : ops[m.word 0]? = some .BRANCH) (hi : m.inner = none)
    (x : ∀ seen, Ends P (M.alternative { m with seen := seen } (m.pc + 1) { lastmark := m.lastmark, lastindex := m.lastindex }) k) : Ends P m (k + 1) := by
  refine Ends.step h1 ((step_exec h1 h2 (Nat.le_of_ble_eq_true h3)).trans (exec_branch h)) ?_
  have hk : M.keep { m with seen := m.seen.add (m.word 0) } m.inner.isSome = { lastmark := m.lastmark, lastindex := m.lastindex } := by rw [hi]; rfl
  rw [hk]
  exact x _
theorem go_lookNot (h1 : m.outcome = none) (h2 : m.answer = none) (h3 : Nat.blt m.pc m.code.size = true) (h : ops[m.word 0]? = some .ASSERT_NOT) (h0 : m.word 2 = 0) (hi : m.inner = none) (hw : Nat.ble (m.weight + 1) 16777216 = true)
    (x : ∀ seen, Ends P { m with seen := seen, frames := { wait := .lookNot, pc := m.pc, pos := m.pos, outermost := m.outermost, kept := { lastmark := m.lastmark, lastindex := m.lastindex } } :: m.frames, weight := m.weight + 1, pc := m.pc + 3, pos := m.pos, handed := m.pos, outermost := false } k) : Ends P m (k + 1) := by
  have hw := Nat.le_of_ble_eq_true hw
  have hf : (true && m.inner.isSome) = false := by rw [hi]; rfl
  have hk : M.keep { m with seen := m.seen.add (m.word 0) } (true && m.inner.isSome) = { lastmark := m.lastmark, lastindex := m.lastindex } := by rw [hf]; rfl
  refine Ends.step h1 ((step_exec h1 h2 (Nat.le_of_ble_eq_true h3)).trans (exec_lookNot h h0)) ?_
  rw [hk]
  unfold M.attempt
  rw [if_neg (by show ¬ (m.weight + 1 + 0 > 16777216); omega)]
  exact x _
theorem back_yes {f : Sre.Frame} {r : List Sre.Frame} (h1 : m.outcome = none) (h2 : m.answer = some true) (h3 : m.frames = f :: r) (hf : f.wait = .nextBranch ∨ f.wait = .nextStart)
    (x : ∀ wt, Ends P { m with answer := some true, frames := r, weight := wt, pc := f.pc, pos := f.pos, outermost := f.outermost } k) : Ends P m (k + 1) := by
  refine Ends.step h1 (step_back h1 h2 h3) ?_
  unfold M.resume
  rcases hf with hf | hf <;> rw [hf] <;> exact x _
theorem back_no {f : Sre.Frame} {r : List Sre.Frame} (h1 : m.outcome = none) (h2 : m.answer = some false) (h3 : m.frames = f :: r) (hf : f.wait = .nextBranch) (hk : f.kept.whole = false) {wt : Nat} (hz : m.weight - (1 + f.kept.marks.size) = wt)
    (x : Ends P (M.alternative { m with answer := none, frames := r, weight := wt, pc := f.pc, pos := f.pos, outermost := f.outermost, lastmark := f.kept.lastmark, lastindex := f.kept.lastindex } (f.pc + m.code.getD f.pc 0) f.kept) k) : Ends P m (k + 1) := by
  refine Ends.step h1 (step_back h1 h2 h3) ?_
  unfold M.resume
  rw [hf, hz]
  simp only [M.putBack, hk, Bool.false_eq_true, if_false]
  exact x
theorem back_not {f : Sre.Frame} {r : List Sre.Frame} (h1 : m.outcome = none) (h2 : m.answer = some false) (h3 : m.frames = f :: r) (hf : f.wait = .lookNot) (hk : f.kept.whole = false) {wt : Nat} (hz : m.weight - (1 + f.kept.marks.size) = wt)
    (x : Ends P { m with answer := none, frames := r, weight := wt, pc := f.pc + 1 + m.code.getD (f.pc + 1) 0, pos := f.pos, outermost := f.outermost, lastmark := f.kept.lastmark, lastindex := f.kept.lastindex } k) : Ends P m (k + 1) := by
  refine Ends.step h1 (step_back h1 h2 h3) ?_
  unfold M.resume
  rw [hf, hz]
  simp only [M.putBack, hk, Bool.false_eq_true, if_false]
  exact x
theorem go_end {b : Bool} (h1 : m.outcome = none) (h2 : m.answer = some b) (h3 : m.frames = []) (x : P { m with outcome := some (if b then .matched else .failed) }) : Ends P m (k + 1) :=
  Ends.step h1 (step_end h1 h2 h3) ⟨_, Halts.done rfl, x⟩
end

def Found2 (s e : Nat) (m' : M) : Prop := m'.outcome = some .matched ∧ m'.start = s ∧ m'.handed = e

set_option maxHeartbeats 4000000 in
theorem search2_from (text : Array Nat) (s : Nat) (hs : s < text.size) (hc : text.getD s 0 = 10 ∨ text.getD s 0 = 13) (seen : Sre.Seen) :
    Ends (Found2 s (s + eolLen text s)) { code := code2, text, lim := text.size, start := s, lastStart := text.size, mustAdvance := false, pc := 10, pos := s, handed := s, marks := #[], frames := [{ wait := .nextStart, pc := 10, pos := s, outermost := true }], weight := 1, seen } 40 := by
  by_cases h13 : text.getD s 0 = 13
  · have n10 : text.getD s 0 ≠ 10 := by omega
    by_cases h2 : s + 1 < text.size ∧ text.getD (s + 1) 0 = 10
    · have hlen : eolLen text s = 2 := by unfold eolLen; rw [if_pos ⟨h13, h2⟩]
      rw [hlen]
      refine go_branch rfl rfl rfl rfl rfl fun _ => alt_go rfl rfl rfl ?_
      dsimp only
      refine lit_yes rfl rfl rfl rfl hs h13 fun _ => ?_
      dsimp only
      refine lit_yes rfl rfl rfl rfl h2.1 h2.2 fun _ => ?_
      dsimp only
      refine go_jump rfl rfl rfl rfl fun _ => ?_
      dsimp only
      refine go_success rfl rfl rfl rfl rfl (.inl rfl) fun _ => ?_
      dsimp only
      refine back_yes rfl rfl rfl (.inl rfl) fun _ => ?_
      dsimp only
      refine back_yes rfl rfl rfl (.inr rfl) fun _ => ?_
      dsimp only
      exact go_end rfl rfl rfl ⟨rfl, rfl, rfl⟩
    · have hlen : eolLen text s = 1 := by unfold eolLen; rw [if_neg (fun q => h2 q.2)]
      rw [hlen]
      refine go_branch rfl rfl rfl rfl rfl fun _ => alt_go rfl rfl rfl ?_
      dsimp only
      refine lit_yes rfl rfl rfl rfl hs h13 fun _ => ?_
      dsimp only
      refine lit_no rfl rfl rfl rfl (fun q e => h2 ⟨q, e⟩) fun _ => ?_
      dsimp only
      refine back_no rfl rfl rfl rfl rfl rfl (alt_go rfl rfl rfl ?_)
      dsimp only
      refine lit_no rfl rfl rfl rfl (fun _ => n10) fun _ => ?_
      dsimp only
      refine back_no rfl rfl rfl rfl rfl rfl (alt_go rfl rfl rfl ?_)
      dsimp only
      refine lit_yes rfl rfl rfl rfl hs h13 fun _ => ?_
      dsimp only
      refine go_lookNot rfl rfl rfl rfl rfl rfl rfl fun _ => ?_
      dsimp only
      refine lit_no rfl rfl rfl rfl (fun q e => h2 ⟨q, e⟩) fun _ => ?_
      dsimp only
      refine back_not rfl rfl rfl rfl rfl rfl ?_
      dsimp only
      refine go_jump rfl rfl rfl rfl fun _ => ?_
      dsimp only
      refine go_success rfl rfl rfl rfl rfl (.inl rfl) fun _ => ?_
      dsimp only
      refine back_yes rfl rfl rfl (.inl rfl) fun _ => ?_
      dsimp only
      refine back_yes rfl rfl rfl (.inr rfl) fun _ => ?_
      dsimp only
      exact go_end rfl rfl rfl ⟨rfl, rfl, rfl⟩
  · have h10 : text.getD s 0 = 10 := hc.resolve_right h13
    have hlen : eolLen text s = 1 := by unfold eolLen; rw [if_neg (fun q => h13 q.1)]
    rw [hlen]
    refine go_branch rfl rfl rfl rfl rfl fun _ => alt_go rfl rfl rfl ?_
    dsimp only
    refine lit_no rfl rfl rfl rfl (fun _ => h13) fun _ => ?_
    dsimp only
    refine back_no rfl rfl rfl rfl rfl rfl (alt_go rfl rfl rfl ?_)
    dsimp only
    refine lit_yes rfl rfl rfl rfl hs h10 fun _ => ?_
    dsimp only
    refine go_jump rfl rfl rfl rfl fun _ => ?_
    dsimp only
    refine go_success rfl rfl rfl rfl rfl (.inl rfl) fun _ => ?_
    dsimp only
    refine back_yes rfl rfl rfl (.inl rfl) fun _ => ?_
    dsimp only
    refine back_yes rfl rfl rfl (.inr rfl) fun _ => ?_
    dsimp only
    exact go_end rfl rfl rfl ⟨rfl, rfl, rfl⟩

theorem eol_some {text : Array Nat} : ∀ {f p s : Nat}, eol text f p = some s → p ≤ s ∧ s < text.size ∧ (text.getD s 0 = 10 ∨ text.getD s 0 = 13)
  | 0, _, _, h => by simp [eol] at h
  | f + 1, p, s, h => by
    unfold eol at h
    split at h
    · cases h
    · split at h
      · cases h; rename_i a b; exact ⟨Nat.le_refl _, by omega, b⟩
      · obtain ⟨a, b⟩ := eol_some h
        exact ⟨by omega, b⟩

/-- what a search gives: the place that is found, or none -/
def SearchIs (o : Option (Nat × Nat)) (m' : M) : Prop := match o with
  | none => m'.outcome = some .failed
  | some (s, e) => Found2 s e m'
def find2 (text : Array Nat) (p : Nat) : Option (Nat × Nat) :=
  if p > text.size ∨ text.size - p < 1 then none else (eol text (text.size + 1 - p) p).map fun s => (s, s + eolLen text s)

/-- the search of the line ends from p on -/
theorem search2 (text : Array Nat) (p : Nat) : Ends (SearchIs (find2 text p)) (forSearch code2 text 0 p text.size false) 50 := by
  rw [forSearch2]
  unfold find2
  by_cases h : p > text.size ∨ text.size - p < 1
  · rw [if_pos h, if_pos (by simpa using h)]
    exact go_end rfl rfl rfl rfl
  · rw [if_neg h, if_neg (by simpa using h)]
    unfold M.attemptFrom
    rw [if_neg (by show ¬ ((!true) = true); decide)]
    obtain ⟨seen', e⟩ := admitted2 { code := code2, text, lim := text.size, start := p, pc := 10, pos := p, handed := p, marks := #[], mustAdvance := false, seen := ({} : Sre.Seen).add 14, lastStart := text.size } text rfl rfl rfl (text.size + 1 - p) p (({} : Sre.Seen).add 14)
    have e' : M.admitted { code := code2, text, lim := text.size, start := p, pc := 10, pos := p, handed := p, marks := #[], mustAdvance := false, seen := ({} : Sre.Seen).add 14, lastStart := text.size } (text.size + 1 - p) p (({} : Sre.Seen).add 14) = _ := e
    simp only [e']
    cases q : eol text (text.size + 1 - p) p with
    | none => exact go_end rfl rfl rfl rfl
    | some s =>
      obtain ⟨_, hs, hc⟩ := eol_some q
      exact (search2_from text s hs hc seen').mono (by decide)
end Mine
open PySem PySem.W PyProof.Rows PySem.Calls
set_option linter.unusedVariables false
set_option maxRecDepth 100000
namespace Mine
open Sre

def code1 : Array Nat := #[14, 4, 0, 1, 1, 6, 1, 16, 46, 1]
def atBol (text : Array Nat) (s : Nat) : Bool := s == 0 || text.getD (s - 1) 0 == 10
/-- the first dot at a row's head from s on -/
def dotAt (text : Array Nat) : (fuel s : Nat) → Option Nat
  | 0, _ => none
  | f + 1, s => if s ≥ text.size then none else if atBol text s = true ∧ text.getD s 0 = 46 then some s else dotAt text f (s + 1)

theorem forSearch1 (text : Array Nat) (p : Nat) : forSearch code1 text 0 p text.size false =
    if (p > text.size || text.size - p < 1) = true then
      M.say { code := code1, text, lim := text.size, start := p, pc := 5, pos := p, handed := p, marks := #[], mustAdvance := false, seen := ({} : Sre.Seen).add 14 } false
    else M.attemptFrom { code := code1, text, lim := text.size, start := p, pc := 5, pos := p, handed := p, marks := #[], mustAdvance := false, seen := ({} : Sre.Seen).add 14, lastStart := text.size } p true := by rfl

section
variable {m : M} {k : Nat} {P : M → Prop}
theorem bol_yes (h1 : m.outcome = none) (h2 : m.answer = none) (h3 : Nat.blt m.pc m.code.size = true) (h : ops[m.word 0]? = some .AT) (hw : m.word 1 = 1) (hb : atBol m.text m.pos = true)
    (x : ∀ seen, Ends P { m with seen := seen, pc := m.pc + 2 } k) : Ends P m (k + 1) := by
  refine Ends.step h1 ((step_exec h1 h2 (Nat.le_of_ble_eq_true h3)).trans (exec_bol h hw)) ?_
  have hb' : (m.pos == 0 || m.text.getD (m.pos - 1) 0 == 10) = true := hb
  rw [if_pos hb']
  exact x _
theorem bol_no (h1 : m.outcome = none) (h2 : m.answer = none) (h3 : Nat.blt m.pc m.code.size = true) (h : ops[m.word 0]? = some .AT) (hw : m.word 1 = 1) (hb : atBol m.text m.pos = false)
    (x : ∀ seen, Ends P { m with seen := seen, answer := some false } k) : Ends P m (k + 1) := by
  refine Ends.step h1 ((step_exec h1 h2 (Nat.le_of_ble_eq_true h3)).trans (exec_bol h hw)) ?_
  have hb' : ¬ ((m.pos == 0 || m.text.getD (m.pos - 1) 0 == 10) = true) := by
    have : (m.pos == 0 || m.text.getD (m.pos - 1) 0 == 10) = false := hb
    rw [this]; decide
  rw [if_neg hb']
  exact x _
end

def mk1 (text : Array Nat) (s : Nat) (first : Bool) (seen : Sre.Seen) : M :=
  { code := code1, text, lim := text.size, start := s, lastStart := text.size, pc := 5, pos := s, handed := s, outermost := first, marks := #[], frames := [{ wait := .nextStart, pc := 5, pos := s, outermost := first }], weight := 1, seen }

set_option maxHeartbeats 4000000 in
theorem start1 (text : Array Nat) (s : Nat) (first : Bool) (seen : Sre.Seen) (pos handed st : Nat) (om : Bool) :
    M.attemptFrom { code := code1, text, lim := text.size, start := st, lastStart := text.size, pc := 5, pos, handed, outermost := om, marks := #[], seen } s first = mk1 text s first seen := by rfl

set_option maxHeartbeats 4000000 in
theorem search1_from (text : Array Nat) : ∀ (f s : Nat) (first : Bool) (seen : Sre.Seen), text.size + 1 - s = f → s ≤ text.size →
    Ends (SearchIs ((dotAt text f s).map fun s => (s, s + 1))) (mk1 text s first seen) (4 * f + 10)
  | 0, s, first, seen, hf, hs => by omega
  | f + 1, s, first, seen, hf, hs => by
    have back : ∀ (m : M) (k : Nat), 4 * f + 10 ≤ k → (dotAt text (f + 1) s = if s ≥ text.size then none else dotAt text f (s + 1)) → m.outcome = none → m.answer = some false → m.frames = [{ wait := .nextStart, pc := 5, pos := s, outermost := first }] →
        (∀ seen₁, { m with answer := none, frames := [], weight := 0, pc := 5, pos := s, outermost := first, mustAdvance := false, seen := seen₁ } = { code := code1, text, lim := text.size, start := s, lastStart := text.size, pc := 5, pos := s, handed := s, outermost := first, marks := #[], seen := seen₁ }) → m.weight = 1 →
        Ends (SearchIs ((dotAt text (f + 1) s).map fun s => (s, s + 1))) m (k + 2) := by
      intro m k hk hd h1 h2 h3 h4 h5
      refine Ends.step h1 (step_back h1 h2 h3) ?_
      unfold M.resume
      have hm := h4 m.seen
      have hls : m.lastStart = text.size := by have := congrArg M.lastStart hm; exact this
      simp only [Bool.false_eq_true, if_false]
      rw [hd]
      by_cases h : s ≥ text.size
      · rw [if_pos h, if_neg (by rw [hls]; omega)]
        refine go_end (m := M.say _ false) ?_ rfl ?_ ?_
        · exact h1
        · rfl
        · rfl
      · rw [if_neg h, if_pos (by rw [hls]; omega)]
        have e : ({ m with answer := none, frames := [], weight := m.weight - (1 + (#[] : Array (Option Nat)).size), pc := 5, pos := s, outermost := first, mustAdvance := false } : M) = { code := code1, text, lim := text.size, start := s, lastStart := text.size, pc := 5, pos := s, handed := s, outermost := first, marks := #[], seen := m.seen } := by
          rw [h5]; exact hm
        have g := (search1_from text f (s + 1) false m.seen (by omega) (by omega)).mono (show 4 * f + 10 ≤ k + 1 by omega)
        rw [← start1 text (s + 1) false m.seen s s s first] at g
        rw [← e] at g
        exact g
    have hd : dotAt text (f + 1) s = if s ≥ text.size then none else if atBol text s = true ∧ text.getD s 0 = 46 then some s else dotAt text f (s + 1) := rfl
    cases hb : atBol text s with
    | false =>
      have hd' : dotAt text (f + 1) s = if s ≥ text.size then none else dotAt text f (s + 1) := by
        rw [hd, hb]; simp
      refine Ends.mono (bol_no (k := 4 * f + 12) rfl rfl rfl rfl rfl hb fun seen₁ => ?_) (by omega)
      exact back _ _ (Nat.le_refl _) hd' rfl rfl rfl (fun _ => rfl) rfl
    | true =>
      by_cases hc : s < text.size ∧ text.getD s 0 = 46
      · have hd' : dotAt text (f + 1) s = some s := by
          rw [hd, if_neg (by omega), if_pos ⟨hb, hc.2⟩]
        rw [hd']
        refine Ends.mono (k := 10) ?_ (by omega)
        refine bol_yes rfl rfl rfl rfl rfl hb fun _ => ?_
        dsimp only [mk1]
        refine lit_yes rfl rfl rfl rfl hc.1 hc.2 fun _ => ?_
        dsimp only
        refine go_success rfl rfl rfl rfl rfl (.inl rfl) fun _ => ?_
        dsimp only
        refine back_yes rfl rfl rfl (.inr rfl) fun _ => ?_
        dsimp only
        exact go_end rfl rfl rfl ⟨rfl, rfl, rfl⟩
      · have hd' : dotAt text (f + 1) s = if s ≥ text.size then none else dotAt text f (s + 1) := by
          rw [hd, hb]
          by_cases h : s ≥ text.size
          · rw [if_pos h, if_pos h]
          · rw [if_neg h, if_neg h, if_neg (fun q => hc ⟨by omega, q.2⟩)]
        refine Ends.mono (bol_yes (k := 4 * f + 13) rfl rfl rfl rfl rfl hb fun seen₁ => ?_) (by omega)
        refine lit_no (k := 4 * f + 12) rfl rfl rfl rfl (fun q e => hc ⟨q, e⟩) fun seen₂ => ?_
        refine Ends.mono (k := 4 * f + 10 + 2) ?_ (by omega)
        exact back _ _ (Nat.le_refl _) hd' rfl rfl rfl (fun _ => rfl) rfl

def find1 (text : Array Nat) (p : Nat) : Option (Nat × Nat) :=
  if p > text.size ∨ text.size - p < 1 then none else (dotAt text (text.size + 1 - p) p).map fun s => (s, s + 1)

theorem search1 (text : Array Nat) (p : Nat) : Ends (SearchIs (find1 text p)) (forSearch code1 text 0 p text.size false) (4 * text.size + 14) := by
  rw [forSearch1]
  unfold find1
  by_cases h : p > text.size ∨ text.size - p < 1
  · rw [if_pos h, if_pos (by simpa using h)]
    exact go_end rfl rfl rfl rfl
  · rw [if_neg h, if_neg (by simpa using h)]
    exact (search1_from text (text.size + 1 - p) p true _ rfl (by omega)).mono (by omega)
end Mine
open PySem PySem.W PyProof.Rows PySem.Calls
set_option linter.unusedVariables false
set_option maxRecDepth 100000
namespace Mine
open Sre

/-! ## the third pattern: none of its three signs -/
def code0 : Array Nat := #[14, 14, 4, 1, 1, 9, 0, 64, 0, 1342177280, 0, 0, 0, 0, 0, 17, 0, 13, 11, 9, 0, 64, 0, 1342177280, 0, 0, 0, 0, 0, 17, 1, 1]
def plain0 (c : Nat) : Bool := c != 38 && c != 124 && c != 126
theorem bits0 : ∀ c < 256, plain0 c = true → (code0.getD (5 + (1 + c / 32)) 0).testBit (c % 32) = false := by decide +kernel
theorem inSet0 (c : Nat) (seen : Sre.Seen) (h : plain0 c = true) : ∃ seen', inSet code0 c code0.size 5 true seen = .ok (false, seen') := by
  have e : inSet code0 c code0.size 5 true seen = (if (c < 256 && (code0.getD (5 + (1 + c / 32)) 0).testBit (c % 32)) = true then .ok (true, seen.add 9) else .ok (false, (seen.add 9).add 0)) := by rfl
  rw [e]
  by_cases hc : c < 256
  · rw [bits0 c hc h]; exact ⟨_, by simp; rfl⟩
  · rw [decide_eq_false hc]; exact ⟨_, by simp; rfl⟩
theorem forSearch0 (text : Array Nat) (p : Nat) : forSearch code0 text 1 p text.size false =
    if (p > text.size || text.size - p < 1) = true then
      M.say { code := code0, text, lim := text.size, start := p, pc := 15, pos := p, handed := p, marks := Array.replicate 2 none, mustAdvance := false, seen := ({} : Sre.Seen).add 14 } false
    else M.attemptFrom { code := code0, text, lim := text.size, start := p, pc := 15, pos := p, handed := p, marks := Array.replicate 2 none, mustAdvance := false, seen := ({} : Sre.Seen).add 14, lastStart := text.size } p true := by rfl
theorem admitted0 (m : M) (text : Array Nat) (hc : m.code = code0) (ht : m.text = text) (hl : m.lim = text.size) (hp : ∀ i, i < text.size → plain0 (text.getD i 0) = true) : ∀ (f s : Nat) (seen : Sre.Seen), ∃ seen', M.admitted m f s seen = .ok (none, seen')
  | 0, s, seen => ⟨seen, rfl⟩
  | f + 1, s, seen => by
    unfold M.admitted
    rw [hl]
    by_cases h : s ≥ text.size
    · exact ⟨seen, by rw [if_pos h]⟩
    · rw [if_neg h, hc, ht]
      obtain ⟨seen1, e⟩ := inSet0 (text.getD s 0) seen (hp s (by omega))
      rw [e]
      obtain ⟨seen2, e2⟩ := admitted0 m text hc ht hl hp f (s + 1) seen1
      exact ⟨seen2, e2⟩
theorem search0 (text : Array Nat) (p : Nat) (hp : ∀ i, i < text.size → plain0 (text.getD i 0) = true) : Ends (SearchIs none) (forSearch code0 text 1 p text.size false) 50 := by
  rw [forSearch0]
  by_cases h : p > text.size ∨ text.size - p < 1
  · rw [if_pos (by simpa using h)]
    exact go_end rfl rfl rfl rfl
  · rw [if_neg (by simpa using h)]
    unfold M.attemptFrom
    rw [if_neg (by show ¬ ((!true) = true); decide)]
    obtain ⟨seen', e⟩ := admitted0 { code := code0, text, lim := text.size, start := p, pc := 15, pos := p, handed := p, marks := Array.replicate 2 none, mustAdvance := false, seen := ({} : Sre.Seen).add 14, lastStart := text.size } text rfl rfl rfl hp (text.size + 1 - p) p (({} : Sre.Seen).add 14)
    have e' : M.admitted { code := code0, text, lim := text.size, start := p, pc := 15, pos := p, handed := p, marks := Array.replicate 2 none, mustAdvance := false, seen := ({} : Sre.Seen).add 14, lastStart := text.size } (text.size + 1 - p) p (({} : Sre.Seen).add 14) = _ := e
    simp only [e']
    exact go_end rfl rfl rfl rfl

/-! ## the drive -/
section
variable {Mo : Model} {A : Around} {E : Value → Shared → Prop} {s : Shared}

theorem wpAny_forIn_skip {α β : Type} {Q : β → Shared → Prop} (f : α → β → Sem (ForInStep β)) (hf : ∀ a c (Q' : ForInStep β → Shared → Prop), Q' (.yield c) s → wpAny Mo A (f a c) Q' E s) :
    ∀ (l : List α) (c : β), Q c s → wpAny Mo A (forIn l c f) Q E s
  | [], c, h => by rw [List.forIn_nil]; exact wpAny_pure h
  | a :: l, c, h => by
    rw [List.forIn_cons]
    exact wpAny_bind (hf a c _ (wpAny_forIn_skip f hf l c h))

theorem reDrive_wp {m' : M} {Q : M → Shared → Prop} (ho : m'.outcome.isSome = true) (h : Q m' s) : ∀ (turns n : Nat) (m : M), n ≤ 4 * turns → 0 < turns → M.runFor n m = m' → wpAny Mo A (Builtin.Re.reDrive turns m) Q E s
  | 0, n, m, _, hp, _ => by omega
  | t + 1, n, m, hn, _, he => by
    show wpAny Mo A (if (m.runFor Builtin.Re.reTurnSteps).outcome.isSome = true then pure (m.runFor Builtin.Re.reTurnSteps) else do rule "sre.turn"; Builtin.Re.reDrive t (m.runFor Builtin.Re.reTurnSteps)) Q E s
    have h4 : Builtin.Re.reTurnSteps = 4 := rfl
    rw [h4]
    by_cases h1 : (M.runFor 4 m).outcome.isSome = true
    · rw [if_pos h1]
      have : M.runFor 4 m = m' := by
        by_cases hle : n ≤ 4
        · have e := runFor_add n (4 - n) m
          rw [he, runFor_done _ _ ho, show n + (4 - n) = 4 by omega] at e
          exact e
        · have e := runFor_add 4 (n - 4) m
          rw [runFor_done _ _ h1, show 4 + (n - 4) = n by omega, he] at e
          exact e.symm
      rw [this]; exact wpAny_pure h
    · rw [if_neg h1]
      have hgt : 4 < n := by
        apply Nat.lt_of_not_le
        intro hle
        apply h1
        have e := runFor_add n (4 - n) m
        rw [he, runFor_done _ _ ho, show n + (4 - n) = 4 by omega] at e
        rw [e]; exact ho
      refine wpAny_bind (wpAny_rule ?_)
      refine reDrive_wp ho h t (n - 4) _ (by omega) (by omega) ?_
      rw [← runFor_add, show 4 + (n - 4) = n by omega]
      exact he

theorem reRun_wp {P : M → Prop} {m : M} {k : Nat} {Q : Option M → Shared → Prop} (x : Ends P m k) (hk : k ≤ 2 ^ 64)
    (h : ∀ m', P m' → (m'.outcome = some .matched ∧ Q (some m') s) ∨ (m'.outcome = some .failed ∧ Q none s)) : wpAny Mo A (Builtin.Re.reRunToEnd m) Q E s := by
  obtain ⟨m', ⟨n, hn, he, ho⟩, hp⟩ := x
  unfold Builtin.Re.reRunToEnd
  refine wpAny_bind (reDrive_wp ho ?_ _ n m (Nat.le_trans hn (Nat.le_trans hk (by omega))) (by decide) he)
  refine wpAny_bind (wpAny_forIn_skip _ (fun i c Q' hq => ?_) _ _ ?_)
  · cases hs : m'.seen.has i with
    | true => simp only [if_true]; exact wpAny_bind (wpAny_rule (wpAny_pure hq))
    | false => simp only [Bool.false_eq_true, if_false]; exact wpAny_pure hq
  · rcases h m' hp with ⟨e, q⟩ | ⟨e, q⟩
    · rw [e]; exact wpAny_pure q
    · rw [e]; exact wpAny_pure q
end
end Mine
open PySem PySem.W PyProof.Rows PySem.Calls
set_option linter.unusedVariables false
set_option maxRecDepth 100000
namespace Mine
open Builtin.Re

theorem Ext.change {s₀ s : Shared} (x : Ext s₀ s) {a : Addr} (ha : s₀.heap.get? a = none) (h57 : a ≠ 57) {h' : Heap} {tk : Nat} (hs : Heap.SameBut a s.heap h') (ht : s.toks ≤ tk) : Ext s₀ { s with heap := h', toks := tk } :=
  ⟨fun b o n e => (hs.2 b fun q => by rw [← q, e] at ha; cases ha).trans (x.keep b o n e),
   fun ps h => let ⟨m, t⟩ := x.tab ps h; ⟨m, (hs.2 57 h57.symm).trans t.1, t.2⟩, x.bare, x.os, Nat.le_trans x.toks ht, by show _ ≤ h'.objs.size; rw [hs.1]; exact x.size⟩

/-- a list of one's own -/
structure Own (s₀ s : Shared) (l : Addr) (vs : Array Value) : Prop where
  ext : Ext s₀ s
  new : s₀.heap.get? l = none
  n57 : l ≠ 57
  at' : ∃ n, s.heap.get? l = some { cls := .type "list", data := .seq vs n }
theorem Own.list {s₀ s : Shared} {l : Addr} {vs : Array Value} (x : Own s₀ s l vs) : s.heap.IsList l vs := let ⟨n, e⟩ := x.at'; ⟨_, e, rfl, n, rfl⟩
theorem Own.push {s₀ s : Shared} {l : Addr} {vs : Array Value} (x : Own s₀ s l vs) (v : Value) {tk : Nat} (ht : s.toks ≤ tk) : Own s₀ { s with heap := s.heap.update l (Obj.mapSeq (·.push v)), toks := tk } l (vs.push v) := by
  obtain ⟨n, e⟩ := x.at'
  refine ⟨x.ext.change x.new x.n57 (Heap.SameBut.update ..) ht, x.new, x.n57, n + 1, ?_⟩
  have h := Heap.get?_update_self (Obj.mapSeq (·.push v)) e rfl
  have e2 : Obj.mapSeq (·.push v) { cls := .type "list", data := .seq vs n } = { cls := .type "list", data := .seq (vs.push v) (n + 1) } := by
    simp [Obj.mapSeq]
  rw [e2] at h
  exact h
theorem Own.tok {s₀ s : Shared} {l : Addr} {vs : Array Value} (x : Own s₀ s l vs) {tk : Nat} (ht : s.toks ≤ tk) : Own s₀ { s with toks := tk } l vs :=
  ⟨x.ext.trans (Ext.of_keep (fun _ _ e => e) ht (Nat.le_refl _)), x.new, x.n57, x.at'⟩

/-- a pattern object -/
structure PatAt (h : Heap) (pa : Addr) (code : Array Nat) (groups : Nat) : Prop where
  obj : ∃ o vs ca oc xs n, h.get? pa = some o ∧ o.cls = .type "re.Pattern" ∧ o.dict = none ∧ o.data = .fields vs ∧ reRawNat (vs.getD 6 .none) = 0 ∧ vs.getD 5 .none = .ref ca ∧ reRawNat (vs.getD 2 .none) = groups ∧
    h.get? ca = some oc ∧ oc.data = .seq xs n ∧ (xs.map reRawOf).map (·.toNat) = code

def targetOf (pa : Addr) (x : Str) (u : Tok) (code : Array Nat) (groups : Nat) : ReTarget :=
  { pattern := .ref pa, string := .str x u, code, text := x.cps, kind := 0, groups, pos := 0, lim := x.cps.size }

section
variable {w : World} {Mo : Model} {A : Around} {E : Value → Shared → Prop} {s : Shared}
theorem wholeTarget {pa : Addr} {code : Array Nat} {groups : Nat} {x : Str} {u : Tok} {Q : ReTarget → Shared → Prop} (P : PatAt s.heap pa code groups) (h : Q (targetOf pa x u code groups) s) : wpAny Mo A (reWholeTarget (.ref pa) (.str x u)) Q E s := by
  obtain ⟨o, vs, ca, oc, xs, n, e1, _, _, e4, e5, e6, e7, e8, e9, e10⟩ := P.obj
  unfold reWholeTarget
  refine wpAny_bind (wpAny_fieldsOf e1 e4 ?_)
  refine wpAny_bind (m := reTextOf (.str x u)) (wpAny_pure (a := (x.cps, 0)) ?_)
  simp only [e5]
  refine wpAny_bind (m := reNoCollectionInside (.str x u) 0) (wpAny_pure (a := ()) ?_)
  rw [e6]
  unfold reRawItems
  refine wpAny_bind (wpAny_bind (wpAny_seqItems e8 e9 (wpAny_pure ?_)))
  refine wpAny_pure ?_
  simp only [Option.getD_some, e10, e7]
  exact h
end

theorem strsAre_snoc : ∀ {vs : List Value} {ys : List Str}, StrsAre vs ys → ∀ (y : Str) (t : Tok), StrsAre (vs ++ [.str y t]) (ys ++ [y])
  | _, _, .nil, y, t => .cons y t .nil
  | _, _, .cons z u h, y, t => .cons z u (strsAre_snoc h y t)

/-- the pieces that a sub makes -/
def subParts (find : Nat → Option (Nat × Nat)) (text : Array Nat) (r : Str) : (fuel p : Nat) → List Str
  | 0, _ => []
  | f + 1, p => match find p with
    | some (a, e) => (if p < a then [⟨text.extract p a⟩] else []) ++ r :: subParts find text r f e
    | none => if p < text.size then [⟨text.extract p text.size⟩] else []

theorem entry_subloop : entryFor table "re.Pattern.sub.loop" = some Builtin.«re.Pattern.sub.loop» := entryFor_of_tree (by kernel_rfl)
theorem plain_subloop : plainId "re.Pattern.sub.loop" = true := by decide +kernel

abbrev loopArgs (pa : Addr) (x : Str) (u : Tok) (repl : Value) (way : Int) (n : Int) (p : Nat) (l : Addr) : Args :=
  ⟨[.ref pa, .str x u, repl, rawInt way, rawInt 0, rawInt n, rawInt p, rawInt p, .bool false, .ref l, .bool false], []⟩

section
variable {prog : Program} {w : World} {A : Around} {R : Result → Shared → Prop}
set_option maxHeartbeats 1000000 in
theorem sub_loop0 {pa l : Addr} {x r : Str} {u tr : Tok} {code : Array Nat} {groups k : Nat} {find : Nat → Option (Nat × Nat)} {s₀ : Shared}
    (hP : ∀ s', Ext s₀ s' → PatAt s'.heap pa code groups)
    (hf : ∀ p, Ends (SearchIs (find p)) (Sre.forSearch code x.cps groups p x.cps.size false) k) (hk : k ≤ 2 ^ 64)
    (hb : ∀ p a e, find p = some (a, e) → p ≤ a ∧ a < e ∧ e ≤ x.cps.size) (hx : x.cps.size ≤ 1000000) :
    ∀ (f p : Nat) (n : Int) (vs : Array Value) (ys : List Str) (s : Shared), x.cps.size + 1 ≤ p + f → p ≤ x.cps.size → vs.size ≤ 2 * p → StrsAre vs.toList ys → Own s₀ s l vs →
      ((ys ++ subParts find x.cps r f p).map (·.length)).sum ≤ 16777216 →
      (∀ t' s', Ext s₀ s' → R (.ok (.ret (.str (Txt.join Str.empty (ys ++ subParts find x.cps r f p)) t'))) s') →
      codeAny (model prog w) A (.builtin "re.Pattern.sub.loop" (loopArgs pa x u (.str r tr) 0 n p l)) R s
  | 0, p, n, vs, ys, s, h1, h2, _, _, _, _, _ => by omega
  | f + 1, p, n, vs, ys, s, h1, h2, hvs, hys, O, hsum, hR => by
    refine codeAny_builtin entry_subloop ?_
    rw [Around.under_plainId plain_subloop]
    unfold Builtin.«re.Pattern.sub.loop»
    refine wpAny_bind (wholeTarget (hP s O.ext) ?_)
    simp only [beq_self_eq_true, if_true]
    refine wpAny_bind (m := reLiteralCannotBeTurned (.str r tr)) (wpAny_pure (a := ()) ?_)
    have e0 : ((0 : Int) != 0 && decide (n ≥ 0)) = false := rfl
    simp only [e0, Bool.false_eq_true, if_false, Int.toNat_natCast]
    have slice : ∀ (b e : Nat) (s' : Shared) (Q : Value → Shared → Prop), Q (.str ⟨x.cps.extract b e⟩ s'.toks) { s' with toks := s'.toks + 1 } → wpAny (model prog w) A.in1 (reSlice (targetOf pa x u code groups).text (targetOf pa x u code groups).kind b e) Q (fun e s' => R (.error e) s') s' := by
      intro b e s' Q hq
      show wpAny _ _ (mkStr ⟨x.cps.extract b e⟩) _ _ _
      refine wpAny_mkStr hq ?_
      show (x.cps.extract b e).size ≤ _
      rw [Array.size_extract, sizeLine_eq]; omega
    have hd : subParts find x.cps r (f + 1) p = match find p with
        | some (a, e) => (if p < a then [⟨x.cps.extract p a⟩] else []) ++ r :: subParts find x.cps r f e
        | none => if p < x.cps.size then [⟨x.cps.extract p x.cps.size⟩] else [] := rfl
    refine wpAny_bind (reRun_wp (hf p) hk fun m' hm => ?_)
    cases hfp : find p with
    | some q =>
      obtain ⟨a, e⟩ := q
      rw [hfp] at hm hd
      obtain ⟨g1, g2, g3⟩ := hm
      refine .inl ⟨g1, ?_⟩
      obtain ⟨k1, k2, k3⟩ := hb p a e hfp
      have hne : (e == a) = false := by simp; omega
      dsimp only
      rw [g2, g3]
      -- the replacement is pushed, and on
      have go : ∀ (vs' : Array Value) (ys' : List Str) (s' : Shared), Own s₀ s' l vs' → StrsAre vs'.toList ys' → vs'.size ≤ 2 * p + 1 → ys ++ subParts find x.cps r (f + 1) p = ys' ++ r :: subParts find x.cps r f e →
          wpAny (model prog w) A.in1 (do
            let item ← (pure (Value.str r tr) : Sem Value)
            if (item != Value.none) = true then do
                updateSeq l fun x => x.push item
                again (Code.builtin "re.Pattern.sub.loop" { pos := [Value.ref pa, Value.str x u, Value.str r tr, rawInt 0, rawInt 0, rawInt (n + 1), rawInt ↑e, rawInt ↑e, Value.bool (e == a), Value.ref l, Value.bool false] })
              else
                again (Code.builtin "re.Pattern.sub.loop" { pos := [Value.ref pa, Value.str x u, Value.str r tr, rawInt 0, rawInt 0, rawInt (n + 1), rawInt ↑e, rawInt ↑e, Value.bool (e == a), Value.ref l, Value.bool false] }))
            (fun fin s' => match fin with | .done f => R (.ok f) s' | .again c' => c'.quiet = true ∧ codeAny (model prog w) A c' R s') (fun e s' => R (.error e) s') s' := by
        intro vs' ys' s' O' hys' hv' hy
        refine wpAny_bind (wpAny_pure ?_)
        rw [if_pos (by rfl)]
        obtain ⟨n', hn'⟩ := O'.at'
        refine wpAny_bind (wpAny_updateSeq hn' rfl ?_ (by rw [sizeLine_eq]; omega) (by rw [Array.size_push, sizeLine_eq]; omega))
        rw [hne]
        refine wpAny_pure ⟨plainId_quiet plain_subloop _, ?_⟩
        refine sub_loop0 hP hf hk hb hx f e (n + 1) (vs'.push (.str r tr)) (ys' ++ [r]) _ (by omega) k3 (by rw [Array.size_push]; omega) ?_ (O'.push _ (Nat.le_refl _)) ?_ fun t' s'' x' => ?_
        · rw [Array.toList_push]; exact strsAre_snoc hys' r tr
        · rw [List.append_assoc, List.singleton_append, ← hy]; exact hsum
        · rw [List.append_assoc, List.singleton_append, ← hy]; exact hR t' s'' x'
      by_cases hpa : p < a
      · rw [if_pos hpa]
        refine wpAny_bind (slice p a s _ ?_)
        obtain ⟨n', hn'⟩ := O.at'
        refine wpAny_bind (wpAny_updateSeq (s := { s with toks := s.toks + 1 }) hn' rfl ?_ (by rw [sizeLine_eq]; omega) (by rw [Array.size_push, sizeLine_eq]; omega))
        refine go _ (ys ++ [⟨x.cps.extract p a⟩]) _ ((O.tok (Nat.le_succ _)).push _ (Nat.le_refl _)) (by rw [Array.toList_push]; exact strsAre_snoc hys _ _) (by rw [Array.size_push]; omega) ?_
        rw [hd]
        simp only [if_pos hpa, List.append_assoc]
      · rw [if_neg hpa]
        refine go vs ys s O hys (by omega) ?_
        rw [hd]
        simp only [if_neg hpa, List.nil_append]
    | none =>
      rw [hfp] at hm hd
      refine .inr ⟨hm, ?_⟩
      dsimp only
      have fin : ∀ (vs' : Array Value) (ys' : List Str) (s' : Shared), Own s₀ s' l vs' → StrsAre vs'.toList ys' → ys ++ subParts find x.cps r (f + 1) p = ys' →
          wpAny (model prog w) A.in1 (do
            let joiner ← reSlice (targetOf pa x u code groups).text (targetOf pa x u code groups).kind 0 0
            let __do_lift ← seqItems? (Value.ref l)
            if (__do_lift.getD #[]).isEmpty = true then do
                let text ← pure joiner
                ret text
              else do
                let text ← call (Value.builtin (if ((targetOf pa x u code groups).kind == 0) = true then "str.join" else "bytes.join")) [joiner, Value.ref l]
                ret text)
            (fun fin s' => match fin with | .done f => R (.ok f) s' | .again c' => c'.quiet = true ∧ codeAny (model prog w) A c' R s') (fun e s' => R (.error e) s') s' := by
        intro vs' ys' s' O' hys' hy
        have hx0 : (⟨x.cps.extract 0 0⟩ : Str) = Str.empty := by simp [Str.empty]
        refine wpAny_bind (slice 0 0 s' _ ?_)
        rw [hx0]
        obtain ⟨n', hn'⟩ := O'.at'
        refine wpAny_bind (wpAny_seqItems (s := { s' with toks := s'.toks + 1 }) hn' rfl ?_)
        simp only [Option.getD_some]
        have O'' := O'.tok (Nat.le_succ s'.toks)
        by_cases he : vs'.isEmpty = true
        · rw [if_pos he]
          refine wpAny_bind (wpAny_pure (wpAny_pure ?_))
          have hv0 : vs' = #[] := by simpa using he
          subst hv0
          cases hys'
          have := hR s'.toks _ O''.ext
          rw [hy] at this
          exact this
        · rw [if_neg he]
          have hj : (if ((targetOf pa x u code groups).kind == 0) = true then "str.join" else "bytes.join") = "str.join" := rfl
          rw [hj]
          refine wpAny_bind (gainQ (join_list (ys := ys') O''.list hys' (by rw [← hy]; show _ + _ * 0 ≤ _; omega) fun t' k' => ?_))
          intro hm'
          refine wpAny_pure ?_
          have := hR t' _ (O''.tok hm'.toks).ext
          rw [hy] at this
          exact this
      by_cases hpl : p < x.cps.size
      · rw [if_pos (show p < (targetOf pa x u code groups).lim from hpl)]
        refine wpAny_bind (slice p x.cps.size s _ ?_)
        obtain ⟨n', hn'⟩ := O.at'
        refine wpAny_bind (wpAny_updateSeq (s := { s with toks := s.toks + 1 }) hn' rfl ?_ (by rw [sizeLine_eq]; omega) (by rw [Array.size_push, sizeLine_eq]; omega))
        refine fin _ (ys ++ [⟨x.cps.extract p x.cps.size⟩]) _ ((O.tok (Nat.le_succ _)).push _ (Nat.le_refl _)) (by rw [Array.toList_push]; exact strsAre_snoc hys _ _) ?_
        rw [hd]
        simp only [if_pos hpl]
      · rw [if_neg (show ¬ p < (targetOf pa x u code groups).lim from hpl)]
        refine fin vs ys s O hys ?_
        rw [hd]
        simp only [if_neg hpl, List.append_nil]
end
end Mine
open PySem PySem.W PyProof.Rows PySem.Calls
set_option linter.unusedVariables false
set_option maxRecDepth 100000
namespace Mine

def fixL : List Nat → List Nat
  | [] => []
  | [c] => if c = 10 ∨ c = 13 then [13, 10] else [c]
  | c :: d :: r => if c = 13 ∧ d = 10 then 13 :: 10 :: fixL r else if c = 10 ∨ c = 13 then 13 :: 10 :: fixL (d :: r) else c :: fixL (d :: r)
def dqL : Bool → List Nat → List Nat
  | _, [] => []
  | b, c :: r => if b = true ∧ c = 46 then 46 :: 46 :: dqL false r else c :: dqL (c == 10) r

theorem fixL_plain {c : Nat} (h : ¬ (c = 10 ∨ c = 13)) (r : List Nat) : fixL (c :: r) = c :: fixL r := by
  cases r with
  | nil => simp [fixL, h]
  | cons d r => simp only [fixL]; rw [if_neg (fun q => h (.inr q.1)), if_neg h]
theorem fixL_pair (r : List Nat) : fixL (13 :: 10 :: r) = 13 :: 10 :: fixL r := by simp [fixL]
theorem fixL_one {c : Nat} (h : c = 10 ∨ c = 13) (r : List Nat) (hn : ¬ (c = 13 ∧ r.head? = some 10)) : fixL (c :: r) = 13 :: 10 :: fixL r := by
  cases r with
  | nil => simp [fixL, h]
  | cons d r => simp only [fixL]; rw [if_neg (fun q => hn ⟨q.1, by simp [q.2]⟩), if_pos h]

theorem drop_getD {text : Array Nat} {p : Nat} (h : p < text.size) : text.toList.drop p = text.getD p 0 :: text.toList.drop (p + 1) := by
  have hl : p < text.toList.length := by simpa using h
  rw [List.drop_eq_getElem_cons hl]
  congr 1
  simp [Array.getD, h]

theorem extract_drop (text : Array Nat) (p a : Nat) : (text.extract p a).toList = (text.toList.drop p).take (a - p) := by
  simp [Array.toList_extract, List.extract_eq_take_drop]

theorem eol_none {text : Array Nat} : ∀ {f p : Nat}, text.size + 1 ≤ p + f → eol text f p = none → fixL (text.toList.drop p) = text.toList.drop p
  | 0, p, hf, _ => by rw [List.drop_of_length_le (by simp; omega)]; rfl
  | f + 1, p, hf, h => by
    unfold eol at h
    by_cases hp : p ≥ text.size
    · rw [List.drop_of_length_le (by simpa using hp)]; rfl
    · rw [if_neg hp] at h
      split at h
      · cases h
      · rename_i hc
        rw [drop_getD (by omega), fixL_plain hc, eol_none (by omega) h]
theorem eol_at {text : Array Nat} : ∀ {f p s : Nat}, eol text f p = some s → fixL (text.toList.drop p) = (text.toList.drop p).take (s - p) ++ fixL (text.toList.drop s)
  | 0, p, s, h => by simp [eol] at h
  | f + 1, p, s, h => by
    have h0 := eol_some h
    unfold eol at h
    by_cases hp : p ≥ text.size
    · rw [if_pos hp] at h; cases h
    · rw [if_neg hp] at h
      split at h
      · cases h; simp
      · rename_i hc
        have h1 := eol_some h
        have ih := eol_at h
        rw [drop_getD (by omega), fixL_plain hc, ih, show s - p = (s - (p + 1)) + 1 by omega, List.take_succ_cons]
        rfl
theorem eol_here {text : Array Nat} {s : Nat} (hs : s < text.size) (hc : text.getD s 0 = 10 ∨ text.getD s 0 = 13) : fixL (text.toList.drop s) = 13 :: 10 :: fixL (text.toList.drop (s + eolLen text s)) ∧ s + eolLen text s ≤ text.size := by
  rw [drop_getD hs]
  unfold eolLen
  by_cases h : text.getD s 0 = 13 ∧ s + 1 < text.size ∧ text.getD (s + 1) 0 = 10
  · rw [if_pos h, h.1, drop_getD h.2.1, h.2.2, fixL_pair]
    exact ⟨rfl, by omega⟩
  · rw [if_neg h]
    refine ⟨fixL_one hc _ fun q => h ⟨q.1, ?_⟩, by omega⟩
    have h2 := q.2
    by_cases h1 : s + 1 < text.size
    · rw [drop_getD h1] at h2; exact ⟨h1, by simpa using h2⟩
    · rw [List.drop_of_length_le (by simp; omega)] at h2; cases h2

theorem eolLen_pos (text : Array Nat) (s : Nat) : 1 ≤ eolLen text s ∧ eolLen text s ≤ 2 := by
  unfold eolLen; split <;> omega

def catL (ys : List Str) : List Nat := (ys.map (·.cps.toList)).flatten
theorem catL_append (a b : List Str) : catL (a ++ b) = catL a ++ catL b := by simp [catL]
theorem catL_cons (a : Str) (b : List Str) : catL (a :: b) = a.cps.toList ++ catL b := by simp [catL]

theorem find2_bounds {text : Array Nat} (p a e : Nat) (h : find2 text p = some (a, e)) : p ≤ a ∧ a < e ∧ e ≤ text.size := by
  unfold find2 at h
  split at h
  · cases h
  · obtain ⟨s, hs, he⟩ := Option.map_eq_some_iff.mp h
    cases he
    obtain ⟨h1, h2, h3⟩ := eol_some hs
    have := eolLen_pos text a
    exact ⟨h1, by omega, (eol_here h2 h3).2⟩
theorem find2_pieces (text : Array Nat) (r : Str) (hr : r.cps.toList = [13, 10]) : ∀ (f p : Nat), text.size + 1 ≤ p + f → p ≤ text.size → catL (subParts (find2 text) text r f p) = fixL (text.toList.drop p)
  | 0, p, h, hp => by omega
  | f + 1, p, h, hp => by
    unfold subParts
    cases q : find2 text p with
    | none =>
      dsimp only
      unfold find2 at q
      by_cases hc : p > text.size ∨ text.size - p < 1
      · have : p = text.size := by omega
        rw [if_neg (by omega), List.drop_of_length_le (by simp; omega)]; rfl
      · rw [if_neg hc] at q
        have q' : eol text (text.size + 1 - p) p = none := by simpa using q
        rw [if_pos (by omega), eol_none (by omega) q']
        simp [catL, List.take_of_length_le]
    | some ae =>
      obtain ⟨a, e⟩ := ae
      dsimp only
      obtain ⟨k1, k2, k3⟩ := find2_bounds p a e q
      have ih := find2_pieces text r hr f e (by omega) k3
      unfold find2 at q
      split at q
      · cases q
      · obtain ⟨s, hs, he⟩ := Option.map_eq_some_iff.mp q
        cases he
        obtain ⟨h1, h2, h3⟩ := eol_some hs
        rw [eol_at hs, (eol_here h2 h3).1, ← ih]
        by_cases hpa : p < a
        · rw [if_pos hpa, catL_append, catL_cons r, hr]
          have : catL [(⟨text.extract p a⟩ : Str)] = (text.toList.drop p).take (a - p) := by simp only [catL, List.map_cons, List.map_nil, List.flatten_cons, List.flatten_nil, List.append_nil]; exact extract_drop text p a
          rw [this]; rfl
        · rw [if_neg hpa, catL_append, catL_cons, hr, show a - p = 0 by omega]; rfl

/-! ## dots at a row's head -/
theorem atBol_succ (text : Array Nat) (p : Nat) : atBol text (p + 1) = (text.getD p 0 == 10) := by simp [atBol]
theorem dq_step {text : Array Nat} {p : Nat} (hp : p < text.size) (h : ¬ (atBol text p = true ∧ text.getD p 0 = 46)) : dqL (atBol text p) (text.toList.drop p) = text.getD p 0 :: dqL (atBol text (p + 1)) (text.toList.drop (p + 1)) := by
  rw [drop_getD hp, dqL, if_neg h, atBol_succ]
theorem dot_none {text : Array Nat} : ∀ {f p : Nat}, text.size + 1 ≤ p + f → dotAt text f p = none → dqL (atBol text p) (text.toList.drop p) = text.toList.drop p
  | 0, p, hf, _ => by rw [List.drop_of_length_le (by simp; omega)]; rfl
  | f + 1, p, hf, h => by
    unfold dotAt at h
    by_cases hp : p ≥ text.size
    · rw [List.drop_of_length_le (by simpa using hp)]; rfl
    · rw [if_neg hp] at h
      split at h
      · cases h
      · rename_i hc
        rw [dq_step (by omega) hc, dot_none (by omega) h, ← drop_getD (by omega)]
theorem dot_some {text : Array Nat} : ∀ {f p s : Nat}, dotAt text f p = some s → p ≤ s ∧ s < text.size ∧ atBol text s = true ∧ text.getD s 0 = 46
  | 0, _, _, h => by simp [dotAt] at h
  | f + 1, p, s, h => by
    unfold dotAt at h
    split at h
    · cases h
    · split at h
      · rename_i a b; cases h; exact ⟨Nat.le_refl _, by omega, b⟩
      · obtain ⟨a, b⟩ := dot_some h
        exact ⟨by omega, b⟩
theorem dot_at {text : Array Nat} : ∀ {f p s : Nat}, dotAt text f p = some s → dqL (atBol text p) (text.toList.drop p) = (text.toList.drop p).take (s - p) ++ dqL (atBol text s) (text.toList.drop s)
  | 0, p, s, h => by simp [dotAt] at h
  | f + 1, p, s, h => by
    have h0 := dot_some h
    unfold dotAt at h
    by_cases hp : p ≥ text.size
    · rw [if_pos hp] at h; cases h
    · rw [if_neg hp] at h
      split at h
      · cases h; simp
      · rename_i hc
        have h1 := dot_some h
        have ih := dot_at h
        rw [dq_step (by omega) hc, ih, drop_getD (show p < text.size by omega), show s - p = (s - (p + 1)) + 1 by omega, List.take_succ_cons]
        rfl
theorem dot_here {text : Array Nat} {s : Nat} (hs : s < text.size) (hb : atBol text s = true) (hc : text.getD s 0 = 46) : dqL (atBol text s) (text.toList.drop s) = 46 :: 46 :: dqL (atBol text (s + 1)) (text.toList.drop (s + 1)) := by
  rw [drop_getD hs, atBol_succ, hc, dqL, if_pos ⟨hb, rfl⟩]
  rfl
theorem find1_bounds {text : Array Nat} (p a e : Nat) (h : find1 text p = some (a, e)) : p ≤ a ∧ a < e ∧ e ≤ text.size := by
  unfold find1 at h
  split at h
  · cases h
  · obtain ⟨s, hs, he⟩ := Option.map_eq_some_iff.mp h
    cases he
    obtain ⟨h1, h2, h3⟩ := dot_some hs
    exact ⟨h1, by omega, by omega⟩
theorem find1_pieces (text : Array Nat) (r : Str) (hr : r.cps.toList = [46, 46]) : ∀ (f p : Nat), text.size + 1 ≤ p + f → p ≤ text.size → catL (subParts (find1 text) text r f p) = dqL (atBol text p) (text.toList.drop p)
  | 0, p, h, hp => by omega
  | f + 1, p, h, hp => by
    unfold subParts
    cases q : find1 text p with
    | none =>
      dsimp only
      unfold find1 at q
      by_cases hc : p > text.size ∨ text.size - p < 1
      · have : p = text.size := by omega
        rw [if_neg (by omega), List.drop_of_length_le (by simp; omega)]; rfl
      · rw [if_neg hc] at q
        have q' : dotAt text (text.size + 1 - p) p = none := by simpa using q
        rw [if_pos (by omega), dot_none (by omega) q']
        simp [catL, List.take_of_length_le]
    | some ae =>
      obtain ⟨a, e⟩ := ae
      dsimp only
      obtain ⟨k1, k2, k3⟩ := find1_bounds p a e q
      have ih := find1_pieces text r hr f e (by omega) k3
      unfold find1 at q
      split at q
      · cases q
      · obtain ⟨s, hs, he⟩ := Option.map_eq_some_iff.mp q
        cases he
        obtain ⟨h1, h2, h3, h4⟩ := dot_some hs
        rw [dot_at hs, dot_here h2 h3 h4, ← ih]
        by_cases hpa : p < a
        · rw [if_pos hpa, catL_append, catL_cons r, hr]
          have : catL [(⟨text.extract p a⟩ : Str)] = (text.toList.drop p).take (a - p) := by simp only [catL, List.map_cons, List.map_nil, List.flatten_cons, List.flatten_nil, List.append_nil]; exact extract_drop text p a
          rw [this]; rfl
        · rw [if_neg hpa, catL_append, catL_cons r, hr, show a - p = 0 by omega]; rfl

/-! ## joined -/
theorem catL_length (ys : List Str) : (catL ys).length = (ys.map (·.length)).sum := by
  induction ys with
  | nil => rfl
  | cons y r ih => rw [catL_cons, List.length_append, ih]; simp [Str.length]
theorem join_foldl : ∀ (ys : List Str) (a : Array Nat), (ys.foldl (fun acc p => acc ++ (Str.empty).cps ++ p.cps) a).toList = a.toList ++ catL ys
  | [], a => by simp [catL]
  | y :: r, a => by
    rw [List.foldl_cons, join_foldl r, catL_cons]
    simp [Str.empty]
theorem join_cat (ys : List Str) : (Txt.join Str.empty ys).cps.toList = catL ys := by
  cases ys with
  | nil => rfl
  | cons y r =>
    unfold Txt.join Builtin.Str.glued
    simp only [List.drop_succ_cons, List.drop_zero, List.headD_cons]
    rw [join_foldl, catL_cons]
theorem str_ext {x y : Str} (h : x.cps.toList = y.cps.toList) : x = y := by
  obtain ⟨⟨a⟩⟩ := x; obtain ⟨⟨b⟩⟩ := y
  simp at h; subst h; rfl
def mkS (l : List Nat) : Str := ⟨l.toArray⟩
theorem mkS_toList (l : List Nat) : (mkS l).cps.toList = l := rfl
theorem join_mk {ys : List Str} {l : List Nat} (h : catL ys = l) : Txt.join Str.empty ys = mkS l := str_ext (by rw [join_cat, h]; rfl)
theorem fixL_len : ∀ l : List Nat, (fixL l).length ≤ 2 * l.length
  | [] => by simp [fixL]
  | [c] => by simp only [fixL]; split <;> simp
  | c :: d :: r => by
    simp only [fixL]
    have h1 := fixL_len r
    have h2 := fixL_len (d :: r)
    split
    · simp only [List.length_cons]; omega
    · split
      · simp only [List.length_cons] at *; omega
      · simp only [List.length_cons] at *; omega
theorem dqL_len : ∀ (b : Bool) (l : List Nat), (dqL b l).length ≤ 2 * l.length
  | _, [] => by simp [dqL]
  | b, c :: r => by
    simp only [dqL]
    split
    · have := dqL_len false r; simp only [List.length_cons]; omega
    · have := dqL_len (c == 10) r; simp only [List.length_cons]; omega
end Mine
open PySem PySem.W PyProof.Rows PySem.Calls
set_option linter.unusedVariables false
set_option maxRecDepth 100000
namespace Mine

def P0 : Params := { strHash := fun _ => 0, shareClass := fun a => a, mergeTok := fun t => t, idOf := fun _ => 0, idOfShared := fun _ _ => 0, followText := fun _ => false, idOfImm := fun _ => 0 }
noncomputable def fd (a : Addr) : FuncData := match (hd.heap_39 P0).lookup a with
  | some ⟨_, _, .func f, _⟩ => f
  | _ => default
noncomputable def bodyOf (a : Addr) : List Stmt := match (fd a).body with
  | .stmts b => b
  | _ => []

noncomputable def ob (a : Addr) : Obj := ((hd.heap_39 P0).lookup a).getD default
noncomputable def fieldsAt (a : Addr) : Array Value := match (ob a).data with
  | .fields vs => vs
  | _ => #[]
noncomputable def seqAt (a : Addr) : Array Value := match (ob a).data with
  | .seq xs _ => xs
  | _ => #[]
noncomputable def seqN (a : Addr) : Nat := match (ob a).data with
  | .seq _ n => n
  | _ => 0

theorem envOk_of {f : FuncData} {L a : Addr} {ns gs : List Str} (hk : f.scope.kind = .function) (hg : f.globals = mainGlobals) (hb : f.builtins = builtinsNs)
    (hn : (ns.all fun x => f.scope.names.lookup x == some .local) = true) (hgs : (gs.all fun x => f.scope.names.lookup x == some .globalImplicit) = true) (hd : ((ns ++ gs).all fun x => !(x == ("__debug__" : Str))) = true) :
    EnvOk (callEnv f L a) L ns gs :=
  ⟨hk, rfl, hg, hb, fun x hx => by have := List.all_eq_true.mp hn x hx; exact beq_iff_eq.mp this, fun x hx => by have := List.all_eq_true.mp hgs x hx; exact beq_iff_eq.mp this,
   fun x hx => by have := List.all_eq_true.mp hd x hx; simpa using this⟩

theorem K43 (P : Params) : (hd.heap_39 P).lookup 43 = some ⟨.type "function", none, .func (fd 43), #[]⟩ := by kernel_rfl
theorem ck43 (P : Params) : codeIn (hd.heap_39 P) (fd 43).code (fd 43).qualname = true := by kernel_rfl
theorem kp43 (P : Params) : keepIn (hd.heap_39 P) (.ref 43) = true := by kernel_rfl
theorem body43 : (fd 43).body = .stmts (bodyOf 43) := by kernel_rfl
theorem K55 (P : Params) : (hd.heap_39 P).lookup 55 = some ⟨.type "function", none, .func (fd 55), #[]⟩ := by kernel_rfl
theorem ck55 (P : Params) : codeIn (hd.heap_39 P) (fd 55).code (fd 55).qualname = true := by kernel_rfl
theorem kp55 (P : Params) : keepIn (hd.heap_39 P) (.ref 55) = true := by kernel_rfl
theorem body55 : (fd 55).body = .stmts (bodyOf 55) := by kernel_rfl
theorem K62 (P : Params) : (hd.heap_39 P).lookup 62 = some ⟨.type "function", none, .func (fd 62), #[]⟩ := by kernel_rfl
theorem ck62 (P : Params) : codeIn (hd.heap_39 P) (fd 62).code (fd 62).qualname = true := by kernel_rfl
theorem kp62 (P : Params) : keepIn (hd.heap_39 P) (.ref 62) = true := by kernel_rfl
theorem body62 : (fd 62).body = .stmts (bodyOf 62) := by kernel_rfl
theorem K69 (P : Params) : (hd.heap_39 P).lookup 69 = some ⟨.type "function", none, .func (fd 69), #[]⟩ := by kernel_rfl
theorem ck69 (P : Params) : codeIn (hd.heap_39 P) (fd 69).code (fd 69).qualname = true := by kernel_rfl
theorem kp69 (P : Params) : keepIn (hd.heap_39 P) (.ref 69) = true := by kernel_rfl
theorem body69 : (fd 69).body = .stmts (bodyOf 69) := by kernel_rfl
theorem K86 (P : Params) : (hd.heap_39 P).lookup 86 = some ⟨.type "function", none, .func (fd 86), #[]⟩ := by kernel_rfl
theorem ck86 (P : Params) : codeIn (hd.heap_39 P) (fd 86).code (fd 86).qualname = true := by kernel_rfl
theorem kp86 (P : Params) : keepIn (hd.heap_39 P) (.ref 86) = true := by kernel_rfl
theorem body86 : (fd 86).body = .stmts (bodyOf 86) := by kernel_rfl
theorem K93 (P : Params) : (hd.heap_39 P).lookup 93 = some ⟨.type "function", none, .func (fd 93), #[]⟩ := by kernel_rfl
theorem ck93 (P : Params) : codeIn (hd.heap_39 P) (fd 93).code (fd 93).qualname = true := by kernel_rfl
theorem kp93 (P : Params) : keepIn (hd.heap_39 P) (.ref 93) = true := by kernel_rfl
theorem body93 : (fd 93).body = .stmts (bodyOf 93) := by kernel_rfl
theorem K100 (P : Params) : (hd.heap_39 P).lookup 100 = some ⟨.type "function", none, .func (fd 100), #[]⟩ := by kernel_rfl
theorem ck100 (P : Params) : codeIn (hd.heap_39 P) (fd 100).code (fd 100).qualname = true := by kernel_rfl
theorem kp100 (P : Params) : keepIn (hd.heap_39 P) (.ref 100) = true := by kernel_rfl
theorem body100 : (fd 100).body = .stmts (bodyOf 100) := by kernel_rfl
theorem K107 (P : Params) : (hd.heap_39 P).lookup 107 = some ⟨.type "function", none, .func (fd 107), #[]⟩ := by kernel_rfl
theorem ck107 (P : Params) : codeIn (hd.heap_39 P) (fd 107).code (fd 107).qualname = true := by kernel_rfl
theorem kp107 (P : Params) : keepIn (hd.heap_39 P) (.ref 107) = true := by kernel_rfl
theorem body107 : (fd 107).body = .stmts (bodyOf 107) := by kernel_rfl
theorem K112 (P : Params) : (hd.heap_39 P).lookup 112 = some ⟨.type "function", none, .func (fd 112), #[]⟩ := by kernel_rfl
theorem ck112 (P : Params) : codeIn (hd.heap_39 P) (fd 112).code (fd 112).qualname = true := by kernel_rfl
theorem kp112 (P : Params) : keepIn (hd.heap_39 P) (.ref 112) = true := by kernel_rfl
theorem body112 : (fd 112).body = .stmts (bodyOf 112) := by kernel_rfl
end Mine
open PySem PySem.W PyProof.Rows PySem.Calls
set_option linter.unusedVariables false
set_option maxRecDepth 100000
namespace Mine

theorem lst_push (vs : List Value) (n : Nat) (x : Value) : Obj.mapSeq (fun a => a.push x) (lstO vs n) = lstO (vs ++ [x]) (n + 1) := by
  show Obj.mapSeq (·.push x) _ = _
  rw [mapSeq_push]
  simp [lstO]

def CatIs (vs : List Value) (l : List Nat) : Prop := ∃ ys, StrsAre vs ys ∧ catL ys = l
theorem CatIs.nil : CatIs [] [] := ⟨[], .nil, rfl⟩
theorem sAre_snoc : ∀ {vs : List Value} {ys : List Str}, StrsAre vs ys → ∀ (y : Str) (t : Tok), StrsAre (vs ++ [.str y t]) (ys ++ [y])
  | _, _, .nil, y, t => .cons y t .nil
  | _, _, .cons a u h, y, t => .cons a u (sAre_snoc h y t)
theorem CatIs.snoc {vs : List Value} {l : List Nat} (h : CatIs vs l) (x : Str) (t : Tok) : CatIs (vs ++ [.str x t]) (l ++ x.cps.toList) := by
  obtain ⟨ys, a, b⟩ := h
  exact ⟨ys ++ [x], sAre_snoc a x t, by rw [catL_append, b]; simp [catL]⟩

section
variable {w : World} {A : Around} {E : Value → Shared → Prop} {s₀ s : Shared} {L : Addr} {ns gs : List Str} {vs : List (Option Value)} {objs : List (Addr × Obj)} {env : Env}

/-- a list of the frame's own gets one more -/
theorem app_m {kl : Nat} {l : Addr} {xs : List Value} {n : Nat} {x : Value} {Q : Value → Shared → Prop} (S : Mst w s₀ L ns vs objs s) (hl : objs[kl]? = some (l, lstO xs n)) (hsz : xs.length ≤ 100000)
    (h : ∀ s', Mst w s₀ L ns vs (objs.set kl (l, lstO (xs ++ [x]) (n + 1))) s' → s.toks ≤ s'.toks → Q .none s') : wpAny (Md w) A (call (.builtin "list.append") [.ref l, x]) Q E s := by
  have hs : xs.toArray.size ≤ sizeLine := by rw [List.size_toArray]; have : sizeLine = 16777216 := rfl; omega
  have hg := S.get (List.mem_of_getElem? hl)
  exact call_meets F.slot_list_append ⟨_, hg, rfl⟩ F.entry_list_append (F.args_list_append_2 _ _) (list_append l xs.toArray n x hs) ⟨hg, h _ (S.upd hl (lst_push xs n x)) (Nat.le_refl _)⟩
theorem app_bm {kb kl : Nat} {b l : Addr} {xs : List Value} {n : Nat} {x : Value} {Q : Value → Shared → Prop} (S : Mst w s₀ L ns vs objs s) (hb : objs[kb]? = some (b, bmO l)) (hl : objs[kl]? = some (l, lstO xs n)) (hsz : xs.length ≤ 100000)
    (h : ∀ s', Mst w s₀ L ns vs (objs.set kl (l, lstO (xs ++ [x]) (n + 1))) s' → s.toks ≤ s'.toks → Q .none s') : wpAny (Md w) A (call (.ref b) [x]) Q E s :=
  call_bm (S.get (List.mem_of_getElem? hb)) (S.get (List.mem_of_getElem? hl)) (by have : sizeLine = 16777216 := rfl; omega) (h _ (S.upd hl (lst_push xs n x)) (Nat.le_refl _))

/-- the caller of a bound append -/
theorem cw_bm {b l : Addr} {pos : Pos} {e : Expr} {Q : Value → Shared → Prop}
    (h : wpAny (Md w) A (spliced (backTo pos (starEach [e] env))) (fun vs s₁ => s₁.heap.get? b = some (bmO l) ∧ wpAny (Md w) A (call (.ref b) vs) Q E s₁) E s)
    (he : starEach [e] env = (false, eval e env) :: starEach [] env := by rfl) :
    wpAny (Md w) A (callWith pos (.ref b) [] (backTo pos (starEach [e] env)) []) Q E s := by
  rw [he] at h ⊢
  refine callWith_of (P := fun h => h.get? b = some (bmO l)) (by rfl) (fun h hb => ⟨.machine, .inr (.inl rfl), fun A' Q' E' s' hk hq => ?_⟩) (evalArgs_plain h)
  unfold keeperOf
  refine wpAny_bind (wpAny_loadPart (hk _ _ hb) ?_)
  dsimp only
  rw [if_pos (by decide), if_pos (by decide)]
  exact wpAny_pure hq

theorem len_l {l : Addr} {xs : List Value} {n : Nat} {Q : Value → Shared → Prop} (S : Mst w s₀ L ns vs objs s) (hl : s.heap.get? l = some (lstO xs n)) (hsz : xs.length ≤ 100000)
    (h : ∀ t s', Mst w s₀ L ns vs objs s' → Q (.int xs.length t) s') : wpAny (Md w) A (call (.builtin "len") [.ref l]) Q E s := by
  refine call_len_list (items := xs.toArray) ⟨_, hl, rfl, _, rfl⟩ (by rw [List.size_toArray]; omega) ?_
  rw [List.size_toArray]
  exact h _ _ (S.tok (by omega))
theorem len_s {x : Str} {u : Tok} {Q : Value → Shared → Prop} (S : Mst w s₀ L ns vs objs s) (hsz : x.cps.size ≤ 16777216)
    (h : ∀ t s', Mst w s₀ L ns vs objs s' → Q (.int x.cps.toList.length t) s') : wpAny (Md w) A (call (.builtin "len") [.str x u]) Q E s := by
  have e : (x.length : Int) = (x.cps.toList.length : Int) := by simp [Str.length]
  refine P.len_str (by rw [e]; simp; omega) ?_
  rw [e]
  exact h _ _ (S.tok (by omega))

/-- a part of the list -/
theorem item_l {l : Addr} {xs : List Value} {n k : Nat} {t : Tok} {x : Value} {Q : Value → Shared → Prop} (hl : s.heap.get? l = some (lstO xs n)) (hk : xs[k]? = some x) (hsz : xs.length ≤ 100000) (h : Q x s) :
    wpAny (Md w) A (getItem (.ref l) (.int k t)) Q E s := by
  have hlt := (List.getElem?_eq_some_iff.mp hk).1
  refine wpAny_getItem_list (items := xs.toArray) ⟨_, hl, rfl, _, rfl⟩ (by omega) (by omega) ?_ h
  rw [Int.toNat_natCast, List.getElem?_toArray, hk]

theorem as2 {x y : Str} {i j : Nat} {px py tp : Pos} {ct : Nat} {v1 v2 : Value} {Q : Flow → Shared → Prop} (hh : A.handled = none) (V : EnvOk env L ns gs) (S : Mst w s₀ L ns vs objs s) (hx : ns[i]? = some x) (hy : ns[j]? = some y)
    (h : ∀ s', Mst w s₀ L ns ((vs.set i (some v1)).set j (some v2)) objs s' → Q .next s') :
    wpAny (Md w) A (newTuple [v1, v2]) (fun v s₁ => wpAny (Md w) A (assign (.Tuple [.Name x px, .Name y py] ct tp) env v) (fun _ => Q .next) E s₁) E s := by
  refine wpAny_newTuple ?_ (by show 2 ≤ sizeLine; decide)
  have S1 := (S.push (o := { cls := .type "tuple", data := .seq #[v1, v2] })).sub (objs' := objs) (fun p hp => List.mem_cons_of_mem _ hp) S.ond
  have ht : (s.heap.push { cls := .type "tuple", data := .seq #[v1, v2] }).get? s.heap.objs.size = some { cls := .type "tuple", data := .seq #[v1, v2] } := Heap.get?_push_size _ rfl
  refine assign_Tuple_tuple hh (items := #[v1, v2]) ⟨_, ht, rfl, _, rfl⟩ rfl rfl fun h' hk => ?_
  have hk' : ∀ b o, (s.heap.push { cls := .type "tuple", data := .seq #[v1, v2] }).get? b = some o → h'.get? b = some o := fun b o e =>
    hk b o (fun q => by subst q; rw [get_none_size] at e; cases e) e
  have hz : (s.heap.push { cls := .type "tuple", data := .seq #[v1, v2] }).objs.size ≤ h'.objs.size := by
    rw [Heap.size_push]
    exact Heap.lt_size (hk' _ _ ht)
  have S2 := S1.step (Ext.of_keep (tk := s.toks) hk' (Nat.le_refl _) hz)
  refine assignInOrder_cons (wpAny_assign_Name (st_loc V S2 hx fun s₃ S3 _ => ?_))
  refine assignInOrder_cons (wpAny_assign_Name (st_loc V S3 hy fun s₄ S4 _ => ?_))
  exact assignInOrder_nil (h _ S4)
end
end Mine
open PySem PySem.W PyProof.Rows PySem.Calls
set_option linter.unusedVariables false
set_option maxRecDepth 100000
namespace Mine

/-! ## object() -/
abbrev plainO : Obj := { cls := .type "object", data := .plain }
theorem ft_object : TypeCalled "object" "object.__new__" "object.__init__" where
  notType := by decide +kernel
  canCreate := by kernel_rfl
  mro := ⟨.type "object", [], by kernel_rfl⟩
  made := madeBy_type (c := .type "object") (tl := []) (by kernel_rfl) (by rw [typeLookup_type, builtinLookup_eq_fast]; kernel_rfl) (by decide +kernel)
  plain := by decide +kernel
  sub := by rw [isSubtype_type]; kernel_rfl
  init := .of (owner := "object") (n := "__init__") (by rw [typeLookup_type, builtinLookup_eq_fast]; kernel_rfl) (by decide +kernel) (by decide +kernel) (by decide +kernel)
    (by first | exact .inl (by decide +kernel) | exact .inr (by decide +kernel)) (by rw [isSubtype_type]; kernel_rfl)
theorem hct_object : checkTypeCall "object" ⟨[], []⟩ = pure () := by kernel_rfl
theorem hcn_object : checkBuiltinCall "object.__new__" ⟨[.type "object"], []⟩ = pure () := by kernel_rfl
theorem new_object : Builtin.«object.__new__» ⟨[.type "object"], []⟩ = (do let v ← newObj (.type "object") .plain none; ret v) := by kernel_rfl
theorem argsOk_init (v : Value) : argsOk "object.__init__" ⟨[v], []⟩ := by unfold argsOk; kernel_rfl
theorem init_object (v : Value) : Builtin.«object.__init__» ⟨[v], []⟩ = ret .none := by kernel_rfl
section
variable {prog : Program} {w : World} {A : Around} {E : Value → Shared → Prop} {s : Shared}
theorem meets_new : Meets (Builtin.«object.__new__» ⟨[.type "object"], []⟩) (fun _ R s => R (.ok (.ret (.ref s.heap.objs.size))) { s with heap := s.heap.push plainO }) :=
  .of_wp fun prog w A R s h => by
    rw [new_object]
    exact wpAny_bind (wpAny_newObj_type (wpAny_pure ⟨_, rfl, h⟩) (by size_fits))
theorem meets_init (v : Value) : Meets (Builtin.«object.__init__» ⟨[v], []⟩) (fun _ R s => R (.ok (.ret .none)) s) :=
  .of_wp fun prog w A R s h => by
    rw [init_object]
    exact wpAny_pure ⟨_, rfl, h⟩
theorem call_object {Q : Value → Shared → Prop} (h : Q (.ref s.heap.objs.size) { s with heap := s.heap.push plainO }) : wpAny (model prog w) A (call (.type "object") []) Q E s := by
  refine callType_meets (Q₁ := fun v s' => v = .ref s.heap.objs.size ∧ s' = { s with heap := s.heap.push plainO }) ft_object hct_object hcn_object F.objNew.entry F.entry_object_init meets_new ⟨rfl, rfl⟩ fun obj s₁ hq => ?_
  obtain ⟨rfl, rfl⟩ := hq
  exact ⟨⟨_, Heap.get?_push_size _ rfl, rfl⟩, argsOk_init _, _, meets_init _, rfl, h⟩
end
end Mine
open PySem PySem.W PyProof.Rows PySem.Calls
set_option linter.unusedVariables false
set_option maxRecDepth 100000
namespace Mine

def specialL : List Nat := [40, 41, 91, 93, 123, 125, 63, 42, 43, 45, 124, 94, 36, 92, 46, 38, 126, 35, 32, 9, 10, 13, 11, 12]
def escL (c : Nat) : List Nat := if c ∈ specialL then [92, c] else [c]
noncomputable def esAt : Array DictEntry := match (ob 45).data with
  | .dict es _ => es
  | _ => #[]
noncomputable def epAt : Nat := match (ob 45).data with
  | .dict _ n => n
  | _ => 0
theorem ob45 : (ob 45).data = .dict esAt epAt := by kernel_rfl
theorem esc_some : (specialL.all fun c => match findBy Value.isInt esAt (c : Int) with | some (.str x t) => x == mkS [92, c] | _ => false) = true := by kernel_rfl
theorem esc_keys : (esAt.toList.all fun e => match e.key with | .int i _ => specialL.any fun c => (c : Int) == i | _ => false) = true := by kernel_rfl
theorem esc_hash : (esAt.toList.all fun e => match e.key with | .int i t => e.hash == hashInt i | _ => false) = true := by kernel_rfl

theorem esc_none {c : Nat} (h : c ∉ specialL) : findBy Value.isInt esAt (c : Int) = none := by
  unfold findBy
  cases q : esAt.find? fun e => Value.isInt (c : Int) e.key with
  | none => rfl
  | some e =>
    exfalso
    have hm := Array.mem_of_find?_eq_some q
    have hp := Array.find?_some q
    have hk := List.all_eq_true.mp esc_keys e (Array.mem_toList_iff.mpr hm)
    obtain ⟨t, ht⟩ := Value.isInt_shape hp
    rw [ht] at hk
    obtain ⟨c', hc', e'⟩ := List.any_eq_true.mp hk
    have : c' = c := by have := beq_iff_eq.mp e'; omega
    exact h (this ▸ hc')
theorem esc_intkeys : PySem.IntKeys esAt := fun e he => by
  have h := List.all_eq_true.mp esc_hash e (Array.mem_toList_iff.mpr he)
  obtain ⟨hs, key, val⟩ := e
  cases key with
  | int i t => exact ⟨i, t, rfl, beq_iff_eq.mp h⟩
  | _ => cases h
theorem escMap {w : World} {s : Shared} (g : Good w s) : s.heap.IntMap 45 (fun k => findBy Value.isInt esAt k) :=
  ⟨ob 45, esAt, epAt, g.bs.K 45 _ (by kernel_rfl), by kernel_rfl, ob45, esc_intkeys, fun _ => rfl⟩
theorem esc_find {c : Nat} (h : c ∈ specialL) : ∃ t, findBy Value.isInt esAt (c : Int) = some (.str (mkS [92, c]) t) := by
  have := List.all_eq_true.mp esc_some c h
  cases q : findBy Value.isInt esAt (c : Int) with
  | none => rw [q] at this; cases this
  | some v =>
    rw [q] at this
    cases v with
    | str x t => exact ⟨t, by rw [beq_iff_eq.mp this]⟩
    | _ => cases this
theorem key_lookup : isSubtype (.type "KeyError") (.type "LookupError") = pure true := by rw [isSubtype_type]; kernel_rfl
theorem not_sys45 : ((45 : Addr) == sysModules) = false := by decide

section
variable {w : World} {A : Around} {E : Value → Shared → Prop} {s : Shared}
open Builtin.Str

theorem map45 {s : Shared} (g : Good w s) : s.heap.MapOf (intKind PySem.Challenge.rw_il0108_01.row.prog w) 45 (fun k => findBy Value.isInt esAt k) :=
  ⟨ob 45, esAt, epAt, g.bs.K 45 _ (by kernel_rfl), ⟨by kernel_rfl, by kernel_rfl, by kernel_rfl⟩, ob45, fun e he => by
    obtain ⟨k, t, e1, e2⟩ := esc_intkeys e he
    exact ⟨k, by rw [e1]; exact intKind_is _ _ _ _, e2⟩, fun _ => rfl⟩

theorem tl_special {c : Nat} {Q : Mapped → Shared → Prop} (g : Good w s) (h : c ∈ specialL) (hQ : ∀ s', Ext s s' → Q (.text (mkS [92, c])) s') : wpAny (Md w) A (tableLookup (.ref 45) c) Q E s := by
  obtain ⟨t, e⟩ := esc_find h
  unfold tableLookup
  refine wpAny_bind (wpAny_attempt (wpAny_bind (wpAny_mkInt ?_)))
  refine wpAny_getItem_intMap (escMap (g.ext (Ext.of_keep (fun _ _ e => e) (Nat.le_succ _) (Nat.le_refl _)))) e ?_
  dsimp only
  refine wpAny_bind (m := asInt? (.str _ t)) (wpAny_pure (a := none) ?_)
  dsimp only
  refine wpAny_bind (m := asStr? (.str _ t)) (wpAny_pure (a := some _) ?_)
  exact wpAny_pure (hQ _ (Ext.of_keep (fun _ _ e => e) (by show s.toks ≤ s.toks + 1 + 1; omega) (Nat.le_refl _)))
theorem tl_plain {c : Nat} {Q : Mapped → Shared → Prop} (hh : A.handled = none) (g : Good w s) (h : c ∉ specialL) (hQ : ∀ s', Ext s s' → Q .keep s') : wpAny (Md w) A (tableLookup (.ref 45) c) Q E s := by
  unfold tableLookup
  refine wpAny_bind (gainQ (wpAny_attempt (wpAny_bind (wpAny_mkInt ?_))))
  refine wpAny_getItem_missing_of (knd := intKind _ w) (k := (c : Int)) (intKind_is _ _ _ _) not_sys45 hh (map45 (s := { s with toks := s.toks + 1 }) (g.ext (Ext.of_keep (fun _ _ e => e) (Nat.le_succ _) (Nat.le_refl _)))) (esc_none h) fun h' e hx hm => ?_
  dsimp only
  obtain ⟨ob', t, e1, e2, _⟩ := hx.there
  refine wpAny_bind (wpAny_isInstance (T := "KeyError") (b := true) ⟨ob', e1, e2⟩ key_lookup ?_)
  simp only [if_true]
  exact wpAny_bind (wpAny_rule (wpAny_pure (hQ _ (Ext.of_keep hx.keeps hm.toks hm.size))))

theorem forIn_one {α β : Type} {Mo : Model} {a : α} {b : β} {f : α → β → Sem (ForInStep β)} {Q : β → Shared → Prop} (h : wpAny Mo A (f a b) (fun r s' => match r with | .done b => Q b s' | .yield b => Q b s') E s) : wpAny Mo A (forIn #[a] b f) Q E s := by
  rw [← Array.forIn_toList]
  simp only [List.forIn_cons, List.forIn_nil]
  refine wpAny_bind (wpAny_mono h (fun r s' hr => ?_) fun _ _ x => x)
  cases r <;> exact wpAny_pure hr

theorem translate_one {c : Nat} {t : Tok} {R : Result → Shared → Prop} (hh : A.handled = none) (g : Good w s) (hQ : ∀ t' s', Ext s s' → R (.ok (.ret (.str (mkS (escL c)) t'))) s') :
    wpAny (Md w) A.in1 (Builtin.«str.translate» ⟨[.str ⟨#[c]⟩ t, .ref 45], []⟩) (fun fin s' => match fin with | .done f => R (.ok f) s' | .again c' => c'.quiet = true ∧ codeAny (Md w) A c' R s') (fun e s' => R (.error e) s') s := by
  unfold Builtin.«str.translate»
  refine wpAny_bind (m := strOneArg "translate" ⟨[.str ⟨#[c]⟩ t, .ref 45], []⟩) (wpAny_of_eq (a := (.str ⟨#[c]⟩ t, ⟨#[c]⟩, .ref 45)) rfl ?_)
  dsimp only
  rw [if_neg (by show ¬ ((1 == 0) = true); decide)]
  have fin : ∀ (l : Str) (s' : Shared), l = mkS (escL c) → Ext s s' → wpAny (Md w) A.in1 (retStr l) (fun fin s' => match fin with | .done f => R (.ok f) s' | .again c' => c'.quiet = true ∧ codeAny (Md w) A c' R s') (fun e s' => R (.error e) s') s' := by
    intro l s' hl x
    subst hl
    unfold retStr
    refine wpAny_bind (wpAny_mkStr (wpAny_pure (hQ _ _ (x.trans (Ext.of_keep (fun _ _ e => e) (Nat.le_succ _) (Nat.le_refl _))))) ?_)
    show (escL c).length ≤ _
    rw [sizeLine_eq]; unfold escL; split <;> simp
  refine wpAny_bind (forIn_one ?_)
  dsimp only
  rw [if_neg (by show ¬ (tooLong 0 = true); decide)]
  by_cases hc : c ∈ specialL
  · have hlt : c < 128 := by
      have : ∀ c ∈ specialL, c < 128 := by decide
      exact this c hc
    have hall : ((#[c] : Array Nat).all fun x => decide (x < 128)) = true := by simp [hlt]
    rw [hall]
    simp only [if_true, List.lookup_nil]
    refine wpAny_bind (tl_special g hc fun s₁ x₁ => ?_)
    have hne : ((mkS [92, c]).length == 1 && (mkS [92, c]).cps.all fun x => decide (x < 128)) = false := rfl
    simp only [hne, Bool.false_eq_true, if_false]
    refine wpAny_bind (wpAny_pure ?_)
    dsimp only
    refine wpAny_bind (wpAny_rule ?_)
    refine wpAny_bind (tl_special (g.ext x₁) hc fun s₂ x₂ => ?_)
    refine wpAny_pure ?_
    dsimp only
    rw [if_neg (by show ¬ (tooLong (0 + 2) = true); decide)]
    refine fin _ s₂ ?_ (x₁.trans x₂)
    unfold escL; rw [if_pos hc]; rfl
  · have he : mkS (escL c) = ⟨#[c]⟩ := by unfold escL; rw [if_neg hc]; rfl
    have lt1 : ¬ (tooLong (0 + 1) = true) := by decide
    by_cases hlt : c < 128
    · have hall : ((#[c] : Array Nat).all fun x => decide (x < 128)) = true := by simp [hlt]
      rw [hall]
      simp only [if_true, List.lookup_nil]
      refine wpAny_bind (tl_plain hh g hc fun s₁ x₁ => ?_)
      dsimp only
      refine wpAny_bind (wpAny_pure ?_)
      refine wpAny_pure ?_
      dsimp only
      rw [if_neg lt1]
      exact fin _ s₁ he.symm x₁
    · have hall : ((#[c] : Array Nat).all fun x => decide (x < 128)) = false := by simp; omega
      rw [hall]
      simp only [Bool.false_eq_true, if_false]
      refine wpAny_bind (tl_plain hh g hc fun s₁ x₁ => ?_)
      refine wpAny_pure ?_
      dsimp only
      rw [if_neg lt1]
      exact fin _ s₁ he.symm x₁
end
end Mine
open PySem PySem.W PyProof.Rows PySem.Calls
set_option linter.unusedVariables false
set_option maxRecDepth 100000
namespace Mine
def ns55 : List Str := [Str.ofString "pattern"]
def gs55 : List Str := [Str.ofString "isinstance", Str.ofString "str", Str.ofString "_special_chars_map"]
theorem V55 (L : Addr) : EnvOk (callEnv (fd 55) L 55) L ns55 gs55 := envOk_of (by kernel_rfl) (by kernel_rfl) (by kernel_rfl) (by kernel_rfl) (by kernel_rfl) (by kernel_rfl)
theorem gl_no_isinstance (P : Params) : nsIn (hd.heap_39 P) mainGlobals (Str.ofString "isinstance") = some none := by kernel_rfl
theorem gl_no_str (P : Params) : nsIn (hd.heap_39 P) mainGlobals (Str.ofString "str") = some none := by kernel_rfl
theorem gl_chars (P : Params) : nsIn (hd.heap_39 P) mainGlobals (Str.ofString "_special_chars_map") = some (some (.ref 45)) := by kernel_rfl
theorem bo_isinstance : bootBuiltins (Str.ofString "isinstance") = some (.builtin "isinstance") := by decide +kernel
theorem bo_str : bootBuiltins (Str.ofString "str") = some (.type "str") := by decide +kernel
theorem tt_str : typeOf (.type "str") = pure (.type "type") := by kernel_rfl
theorem st_str : isSubtype (.type "str") (.type "str") = pure true := by rw [isSubtype_type]; kernel_rfl

section
variable {w : World} {A : Around} {E : Value → Shared → Prop} {s : Shared}
theorem call_translate {c : Nat} {t : Tok} {Q : Value → Shared → Prop} (hh : A.handled = none) (g : Good w s) (hQ : ∀ t' s', Ext s s' → Q (.str (mkS (escL c)) t') s') :
    wpAny (Md w) A (call (.builtin "str.translate") [.str ⟨#[c]⟩ t, .ref 45]) Q E s :=
  wpAny_call (codeAny_call_builtin (R := wants Q E) F.slot_str_translate.plain F.entry_str_translate (F.slot_str_translate.check _ _ _ _ _ _ _ _ (typeIs_str _ _ _) (F.args_str_translate_2 _ _) (translate_one (R := wants Q E) hh g hQ)))

theorem gm_str {M : Model} {x name : Str} {t : Tok} {id : String} {pl : Sem Bool} {Q : Value × List Value → Shared → Prop} (slot : Slot "str" name id) (hty : typeOf (.builtin id) = pure (.type "method_descriptor")) (h : Q (.builtin id, [.str x t]) s) :
    wpAny M A (getMethod (.str x t) name pl) Q E s := getMethod_builtin (typeIs_str _ _ _) F.plainAttrs_str slot hty (fun _ e => nomatch e) h

set_option maxHeartbeats 1000000 in
theorem call_escape {c : Nat} {t : Tok} {Q : Value → Shared → Prop} (ok : OkA A 3 20) (g : Good w s) (hQ : ∀ t' s', Ext s s' → Q (.str (mkS (escL c)) t') s') :
    wpAny (Md w) A (call (.ref 55) [.str ⟨#[c]⟩ t]) Q E s := by
  refine enter (fd := fd 55) (d := 2) (u := 17) (ns := ns55) (gs := gs55) (body := bodyOf 55) (binds := [(Str.ofString "pattern", .str ⟨#[c]⟩ t)]) ok.mono g K55 ck55 body55 rfl (by decide) (locs rfl) (fm_one _ _ []) (by decide) rfl (V55 _) ?_ (by kernel_rfl) (by kernel_rfl) (by kernel_rfl)
  intro env L s₁ A' ok' V hc hq _ S
  refine wpAny_execs_cons (wpAny_If (wpAny_isTrue_value (Call_ (ev_bi V S (k := 0) rfl gl_no_isinstance bo_isinstance (by decide) (cw_b ?_)))))
  refine wpAny_items_cons (ev_loc V S (k := 0) rfl rfl (wpAny_items_cons (ev_bi V S (k := 1) rfl gl_no_str bo_str (by decide) (wpAny_items_nil ?_))))
  refine call_function_meets F.kind_isinstance F.plain_isinstance F.entry_isinstance (F.args_isinstance_2 _ _) (isinstance_true tt_str st_str) ⟨typeIs_str _ _ _, ?_⟩
  refine wpAny_truthy_bool ?_
  simp only [if_true]
  refine wpAny_execs_cons (wpAny_Return_some (MethodCall_ (ev_loc V S (k := 0) rfl rfl ?_)))
  with_reducible refine gm_str F.slot_str_translate F.type_str_translate ?_
  refine cw_m (wpAny_items_cons (ev_glob V S (k := 2) rfl gl_chars (wpAny_items_nil ?_)))
  with_reducible refine call_translate ok'.hh S.good' ?_
  exact fun t' s' x' => hQ t' s' (S.ext.trans x')
end
end Mine
open PySem PySem.W PyProof.Rows PySem.Calls
set_option linter.unusedVariables false
set_option maxRecDepth 100000
namespace Mine

/-! ## parts: none for the star, some text for a str -/
inductive PVs (st : Addr) : List (Option (List Nat)) → List Value → Prop
  | nil : PVs st [] []
  | star {ps vs} : PVs st ps vs → PVs st (none :: ps) (.ref st :: vs)
  | str {ps vs} (x : List Nat) (t : Tok) : PVs st ps vs → PVs st (some x :: ps) (.str (mkS x) t :: vs)

theorem PVs.len {st : Addr} {ps : List (Option (List Nat))} {vs : List Value} (h : PVs st ps vs) : vs.length = ps.length := by
  induction h <;> simp_all
theorem PVs.get {st : Addr} {ps : List (Option (List Nat))} {vs : List Value} (h : PVs st ps vs) : ∀ {i : Nat} {p : Option (List Nat)} {r : List (Option (List Nat))}, ps.drop i = p :: r →
    (p = none → vs[i]? = some (.ref st)) ∧ ∀ x, p = some x → ∃ t, vs[i]? = some (.str (mkS x) t) := by
  induction h with
  | nil => intro i p r e; simp at e
  | star _ ih =>
    intro i p r e
    cases i with
    | zero => simp at e; obtain ⟨rfl, _⟩ := e; exact ⟨fun _ => rfl, fun x q => nomatch q⟩
    | succ i => exact ih (by simpa using e)
  | str x t _ ih =>
    intro i p r e
    cases i with
    | zero => simp at e; obtain ⟨rfl, _⟩ := e; exact ⟨fun q => (nomatch q), fun y q => ⟨t, by cases q; rfl⟩⟩
    | succ i => exact ih (by simpa using e)
theorem PVs.snocStar {st : Addr} {ps : List (Option (List Nat))} {vs : List Value} (h : PVs st ps vs) : PVs st (ps ++ [none]) (vs ++ [.ref st]) := by
  induction h with
  | nil => exact .star .nil
  | star _ ih => exact .star ih
  | str x t _ ih => exact .str x t ih
theorem PVs.snocStr {st : Addr} {ps : List (Option (List Nat))} {vs : List Value} (h : PVs st ps vs) (x : List Nat) (t : Tok) : PVs st (ps ++ [some x]) (vs ++ [.str (mkS x) t]) := by
  induction h with
  | nil => exact .str x t .nil
  | star _ ih => exact .star ih
  | str y u _ ih => exact .str y u ih
theorem drop_succ {α : Type} {l r : List α} {i : Nat} {x : α} (h : l.drop i = x :: r) : l.drop (i + 1) = r := by
  rw [← List.drop_drop, h]; rfl
theorem drop_lt {α : Type} {l r : List α} {i : Nat} {x : α} (h : l.drop i = x :: r) : i < l.length := by
  rcases Nat.lt_or_ge i l.length with q | q
  · exact q
  · rw [List.drop_eq_nil_of_le q] at h; cases h

theorem isSame_strref (x : Str) (t : Tok) (a : Addr) : isSame (.str x t) (.ref a) = pure false := by
  rw [isSame_plain rfl]; rfl

section
variable {w : World} {A : Around} {E : Value → Shared → Prop} {s₀ s : Shared} {L : Addr} {ns gs : List Str} {vs : List (Option Value)} {objs : List (Addr × Obj)} {env : Env}

theorem is_sr {M : Model} {x : Str} {t : Tok} {a : Addr} {Q : Value → Shared → Prop} (h : Q (.bool false) s) : wpAny M A (compareOp .Is (.str x t) (.ref a)) Q E s :=
  wpAny_bind (wpAny_of_eq (isSame_strref x t a) (wpAny_pure h))
theorem isnot_sr {M : Model} {x : Str} {t : Tok} {a : Addr} {Q : Value → Shared → Prop} (h : Q (.bool true) s) : wpAny M A (compareOp .IsNot (.str x t) (.ref a)) Q E s :=
  wpAny_bind (wpAny_of_eq (isSame_strref x t a) (wpAny_pure h))

/-- ''.join of a list -/
theorem join_s {l : Addr} {x0 : Str} {xs : List Value} {n : Nat} {u : Tok} {out : List Nat} {Q : Value → Shared → Prop} (S : Mst w s₀ L ns vs objs s) (hl : s.heap.get? l = some (lstO xs n)) (hc : CatIs xs out) (hsz : out.length ≤ 10000000)
    (h : ∀ t s', Mst w s₀ L ns vs objs s' → Q (.str (mkS out) t) s') (hx0 : x0 = Str.empty := by rfl) : wpAny (Md w) A (call (.builtin "str.join") [.str x0 u, .ref l]) Q E s := by
  subst hx0
  obtain ⟨ys, a, b⟩ := hc
  refine gainQ (join_list (items := xs.toArray) ⟨_, hl, rfl, _, rfl⟩ (by simpa using a) ?_ fun t' k m => ?_)
  · have := catL_length ys
    rw [b] at this
    have e : (Str.empty).length = 0 := rfl
    rw [e]; omega
  · rw [join_mk b]
    exact h _ _ (S.tok m.toks)

theorem fs_val {x : Str} {pos fpos : Pos} {k : Nat} {v : Str} {u : Tok} {Q : Value → Shared → Prop} (V : EnvOk env L ns gs) (S : Mst w s₀ L ns vs objs s) (hx : ns[k]? = some x) (hv : vs[k]? = some (some (.str v u))) (hsz : v.cps.size ≤ 10000000)
    (h : ∀ t s', Mst w s₀ L ns vs objs s' → Q (.str v t) s') : wpAny (Md w) A (eval (.FormattedValue (.Name x pos) (-1) none fpos) env) Q E s :=
  FormattedValue_plain (ev_loc V S hx hv (wpAny_formatField_str (h _ _ S) (h _ _ (S.tok (Nat.le_succ _))) (by have : sizeLine = 16777216 := rfl; show v.cps.size ≤ _; omega)))

/-- an f-string: text, a name, text -/
theorem fs3 {a b x : Str} {c1 c2 : Nat} {p1 p2 p3 p4 pos : Pos} {k : Nat} {v : List Nat} {u : Tok} {Q : Value → Shared → Prop} (V : EnvOk env L ns gs) (S : Mst w s₀ L ns vs objs s) (hx : ns[k]? = some x) (hv : vs[k]? = some (some (.str (mkS v) u)))
    (hsz : v.length ≤ 10000000) (ha : a.cps.size ≤ 100) (hb : b.cps.size ≤ 100) (h : ∀ t s', Mst w s₀ L ns vs objs s' → Q (.str (mkS (a.cps.toList ++ v ++ b.cps.toList)) t) s') :
    wpAny (Md w) A (eval (.JoinedStr [.Constant (.str a) c1 p1, .FormattedValue (.Name x p2) (-1) none p3, .Constant (.str b) c2 p4] pos) env) Q E s := by
  have hs : sizeLine = 16777216 := rfl
  have e0 : (Str.empty ++ a : Str) = a := str_ext (by show (#[] ++ a.cps).toList = _; simp)
  have e1 : (a ++ mkS v : Str) = mkS (a.cps.toList ++ v) := str_ext (by show (a.cps ++ v.toArray).toList = _; simp [mkS])
  have e2 : (mkS (a.cps.toList ++ v) ++ b : Str) = mkS (a.cps.toList ++ v ++ b.cps.toList) := str_ext (by show ((a.cps.toList ++ v).toArray ++ b.cps).toList = _; simp [mkS])
  have la : a.cps.toList.length = a.cps.size := by simp
  have lb : b.cps.toList.length = b.cps.size := by simp
  refine JoinedStr_many (joinParts_cons (ev_str S fun t s₁ S₁ _ _ => ?_))
  dsimp only
  rw [e0]
  refine ⟨by rw [hs]; show a.cps.size ≤ _; omega, joinParts_cons (fs_val V S₁ hx hv (by simpa [mkS] using hsz) fun t₂ s₂ S₂ => ?_)⟩
  dsimp only
  rw [e1]
  refine ⟨by rw [hs]; show (a.cps.toList ++ v).toArray.size ≤ _; rw [List.size_toArray, List.length_append]; omega, joinParts_cons (ev_str S₂ fun t₃ s₃ S₃ _ _ => ?_)⟩
  dsimp only
  rw [e2]
  have hz : (mkS (a.cps.toList ++ v ++ b.cps.toList)).length ≤ sizeLine := by
    rw [hs]; show (a.cps.toList ++ v ++ b.cps.toList).toArray.size ≤ _; rw [List.size_toArray, List.length_append, List.length_append]; omega
  exact ⟨hz, joinParts_nil (h _ _ (S₃.tok (Nat.le_succ _))) hz⟩

/-- two names at once -/
theorem swap2 {x y : Str} {i j : Nat} {px py tp vp : Pos} {k k' : Nat} {e1 e2 : Expr} (V : EnvOk env L ns gs) (hx : ns[i]? = some x) (hy : ns[j]? = some y) (hne : (x == y) = false) (hl : (py.line == px.line) = true)
    (h1 : ([e1, e2].any fun | .Starred .. => true | _ => false) = false) (h2 : [e1, e2].all (foldedForSure 8) = false) (h3 : [e1, e2].all (constantsAlone 8) = false) :
    swappedStores [.Tuple [.Name x px, .Name y py] k tp] (.Tuple [e1, e2] k' vp) env = pure (some [x, y]) := by
  have hb : env.blockKind = .function := by unfold Env.blockKind; rw [V.kind]; rfl
  have kx := V.names x (List.mem_of_getElem? hx)
  have ky := V.names y (List.mem_of_getElem? hy)
  have hd : [x, y].eraseDups.length = 2 := by
    rw [List.eraseDups_cons, List.filter_cons]
    rw [if_pos (by rw [BEq.comm, hne]; rfl)]
    rfl
  unfold swappedStores
  simp only [List.length_cons, List.length_nil, hb, h1, h2, h3, List.filterMap_cons, List.filterMap_nil, kx, ky, List.head?_cons, Option.map_some, Option.getD_some]
  have l1 : (Expr.Name x px).pos.line = px.line := rfl
  simp only [l1, hl]
  rw [if_neg (by decide), if_neg (by first | exact fun h => Bool.noConfusion (h1.symm.trans h) | (rw [h1]; decide))]
  have q1 : (px.line == px.line) = true := beq_self_eq_true _
  have q2 : (some NameKind.local == some NameKind.local) = true := rfl
  simp only [q1, q2, Bool.and_true, if_true, hd]
  rw [if_neg (by simp)]
  rfl
theorem as2s {x y : Str} {i j : Nat} {v1 v2 : Value} {Q : Shared → Prop} (hh : A.handled = none) (V : EnvOk env L ns gs) (S : Mst w s₀ L ns vs objs s) (hx : ns[i]? = some x) (hy : ns[j]? = some y)
    (h : ∀ s', Mst w s₀ L ns ((vs.set j (some v2)).set i (some v1)) objs s' → Q s') :
    wpAny (Md w) A (newTuple [v1, v2]) (fun v s₁ => wpAny (Md w) A (unpackItems v [x, y].length none) (fun items s₂ =>
      wpAny (Md w) A (assignInOrder ([x, y].reverse.map fun n => bindName env n) items.reverse) (fun _ => Q) E s₂) E s₁) E s := by
  refine wpAny_newTuple ?_ (by show 2 ≤ sizeLine; decide)
  have S1 := (S.push (o := { cls := .type "tuple", data := .seq #[v1, v2] })).sub (objs' := objs) (fun p hp => List.mem_cons_of_mem _ hp) S.ond
  have ht : (s.heap.push { cls := .type "tuple", data := .seq #[v1, v2] }).get? s.heap.objs.size = some { cls := .type "tuple", data := .seq #[v1, v2] } := Heap.get?_push_size _ rfl
  refine unpackItems_tuple hh (items := #[v1, v2]) ⟨_, ht, rfl, _, rfl⟩ fun h' hk => ?_
  have hk' : ∀ b o, (s.heap.push { cls := .type "tuple", data := .seq #[v1, v2] }).get? b = some o → h'.get? b = some o := fun b o e =>
    hk b o (fun q => by subst q; rw [get_none_size] at e; cases e) e
  have hz : (s.heap.push { cls := .type "tuple", data := .seq #[v1, v2] }).objs.size ≤ h'.objs.size := by
    rw [Heap.size_push]
    exact Heap.lt_size (hk' _ _ ht)
  have S2 := S1.step (Ext.of_keep (tk := s.toks) hk' (Nat.le_refl _) hz)
  refine assignInOrder_cons (wpAny_bindName (st_loc V S2 hy fun s₃ S3 _ => ?_))
  refine assignInOrder_cons (wpAny_bindName (st_loc V S3 hx fun s₄ S4 _ => ?_))
  exact assignInOrder_nil (h _ S4)

theorem ev_item {x y : Str} {px py pos : Pos} {a b k n : Nat} {t : Tok} {l : Addr} {xs : List Value} {v : Value} {Q : Value → Shared → Prop} (V : EnvOk env L ns gs) (S : Mst w s₀ L ns vs objs s) (hx : ns[a]? = some x) (hxv : vs[a]? = some (some (.ref l)))
    (hy : ns[b]? = some y) (hyv : vs[b]? = some (some (.int k t))) (hl : s.heap.get? l = some (lstO xs n)) (hk : xs[k]? = some v) (hsz : xs.length ≤ 100000) (h : Q v s) :
    wpAny (Md w) A (eval (.Subscript (.Name x px) (.Name y py) pos) env) Q E s :=
  have hT : s.TypeIs (.ref l) "list" := ⟨_, hl, rfl⟩
  Subscript_ (ev_loc V S hx hxv (ev_loc V S hy hyv (subscriptTail_builtin (T := "list") hT F.slot_list_getitem.lookup (item_l hl hk hsz h))))
/-- x += 1 -/
theorem inc {x : Str} {px pos p1 : Pos} {c a : Nat} {k : Int} {t : Tok} {Q : Flow → Shared → Prop} (V : EnvOk env L ns gs) (S : Mst w s₀ L ns vs objs s) (hx : ns[a]? = some x) (hxv : vs[a]? = some (some (.int k t)))
    (h : ∀ t' s', Mst w s₀ L ns (vs.set a (some (.int (k + 1) t'))) objs s' → Q .next s') : wpAny (Md w) A (exec (.AugAssign (.Name x px) .Add (.Constant (.int 1) c p1) pos) env) Q E s :=
  wpAny_AugAssign_Name (ld_loc V S hx hxv (ev_int S fun t1 s₁ S₁ _ _ => P.iadd_int (st_loc V (S₁.tok (Nat.le_succ _)) hx fun s₂ S₂ _ => h _ _ S₂)))
/-- add(e) -/
theorem addx {x : Str} {px pos p1 : Pos} {a kb kl : Nat} {e : Expr} {b l : Addr} {xs : List Value} {n : Nat} {Q : Flow → Shared → Prop} (V : EnvOk env L ns gs) (S : Mst w s₀ L ns vs objs s) (hx : ns[a]? = some x) (hxv : vs[a]? = some (some (.ref b)))
    (hb : objs[kb]? = some (b, bmO l)) (hl : objs[kl]? = some (l, lstO xs n)) (hsz : xs.length ≤ 100000)
    (h : wpAny (Md w) A (eval e env) (fun v s₁ => Mst w s₀ L ns vs objs s₁ ∧ ∀ s', Mst w s₀ L ns vs (objs.set kl (l, lstO (xs ++ [v]) (n + 1))) s' → Q .next s') E s)
    (hint : interactive env = false) (he : starEach [e] env = (false, eval e env) :: starEach [] env := by rfl) : wpAny (Md w) A (exec (.Expr (.Call (.Name x px) [e] [] p1) pos) env) Q E s :=
  wpAny_Expr (hi := hint) (h := Call_ (ev_loc V S hx hxv (cw_bm (l := l) (wpAny_items_cons (wpAny_mono h (fun v s₁ h₁ => wpAny_items_nil ⟨h₁.1.get (List.mem_of_getElem? hb), app_bm h₁.1 hb hl hsz fun s₂ S₂ _ => h₁.2 s₂ S₂⟩) fun _ _ x => x) he) he)))

/-- x.append(e) -/
theorem appx {x : Str} {px pa pos p1 : Pos} {pl : Sem Bool} {a kl : Nat} {e : Expr} {l : Addr} {xs : List Value} {n : Nat} {Q : Flow → Shared → Prop} (V : EnvOk env L ns gs) (S : Mst w s₀ L ns vs objs s) (hx : ns[a]? = some x) (hxv : vs[a]? = some (some (.ref l)))
    (hl : objs[kl]? = some (l, lstO xs n)) (hsz : xs.length ≤ 100000)
    (h : wpAny (Md w) A (eval e env) (fun v s₁ => Mst w s₀ L ns vs objs s₁ ∧ ∀ s', Mst w s₀ L ns vs (objs.set kl (l, lstO (xs ++ [v]) (n + 1))) s' → Q .next s') E s)
    (hint : interactive env = false) (he : starEach [e] env = (false, eval e env) :: starEach [] env := by rfl)
    (hm : eval (.Call (.Attribute (.Name x px) (Str.ofString "append") pa) [e] [] p1) env = (do
      let ov ← eval (.Name x px) env
      standAt pa.atName
      let (f, first) ← holding [ov] (getMethod ov (Str.ofString "append") pl)
      callWith p1 f first (backTo p1 (starEach [e] env)) []) := by rfl) : wpAny (Md w) A (exec (.Expr (.Call (.Attribute (.Name x px) (Str.ofString "append") pa) [e] [] p1) pos) env) Q E s := by
  refine wpAny_Expr (hi := hint) (h := MethodCall_ (pl := pl) (ev_loc V S hx hxv ?_) hm)
  refine getMethod_list_append (S.get (List.mem_of_getElem? hl)) rfl rfl ?_
  exact cw_m (wpAny_items_cons (wpAny_mono h (fun v s₁ h₁ => wpAny_items_nil (app_m h₁.1 hl hsz fun s₂ S₂ _ => h₁.2 s₂ S₂)) fun _ _ x => x) he) he

/-- a while loop -/
theorem wh {test : Expr} {body : List Stmt} {pos : Pos} {Q : Flow → Shared → Prop} (I : Nat → Shared → Prop)
    (turn : ∀ n s, I n s → wpAny (Md w) A (isTrue test env (eval test env)) (fun b s₂ => if b = true then wpAny (Md w) A (execs body env) (fun f s₃ => match f with
      | .next | .cont => ∃ m, m < n ∧ I m s₃
      | .brk => Q .next s₃
      | .ret v => Q (.ret v) s₃) (fun _ _ => False) s₂ else Q .next s₂) (fun _ _ => False) s)
    (n : Nat) (h : I n s) : wpAny (Md w) A (exec (.While test body [] pos) env) Q (fun _ _ => False) s := by
  refine wpAny_While (codeAny_whileLoop I (fun n s hI => ?_) n h)
  refine wpAny_mono (turn n s hI) (fun b s₂ hb => ?_) (fun _ _ x => x.elim)
  cases b
  · rw [if_neg (by decide)] at hb ⊢
    exact wpAny_execs_nil hb
  · rw [if_pos rfl] at hb ⊢
    exact wpAny_mono hb (fun f s₃ hf => by cases f <;> exact hf) (fun _ _ x => x.elim)
end
end Mine
open PySem PySem.W PyProof.Rows PySem.Calls
set_option linter.unusedVariables false
set_option maxRecDepth 100000
namespace Mine
section
variable {w : World} {A : Around} {E : Value → Shared → Prop} {s₀ s : Shared} {L : Addr} {ns gs : List Str} {vs : List (Option Value)} {objs : List (Addr × Obj)} {env : Env}
/-- a method is called, with one value behind -/
theorem mcall1 {M : Model} {o e : Expr} {name : Str} {ap p : Pos} {Q : Value → Shared → Prop}
    (h : wpAny M A (eval o env) (fun ov s₁ => ∀ pl, wpAny M A (getMethod ov name pl) (fun fx s₂ => wpAny M A (callWith p fx.1 fx.2 (backTo p (starEach [e] env)) []) Q E s₂) E s₁) E s)
    (hbase : attributeBase o name env (eval o env) = eval o env := by rfl) (hline : (ap.endLine == p.line) = true := by rfl) (he : starEach [e] env = (false, eval e env) :: starEach [] env := by rfl) :
    wpAny M A (eval (.Call (.Attribute o name ap) [e] [] p) env) Q E s := by
  rw [arm_eval_Call, hbase]
  refine wpAny_bind (wpAny_mono h (fun ov s₁ h₁ => ?_) fun _ _ x => x)
  refine wpAny_bind (wpAny_standAt ?_)
  have hform : methodCallForm (([e] : List Expr).length + ([] : List Keyword).length) (backTo p (starEach [e] env)) (backToKw p (keywordEach [] env)) = true := by rw [he]; rfl
  have hpos : methodCallPos true o env ap p = pure p := by unfold methodCallPos; simp [hline]
  unfold methodCall
  rw [hform]
  unfold calleeOf
  refine wpAny_bind (wpAny_holding ?_)
  rw [if_pos rfl]
  refine wpAny_mono (h₁ _) (fun fx s₂ h₂ => ?_) fun _ _ x => x
  refine wpAny_bind (wpAny_of_eq hpos ?_)
  exact h₂

theorem base_const (k : Const) (c : Nat) (cp : Pos) (name : Str) (env : Env) : attributeBase (.Constant k c cp) name env (eval (.Constant k c cp) env) = eval (.Constant k c cp) env := by rfl
theorem star_name (y : Str) (py : Pos) (env : Env) : starEach [.Name y py] env = (false, eval (.Name y py) env) :: starEach [] env := by rfl
/-- x = ''.join(y) -/
theorem joinx {x y x0 : Str} {px py ap p cp pos : Pos} {c a b n : Nat} {l : Addr} {xs : List Value} {out : List Nat} {Q : Flow → Shared → Prop} (V : EnvOk env L ns gs) (S : Mst w s₀ L ns vs objs s) (hx : ns[a]? = some x)
    (hy : ns[b]? = some y) (hyv : vs[b]? = some (some (.ref l))) (hl : ∀ s', Mst w s₀ L ns vs objs s' → s'.heap.get? l = some (lstO xs n)) (hc : CatIs xs out) (hsz : out.length ≤ 10000000) (hx0 : x0 = Str.empty)
    (h : ∀ t s', Mst w s₀ L ns (vs.set a (some (.str (mkS out) t))) objs s' → Q .next s') (hline : (ap.endLine == p.line) = true := by rfl) :
    wpAny (Md w) A (exec (.Assign [.Name x px] (.Call (.Attribute (.Constant (.str x0) c cp) (Str.ofString "join") ap) [.Name y py] [] p) pos) env) Q E s := by
  with_reducible refine wpAny_Assign_Name ?_ ?_
  rotate_left
  · rfl
  with_reducible refine mcall1 ?_ (base_const _ _ _ _ _) hline (star_name _ _ _)
  refine ev_str S fun t₃ s₃ S₃ _ _ => ?_
  intro pl
  with_reducible refine gm_str F.slot_str_join F.type_str_join ?_
  refine cw_m (wpAny_items_cons (ev_loc V S₃ hy hyv (wpAny_items_nil ?_)))
  exact join_s S₃ (hl _ S₃) hc hsz (fun t₄ s₄ S₄ => st_loc V S₄ hx fun s₅ S₅ _ => h _ _ S₅) hx0
end
end Mine
open PySem PySem.W PyProof.Rows PySem.Calls
set_option linter.unusedVariables false
set_option maxRecDepth 100000
namespace Mine
open Builtin Builtin.Str StrLaws

theorem size_mk (p : List Nat) : (mkS p).length = p.length := by simp [mkS, Str.length]

/-! ## find between two places -/
theorem occ_full (s sub : Str) (hi : Nat) : ∀ (l : List Nat) (a f : Nat), (forIn l ((#[a] : Array Nat), f) (occBody s sub hi 1)).run = (#[a], f)
  | [], a, f => rfl
  | b :: l, a, f => by
    rw [List.forIn_cons]
    unfold occBody
    rw [if_neg (by simp)]
    exact occ_full s sub hi l a f
theorem occ_hit (s sub : Str) (hi : Nat) : ∀ (l r : List Nat) (k f : Nat), f ≤ k → (∀ i ∈ l, ¬ (i + sub.length ≤ hi ∧ subAt s sub i = true)) → k + sub.length ≤ hi → subAt s sub k = true →
    (forIn (l ++ k :: r) ((#[] : Array Nat), f) (occBody s sub hi 1)).run.fst = #[k]
  | [], r, k, f, hf, _, h1, h2 => by
    rw [List.nil_append, List.forIn_cons]
    unfold occBody
    rw [if_pos ⟨⟨⟨by simp, hf⟩, h1⟩, h2⟩]
    exact congrArg Prod.fst (occ_full s sub hi r k _)
  | a :: l, r, k, f, hf, hn, h1, h2 => by
    rw [List.cons_append, List.forIn_cons]
    unfold occBody
    rw [if_neg (fun q => hn a (List.mem_cons_self ..) ⟨q.1.2, q.2⟩)]
    exact occ_hit s sub hi l r k f hf (fun i hi' => hn i (List.mem_cons_of_mem _ hi')) h1 h2
theorem sub1 (p : List Nat) (c i : Nat) : subAt (mkS p) ⟨#[c]⟩ i = true ↔ p[i]? = some c := by
  unfold subAt
  rw [beq_iff_eq, ← Array.toList_inj, Array.toList_extract, List.extract_eq_drop_take']
  show (p.take (i + 1)).drop i = [c] ↔ _
  rw [List.drop_take, show i + 1 - i = 1 by omega]
  cases h : p.drop i with
  | nil =>
    have : p.length ≤ i := List.drop_eq_nil_iff.mp h
    simp [this]
  | cons a r =>
    have hlt : i < p.length := by
      rcases Nat.lt_or_ge i p.length with q | q
      · exact q
      · rw [List.drop_eq_nil_of_le q] at h; cases h
    rw [List.drop_eq_getElem_cons hlt] at h
    injection h with h1 h2
    simp [List.getElem?_eq_getElem hlt, h1]
theorem occ_first {p : List Nat} {c lo hi k : Nat} (h1 : lo ≤ k) (h2 : k < hi) (h3 : p[k]? = some c) (h4 : ∀ i, lo ≤ i → i < k → p[i]? ≠ some c) : occurrences (mkS p) ⟨#[c]⟩ lo hi 1 = [k] := by
  rw [occ_eq]
  have e : List.range' lo (hi + 1 - lo) = List.range' lo (k - lo) ++ k :: List.range' (k + 1) (hi - k) := by
    have := List.range'_append_1 (s := lo) (m := k - lo) (n := hi + 1 - k)
    rw [show lo + (k - lo) = k by omega, show k - lo + (hi + 1 - k) = hi + 1 - lo by omega] at this
    rw [← this, show hi + 1 - k = (hi - k) + 1 by omega, List.range'_succ]
  rw [e, occ_hit]
  · exact h1
  · intro i hi' q
    have := List.mem_range'_1.mp hi'
    exact h4 i this.1 (by omega) ((sub1 p c i).mp q.2)
  · show k + 1 ≤ hi; omega
  · exact (sub1 p c k).mpr h3
theorem occ_nil {p : List Nat} {c lo hi n : Nat} (h : ∀ i, i < hi → lo ≤ i → p[i]? ≠ some c) (hn : n = 1) : occurrences (mkS p) ⟨#[c]⟩ lo hi n = [] := by
  subst hn
  rw [occ_eq]
  have e := (occ_none (mkS p) ⟨#[c]⟩ hi (List.range' lo (hi + 1 - lo)) lo (fun i hi' => (List.mem_range'_1.mp hi').1)).mpr (fun i hi' q => by
    have := List.mem_range'_1.mp hi'
    have h1 : i + 1 ≤ hi := q.1
    exact h i (by omega) this.1 ((sub1 p c i).mp q.2))
  rw [e]
theorem occ_mem {p : List Nat} {c lo hi n : Nat} (h : c ∉ p) : occurrences (mkS p) ⟨#[c]⟩ lo hi n = [] := by
  cases e : occurrences (mkS p) ⟨#[c]⟩ lo hi n with
  | nil => rfl
  | cons a r =>
    have := occ_spec (mkS p) ⟨#[c]⟩ lo hi n a (by rw [e]; exact List.mem_cons_self ..)
    exact absurd (List.mem_of_getElem? ((sub1 p c a).mp this.2)) h

theorem gives_find4 (x y : Str) (i j : Int) (t u v v' : Tok) : Gives (Builtin.«str.find» ⟨[.str x t, .str y u, .int i v, .int j v'], []⟩)
    (.int (match occurrences x y (fromIndex x.length i) (min (fromIndex x.length j) x.length) 1 with | k :: _ => (k : Int) | [] => -1)) := by
  show Gives (match occurrences x y (fromIndex x.length i) (min (fromIndex x.length j) x.length) 1 with | k :: _ => retInt k | [] => (do rule "str.find.not-found"; retInt (-1))) _
  cases occurrences x y (fromIndex x.length i) (min (fromIndex x.length j) x.length) 1 with
  | nil => exact .rule (.of_eq rfl)
  | cons k _ => exact .of_eq rfl

section
variable {w : World} {A : Around} {E : Value → Shared → Prop} {s₀ s : Shared} {L : Addr} {ns gs : List Str} {vs : List (Option Value)} {objs : List (Addr × Obj)} {env : Env}

theorem call_find4 {p : List Nat} {c a b : Nat} {t u v v' : Tok} {Q : Value → Shared → Prop} (hb : b ≤ p.length)
    (h : Q (.int (match occurrences (mkS p) ⟨#[c]⟩ a b 1 with | k :: _ => (k : Int) | [] => -1) s.toks) { s with toks := s.toks + 1 }) :
    wpAny (Md w) A (call (.builtin "str.find") [.str (mkS p) t, .str ⟨#[c]⟩ u, .int (a : Nat) v, .int (b : Nat) v']) Q E s := by
  have e : ∀ n : Nat, fromIndex (mkS p).length (n : Int) = n := fun n => by unfold fromIndex; rw [if_neg (by omega)]; omega
  have g := gives_find4 (mkS p) ⟨#[c]⟩ a b t u v v'
  rw [e, e, size_mk, Nat.min_eq_left hb] at g
  exact call_gives F.slot_str_find (typeIs_str _ _ _) F.entry_str_find (F.args_str_find_4 _ _ _ _) g h

/-- nothing to replace -/
theorem call_rep0 {M : Model} {prog : Program} {p : List Nat} {c : Nat} {z : Str} {t u v : Tok} {Q : Value → Shared → Prop} (hc : c ∉ p) (h : Q (.str (mkS p) t) s) :
    wpAny (model prog w) A (call (.builtin "str.replace") [.str (mkS p) t, .str ⟨#[c]⟩ u, .str z v]) Q E s := by
  have g := gives_str_replace (mkS p) ⟨#[c]⟩ z t u v (fun h => by rw [occ_mem hc] at h; cases h)
  rw [occ_mem hc] at g
  exact call_gives F.slot_str_replace (typeIs_str _ _ _) F.entry_str_replace (F.args_str_replace_3 _ _ _) g h

/-- one sign of a text -/
theorem ev_char {x y : Str} {px py pos : Pos} {a b k c : Nat} {t u : Tok} {p : List Nat} {Q : Value → Shared → Prop} (V : EnvOk env L ns gs) (S : Mst w s₀ L ns vs objs s) (hx : ns[a]? = some x) (hxv : vs[a]? = some (some (.str (mkS p) u)))
    (hy : ns[b]? = some y) (hyv : vs[b]? = some (some (.int (k : Nat) t))) (hk : p[k]? = some c) (hsz : p.length ≤ 1000000) (h : ∀ t' s', Mst w s₀ L ns vs objs s' → Q (.str ⟨#[c]⟩ t') s') :
    wpAny (Md w) A (eval (.Subscript (.Name x px) (.Name y py) pos) env) Q E s := by
  have hlt := (List.getElem?_eq_some_iff.mp hk).1
  refine Subscript_ (ev_loc V S hx hxv (ev_loc V S hy hyv (subscriptTail_builtin (T := "str") (typeIs_str _ _ _) F.slot_str_getitem.lookup (P.getItem_str (c := c) ?_ ?_ (h _ _ (S.tok (Nat.le_succ _)))))))
  · simp; omega
  · rw [size_mk, show seqIndex? ((k : Nat) : Int) p.length = some k by unfold seqIndex?; simp; omega]
    show (mkS p).cps[k]? = some c
    rw [mkS, List.getElem?_toArray, hk]

theorem post_vs {s : Shared} {c : Prop} [Decidable c] {y z : Str} {t : Tok} {Q : Value → Shared → Prop} (h : (if c then y else z).length ≤ sizeLine ∧ ∀ t' k, s.toks ≤ k → Q (.str (if c then y else z) t') { s with toks := k }) :
    (if c then Made.val (.str y t) else Made.str z).post Q s := by
  by_cases hc : c
  · rw [if_pos hc]; have h' := h.2 t s.toks (Nat.le_refl _); rw [if_pos hc] at h'; exact h'
  · rw [if_neg hc]; have h' := h.2 s.toks (s.toks + 1) (Nat.le_succ _); have h1 := h.1; rw [if_neg hc] at h' h1; exact ⟨h1, h'⟩

/-- a slice of a text -/
theorem sl {value : Expr} {lower upper : Option Expr} {p pos : Pos} {Q : Value → Shared → Prop}
    (h : wpAny (Md w) A (eval value env) (fun o s₁ => wpAny (Md w) A (evalPart lower env) (fun vl s₂ => wpAny (Md w) A (evalPart upper env) (fun vu s₃ => ∃ x t l u, o = .str x t ∧ vl = partValue l ∧ vu = partValue u ∧ x.length ≤ 1000000 ∧ Mst w s₀ L ns vs objs s₃ ∧
      ∀ t' s', Mst w s₀ L ns vs objs s' → Q (.str (sliceText x (l.map (·.1)) (u.map (·.1))) t') s') E s₂) E s₁) E s)
    (ht : ∀ o r, letTemporaryGo value o r = pure () := by intro _ _; rfl) : wpAny (Md w) A (eval (.Subscript value (.Slice lower upper none p) pos) env) Q E s := by
  refine wpAny_Subscript_str_slice (wpAny_mono h (fun o s₁ h₁ => wpAny_mono h₁ (fun vl s₂ h₂ => wpAny_mono h₂ (fun vu s₃ h₃ => ?_) fun _ _ e => e) fun _ _ e => e) fun _ _ e => e) ht
  obtain ⟨x, t, l, u, rfl, rfl, rfl, hz, S, hQ⟩ := h₃
  refine ⟨x, t, l, u, rfl, rfl, rfl, ?_⟩
  have S1 := (S.push (o := { cls := .type "slice", data := .fields #[partValue l, partValue u, .none] })).sub (objs' := objs) (fun p hp => List.mem_cons_of_mem _ hp) S.ond
  have hle : (sliceText x (l.map (·.1)) (u.map (·.1))).length ≤ x.length := Txt.slice_le x _ _
  exact post_vs ⟨Nat.le_trans hle (by have : sizeLine = 16777216 := rfl; omega), fun t' k hk => hQ t' _ (S1.tok hk)⟩

/-- x[i:j] -/
theorem sl_ss {x y z : Str} {px py pz p pos : Pos} {a b c i j : Nat} {u t1 t2 : Tok} {v : List Nat} {Q : Value → Shared → Prop} (V : EnvOk env L ns gs) (S : Mst w s₀ L ns vs objs s) (hx : ns[a]? = some x) (hxv : vs[a]? = some (some (.str (mkS v) u)))
    (hy : ns[b]? = some y) (hyv : vs[b]? = some (some (.int (i : Nat) t1))) (hz : ns[c]? = some z) (hzv : vs[c]? = some (some (.int (j : Nat) t2))) (hij : i ≤ j) (hj : j ≤ v.length) (hsz : v.length ≤ 1000000)
    (h : ∀ t' s', Mst w s₀ L ns vs objs s' → Q (.str (mkS ((v.drop i).take (j - i))) t') s') :
    wpAny (Md w) A (eval (.Subscript (.Name x px) (.Slice (some (.Name y py)) (some (.Name z pz)) none p) pos) env) Q E s := by
  refine sl (s₀ := s₀) (L := L) (ns := ns) (vs := vs) (objs := objs) (ev_loc V S hx hxv ?_)
  show wpAny _ _ (eval (.Name y py) env) _ _ _
  refine ev_loc V S hy hyv ?_
  show wpAny _ _ (eval (.Name z pz) env) _ _ _
  refine ev_loc V S hz hzv ?_
  refine ⟨mkS v, u, some ((i : Nat), t1), some ((j : Nat), t2), rfl, rfl, rfl, by rw [size_mk]; exact hsz, S, fun t' s' S' => ?_⟩
  show Q (.str (sliceText (mkS v) (some (i : Int)) (some (j : Int))) t') s'
  rw [sliceText_nat (mkS v) hij (by rw [size_mk]; exact hj)]
  exact h t' s' S'
/-- x[1:] -/
theorem sl_1n {p p1 pos : Pos} {n1 : Nat} {v : List Nat} {value : Expr} {Q : Value → Shared → Prop}
    (hv : 1 ≤ v.length) (hsz : v.length ≤ 1000000) (ht : ∀ o r, letTemporaryGo value o r = pure ())
    (hx : ∀ Q' : Value → Shared → Prop, (∀ u s', Mst w s₀ L ns vs objs s' → Q' (.str (mkS v) u) s') → wpAny (Md w) A (eval value env) Q' E s)
    (h : ∀ t' s', Mst w s₀ L ns vs objs s' → Q (.str (mkS (v.drop 1)) t') s') :
    wpAny (Md w) A (eval (.Subscript value (.Slice (some (.Constant (.int 1) n1 p1)) none none p) pos) env) Q E s := by
  refine sl (s₀ := s₀) (L := L) (ns := ns) (vs := vs) (objs := objs) (hx _ fun u s₁ S₁ => ?_) ht
  show wpAny _ _ (eval (.Constant (.int 1) n1 p1) env) _ _ _
  refine ev_int S₁ fun t1 s₂ S₂ _ _ => ?_
  refine evalPart_none_step ?_
  refine ⟨mkS v, u, some (1, t1), none, rfl, rfl, rfl, by rw [size_mk]; exact hsz, S₂, fun t' s' S' => ?_⟩
  show Q (.str (sliceText (mkS v) (some (1 : Int)) none) t') s'
  rw [sliceText_from ⟨by omega, by rw [mkS_toList]; omega⟩]
  have e : ((v.drop 1).take ((v.length : Int) - 1).toNat) = v.drop 1 := by rw [List.take_of_length_le]; simp
  have := h t' s' S'
  rw [← e] at this
  exact this
/-- x[:-1] -/
theorem sl_nm {value : Expr} {p p1 p2 pos : Pos} {n1 : Nat} {v : List Nat} {Q : Value → Shared → Prop}
    (hv : 1 ≤ v.length) (hsz : v.length ≤ 1000000) (ht : ∀ o r, letTemporaryGo value o r = pure ())
    (hx : ∀ Q' : Value → Shared → Prop, (∀ u s', Mst w s₀ L ns vs objs s' → Q' (.str (mkS v) u) s') → wpAny (Md w) A (eval value env) Q' E s)
    (hm : ∀ s' (Q' : Value → Shared → Prop), Mst w s₀ L ns vs objs s' → (∀ u s', Mst w s₀ L ns vs objs s' → Q' (.int (-1) u) s') → wpAny (Md w) A (eval (.UnaryOp .USub (.Constant (.int 1) n1 p1) p2) env) Q' E s')
    (h : ∀ t' s', Mst w s₀ L ns vs objs s' → Q (.str (mkS v.dropLast) t') s') :
    wpAny (Md w) A (eval (.Subscript value (.Slice none (some (.UnaryOp .USub (.Constant (.int 1) n1 p1) p2)) none p) pos) env) Q E s := by
  refine sl (s₀ := s₀) (L := L) (ns := ns) (vs := vs) (objs := objs) (hx _ fun u s₁ S₁ => ?_) ht
  refine evalPart_none_step ?_
  refine hm s₁ _ S₁ fun t1 s₂ S₂ => ?_
  refine ⟨mkS v, u, none, some (-1, t1), rfl, rfl, rfl, by rw [size_mk]; exact hsz, S₂, fun t' s' S' => ?_⟩
  show Q (.str (sliceText (mkS v) none (some (-1 : Int))) t') s'
  rw [sliceText_to_neg (by omega) (by rw [size_mk]; omega)]
  have e : ((v.drop 0).take ((-1 : Int) + v.length - 0).toNat) = v.dropLast := by
    rw [List.drop_zero, List.dropLast_eq_take]; congr 1; omega
  have := h t' s' S'
  rw [← e] at this
  rw [size_mk]
  exact this
end
end Mine
open PySem PySem.W PyProof.Rows PySem.Calls
set_option linter.unusedVariables false
set_option maxRecDepth 100000
namespace Mine

/-- as Ext, without the counts -/
structure Lite (s s' : Shared) : Prop where
  keep : ∀ b o, b ≠ 57 → s.heap.get? b = some o → s'.heap.get? b = some o
  tab : ∀ ps, Tab s.heap ps → ∃ more, Tab s'.heap (ps ++ more)
  bare : AllBare s.gens → AllBare s'.gens
  os : s'.os = s.os
theorem Lite.of {s s' : Shared} (x : Ext s s') : Lite s s' := ⟨x.keep, x.tab, x.bare, x.os⟩
theorem Lite.trans {s s' s'' : Shared} (x : Lite s s') (y : Lite s' s'') : Lite s s'' :=
  ⟨fun b o n e => y.keep b o n (x.keep b o n e), fun ps h => by
    obtain ⟨m, h'⟩ := x.tab ps h
    obtain ⟨m', h''⟩ := y.tab _ h'
    exact ⟨m ++ m', by rw [← Array.append_assoc]; exact h''⟩, fun h => y.bare (x.bare h), y.os.trans x.os⟩
theorem Lite.ext {s s' : Shared} (x : Lite s s') (m : Mono s s') : Ext s s' := ⟨x.keep, x.tab, x.bare, x.os, m.toks, m.size⟩
theorem Lite.of_keep {s s' : Shared} (hk : ∀ b o, s.heap.get? b = some o → s'.heap.get? b = some o) (hg : AllBare s.gens → AllBare s'.gens) (ho : s'.os = s.os) : Lite s s' :=
  ⟨fun b o _ e => hk b o e, fun ps h => ⟨#[], by simpa [Tab] using ⟨hk _ _ h.1, h.2⟩⟩, hg, ho⟩

/-- what is known below a step -/
structure Good0 (w : World) (s : Shared) : Prop where
  bs : Bs w s.heap
  tab : ∃ ps, Tab s.heap ps
  bare : AllBare s.gens
theorem Good.zero {w : World} {s : Shared} (g : Good w s) : Good0 w s := ⟨g.bs, g.tab, g.bare⟩
theorem Good0.lite {w : World} {s s' : Shared} (g : Good0 w s) (x : Lite s s') : Good0 w s' := by
  obtain ⟨ps, t⟩ := g.tab
  obtain ⟨m, t'⟩ := x.tab ps t
  exact ⟨g.bs.ext t x.keep, ⟨_, t'⟩, x.bare g.bare⟩

theorem tabAt {H : Heap} {ps : Array Value} (c : CodeHd H 61 57) (t : Tab H ps) : H.TableAt 61 57 ps := by
  obtain ⟨o, vs, file, tf, flags, tg, inF, text, tt, e1, e2, e3, e4, _⟩ := c
  exact ⟨⟨o, vs, e1, e2, e3, e4⟩, t.1⟩

section
variable {w : World} {A : Around} {E : Value → Shared → Prop} {s : Shared} {env : Env}
theorem gcode {M : Model} {pos : Pos} {q : Str} {scope : Scope} {Q : Value → Shared → Prop} (g : Good0 w s) (hc : env.code = .ref 61)
    (h : ∀ code s', Lite s s' → s'.gens = s.gens → s.heap.objs.size ≤ s'.heap.objs.size → Q code s') : wpAny M A (genexprCode env pos q scope) Q E s := by
  obtain ⟨ps, t⟩ := g.tab
  cases hf : codeAmong pos ps.toList with
  | some c' => exact wpAny_genexprCode_hit hc (g.bs.cd.code t.1 t.2) hf (h _ _ (Lite.of (Ext.refl s)) rfl (Nat.le_refl _))
  | none =>
    refine wpAny_genexprCodeX hc (g.bs.cd.code t.1 t.2) (tabAt g.bs.cd t) hf fun c' h' tk hx hge hlt hcode _ htab _ => ?_
    refine h _ _ ⟨fun b o n e => hx b o n e, fun ps' t' => ?_, fun x => x, rfl⟩ rfl (Nat.le_trans hge (Nat.le_of_lt hlt))
    have e : ps' = ps := by
      have := t'.1.symm.trans t.1
      simpa [tabObj] using this
    subst e
    obtain ⟨_, _, _, _, _, _, _, _, _, _, _, _, _, _, _, _, _, _, _, htr, _⟩ := hcode
    exact ⟨_, htab.2, htr⟩

theorem bfor {M : Model} {running : Addr} {Q : Addr → Shared → Prop} (g : Good0 w s) (hg : env.globals = mainGlobals) (h : Q builtinsNs s) : wpAny M A (builtinsFor env.globals running) Q E s := by
  obtain ⟨mg, hn, bm, ob, b1, b2, b3, b4, b5, b6⟩ := g.bs.g
  rw [hg]
  exact wpAny_builtinsFor hn b1 b2 b3 b4 b5 b6 h
end
end Mine
open PySem PySem.W PyProof.Rows PySem.Calls
set_option linter.unusedVariables false
set_option maxRecDepth 100000
namespace Mine
theorem passing_all (n : Nat) : passing (fun _ => true) n 0 = List.range n := by
  unfold passing
  simp
theorem strsAre_of : ∀ {l : List (Str × Tok)} {ys : List Str}, StrsAre (strValues l) ys → l.map (·.1) = ys
  | [], _, h => by cases h; rfl
  | (a, t) :: l, _, h => by
    cases h with
    | cons y t h => simp [strsAre_of h]
theorem strsAre_get : ∀ {xs : List Value} {ys : List Str}, StrsAre xs ys → ∀ {i : Nat} {v : Value}, xs[i]? = some v → ∃ y u, v = .str y u
  | _, _, .nil, i, v, e => by simp at e
  | _, _, .cons y t h, 0, v, e => ⟨y, t, by simpa using e.symm⟩
  | _, _, .cons y t h, i + 1, v, e => strsAre_get h (i := i) (by simpa using e)
theorem bareOnly {g : Nat} {a b : Array GenState} (x : GenOnlyQ g a b) (h : AllBare a) : AllBare b := by
  rcases x with rfl | ⟨⟨h1, h2⟩, h3⟩
  · exact h
  · intro y hy
    obtain ⟨k, hk, rfl⟩ := Array.mem_iff_getElem.mp hy
    by_cases e : k = g
    · subst e; exact h3 _ (Array.getElem?_eq_getElem hk)
    · have := h2 k e
      rw [Array.getElem?_eq_getElem hk] at this
      exact h _ (Array.mem_of_getElem? this.symm)
section
variable {w : World} {A : Around} {E : Value → Shared → Prop} {s₀ s : Shared} {L : Addr} {ns gs : List Str} {vs : List (Option Value)} {objs : List (Addr × Obj)} {env : Env}

theorem gen_join {elt : Expr} {x y sep : Str} {px py gp : Pos} {u : Tok} {scope : Scope} {a n : Nat} {l : Addr} {xs : List Value} {ys : List Str} {Q : Value → Shared → Prop} (hh : A.handled = none) (hroom : A.depth < recursionLimit)
    (V : EnvOk env L ns gs) (S : Mst w s₀ L ns vs objs s) (hc : env.code = .ref 61) (hy : ns[a]? = some y) (hyv : vs[a]? = some (some (.ref l))) (hl : (l, lstO xs n) ∈ objs) (hxs : StrsAre xs ys) (hlen : xs.length ≤ 1000)
    (hok : (ys.map (·.length)).sum + ys.length * sep.length ≤ 16777216)
    (hco : scope.isCoroutine = false) (hclos : closureFor scope env = pure []) (hcell : ∀ y ∈ scope.names, y.2 ≠ .cell) (h0 : scope.names.lookup (".0" : Str) = some NameKind.local)
    (hx : scope.names.lookup x = some .local) (hkind : scope.kind = .function)
    (helt : ∀ (A' : Around) (C : Addr) (code : Value) (s₂ : Shared) (m₂ : Str → Option Value) (E' : Value → Shared → Prop) (i : Nat) (v : Value), A'.handled = none → xs[i]? = some v → s₂.heap.Ns C m₂ → m₂ x = some v →
      wpAny (Md w) A' (eval elt (genEnv scope [] C code builtinsNs env)) (fun y s₃ => y = v ∧ Keeps s₂ s₃) E' s₂)
    (h : ∀ t s', Mst w s₀ L ns vs objs s' → Q (.str (Txt.join sep ys) t) s') :
    wpAny (Md w) A (eval (.GeneratorExp elt [⟨.Name x px, .Name y py, [], 0⟩] scope gp) env) (fun g s₁ => wpAny (Md w) A (call (.builtin "str.join") [.str sep u, g]) Q E s₁) E s := by
  have goal : wpAny (Md w) A (eval (.GeneratorExp elt [⟨.Name x px, .Name y py, [], 0⟩] scope gp) env) (fun g s₁ => wpAny (Md w) A (call (.builtin "str.join") [.str sep u, g]) (fun v s' => v = .str (Txt.join sep ys) (match v with | .str _ t => t | _ => 0) ∧ Lite s s') E s₁) E s := by
    have G0 := S.good'.zero
    have hlg := S.get hl
    refine wpAny_GeneratorExp_walksQ hh hco hclos hcell h0 hx hkind hroom (ev_loc V S hy hyv (wpAny_pyIter_list (items := xs.toArray) ⟨_, hlg, rfl, _, rfl⟩ ⟨?_, ?_⟩)) (fun _ => rfl)
    · exact G0.bs.lim.push _
    have T1 : Lite s { s with heap := s.heap.push { cls := .type "list_iterator", data := .fields #[.ref l, .int 0 0] } } := Lite.of_keep (fun b o e => Heap.get?_push_of_some _ e) (fun x => x) rfl
    refine gcode (G0.lite T1) hc fun code s₄ T2 hg2 hz2 => ?_
    have T := T1.trans T2
    have G4 := G0.lite T
    refine bfor G4 V.gl ?_
    have hl57 : l ≠ 57 := (S.obj _ hl).2.2.2
    have hI57 : s.heap.objs.size ≠ 57 := Nat.ne_of_gt S.good'.lt57
    have hlI : l ≠ s.heap.objs.size := Nat.ne_of_lt (Heap.lt_size hlg)
    have hIlt : s.heap.objs.size < s₄.heap.objs.size := by
      refine Nat.lt_of_lt_of_le ?_ hz2
      show _ < (s.heap.push _).objs.size
      rw [Heap.size_push]; omega
    have hcs : cStatics ≠ s.heap.objs.size := by
      obtain ⟨_, hn, _⟩ := G0.bs.lim
      exact Nat.ne_of_lt hn.lt
    refine ⟨s.heap.objs.size, [s.heap.objs.size, l], [s.heap.objs.size], xs.toArray.size, fun i v => xs.toArray[i]? = some v, _, fun _ => true, fun i v => xs.toArray[i]? = some v, rfl,
      (fun A' hA => Walks.list hA _ _ hlI xs.toArray), ⟨⟨_, T2.keep _ _ hI57 (Heap.get?_push_size _ rfl), rfl, rfl⟩, ⟨_, T.keep _ _ hl57 hlg, rfl, _, rfl⟩⟩, ?_, G4.bs.lim, by simpa using hcs, ?_, ?_⟩
    · intro b hb
      rcases List.mem_cons.mp hb with rfl | hb
      · exact hIlt
      · rcases List.mem_cons.mp hb with rfl | hb
        · exact Nat.lt_trans (Heap.lt_size hlg) hIlt
        · cases hb
    · intro href hhref
      refine ⟨fun A' E' i v s₂ m₂ hA hP hn hm _ => wpAny_pure ⟨rfl, s₂.heap, s₂.toks, rfl, fun _ _ e => e⟩, fun A' E' i v s₂ m₂ hA hP _ hn hm _ => ?_⟩
      refine wpAny_mono (helt A' _ code s₂ m₂ E' i v hA (by simpa using hP) hn hm) (fun y s₃ q => ⟨?_, q.2⟩) fun _ _ e => e
      rw [q.1]; exact hP
    · intro g h₅ tk gs hgb hag hsz₅ hk₅ W hat
      have T5 : Lite s { s₄ with gens := s₄.gens.push gs, toks := tk, heap := h₅ } := T.trans (Lite.of_keep (s := s₄) (s' := { s₄ with gens := s₄.gens.push gs, toks := tk, heap := h₅ }) hk₅ (fun x => x.push hgb) rfl)
      refine SC.joinGen W.in4_2 (fun i s' st => st.1.typeIs) hat ?_ (List.mem_cons_self) ?_ (fun s' lt hm hacc => ?_) ?_
      · intro b hb
        show b < h₅.objs.size
        rw [hsz₅]
        rcases List.mem_cons.mp hb with rfl | hb
        · exact Nat.lt_succ_self _
        · rcases List.mem_cons.mp hb with rfl | hb
          · exact Nat.lt_succ_of_lt hag
          · exact Nat.lt_succ_of_lt (Nat.lt_trans (List.mem_range.mp hb) hag)
      · rintro j v ⟨i, _, hv⟩
        exact strsAre_get hxs (i := i) (by simpa using hv)
      · have e : strValues lt = xs := by
          have h1 := hacc.1
          rw [passing_all, List.length_range, List.size_toArray, List.size_toArray] at h1
          apply List.ext_getElem?
          intro j
          by_cases hj : j < (strValues lt).length
          · obtain ⟨i, hi, hv⟩ := hacc.2 j _ (by rw [List.getElem?_toArray]; exact List.getElem?_eq_getElem hj)
            rw [passing_all] at hi
            have hji : j = i := by
              have hlt : j < xs.toArray.size := by rw [List.size_toArray]; omega
              rw [List.getElem?_range hlt] at hi
              exact Option.some.inj hi
            subst hji
            rw [List.getElem?_eq_getElem hj]
            simpa using hv.symm
          · rw [List.getElem?_eq_none (by omega), List.getElem?_eq_none (by omega)]
        rw [← e] at hxs
        have e2 := strsAre_of hxs
        rw [e2]
        refine ⟨joinOk_of hok, fun t' k => ⟨rfl, ?_⟩⟩
        have hwr : ∀ b, b < s.heap.objs.size → b ∉ [s₄.heap.objs.size, s.heap.objs.size] := fun b hb hm => by
          rcases List.mem_cons.mp hm with rfl | hm
          · omega
          · rcases List.mem_cons.mp hm with rfl | hm
            · omega
            · cases hm
        refine ⟨fun b o n eo => hm.heap b o (hwr b (Heap.lt_size eo)) (T5.keep b o n eo), fun ps t => ?_, fun x => bareOnly hm.gens (T5.bare x), hm.os.trans T5.os⟩
        obtain ⟨more, t1, t2⟩ := T5.tab ps t
        exact ⟨more, hm.heap 57 _ (hwr 57 (tab_lt t)) t1, t2⟩
      · rw [passing_all, List.length_range, List.size_toArray]
        have : sizeLine = 16777216 := rfl
        omega
  refine gainQ (wpAny_mono goal (fun g s₁ h₁ m₁ => gainQ (wpAny_mono h₁ (fun v s₂ h₂ m₂ => ?_) fun _ _ e => e)) fun _ _ e => e)
  obtain ⟨e1, e2⟩ := h₂
  rw [e1]
  exact h _ _ (S.step (e2.ext (m₁.trans m₂)))
end
end Mine
open PySem PySem.W PyProof.Rows PySem.Calls
set_option linter.unusedVariables false
set_option maxRecDepth 100000
namespace Mine
section
variable {w : World} {A : Around} {E : Value → Shared → Prop} {s₀ s : Shared} {L : Addr} {ns gs : List Str} {vs : List (Option Value)} {objs : List (Addr × Obj)} {env : Env}
theorem tabs_eq {H : Heap} {ps ps' : Array Value} (t : Tab H ps) (t' : Tab H ps') : ps' = ps := by
  have := t'.1.symm.trans t.1
  simpa [tabObj] using this
theorem Good0.builtinsAt {H : Heap} {mg : Str → Option Value} {ps : Array Value} (t : Tab H ps) (hn : H.Ns mainGlobals mg) (hb : ∃ bm ob, mg "__builtins__" = some (.ref bm) ∧ bm ≠ builtinsNs ∧ H.get? bm = some ob ∧ ob.cls = .type "module" ∧ ob.dict = some builtinsNs ∧ ob.data = .plain) :
    H.BuiltinsAt mg 57 := by
  obtain ⟨bm, ob, b1, b2, b3, b4, b5, b6⟩ := hb
  refine ⟨bm, ob, b1, b2, ?_, ?_, b3, b4, b5, b6⟩
  · rintro rfl
    obtain ⟨o, es, ep, e, hd, _⟩ := hn
    rw [b3] at e; cases e; rw [b6] at hd; cases hd
  · rintro rfl
    rw [t.1] at b3; cases b3; cases b4

theorem lam {params : Arguments} {body : Expr} {scope : Scope} {pos : Pos} {clos : List (Str × Addr)} {Q : Value → Shared → Prop} (V : EnvOk env L ns gs) (S : Mst w s₀ L ns vs objs s) (hc : env.code = .ref 61)
    (hdef : defaultsOf params env = ([], [])) (hcl : closureFor scope env = pure clos)
    (h : ∀ f of s', Mst w s₀ L ns vs objs s' → s'.heap.get? f = some of → of.cls = .type "function" → Q (.ref f) s') : wpAny (Md w) A (eval (.Lambda params body scope pos) env) Q E s := by
  obtain ⟨ps, t⟩ := S.good'.tab
  obtain ⟨mg, hn, hb⟩ := S.good'.bs.g
  have hB := Good0.builtinsAt t hn hb
  have hgP : mainGlobals ≠ 57 := ns_not57 hn t
  refine gainQ (kla_eval hdef ?_)
  cases hf : codeAmong pos ps.toList with
  | some cv =>
    refine kla_makeFunctionHit hcl V.gl hn hc S.good'.bs.cd t.1 t.2 hf hB fun ctv h' tk hk hz m => ?_
    refine h _ _ _ (S.step (Lite.ext ?_ m)) (Heap.get?_push_size _ rfl) rfl
    exact Lite.of_keep (fun b o e => Heap.get?_push_of_some _ (hk b o e)) (fun x => x) rfl
  | none =>
    refine kla_makeFunction hcl V.gl hn hc S.good'.bs.cd t.1 t.2 hf hgP hB fun c' ctv h' tk hx hge hlt hrec htab m => ?_
    refine h _ _ _ (S.step (Lite.ext ⟨fun b o n e => Heap.get?_push_of_some _ (hx b o n e), fun ps' t' => ?_, fun x => x, rfl⟩ m)) (Heap.get?_push_size _ rfl) rfl
    rw [tabs_eq t t']
    exact ⟨_, Heap.get?_push_of_some _ htab, by simpa using TriplesOk_snoc _ _ _ _ t.2⟩
end
end Mine
open PySem PySem.W PyProof.Rows PySem.Calls
set_option linter.unusedVariables false
set_option maxRecDepth 100000
namespace Mine
section
variable {w : World} {A : Around} {E : Value → Shared → Prop} {s₀ s : Shared} {L : Addr} {ns gs : List Str} {vs : List (Option Value)} {objs : List (Addr × Obj)} {env : Env}
/-- x = y + c, for numbers -/
theorem setadd {x y : Str} {px py pos bp p1 : Pos} {cc a b : Nat} {k c : Int} {t : Tok} {Q : Flow → Shared → Prop} (V : EnvOk env L ns gs) (S : Mst w s₀ L ns vs objs s) (hx : ns[a]? = some x) (hy : ns[b]? = some y) (hyv : vs[b]? = some (some (.int k t)))
    (h : ∀ t' s', Mst w s₀ L ns (vs.set a (some (.int (k + c) t'))) objs s' → Q .next s') (hsw : swapsWith (.BinOp (.Name y py) .Add (.Constant (.int c) cc p1) bp) (some (.Name x px)) pos.line env = pure false := by rfl) :
    wpAny (Md w) A (exec (.Assign [.Name x px] (.BinOp (.Name y py) .Add (.Constant (.int c) cc p1) bp) pos) env) Q E s :=
  wpAny_Assign_Name (wpAny_BinOp (ev_loc V S hy hyv (ev_int S fun t1 s₁ S₁ _ _ => P.add_int (st_loc V (S₁.tok (Nat.le_succ _)) hx fun s₂ S₂ _ => h _ _ S₂)))) hsw
/-- is the sign c the text y -/
theorem is_sign {x y : Str} {px pos p1 : Pos} {cc a c : Nat} {t : Tok} {whole : Sem Value} {Q : Bool → Shared → Prop} (V : EnvOk env L ns gs) (S : Mst w s₀ L ns vs objs s) (hx : ns[a]? = some x) (hxv : vs[a]? = some (some (.str ⟨#[c]⟩ t)))
    (h : ∀ s', Mst w s₀ L ns vs objs s' → Q ([c] == y.cps.toList) s') (hm : behindInMarks .Eq (.Constant (.str y) cc p1) = false := by with_unfolding_all rfl) :
    wpAny (Md w) A (isTrue (.Compare (.Name x px) [.Eq] [.Constant (.str y) cc p1] pos) env whole) Q E s :=
  wpAny_isTrue_Compare1 (ev_loc V S hx hxv (ev_str S fun t1 s₁ S₁ _ _ => P.eq_str (wpAny_truthy_bool (h _ S₁)))) hm
theorem ev_neg1 {cc : Nat} {p1 p2 : Pos} {Q : Value → Shared → Prop} (S : Mst w s₀ L ns vs objs s) (h : ∀ t s', Mst w s₀ L ns vs objs s' → Q (.int (-1) t) s') :
    wpAny (Md w) A (eval (.UnaryOp .USub (.Constant (.int 1) cc p1) p2) env) Q E s :=
  UnaryOp_ (ev_int S fun t1 s₁ S₁ _ _ => P.neg_int (h _ _ (S₁.tok (Nat.le_succ _))))
/-- the last of a list -/
theorem ev_last {x : Str} {px p1 p2 pos : Pos} {cc a n : Nat} {l : Addr} {xs : List Value} {v : Value} {Q : Value → Shared → Prop} (V : EnvOk env L ns gs) (S : Mst w s₀ L ns vs objs s) (hx : ns[a]? = some x) (hxv : vs[a]? = some (some (.ref l)))
    (hl : (l, lstO xs n) ∈ objs) (hk : xs.getLast? = some v) (hsz : xs.length ≤ 100000) (h : ∀ s', Mst w s₀ L ns vs objs s' → Q v s') :
    wpAny (Md w) A (eval (.Subscript (.Name x px) (.UnaryOp .USub (.Constant (.int 1) cc p1) p2) pos) env) Q E s := by
  refine Subscript_ (ev_loc V S hx hxv (ev_neg1 S fun t s₁ S₁ => ?_))
  have hT : s₁.TypeIs (.ref l) "list" := ⟨_, S₁.get hl, rfl⟩
  have hne : 1 ≤ xs.length := by cases xs with | nil => cases hk | cons a r => simp
  refine subscriptTail_builtin (T := "list") hT F.slot_list_getitem.lookup (wpAny_getItem_list_neg (items := xs.toArray) ⟨_, S₁.get hl, rfl, _, rfl⟩ (by omega) (by rw [List.size_toArray]; omega) (by omega) ?_ (h _ S₁))
  rw [List.size_toArray, List.getElem?_toArray, show ((-1 : Int) + (xs.length : Nat)).toNat = xs.length - 1 by omega, ← List.getLast?_eq_getElem?]
  exact hk
theorem rep0 {prog : Program} {p : List Nat} {c : Nat} {y z : Str} {t u v : Tok} {Q : Value → Shared → Prop} (hy : y = ⟨#[c]⟩) (hc : c ∉ p) (h : Q (.str (mkS p) t) s) :
    wpAny (model prog w) A (call (.builtin "str.replace") [.str (mkS p) t, .str y u, .str z v]) Q E s := by
  subst hy
  exact call_rep0 (M := model prog w) hc h
/-- is the sign not in the text -/
theorem not_in {M : Model} {prog : Program} {p : List Nat} {c : Nat} {y : Str} {t u : Tok} {Q : Value → Shared → Prop} (hy : y = ⟨#[c]⟩) (h : Q (.bool (!decide (c ∈ p))) s) :
    wpAny (model prog w) A (compareOp .NotIn (.str y u) (.str (mkS p) t)) Q E s := by
  subst hy
  refine P.notIn_str ?_
  rw [StrLaws.found_one]
  exact h
theorem idx0 {n : Nat} (h : 0 < n) : seqIndex? (0 : Int) n = some 0 := by
  have := h
  unfold seqIndex?
  simp
  omega
/-- the first sign of a text -/
theorem ev_at0 {x : Str} {px pos p1 : Pos} {cc a c : Nat} {u : Tok} {p : List Nat} {Q : Value → Shared → Prop} (V : EnvOk env L ns gs) (S : Mst w s₀ L ns vs objs s) (hx : ns[a]? = some x) (hxv : vs[a]? = some (some (.str (mkS p) u)))
    (hk : p[0]? = some c) (hsz : p.length ≤ 1000000) (h : ∀ t' s', Mst w s₀ L ns vs objs s' → Q (.str ⟨#[c]⟩ t') s') :
    wpAny (Md w) A (eval (.Subscript (.Name x px) (.Constant (.int 0) cc p1) pos) env) Q E s := by
  have hlt := (List.getElem?_eq_some_iff.mp hk).1
  refine Subscript_ (ev_loc V S hx hxv (ev_int S fun t s₁ S₁ _ _ => (subscriptTail_builtin (T := "str") (typeIs_str _ _ _) F.slot_str_getitem.lookup (P.getItem_str (c := c) ?_ ?_ (h _ _ (S₁.tok (Nat.le_succ _)))))))
  · decide
  · rw [size_mk, show seqIndex? (0 : Int) p.length = some 0 from idx0 hlt]
    show (mkS p).cps[0]? = some c
    rw [mkS, List.getElem?_toArray, hk]
/-- a sign ahead of a text -/
theorem add_s {p q : List Nat} {y : Str} {t u : Tok} {Q : Value → Shared → Prop} (S : Mst w s₀ L ns vs objs s) (hy : y = mkS p) (hsz : p.length + q.length ≤ 1000000) (h : ∀ t' s', Mst w s₀ L ns vs objs s' → Q (.str (mkS (p ++ q)) t') s') :
    wpAny (Md w) A (binaryOp .Add (.str y t) (.str (mkS q) u)) Q E s := by
  subst hy
  refine gainQ (add_str (fun t' tk m => ?_) (by rw [size_mk, size_mk]; have : sizeLine = 16777216 := rfl; omega))
  rw [show (mkS p ++ mkS q : Str) = mkS (p ++ q) from str_ext (by show (p.toArray ++ q.toArray).toList = _; simp [mkS])]
  exact h _ _ (S.tok m.toks)
end
end Mine
open PySem PySem.W PyProof.Rows PySem.Calls
set_option linter.unusedVariables false
set_option maxRecDepth 100000
namespace Mine
section
variable {w : World} {A : Around} {E : Value → Shared → Prop} {s₀ s : Shared} {L : Addr} {ns gs : List Str} {vs : List (Option Value)} {objs : List (Addr × Obj)} {env : Env}

/-- an own object is another, all else stands -/
theorem Mst.swap (S : Mst w s₀ L ns vs objs s) {k : Nat} {a : Addr} {o o' : Obj} (hk : objs[k]? = some (a, o)) {h' : Heap} {tk : Nat} (hs : Heap.SameBut a s.heap h') (ho : h'.get? a = some o') (ht : s.toks ≤ tk) :
    Mst w s₀ L ns vs (objs.set k (a, o')) { s with heap := h', toks := tk } := by
  have hm := List.mem_of_getElem? hk
  obtain ⟨e1, e2, e3, e4⟩ := S.obj _ hm
  have em : (objs.set k (a, o')).map (·.1) = objs.map (·.1) := by
    rw [List.map_set]
    apply List.ext_getElem?
    intro i
    rw [List.getElem?_set]
    split
    · rename_i h
      subst h
      split
      · rw [List.getElem?_map, hk]; rfl
      · rename_i h2
        rw [List.length_map] at h2
        exact absurd (List.getElem?_eq_some_iff.mp hk).1 h2
    · rfl
  refine ⟨S.change e3 e4 hs ht, S.good, S.loc.at' fun o e => (hs.2 L (Ne.symm e2)).trans e, S.nd, S.len, S.newL, S.L57, fun p hp => ?_, by rw [em]; exact S.ond⟩
  obtain ⟨i, hi⟩ := List.getElem?_of_mem hp
  rw [List.getElem?_set] at hi
  split at hi
  · split at hi
    · cases hi
      exact ⟨ho, e2, e3, e4⟩
    · cases hi
  · rename_i hne
    have hp' := List.mem_of_getElem? hi
    have hpa : p.1 ≠ a := fun q => by
      have n := S.ond
      have h1 : (objs.map (·.1))[i]? = some a := by rw [List.getElem?_map, hi, ← q]; rfl
      have h2 : (objs.map (·.1))[k]? = some a := by rw [List.getElem?_map, hk]; rfl
      obtain ⟨l1, g1⟩ := List.getElem?_eq_some_iff.mp h1
      obtain ⟨l2, g2⟩ := List.getElem?_eq_some_iff.mp h2
      rcases Nat.lt_or_gt_of_ne hne with lt | lt
      · exact (List.pairwise_iff_getElem.mp n) k i l2 l1 lt (g2.trans g1.symm)
      · exact (List.pairwise_iff_getElem.mp n) i k l1 l2 lt (g1.trans g2.symm)
    exact ⟨(hs.2 _ hpa).trans (S.obj p hp').1, (S.obj p hp').2⟩

/-- a for loop -/
theorem forq {target iter : Expr} {body : List Stmt} {pos : Pos} {Q : Flow → Shared → Prop}
    (h : wpAny (Md w) A (eval iter env) (fun x s₁ => wpAny (Md w) A (pyIter x) (fun it s₂ => ∃ (I : Nat → Shared → Prop) (n : Nat), I n s₂ ∧ ∀ n s, I n s → wpAny (Md w) A (pyNext it) (fun r s₁ => match r with
      | none => Q .next s₁
      | some v => wpAny (Md w) A (assign target env v) (fun _ s₂ => wpAny (Md w) A (execs body env) (fun f s₃ => match f with
          | .next | .cont => ∃ m, m < n ∧ I m s₃
          | .brk => Q .next s₃
          | .ret v => Q (.ret v) s₃) (fun _ _ => False) s₂) (fun _ _ => False) s₁) (fun _ _ => False) s) (fun _ _ => False) s₁) (fun _ _ => False) s)
    (hs : ∀ x, foldedSetIterable iter env x = pure x := by intro _; rfl) (ht : ∀ it v, letOwnedTupleGo target it v = pure () := by intro _ _; rfl) :
    wpAny (Md w) A (exec (.For target iter body [] pos) env) Q (fun _ _ => False) s := by
  refine wpAny_For (wpAny_mono h (fun x s₁ h₁ => wpAny_mono h₁ (fun it s₂ h₂ => ?_) fun _ _ e => e.elim) fun _ _ e => e.elim) hs
  obtain ⟨I, n, hI, turn⟩ := h₂
  refine codeAny_forLoop I (fun n s hn => wpAny_mono (turn n s hn) (fun r s₁ h₁ => ?_) fun _ _ e => e.elim) n hI (ht it)
  cases r with
  | none => exact wpAny_execs_nil h₁
  | some v => exact wpAny_mono h₁ (fun _ s₂ h₂ => wpAny_mono h₂ (fun f s₃ h₃ => by cases f <;> exact h₃) fun _ _ e => e.elim) fun _ _ e => e.elim

abbrev rangeIt (x left step : Int) : Obj := { cls := .type "range_iterator", data := .fields #[rawInt x, rawInt left, rawInt step] }
theorem next_range {k : Nat} {it : Addr} {x left step : Int} {Q : Option Value → Shared → Prop} (S : Mst w s₀ L ns vs objs s) (hk : objs[k]? = some (it, rangeIt x left step)) (hleft : 0 < left)
    (h : ∀ t s', Mst w s₀ L ns vs (objs.set k (it, rangeIt (x + step) (left - 1) step)) s' → Q (some (.int x t)) s') : wpAny (Md w) A (pyNext (.ref it)) Q E s :=
  wpAny_pyNext_range_item (S.get (List.mem_of_getElem? hk)) hleft fun h' hit hs => h _ _ (S.swap hk hs hit (Nat.le_succ _))
theorem Mst.drop1 {p : Addr × Obj} (S : Mst w s₀ L ns vs (p :: objs) s) : Mst w s₀ L ns vs objs s := S.sub (fun q hq => List.mem_cons_of_mem _ hq) (List.nodup_cons.mp S.ond).2
/-- the end of an iterator that stands first among the objects -/
theorem Mst.but {it : Addr} {o : Obj} (S : Mst w s₀ L ns vs ((it, o) :: objs) s) {h' : Heap} (hx : Heap.ExtBut it s.heap h') (m : s.heap.objs.size ≤ h'.objs.size) : Mst w s₀ L ns vs objs { s with heap := h' } := by
  obtain ⟨e1, e2, e3, e4⟩ := S.obj _ (List.mem_cons_self ..)
  have n := List.nodup_cons.mp S.ond
  refine ⟨⟨fun b o ne e => hx b o (fun q => by rw [q, e3] at e; cases e) (S.ext.keep b o ne e), fun ps h => ?_, S.ext.bare, S.ext.os, S.ext.toks, Nat.le_trans S.ext.size m⟩, S.good, S.loc.at' fun o e => hx L o (Ne.symm e2) e, S.nd, S.len, S.newL, S.L57,
    fun p hp => ⟨hx _ _ (fun q => n.1 (List.mem_map.mpr ⟨p, hp, q⟩)) (S.obj p (List.mem_cons_of_mem _ hp)).1, (S.obj p (List.mem_cons_of_mem _ hp)).2⟩, n.2⟩
  obtain ⟨more, t⟩ := S.ext.tab ps h
  exact ⟨more, hx _ _ (Ne.symm e4) t.1, t.2⟩
theorem end_range {it : Addr} {x left step : Int} {Q : Option Value → Shared → Prop} (hh : A.handled = none) (S : Mst w s₀ L ns vs ((it, rangeIt x left step) :: objs) s) (hleft : left ≤ 0)
    (h : ∀ s', Mst w s₀ L ns vs objs s' → Q none s') : wpAny (Md w) A (pyNext (.ref it)) Q E s :=
  gainQ (wpAny_pyNext_range_end hh (S.get (List.mem_cons_self ..)) hleft fun h' hx m => h _ (S.but hx m.size))

theorem setItem_at {l : Addr} {items : Array Value} {n : Nat} {k : Int} {t : Tok} {v : Value} {Q : Unit → Shared → Prop} (ho : s.heap.get? l = some { cls := .type "list", data := .seq items n })
    (h0 : 0 ≤ k) (hfit : k < 2 ^ 63) (hn : k < items.size)
    (hQ : Q () { s with heap := s.heap.update l (Obj.mapSeq (·.setIfInBounds k.toNat v)) }) : wpAny (Md w) A (setItem (.ref l) (.int k t) v) Q E s := by
  have hl : s.heap.IsList l items := ⟨_, ho, rfl, _, rfl⟩
  unfold setItem
  try with_reducible refine wpAny_holding ?_
  first | refine wpAny_bind (wpAny_pure ?_) | skip
  refine wpAny_bind (wpAny_sequenceKey hl.typeIs (by decide) ?_)
  refine wpAny_bind (wpAny_callSpecial?_slot (name := Str.ofString "__setitem__") hl.typeIs slot_list_setitem
    (wpAny_call_entry slot_list_setitem hl.typeIs entry_list_setitem ?_ (args_list_setitem _ _ _)))
  show wpAny _ _ (Builtin.List.listSubscript? (.int k t) >>= _) _ _ s
  refine wpAny_bind (wpAny_listSubscript_int (fitsIndex_of h0 hfit) ?_)
  clear hfit
  obtain ⟨j, rfl⟩ := Int.eq_ofNat_of_zero_le h0
  have hj : j < items.size := by omega
  have hx' : items[j]? = some items[j] := Array.getElem?_eq_getElem hj
  show wpAny _ _ ((seqItemAt l j >>= fun r => pure (r.map (j, ·))) >>= _) _ _ s
  refine wpAny_bind (wpAny_bind (wpAny_seqItemAt ho rfl (wpAny_pure ?_)))
  rw [hx']
  show wpAny _ _ (setSeqItemAt l j v >>= _) _ _ s
  refine wpAny_bind (wpAny_setSeqItemAt ho rfl ?_)
  first
    | exact wpAny_bind (wpAny_pure (wpAny_pure ⟨.none, rfl, wpAny_pure hQ⟩))
    | exact wpAny_pure ⟨.none, rfl, wpAny_pure hQ⟩
/-- a part of a list is another -/
theorem set_l {k i n : Nat} {l : Addr} {t : Tok} {xs : List Value} {v : Value} {Q : Unit → Shared → Prop} (S : Mst w s₀ L ns vs objs s) (hk : objs[k]? = some (l, lstO xs n)) (hi : i < xs.length) (hsz : xs.length ≤ 100000)
    (h : ∀ m s', Mst w s₀ L ns vs (objs.set k (l, lstO (xs.set i v) m)) s' → Q () s') : wpAny (Md w) A (setItem (.ref l) (.int (i : Nat) t) v) Q E s := by
  have hmap : Obj.mapSeq (·.setIfInBounds ((i : Nat) : Int).toNat v) (lstO xs n) = lstO (xs.set i v) n := by simp [Obj.mapSeq, lstO]
  exact setItem_at (S.get (List.mem_of_getElem? hk)) (by omega) (by omega) (by rw [List.size_toArray]; omega) (h n _ (S.upd hk hmap))
/-- a part of a list goes -/
theorem del_l {k i n : Nat} {l : Addr} {t : Tok} {xs : List Value} {Q : Unit → Shared → Prop} (S : Mst w s₀ L ns vs objs s) (hk : objs[k]? = some (l, lstO xs n)) (hi : i < xs.length) (hsz : xs.length ≤ 100000)
    (h : ∀ m s', Mst w s₀ L ns vs (objs.set k (l, lstO (xs.eraseIdx i) m)) s' → Q () s') : wpAny (Md w) A (delItem (.ref l) (.int (i : Nat) t)) Q E s := by
  have hmap : ∃ m, Obj.mapSeq (fun a : Array Value => a.eraseIdxIfInBounds i) (lstO xs n) = lstO (xs.eraseIdx i) m := by
    refine ⟨n + 1, ?_⟩
    simp [Obj.mapSeq, lstO, Array.eraseIdxIfInBounds, hi]
    rw [List.length_eraseIdx_of_lt hi]; omega
  obtain ⟨m, hmap⟩ := hmap
  refine P.delItem_list (S.get (List.mem_of_getElem? hk)) ?_ (k := i) ?_ (h m _ (S.upd hk hmap)) (by rw [List.size_toArray]; have : sizeLine = 16777216 := rfl; omega)
  · simp [Builtin.List.listFitsIndex]; omega
  · rw [List.size_toArray]; unfold seqIndex?; simp; omega
/-- while True -/
theorem is_true {c : Nat} {p : Pos} {Q : Bool → Shared → Prop} (h : Q true s) : wpAny (Md w) A (isTrue (.Constant (.bool true) c p) env (eval (.Constant (.bool true) c p) env)) Q E s :=
  wpAny_isTrue_value (wpAny_Constant_bool (wpAny_truthy_bool h))
/-- x = y.find(z, k, j) -/
theorem findx {x y k j z : Str} {px py pk pj ap p cp pos : Pos} {pl : Sem Bool} {cc a b c d m n q : Nat} {u tk tj : Tok} {v : List Nat} {Q : Flow → Shared → Prop} (V : EnvOk env L ns gs) (S : Mst w s₀ L ns vs objs s) (hx : ns[a]? = some x)
    (hy : ns[b]? = some y) (hyv : vs[b]? = some (some (.str (mkS v) u))) (hk : ns[c]? = some k) (hkv : vs[c]? = some (some (.int (m : Nat) tk))) (hj : ns[d]? = some j) (hjv : vs[d]? = some (some (.int (n : Nat) tj))) (hz : z = ⟨#[q]⟩) (hn : n ≤ v.length)
    (h : ∀ t s', Mst w s₀ L ns (vs.set a (some (.int (match Builtin.Str.occurrences (mkS v) ⟨#[q]⟩ m n 1 with | k :: _ => (k : Int) | [] => -1) t))) objs s' → Q .next s')
    (he : eval (.Call (.Attribute (.Name y py) (Str.ofString "find") ap) [.Constant (.str z) cc cp, .Name k pk, .Name j pj] [] p) env = (do
      let ov ← eval (.Name y py) env
      standAt ap.atName
      let (f, first) ← holding [ov] (getMethod ov (Str.ofString "find") pl)
      callWith p f first (backTo p (starEach [.Constant (.str z) cc cp, .Name k pk, .Name j pj] env)) []) := by rfl) :
    wpAny (Md w) A (exec (.Assign [.Name x px] (.Call (.Attribute (.Name y py) (Str.ofString "find") ap) [.Constant (.str z) cc cp, .Name k pk, .Name j pj] [] p) pos) env) Q E s := by
  with_reducible refine wpAny_Assign_Name ?_ ?_
  rotate_left
  · rfl
  with_reducible refine MethodCall_ (pl := pl) (ev_loc V S hy hyv ?_) he
  with_reducible refine gm_str F.slot_str_find F.type_str_find ?_
  refine cw_m (wpAny_items_cons (ev_str S fun t1 s₁ S₁ _ _ => wpAny_items_cons (ev_loc V S₁ hk hkv (wpAny_items_cons (ev_loc V S₁ hj hjv (wpAny_items_nil ?_))))))
  subst hz
  exact call_find4 hn (st_loc V (S₁.tok (Nat.le_succ _)) hx fun s₂ S₂ _ => h _ _ S₂)
/-- a type is called -/
theorem cw_t {T : String} {pos : Pos} {e : Expr} {rest : List Expr} {Q : Value → Shared → Prop}
    (h : wpAny (Md w) A (spliced (backTo pos (starEach (e :: rest) env))) (fun vs s₁ => wpAny (Md w) A (call (.type T) vs) Q E s₁) E s)
    (he : starEach (e :: rest) env = (false, eval e env) :: starEach rest env := by rfl) (hplain : (backTo pos (starEach rest env)).any (·.1) = false := by rfl) :
    wpAny (Md w) A (callWith pos (.type T) [] (backTo pos (starEach (e :: rest) env)) []) Q E s := by
  rw [he] at h ⊢
  exact PySem.callWith_type (by show (false || (backTo pos (starEach rest env)).any (·.1)) = false; rw [hplain]; rfl) (Calls.evalArgs_plain h)
theorem bo_range : bootBuiltins (Str.ofString "range") = some (.type "range") := by decide +kernel
/-- range(1, 0, -1), made and walked -/
theorem range1 {a b c : Int} {t u v : Tok} {Q : Value → Shared → Prop} (S : Mst w s₀ L ns vs objs s) (ha : a = 1) (hb : b = 0) (hc : c = -1)
    (h : ∀ r s', Mst w s₀ L ns vs objs s' → s'.heap.get? r = some { cls := .type "range", data := .fields #[.int 1 t, .int 0 u, .int (-1) v] } → Q (.ref r) s') : wpAny (Md w) A (call (.type "range") [.int a t, .int b u, .int c v]) Q E s := by
  subst ha; subst hb; subst hc
  refine call_range_3 (by decide) ?_
  have S1 := S.push (o := { cls := .type "range", data := .fields #[.int 1 t, .int 0 u, .int (-1) v] })
  exact h _ _ S1.drop1 (S1.get (List.mem_cons_self ..))
theorem iter1 {r : Addr} {t u v : Tok} {Q : Value → Shared → Prop} (S : Mst w s₀ L ns vs objs s) (hr : s.heap.get? r = some { cls := .type "range", data := .fields #[.int 1 t, .int 0 u, .int (-1) v] })
    (h : ∀ it s', Mst w s₀ L ns vs ((it, rangeIt 1 1 (-1)) :: objs) s' → Q (.ref it) s') : wpAny (Md w) A (pyIter (.ref r)) Q E s := by
  refine wpAny_pyIter_range (a := 1) (b := 0) (c := -1) hr (by decide +kernel) ?_
  have e : Builtin.Range.rangeSize 1 0 (-1) = 1 := by decide +kernel
  rw [e]
  exact h _ _ (S.push (o := rangeIt 1 1 (-1)))
end
end Mine
open PySem PySem.W PyProof.Rows PySem.Calls
set_option linter.unusedVariables false
set_option maxRecDepth 100000
namespace Mine
theorem strsAre_len : ∀ {xs : List Value} {ys : List Str}, StrsAre xs ys → xs.length = ys.length
  | _, _, .nil => rfl
  | _, _, .cons y t h => by simp [strsAre_len h]
theorem strsAre_mem : ∀ {xs : List Value} {ys : List Str}, StrsAre xs ys → ∀ {i : Nat} {v : Value}, xs[i]? = some v → ∃ y u, v = .str y u ∧ y ∈ ys
  | _, _, .nil, i, v, e => by simp at e
  | _, _, .cons y t h, 0, v, e => ⟨y, t, by simpa using e.symm, List.mem_cons_self ..⟩
  | _, _, .cons y t h, i + 1, v, e => let ⟨y', u, a, b⟩ := strsAre_mem h (i := i) (by simpa using e); ⟨y', u, a, List.mem_cons_of_mem _ b⟩
theorem sum_le2 : ∀ {ys : List Str}, ys.length ≤ 2 → (∀ y ∈ ys, y.length ≤ 10000) → (ys.map (·.length)).sum ≤ 20000
  | [], _, _ => by simp
  | [a], _, h => by have := h a (by simp); simp; omega
  | [a, b], _, h => by have := h a (by simp); have := h b (by simp); simp; omega
  | _ :: _ :: _ :: _, h, _ => by simp at h
section
variable {w : World} {A : Around} {E : Value → Shared → Prop} {s : Shared} {env : Env}
theorem Keeps.refl' (s : Shared) : Keeps s s := ⟨s.heap, s.toks, rfl, fun _ _ e => e⟩
theorem Keeps.tok' (s : Shared) (k : Nat) : Keeps s { s with toks := k } := ⟨s.heap, k, rfl, fun _ _ e => e⟩
/-- a method is called, with two values behind -/
theorem mcall2 {M : Model} {o e1 e2 : Expr} {name : Str} {ap p : Pos} {Q : Value → Shared → Prop}
    (h : wpAny M A (eval o env) (fun ov s₁ => ∀ pl, wpAny M A (getMethod ov name pl) (fun fx s₂ => wpAny M A (callWith p fx.1 fx.2 (backTo p (starEach [e1, e2] env)) []) Q E s₂) E s₁) E s)
    (hbase : attributeBase o name env (eval o env) = eval o env) (hline : (ap.endLine == p.line) = true) (he : starEach [e1, e2] env = (false, eval e1 env) :: (false, eval e2 env) :: starEach [] env) :
    wpAny M A (eval (.Call (.Attribute o name ap) [e1, e2] [] p) env) Q E s := by
  rw [arm_eval_Call, hbase]
  refine wpAny_bind (wpAny_mono h (fun ov s₁ h₁ => ?_) fun _ _ x => x)
  refine wpAny_bind (wpAny_standAt ?_)
  have hform : methodCallForm (([e1, e2] : List Expr).length + ([] : List Keyword).length) (backTo p (starEach [e1, e2] env)) (backToKw p (keywordEach [] env)) = true := by rw [he]; rfl
  have hpos : methodCallPos true o env ap p = pure p := by unfold methodCallPos; simp [hline]
  unfold methodCall
  rw [hform]
  unfold calleeOf
  refine wpAny_bind (wpAny_holding ?_)
  rw [if_pos rfl]
  refine wpAny_mono (h₁ _) (fun fx s₂ h₂ => ?_) fun _ _ x => x
  refine wpAny_bind (wpAny_of_eq hpos ?_)
  exact h₂
theorem base_name (x : Str) (px : Pos) (name : Str) (env : Env) : attributeBase (.Name x px) name env (eval (.Name x px) env) = eval (.Name x px) env := by rfl
theorem base_meth (o : Expr) (n : Str) (ap p : Pos) (args : List Expr) (name : Str) (env : Env) : attributeBase (.Call (.Attribute o n ap) args [] p) name env (eval (.Call (.Attribute o n ap) args [] p) env) = eval (.Call (.Attribute o n ap) args [] p) env := by rfl
theorem star2 (k1 k2 : Const) (n1 n2 : Nat) (p1 p2 : Pos) (env : Env) : starEach [.Constant k1 n1 p1, .Constant k2 n2 p2] env = (false, eval (.Constant k1 n1 p1) env) :: (false, eval (.Constant k2 n2 p2) env) :: starEach [] env := by rfl
/-- x.replace(a, b).replace(c, d) where nothing is found -/
theorem rep_elt {x a b c d : Str} {px p1 p2 p3 p4 ap1 ap2 q1 q2 : Pos} {n1 n2 n3 n4 : Nat} {C : Addr} {code : Value} {scope : Scope} {m : Str → Option Value} {v : List Nat} {t : Tok} {ca cc : Nat} (hk : scope.kind = .function) (hx : scope.names.lookup x = some .local) (hd : (x == ("__debug__" : Str)) = false)
    (hn : s.heap.Ns C m) (hm : m x = some (.str (mkS v) t)) (ha : a = ⟨#[ca]⟩) (hc : c = ⟨#[cc]⟩) (hva : ca ∉ v) (hvc : cc ∉ v) (hl1 : (ap1.endLine == q1.line) = true) (hl2 : (ap2.endLine == q2.line) = true) :
    wpAny (Md w) A (eval (.Call (.Attribute (.Call (.Attribute (.Name x px) (Str.ofString "replace") ap1) [.Constant (.str a) n1 p1, .Constant (.str b) n2 p2] [] q1) (Str.ofString "replace") ap2) [.Constant (.str c) n3 p3, .Constant (.str d) n4 p4] [] q2) (genEnv scope [] C code builtinsNs env))
      (fun y s₃ => y = .str (mkS v) t ∧ Keeps s s₃) E s := by
  have ev : ∀ (Q : Value → Shared → Prop), Q (.str (mkS v) t) s → wpAny (Md w) A (eval (.Name x px) (genEnv scope [] C code builtinsNs env)) Q E s := fun Q h =>
    wpAny_Name (wpAny_loadName_local hk hx hn hm h) hd
  with_reducible refine mcall2 ?_ (base_meth _ _ _ _ _ _ _) hl2 (star2 _ _ _ _ _ _ _)
  with_reducible refine mcall2 ?_ (base_name _ _ _ _) hl1 (star2 _ _ _ _ _ _ _)
  refine ev _ fun pl => ?_
  with_reducible refine gm_str F.slot_str_replace F.type_str_replace ?_
  refine cw_m (wpAny_items_cons (wpAny_Constant_str (wpAny_items_cons (wpAny_Constant_str (wpAny_items_nil ?_)))))
  with_reducible refine rep0 ha hva ?_
  intro pl
  with_reducible refine gm_str F.slot_str_replace F.type_str_replace ?_
  refine cw_m (wpAny_items_cons (wpAny_Constant_str (wpAny_items_cons (wpAny_Constant_str (wpAny_items_nil ?_)))))
  with_reducible refine rep0 hc hvc ?_
  exact ⟨rfl, Keeps.tok' s _⟩
end
end Mine
open PySem PySem.W PyProof.Rows PySem.Calls
set_option linter.unusedVariables false
set_option maxRecDepth 100000
namespace Mine
section
variable {w : World} {A : Around} {E : Value → Shared → Prop} {s₀ s : Shared} {L : Addr} {ns gs : List Str} {vs : List (Option Value)} {objs : List (Addr × Obj)} {env : Env}
theorem temp_str (e : Expr) (x : Str) (t : Tok) (r : Value) : letTemporaryGo e (.str x t) r = pure () := by cases e <;> rfl
/-- a slice of any text -/
theorem sl' {value : Expr} {lower upper : Option Expr} {p pos : Pos} {Q : Value → Shared → Prop}
    (h : wpAny (Md w) A (eval value env) (fun o s₁ => wpAny (Md w) A (evalPart lower env) (fun vl s₂ => wpAny (Md w) A (evalPart upper env) (fun vu s₃ => ∃ x t l u, o = .str x t ∧ vl = partValue l ∧ vu = partValue u ∧ x.length ≤ 1000000 ∧ Mst w s₀ L ns vs objs s₃ ∧
      ∀ t' s', Mst w s₀ L ns vs objs s' → Q (.str (StrLaws.sliceText x (l.map (·.1)) (u.map (·.1))) t') s') E s₂) E s₁) E s) : wpAny (Md w) A (eval (.Subscript value (.Slice lower upper none p) pos) env) Q E s := by
  refine Subscript_ (wpAny_mono h (fun o s₁ h₁ => wpAny_Slice (wpAny_mono h₁ (fun vl s₂ h₂ => wpAny_mono h₂ (fun vu s₃ h₃ => ?_) fun _ _ e => e) fun _ _ e => e)) fun _ _ e => e)
  obtain ⟨x, t, l, u, rfl, rfl, rfl, hz, S, hQ⟩ := h₃
  rw [evalPart_none]
  refine wpAny_pure ?_
  have S1 := (S.push (o := { cls := .type "slice", data := .fields #[partValue l, partValue u, .none] })).drop1
  have hle : (StrLaws.sliceText x (l.map (·.1)) (u.map (·.1))).length ≤ x.length := Txt.slice_le x _ _
  refine tail_any (T := "str") (typeIs_str _ x t) F.slot_str_getitem.lookup (ops := [.ref s₃.heap.objs.size, .str x t]) (wpAny_getItem_str_slice (l := l) (u := u) (st := none) ⟨_, Heap.get?_push_size _ rfl, rfl, rfl⟩ rfl ?_) (by with_unfolding_all rfl)
  exact post_vs ⟨Nat.le_trans hle (by have : sizeLine = 16777216 := rfl; omega), fun t' k hk => hQ t' _ (S1.tok hk)⟩
/-- (..)[1:] -/
theorem sl_1n' {p p1 pos : Pos} {n1 : Nat} {u : Tok} {v : List Nat} {value : Expr} {Q : Value → Shared → Prop} (hv : 1 ≤ v.length) (hsz : v.length ≤ 1000000)
    (hx : ∀ Q' : Value → Shared → Prop, (∀ s', Mst w s₀ L ns vs objs s' → Q' (.str (mkS v) u) s') → wpAny (Md w) A (eval value env) Q' E s)
    (h : ∀ t' s', Mst w s₀ L ns vs objs s' → Q (.str (mkS (v.drop 1)) t') s') :
    wpAny (Md w) A (eval (.Subscript value (.Slice (some (.Constant (.int 1) n1 p1)) none none p) pos) env) Q E s := by
  refine sl' (s₀ := s₀) (L := L) (ns := ns) (vs := vs) (objs := objs) (hx _ fun s₁ S₁ => ?_)
  show wpAny _ _ (eval (.Constant (.int 1) n1 p1) env) _ _ _
  refine ev_int S₁ fun t1 s₂ S₂ _ _ => ?_
  refine evalPart_none_step ?_
  refine ⟨mkS v, u, some (1, t1), none, rfl, rfl, rfl, by rw [size_mk]; exact hsz, S₂, fun t' s' S' => ?_⟩
  show Q (.str (StrLaws.sliceText (mkS v) (some (1 : Int)) none) t') s'
  rw [StrLaws.sliceText_from ⟨by omega, by rw [mkS_toList]; omega⟩]
  have e : ((v.drop 1).take ((v.length : Int) - 1).toNat) = v.drop 1 := by rw [List.take_of_length_le]; simp
  have := h t' s' S'
  rw [← e] at this
  exact this
/-- (..)[:-1] -/
theorem sl_nm' {value : Expr} {p p1 p2 pos : Pos} {n1 : Nat} {u : Tok} {v : List Nat} {Q : Value → Shared → Prop} (hv : 1 ≤ v.length) (hsz : v.length ≤ 1000000)
    (hx : ∀ Q' : Value → Shared → Prop, (∀ s', Mst w s₀ L ns vs objs s' → Q' (.str (mkS v) u) s') → wpAny (Md w) A (eval value env) Q' E s)
    (h : ∀ t' s', Mst w s₀ L ns vs objs s' → Q (.str (mkS v.dropLast) t') s') :
    wpAny (Md w) A (eval (.Subscript value (.Slice none (some (.UnaryOp .USub (.Constant (.int 1) n1 p1) p2)) none p) pos) env) Q E s := by
  refine sl' (s₀ := s₀) (L := L) (ns := ns) (vs := vs) (objs := objs) (hx _ fun s₁ S₁ => ?_)
  refine evalPart_none_step ?_
  show wpAny _ _ (eval (.UnaryOp .USub (.Constant (.int 1) n1 p1) p2) env) _ _ _
  refine ev_neg1 S₁ fun t1 s₂ S₂ => ?_
  refine ⟨mkS v, u, none, some (-1, t1), rfl, rfl, rfl, by rw [size_mk]; exact hsz, S₂, fun t' s' S' => ?_⟩
  show Q (.str (StrLaws.sliceText (mkS v) none (some (-1 : Int))) t') s'
  rw [StrLaws.sliceText_to_neg (by omega) (by rw [size_mk]; omega)]
  have e : ((v.drop 0).take ((-1 : Int) + v.length - 0).toNat) = v.dropLast := by
    rw [List.drop_zero, List.dropLast_eq_take]; congr 1; omega
  have := h t' s' S'
  rw [← e] at this
  rw [size_mk]
  exact this
/-- (..)[-1] of a text -/
theorem ch_last {value : Expr} {p1 p2 pos : Pos} {n1 c : Nat} {u : Tok} {v : List Nat} {Q : Value → Shared → Prop} (hv : v.getLast? = some c) (hsz : v.length ≤ 1000000)
    (hx : ∀ Q' : Value → Shared → Prop, (∀ s', Mst w s₀ L ns vs objs s' → Q' (.str (mkS v) u) s') → wpAny (Md w) A (eval value env) Q' E s)
    (h : ∀ t' s', Mst w s₀ L ns vs objs s' → Q (.str ⟨#[c]⟩ t') s') :
    wpAny (Md w) A (eval (.Subscript value (.UnaryOp .USub (.Constant (.int 1) n1 p1) p2) pos) env) Q E s := by
  have hlt : 1 ≤ v.length := by cases v with | nil => cases hv | cons a r => simp
  refine Subscript_ (hx _ fun s₁ S₁ => ev_neg1 S₁ fun t s₂ S₂ => subscriptTail_builtin (T := "str") (typeIs_str _ _ _) F.slot_str_getitem.lookup (P.getItem_str (c := c) (by decide) ?_ (h _ _ (S₂.tok (Nat.le_succ _)))) (ht := fun r => temp_str _ _ _ _))
  rw [size_mk, show seqIndex? (-1 : Int) v.length = some (v.length - 1) by unfold seqIndex?; simp; omega]
  show (mkS v).cps[v.length - 1]? = some c
  rw [mkS, List.getElem?_toArray, ← List.getLast?_eq_getElem?, hv]
/-- (..)[0] of a text -/
theorem ch_first {value : Expr} {p1 pos : Pos} {n1 c : Nat} {u : Tok} {v : List Nat} {Q : Value → Shared → Prop} (hv : v[0]? = some c) (hsz : v.length ≤ 1000000)
    (hx : ∀ Q' : Value → Shared → Prop, (∀ s', Mst w s₀ L ns vs objs s' → Q' (.str (mkS v) u) s') → wpAny (Md w) A (eval value env) Q' E s)
    (h : ∀ t' s', Mst w s₀ L ns vs objs s' → Q (.str ⟨#[c]⟩ t') s') :
    wpAny (Md w) A (eval (.Subscript value (.Constant (.int 0) n1 p1) pos) env) Q E s := by
  have hlt := (List.getElem?_eq_some_iff.mp hv).1
  refine Subscript_ (hx _ fun s₁ S₁ => ev_int S₁ fun t s₂ S₂ _ _ => subscriptTail_builtin (T := "str") (typeIs_str _ _ _) F.slot_str_getitem.lookup (P.getItem_str (c := c) (by decide) ?_ (h _ _ (S₂.tok (Nat.le_succ _)))) (ht := fun r => temp_str _ _ _ _))
  rw [size_mk, idx0 hlt]
  show (mkS v).cps[0]? = some c
  rw [mkS, List.getElem?_toArray, hv]
/-- x[y - 1] of a list, y is 1 -/
theorem it_sub {x y : Str} {px py p1 bp pos : Pos} {a b n n1 : Nat} {t : Tok} {l : Addr} {xs : List Value} {v : Value} {Q : Value → Shared → Prop} (V : EnvOk env L ns gs) (S : Mst w s₀ L ns vs objs s) (hx : ns[a]? = some x) (hxv : vs[a]? = some (some (.ref l)))
    (hy : ns[b]? = some y) (hyv : vs[b]? = some (some (.int 1 t))) (hl : (l, lstO xs n) ∈ objs) (hk : xs[0]? = some v) (hsz : xs.length ≤ 100000) (h : ∀ s', Mst w s₀ L ns vs objs s' → Q v s') :
    wpAny (Md w) A (eval (.Subscript (.Name x px) (.BinOp (.Name y py) .Sub (.Constant (.int 1) n1 p1) bp) pos) env) Q E s := by
  refine Subscript_ (ev_loc V S hx hxv (wpAny_BinOp (ev_loc V S hy hyv (ev_int S fun t1 s₁ S₁ _ _ => P.sub_int ?_))))
  have S₂ := S₁.tok (tk := s₁.toks + 1) (Nat.le_succ _)
  have hT : ({ s₁ with toks := s₁.toks + 1 } : Shared).TypeIs (.ref l) "list" := ⟨_, S₂.get hl, rfl⟩
  exact subscriptTail_builtin (T := "list") hT F.slot_list_getitem.lookup (item_l (k := 0) (S₂.get hl) hk hsz (h _ S₂))
end
end Mine
/-! what _join_translated_parts gives, on plain lists -/
namespace Mine
abbrev Pt := Option (List Nat)
def addHead (x : List Nat) : List (List Nat) → List (List Nat)
  | r :: rs => (x ++ r) :: rs
  | [] => [x]
def runs : List Pt → List (List Nat)
  | [] => [[]]
  | none :: ps => [] :: runs ps
  | some x :: ps => addHead x (runs ps)
def tailR : List (List Nat) → List Nat
  | [] => []
  | [r] => [46, 42] ++ r
  | r :: rs => [40, 63, 62, 46, 42, 63] ++ r ++ [41] ++ tailR rs
def textOf : List (List Nat) → List Nat
  | [] => []
  | r :: rs => r ++ tailR rs
def resL (ps : List Pt) : List Nat := [40, 63, 115, 58] ++ textOf (runs ps) ++ [41, 92, 90]
def NoAdj (ps : List Pt) : Prop := ∀ i r, ps.drop i ≠ none :: none :: r

theorem runs_ne : ∀ ps, ∃ r rs, runs ps = r :: rs
  | [] => ⟨[], [], rfl⟩
  | none :: ps => ⟨[], runs ps, rfl⟩
  | some x :: ps => by
    obtain ⟨r, rs, e⟩ := runs_ne ps
    exact ⟨x ++ r, rs, by rw [runs, e]; rfl⟩
theorem addHead_addHead (f x : List Nat) (rs : List (List Nat)) : addHead f (addHead x rs) = addHead (f ++ x) rs := by cases rs <;> simp [addHead]
theorem textOf_addHead (x : List Nat) (rs : List (List Nat)) : textOf (addHead x rs) = x ++ textOf rs := by cases rs <;> simp [addHead, textOf, tailR]
theorem textOf_some (x : List Nat) (ps : List Pt) : textOf (runs (some x :: ps)) = x ++ textOf (runs ps) := textOf_addHead x _
theorem textOf_none (ps : List Pt) : textOf (runs (none :: ps)) = tailR (runs ps) := by simp [runs, textOf]
theorem tailR_more (f : List Nat) (ps : List Pt) : tailR (addHead f (runs (none :: ps))) = [40, 63, 62, 46, 42, 63] ++ f ++ [41] ++ tailR (runs ps) := by
  obtain ⟨r, rs, e⟩ := runs_ne ps
  rw [runs, e]
  simp [addHead, tailR]
theorem tailR_end (f : List Nat) : tailR (addHead f (runs [])) = [46, 42] ++ f := by simp [runs, addHead, tailR]
theorem addHead_nil (ps : List Pt) : addHead [] (runs ps) = runs ps := by
  obtain ⟨r, rs, e⟩ := runs_ne ps
  rw [e]; simp [addHead]
end Mine
/-! the signs of a pattern, as _translate reads them -/
namespace Mine
inductive Tk
  | star
  | q
  | ch (c : Nat)
  | br (A : List Nat) (B : Option (List Nat))
def bodyTx (A : List Nat) : Option (List Nat) → List Nat
  | none => A
  | some B => A ++ 45 :: B
def Tk.text : Tk → List Nat
  | .star => [42]
  | .q => [63]
  | .ch c => [c]
  | .br A B => 91 :: (bodyTx A B ++ [93])
def stuffOf (A : List Nat) : Option (List Nat) → List Nat
  | none => A
  | some B => if B.headD 0 < A.getLastD 0 then A.dropLast ++ B.tail else A ++ 45 :: B
def brOut : List Nat → List Nat
  | [] => [40, 63, 33, 41]
  | [33] => [46]
  | 33 :: r => 91 :: 94 :: (r ++ [93])
  | r => 91 :: (r ++ [93])
def Tk.out : Tk → Pt
  | .star => none
  | .q => some [46]
  | .ch c => some (escL c)
  | .br A B => some (brOut (stuffOf A B))
def setSign (c : Nat) : Bool := c != 45 && c != 92 && c != 93 && c != 38 && c != 126 && c != 124 && c != 94 && c != 91
def okA (A : List Nat) : Bool := match A with
  | [] => false
  | [c] => c != 33
  | _ => true
def Tk.ok : Tk → Bool
  | .star => true
  | .q => true
  | .ch c => c != 42 && c != 63 && c != 91
  | .br A B => okA A && A.all setSign && (match B with | none => true | some B => B.all setSign && !B.isEmpty)
def textAll (ts : List Tk) : List Nat := (ts.map Tk.text).flatten
def pushPt (acc : List Pt) (p : Pt) : List Pt := if p = none ∧ acc.getLast? = some none then acc else acc ++ [p]
def partsOf (ts : List Tk) : List Pt := ts.foldl (fun acc t => pushPt acc t.out) []
theorem stuffOf_some (A B : List Nat) : stuffOf A (some B) = if B.headD 0 < A.getLastD 0 then A.dropLast ++ B.tail else A ++ 45 :: B := rfl
theorem textAll_cons (t : Tk) (ts : List Tk) : textAll (t :: ts) = t.text ++ textAll ts := by simp [textAll]
theorem textAll_append (a b : List Tk) : textAll (a ++ b) = textAll a ++ textAll b := by simp [textAll]
theorem textAll_one (t : Tk) : textAll [t] = t.text := by simp [textAll]
theorem partsOf_snoc (a : List Tk) (t : Tk) : partsOf (a ++ [t]) = pushPt (partsOf a) t.out := by simp [partsOf]
theorem pushPt_some (acc : List Pt) (x : List Nat) : pushPt acc (some x) = acc ++ [some x] := by simp [pushPt]
theorem Tk.text_ne (t : Tk) : 1 ≤ t.text.length := by cases t <;> simp [Tk.text]
theorem pushPt_len (acc : List Pt) (p : Pt) : (pushPt acc p).length ≤ acc.length + 1 := by
  unfold pushPt; split <;> simp
end Mine
open PySem PySem.W PyProof.Rows PySem.Calls
set_option linter.unusedVariables false
set_option maxRecDepth 100000
namespace Mine
theorem headD_of {B : List Nat} {c : Nat} (h : B[0]? = some c) : B.headD 0 = c := by cases B with | nil => cases h | cons a r => simpa using h
theorem getLastD_of {B : List Nat} {c : Nat} (h : B.getLast? = some c) : B.getLastD 0 = c := by rw [List.getLastD_eq_getLast?, h]; rfl
theorem dash_cps : (Str.ofString "-").cps.toList = [45] := by decide +kernel
theorem dash_one (p : List Nat) : Txt.join (Str.ofString "-") [mkS p] = mkS p := by unfold Txt.join; rfl
theorem dash_two (p q : List Nat) : Txt.join (Str.ofString "-") [mkS p, mkS q] = mkS (p ++ 45 :: q) := by
  apply str_ext
  unfold Txt.join Builtin.Str.glued
  simp [mkS, dash_cps]
theorem join_two {A B : List Nat} {c d : Nat} (hc : A.getLast? = some c) (hd : B[0]? = some d) (h : ¬ d < c) : Txt.join (Str.ofString "-") [mkS A, mkS B] = mkS (stuffOf A (some B)) := by
  rw [stuffOf_some, headD_of hd, getLastD_of hc, if_neg h, dash_two]
theorem join_one {A B : List Nat} {c d : Nat} (hc : A.getLast? = some c) (hd : B[0]? = some d) (h : d < c) : Txt.join (Str.ofString "-") [mkS (A.dropLast ++ B.drop 1)] = mkS (stuffOf A (some B)) := by
  rw [stuffOf_some, headD_of hd, getLastD_of hc, if_pos h, dash_one]
  simp
section
variable {w : World} {A : Around} {E : Value → Shared → Prop} {s₀ s : Shared} {L : Addr} {ns gs : List Str} {vs : List (Option Value)} {objs : List (Addr × Obj)} {env : Env}

theorem gt_one (c d : Nat) : decide ((⟨#[d]⟩ : Str).cps.toList < (⟨#[c]⟩ : Str).cps.toList) = decide (d < c) := by
  apply decide_eq_decide.mpr
  show ([d] < [c]) ↔ _
  constructor
  · intro h
    cases h with
    | rel h => exact h
    | cons h => cases h
  · intro h; exact .rel h

/-- the body of the loop that joins two chunks -/
theorem rg_body {x y : Str} {a b kl n : Nat} {t ta tb : Tok} {l : Addr} {p q : List Nat} {c d : Nat} {Q : Flow → Shared → Prop}
    {p1 p2 p3 p4 p5 p6 p7 p8 p9 p10 p11 p12 p13 p14 p15 p16 p17 p18 p19 p20 p21 p22 p23 p24 p25 p26 p27 p28 p29 p30 p31 p32 p33 p34 p35 p36 d1 d2 d3 d4 d5 : Pos} {c1 c2 c3 c4 c5 c6 c7 : Nat}
    (V : EnvOk env L ns gs) (S : Mst w s₀ L ns vs objs s) (hx : ns[a]? = some x) (hxv : vs[a]? = some (some (.ref l))) (hy : ns[b]? = some y) (hyv : vs[b]? = some (some (.int 1 t)))
    (hl : objs[kl]? = some (l, lstO [.str (mkS p) ta, .str (mkS q) tb] n)) (hp : p.getLast? = some c) (hq : q[0]? = some d) (hpl : p.length ≤ 10000) (hql : q.length ≤ 10000)
    (hsw : swapsWith (.BinOp (.Subscript (.Subscript (.Name x p13) (.BinOp (.Name y p14) .Sub (.Constant (.int 1) c4 p15) p16) p17) (.Slice none (some (.UnaryOp .USub (.Constant (.int 1) c5 p18) p19)) none p20) p21) .Add
            (.Subscript (.Subscript (.Name x p22) (.Name y p23) p24) (.Slice (some (.Constant (.int 1) c6 p25)) none none p26) p27) p28) (some (.Subscript (.Name x p29) (.BinOp (.Name y p30) .Sub (.Constant (.int 1) c7 p31) p32) p33)) p34.line env = pure false)
    (h : ∀ xs m s', (if d < c then ∃ u, xs = [.str (mkS (p.dropLast ++ q.drop 1)) u] else xs = [.str (mkS p) ta, .str (mkS q) tb]) → Mst w s₀ L ns vs (objs.set kl (l, lstO xs m)) s' → Q .next s') :
    wpAny (Md w) A (execs [.If (.Compare (.Subscript (.Subscript (.Name x p1) (.BinOp (.Name y p2) .Sub (.Constant (.int 1) c1 p3) p4) p5) (.UnaryOp .USub (.Constant (.int 1) c2 p6) p7) p8) [.Gt] [.Subscript (.Subscript (.Name x p9) (.Name y p10) p11) (.Constant (.int 0) c3 p12) p35] p36)
      [.Assign [.Subscript (.Name x p29) (.BinOp (.Name y p30) .Sub (.Constant (.int 1) c7 p31) p32) p33]
          (.BinOp (.Subscript (.Subscript (.Name x p13) (.BinOp (.Name y p14) .Sub (.Constant (.int 1) c4 p15) p16) p17) (.Slice none (some (.UnaryOp .USub (.Constant (.int 1) c5 p18) p19)) none p20) p21) .Add
            (.Subscript (.Subscript (.Name x p22) (.Name y p23) p24) (.Slice (some (.Constant (.int 1) c6 p25)) none none p26) p27) p28) p34,
        .Delete [.Subscript (.Name x d1) (.Name y d2) d3] d4] [] d5] env) Q E s := by
  have hm := List.mem_of_getElem? hl
  have hp1 : 1 ≤ p.length := by cases p with | nil => cases hp | cons a r => simp
  have hq1 : 1 ≤ q.length := by cases q with | nil => cases hq | cons a r => simp
  refine wpAny_execs_cons (wpAny_If (wpAny_isTrue_Compare1 ?_))
  refine ch_last hp (by omega) (fun Q' hQ' => it_sub V S hx hxv hy hyv hm rfl (by simp) hQ') fun t1 s₁ S₁ => ?_
  refine ch_first hq (by omega) (fun Q' hQ' => ev_item V S₁ hx hxv hy hyv (k := 1) (S₁.get hm) rfl (by simp) (hQ' _ S₁)) fun t2 s₂ S₂ => ?_
  refine P.gt_str (wpAny_truthy_bool ?_)
  rw [gt_one]
  by_cases hdc : d < c
  · rw [decide_eq_true hdc, if_pos rfl]
    refine wpAny_execs_cons (wpAny_Assign_Subscript (wpAny_BinOp ?_) hsw)
    refine sl_nm' (v := p) (u := ta) hp1 (by omega) (fun Q' hQ' => it_sub V S₂ hx hxv hy hyv hm rfl (by simp) hQ') fun t3 s₃ S₃ => ?_
    refine sl_1n' (v := q) (u := tb) hq1 (by omega) (fun Q' hQ' => ev_item V S₃ hx hxv hy hyv (k := 1) (S₃.get hm) rfl (by simp) (hQ' _ S₃)) fun t4 s₄ S₄ => ?_
    refine add_s S₄ rfl (by simp; omega) fun t5 s₅ S₅ => ?_
    refine ev_loc V S₅ hx hxv (wpAny_BinOp (ev_loc V S₅ hy hyv (ev_int S₅ fun t6 s₆ S₆ _ _ => P.sub_int ?_)))
    have S₇ := S₆.tok (tk := s₆.toks + 1) (Nat.le_succ _)
    refine set_l (i := 0) S₇ hl (by simp) (by simp) fun m s₈ S₈ => ?_
    have hl' : (objs.set kl (l, lstO ([.str (mkS p) ta, .str (mkS q) tb].set 0 (.str (mkS (p.dropLast ++ q.drop 1)) t5)) m))[kl]? = some (l, lstO [.str (mkS (p.dropLast ++ q.drop 1)) t5, .str (mkS q) tb] m) := by
      rw [List.getElem?_set_self (List.getElem?_eq_some_iff.mp hl).1]; rfl
    refine wpAny_execs_cons (wpAny_Delete (wpAny_deleteEach_cons ?_))
    refine wpAny_delete_Subscript (ev_loc V S₈ hx hxv (ev_loc V S₈ hy hyv ?_))
    refine del_l (i := 1) S₈ hl' (by simp) (by simp) fun m' s₉ S₉ => wpAny_deleteEach_nil (wpAny_execs_nil (wpAny_execs_nil ?_))
    rw [List.set_set] at S₉
    exact h _ _ _ (by rw [if_pos hdc]; exact ⟨t5, rfl⟩) S₉
  · rw [decide_eq_false hdc, if_neg (by decide)]
    refine wpAny_execs_nil (wpAny_execs_nil ?_)
    refine h _ n _ (by rw [if_neg hdc]) ?_
    have e : objs.set kl (l, lstO [.str (mkS p) ta, .str (mkS q) tb] n) = objs := by
      apply List.ext_getElem?
      intro i
      rw [List.getElem?_set]
      split
      · rename_i h; subst h; rw [hl]; simp [(List.getElem?_eq_some_iff.mp hl).1]
      · rfl
    rw [e]
    exact S₂
end
end Mine
open PySem PySem.W PyProof.Rows PySem.Calls
set_option linter.unusedVariables false
set_option maxRecDepth 100000
namespace Mine
def ns69 : List Str := [Str.ofString "inp", Str.ofString "STAR", Str.ofString "res", Str.ofString "add", Str.ofString "i", Str.ofString "n", Str.ofString "fixed"]
def gs69 : List Str := [Str.ofString "len"]
theorem V69 (L : Addr) : EnvOk (callEnv (fd 69) L 69) L ns69 gs69 := envOk_of (by kernel_rfl) (by kernel_rfl) (by kernel_rfl) (by kernel_rfl) (by kernel_rfl) (by kernel_rfl)
theorem gl_no_len (P : Params) : nsIn (hd.heap_39 P) mainGlobals (Str.ofString "len") = some none := by kernel_rfl
theorem bo_len : bootBuiltins (Str.ofString "len") = some (.builtin "len") := by decide +kernel

theorem cp1 : (Str.ofString ".*").cps.toList = [46, 42] := by decide +kernel
theorem cp2 : (Str.ofString "(?>.*?").cps.toList = [40, 63, 62, 46, 42, 63] := by decide +kernel
theorem cp3 : (Str.ofString ")").cps.toList = [41] := by decide +kernel
theorem cp4 : (Str.ofString "(?s:").cps.toList = [40, 63, 115, 58] := by decide +kernel
theorem cp5 : (Str.ofString ")\\Z").cps.toList = [41, 92, 90] := by decide +kernel
section
variable {w : World} {A : Around} {E : Value → Shared → Prop} {s : Shared}
set_option maxHeartbeats 2000000 in
theorem call_join {inp st : Addr} {ps : List Pt} {xs : List Value} {m : Nat} {Q : Value → Shared → Prop} (ok : OkA A 3 20) (g : Good w s) (hst : s.heap.get? st = some plainO) (hin : s.heap.get? inp = some (lstO xs m)) (h57 : inp ≠ 57)
    (hp : PVs st ps xs) (hna : NoAdj ps) (hn : ps.length ≤ 10000) (hz : (textOf (runs ps)).length ≤ 1000000) (hQ : ∀ t' s', Ext s s' → Q (.str (mkS (resL ps)) t') s') :
    wpAny (Md w) A (call (.ref 69) [.ref inp, .ref st]) Q E s := by
  refine enter (fd := fd 69) (d := 2) (u := 17) (ns := ns69) (gs := gs69) (body := bodyOf 69) (binds := [(Str.ofString "inp", .ref inp), (Str.ofString "STAR", .ref st)]) ok.mono g K69 ck69 body69 rfl (by decide) (locs rfl) (fm_two _ _ _ _ _ (by decide)) (by decide) rfl (V69 _) ?_ (by kernel_rfl) (by kernel_rfl) (by kernel_rfl)
  intro env L s₁ A' ok' V hc hq _ S
  have hlen : xs.length = ps.length := hp.len
  have keepIn : ∀ {vs objs s'}, Mst w s L ns69 vs objs s' → s'.heap.get? inp = some (lstO xs m) := fun S' => S'.ext.keep _ _ h57 hin
  refine wpAny_execs_cons (wpAny_Assign_Name (List_ (wpAny_items_nil (wpAny_newList (st_loc V (S.push (o := lstO [] 0)) (k := 2) rfl fun s₂ S₂ _ => ?_) (by decide)))) (by rfl))
  generalize hr : s₁.heap.objs.size = r at S₂
  refine wpAny_execs_cons (wpAny_Assign_Name (Attribute_name (ev_loc V S₂ (k := 2) rfl rfl (ga_append (S₂.get (o := lstO [] 0) (List.mem_cons_self ..)) (st_loc V (S₂.push (o := bmO r) (tk := s₂.toks + 1) rfl (Nat.le_succ _)) (k := 3) rfl fun s₃ S₃ _ => ?_)))) (by rfl))
  generalize hb : s₂.heap.objs.size = b at S₃
  refine wpAny_execs_cons (Assign_Tuple_swapped (names := [Str.ofString "i", Str.ofString "n"]) (Tuple_ (wpAny_items_cons ?_)) (by rfl) (swap2 V (i := 4) (j := 5) rfl rfl (by decide) (by decide) (by rfl) (by rfl) (by rfl)))
  refine ev_int S₃ fun ti s₄ S₄ _ _ => wpAny_items_cons (Call_ (ev_bi V S₄ (k := 0) rfl gl_no_len bo_len (by decide) (cw_b (wpAny_items_cons ?_))))
  refine ev_loc V S₄ (k := 0) rfl rfl (wpAny_items_nil (len_l S₄ (keepIn S₄) (by omega) fun tn s₅ S₅ => wpAny_items_nil ?_))
  refine as2s ok'.hh V S₅ (i := 4) (j := 5) rfl rfl fun s₆ S₆ => ?_
  rw [hlen] at S₆
  -- the head: up to the first star
  refine wpAny_execs_cons (wpAny_mono (Q := fun fl s' => fl = .next ∧ ∃ i ti vs k out, CatIs vs out ∧ vs.length = i ∧ i ≤ ps.length ∧ (ps.drop i = [] ∧ out = textOf (runs ps) ∨ ∃ q, ps.drop i = none :: q ∧ out ++ tailR (runs q) = textOf (runs ps)) ∧
    Mst w s L ns69 [some (.ref inp), some (.ref st), some (.ref r), some (.ref b), some (.int (i : Nat) ti), some (.int (ps.length : Nat) tn), none] [(b, bmO r), (r, lstO vs k)] s')
    (wh (I := fun M s' => ∃ i ti vs k out, M + i = ps.length ∧ CatIs vs out ∧ vs.length = i ∧ out ++ textOf (runs (ps.drop i)) = textOf (runs ps) ∧
    Mst w s L ns69 [some (.ref inp), some (.ref st), some (.ref r), some (.ref b), some (.int (i : Nat) ti), some (.int (ps.length : Nat) tn), none] [(b, bmO r), (r, lstO vs k)] s') ?_ ps.length ⟨0, ti, [], 0, [], rfl, .nil, rfl, rfl, S₆⟩) ?_ (fun _ _ x => x))
  · rintro M s' ⟨i, ti, vs, k, out, hM, hC, hv, hT, S'⟩
    refine wpAny_isTrue_BoolOp (wpAny_allTrue_And_cons (wpAny_isTrue_Compare1 (ev_loc V S' (k := 4) rfl rfl (ev_loc V S' (k := 5) rfl rfl (P.lt_int (wpAny_truthy_bool ?_))))))
    cases hd : ps.drop i with
    | nil =>
      have hi : ps.length ≤ i := List.drop_eq_nil_iff.mp hd
      rw [decide_eq_false (by omega), if_neg (by decide), if_neg (by decide)]
      exact ⟨rfl, i, ti, vs, k, out, hC, hv, by omega, .inl ⟨hd, by rw [hd] at hT; simpa [runs, textOf, tailR] using hT⟩, S'⟩
    | cons p q =>
      have hi : i < ps.length := drop_lt hd
      rw [decide_eq_true (by omega), if_pos rfl]
      have G := hp.get hd
      cases p with
      | none =>
        refine wpAny_allTrue_And_cons (wpAny_isTrue_Compare1 (ev_item V S' (a := 0) (b := 4) rfl rfl rfl rfl (keepIn S') (G.1 rfl) (by omega) (ev_loc V S' (k := 1) rfl rfl (wpAny_isNot_ref_self (wpAny_truthy_bool ?_)))))
        rw [if_neg (by decide), if_neg (by decide)]
        exact ⟨rfl, i, ti, vs, k, out, hC, hv, by omega, .inr ⟨q, hd, by rw [hd, textOf_none] at hT; exact hT⟩, S'⟩
      | some x =>
        obtain ⟨t, ht⟩ := G.2 x rfl
        refine wpAny_allTrue_And_cons (wpAny_isTrue_Compare1 (ev_item V S' (a := 0) (b := 4) rfl rfl rfl rfl (keepIn S') ht (by omega) (ev_loc V S' (k := 1) rfl rfl (isnot_sr (wpAny_truthy_bool ?_)))))
        rw [if_pos rfl]
        refine wpAny_allTrue_And_nil ?_
        rw [if_pos rfl]
        refine wpAny_execs_cons (addx V S' (a := 3) (kb := 0) (kl := 1) rfl rfl rfl rfl (by omega) (ev_item V S' (a := 0) (b := 4) rfl rfl rfl rfl (keepIn S') ht (by omega) ⟨S', fun s₇ S₇ => ?_⟩) V.inter)
        refine wpAny_execs_cons (inc V S₇ (a := 4) rfl rfl fun t' s₈ S₈ => wpAny_execs_nil ?_)
        refine ⟨M - 1, by omega, i + 1, t', _, _, out ++ x, by omega, hC.snoc (mkS x) t, by rw [List.length_append]; simp [hv], ?_, S₈⟩
        rw [drop_succ hd, ← hT, hd, textOf_some, List.append_assoc]
  rintro fl s₇ ⟨rfl, i, ti, vs, k, out, hC, hv, hi, hT, S₇⟩
  -- the stars, each with the text behind it
  refine wpAny_execs_cons (wpAny_mono (Q := fun fl s' => fl = .next ∧ ∃ ti vs k fx, CatIs vs (textOf (runs ps)) ∧ vs.length ≤ 2 * ps.length ∧
    Mst w s L ns69 [some (.ref inp), some (.ref st), some (.ref r), some (.ref b), some (.int (ps.length : Nat) ti), some (.int (ps.length : Nat) tn), fx] [(b, bmO r), (r, lstO vs k)] s')
    (wh (I := fun M s' => ∃ i ti vs k out fx, M + i = ps.length ∧ CatIs vs out ∧ vs.length ≤ 2 * i ∧ i ≤ ps.length ∧ (ps.drop i = [] ∧ out = textOf (runs ps) ∨ ∃ q, ps.drop i = none :: q ∧ out ++ tailR (runs q) = textOf (runs ps)) ∧
    Mst w s L ns69 [some (.ref inp), some (.ref st), some (.ref r), some (.ref b), some (.int (i : Nat) ti), some (.int (ps.length : Nat) tn), fx] [(b, bmO r), (r, lstO vs k)] s') ?_ (ps.length - i) ⟨i, ti, vs, k, out, none, by omega, hC, by omega, hi, hT, S₇⟩) ?_ (fun _ _ x => x))
  · clear S₇ hT hi hv hC out k vs ti i
    rintro M s' ⟨i, ti, vs, k, out, fx, hM, hC, hv, hi, hT, S'⟩
    refine wpAny_isTrue_Compare1 (ev_loc V S' (k := 4) rfl rfl (ev_loc V S' (k := 5) rfl rfl (P.lt_int (wpAny_truthy_bool ?_))))
    rcases hT with ⟨hd, hT⟩ | ⟨q, hd, hT⟩
    · have hi' : ps.length ≤ i := List.drop_eq_nil_iff.mp hd
      rw [decide_eq_false (by omega), if_neg (by decide)]
      obtain rfl : i = ps.length := by omega
      exact ⟨rfl, ti, vs, k, fx, by rw [← hT]; exact hC, hv, S'⟩
    have hlt : i < ps.length := drop_lt hd
    rw [decide_eq_true (by omega), if_pos rfl]
    refine wpAny_execs_cons (wpAny_Assert_holds (wpAny_isTrue_Compare1 (ev_item V S' (a := 0) (b := 4) rfl rfl rfl rfl (keepIn S') ((hp.get hd).1 rfl) (by omega) (ev_loc V S' (k := 1) rfl rfl (wpAny_is_ref_self (wpAny_truthy_bool ⟨rfl, ?_⟩))))))
    refine wpAny_execs_cons (inc V S' (a := 4) rfl rfl fun t₁ s₁ S₁ => ?_)
    simp only [List.set] at S₁
    rw [show ((i : Nat) : Int) + 1 = ((i + 1 : Nat) : Int) from by omega] at S₁
    have hd1 := drop_succ hd
    refine wpAny_execs_cons (wpAny_If (wpAny_isTrue_Compare1 (ev_loc V S₁ (k := 4) rfl rfl (ev_loc V S₁ (k := 5) rfl rfl (P.eq_int (wpAny_truthy_bool ?_))))))
    have hTl : (out ++ tailR (runs q)).length ≤ 1000000 := by rw [hT]; exact hz
    cases q with
    | nil =>
      have hn1 : ps.length ≤ i + 1 := List.drop_eq_nil_iff.mp hd1
      rw [show (((i + 1 : Nat) : Int) == ((ps.length : Nat) : Int)) = true from beq_iff_eq.mpr (by omega), if_pos rfl]
      refine wpAny_execs_cons (addx V S₁ (a := 3) (kb := 0) (kl := 1) rfl rfl rfl rfl (by omega) (ev_str S₁ fun t₂ s₂ S₂ _ _ => ⟨S₂, fun s₃ S₃ => ?_⟩) V.inter)
      refine wpAny_execs_cons (wpAny_Break ?_)
      have e : i + 1 = ps.length := by omega
      refine ⟨rfl, t₁, _, _, fx, ?_, ?_, by simp only [List.set] at S₃; rw [e] at S₃; exact S₃⟩
      · rw [← hT]
        have := hC.snoc (Str.ofString ".*") t₂
        rw [cp1] at this
        exact this
      · rw [List.length_append]; show _ + 1 ≤ _; omega
    | cons p q =>
      have hn1 : i + 1 < ps.length := drop_lt hd1
      rw [show (((i + 1 : Nat) : Int) == ((ps.length : Nat) : Int)) = false from beq_eq_false_iff_ne.mpr (by omega), if_neg (by decide)]
      refine wpAny_execs_nil ?_
      cases p with
      | none => exact absurd hd (hna i q)
      | some x =>
      obtain ⟨t, ht⟩ := (hp.get hd1).2 x rfl
      refine wpAny_execs_cons (wpAny_Assert_holds (wpAny_isTrue_Compare1 (ev_item V S₁ (a := 0) (b := 4) rfl rfl rfl rfl (keepIn S₁) ht (by omega) (ev_loc V S₁ (k := 1) rfl rfl (isnot_sr (wpAny_truthy_bool ⟨rfl, ?_⟩))))))
      refine wpAny_execs_cons (wpAny_Assign_Name (List_ (wpAny_items_nil (wpAny_newList (st_loc V (S₁.push (o := lstO [] 0)) (k := 6) rfl fun s₂ S₂ _ => ?_) (by decide)))) (by rfl))
      generalize hf : s₁.heap.objs.size = f at S₂
      simp only [List.set] at S₂
      refine wpAny_execs_cons (wpAny_mono (Q := fun fl s' => fl = .next ∧ ∃ i ti fs j g, CatIs fs g ∧ i ≤ ps.length ∧ vs.length + 2 ≤ 2 * i ∧ ps.length < M + i ∧ (ps.drop i = [] ∧ out ++ ([46, 42] ++ g) = textOf (runs ps) ∨ ∃ q, ps.drop i = none :: q ∧ out ++ ([40, 63, 62, 46, 42, 63] ++ g ++ [41]) ++ tailR (runs q) = textOf (runs ps)) ∧
        Mst w s L ns69 [some (.ref inp), some (.ref st), some (.ref r), some (.ref b), some (.int (i : Nat) ti), some (.int (ps.length : Nat) tn), some (.ref f)] [(f, lstO fs j), (b, bmO r), (r, lstO vs k)] s')
        (wh (I := fun M' s' => ∃ i ti fs j g, M' + i = ps.length ∧ CatIs fs g ∧ fs.length ≤ i ∧ vs.length + 2 ≤ 2 * i ∧ ps.length < M + i ∧ out ++ tailR (addHead g (runs (ps.drop i))) = textOf (runs ps) ∧
        Mst w s L ns69 [some (.ref inp), some (.ref st), some (.ref r), some (.ref b), some (.int (i : Nat) ti), some (.int (ps.length : Nat) tn), some (.ref f)] [(f, lstO fs j), (b, bmO r), (r, lstO vs k)] s') ?_ (ps.length - (i + 1))
          ⟨i + 1, t₁, [], 0, [], by omega, .nil, by simp, by omega, by omega, by rw [addHead_nil, hd1]; exact hT, S₂⟩) ?_ (fun _ _ x => x))
      · clear S₂ S₁ ht hn1 hTl hT hd1 hlt hd t₁ x q t hi hv hM S' ti i
        rintro M' s' ⟨i, ti, fs, j, g, hM, hG, hf, hv, hMi, hT, S'⟩
        refine wpAny_isTrue_BoolOp (wpAny_allTrue_And_cons (wpAny_isTrue_Compare1 (ev_loc V S' (k := 4) rfl rfl (ev_loc V S' (k := 5) rfl rfl (P.lt_int (wpAny_truthy_bool ?_))))))
        cases hd : ps.drop i with
        | nil =>
          have hi : ps.length ≤ i := List.drop_eq_nil_iff.mp hd
          rw [decide_eq_false (by omega), if_neg (by decide), if_neg (by decide)]
          exact ⟨rfl, i, ti, fs, j, g, hG, by omega, hv, hMi, .inl ⟨hd, by rw [hd, tailR_end] at hT; exact hT⟩, S'⟩
        | cons p q =>
          have hi : i < ps.length := drop_lt hd
          rw [decide_eq_true (by omega), if_pos rfl]
          have G := hp.get hd
          cases p with
          | none =>
            refine wpAny_allTrue_And_cons (wpAny_isTrue_Compare1 (ev_item V S' (a := 0) (b := 4) rfl rfl rfl rfl (keepIn S') (G.1 rfl) (by omega) (ev_loc V S' (k := 1) rfl rfl (wpAny_isNot_ref_self (wpAny_truthy_bool ?_)))))
            rw [if_neg (by decide), if_neg (by decide)]
            exact ⟨rfl, i, ti, fs, j, g, hG, by omega, hv, hMi, .inr ⟨q, hd, by rw [hd, tailR_more, ← List.append_assoc] at hT; exact hT⟩, S'⟩
          | some x =>
            obtain ⟨t, ht⟩ := G.2 x rfl
            refine wpAny_allTrue_And_cons (wpAny_isTrue_Compare1 (ev_item V S' (a := 0) (b := 4) rfl rfl rfl rfl (keepIn S') ht (by omega) (ev_loc V S' (k := 1) rfl rfl (isnot_sr (wpAny_truthy_bool ?_)))))
            rw [if_pos rfl]
            refine wpAny_allTrue_And_nil ?_
            rw [if_pos rfl]
            refine wpAny_execs_cons (appx V S' (a := 6) (kl := 0) rfl rfl rfl (by omega) (ev_item V S' (a := 0) (b := 4) rfl rfl rfl rfl (keepIn S') ht (by omega) ⟨S', fun s₇ S₇ => ?_⟩) V.inter)
            refine wpAny_execs_cons (inc V S₇ (a := 4) rfl rfl fun t' s₈ S₈ => wpAny_execs_nil ?_)
            refine ⟨M' - 1, by omega, i + 1, t', _, _, g ++ x, by omega, hG.snoc (mkS x) t, by rw [List.length_append]; show _ + 1 ≤ _; omega, by omega, by omega, ?_, S₈⟩
            rw [drop_succ hd, ← hT, hd, runs, addHead_addHead]
      clear S₂ S₁ ht hn1 hTl hT hd1 hlt hd t₁ x q t hi hv hM S' ti i
      rintro fl s₂ ⟨rfl, i, ti, fs, j, g, hG, hi, hv, hMi, hT, S₂⟩
      have hg : g.length ≤ 1000000 := by
        rcases hT with ⟨_, hT⟩ | ⟨q, _, hT⟩
        · have := congrArg List.length hT; simp only [List.length_append] at this; omega
        · have := congrArg List.length hT; simp only [List.length_append] at this; omega
      refine wpAny_execs_cons (joinx V S₂ (a := 6) (b := 6) rfl rfl rfl (fun s' S' => S'.get (List.mem_cons_self ..)) hG (by omega) (by rfl) (fun t₄ s₄ S₄ => ?_) (by rfl))
      have S₅ := S₄.sub (objs' := [(b, bmO r), (r, lstO vs k)]) (fun p hp => List.mem_cons_of_mem _ hp) (List.nodup_cons.mp S₄.ond).2
      simp only [List.set] at S₅
      refine wpAny_execs_cons (wpAny_If (wpAny_isTrue_Compare1 (ev_loc V S₅ (k := 4) rfl rfl (ev_loc V S₅ (k := 5) rfl rfl (P.eq_int (wpAny_truthy_bool ?_))))))
      rcases hT with ⟨hd, hT⟩ | ⟨q, hd, hT⟩
      · have hi' : ps.length ≤ i := List.drop_eq_nil_iff.mp hd
        rw [show (((i : Nat) : Int) == ((ps.length : Nat) : Int)) = true from beq_iff_eq.mpr (by omega), if_pos rfl]
        refine wpAny_execs_cons (addx V S₅ (a := 3) (kb := 0) (kl := 1) rfl rfl rfl rfl (by omega) (ev_str S₅ fun t₂ s₂ S₂ _ _ => ⟨S₂, fun s₃ S₃ => ?_⟩) V.inter)
        refine wpAny_execs_cons (addx V S₃ (a := 3) (kb := 0) (kl := 1) rfl rfl rfl rfl (by rw [List.length_append]; show _ + 1 ≤ _; omega) (ev_loc V S₃ (k := 6) rfl rfl ⟨S₃, fun s₄ S₄ => wpAny_execs_nil (wpAny_execs_nil ?_)⟩) V.inter)
        have e := (hC.snoc (Str.ofString ".*") t₂).snoc (mkS g) t₄
        have e' : out ++ (Str.ofString ".*").cps.toList ++ (mkS g).cps.toList = textOf (runs ps) := by rw [← hT, List.append_assoc, cp1, mkS_toList]
        rw [e'] at e
        exact ⟨0, by omega, i, ti, _, _, _, _, by omega, e, by rw [List.length_append, List.length_append]; show _ + 1 + 1 ≤ _; omega, hi, .inl ⟨hd, rfl⟩, S₄⟩
      · have hi' : i < ps.length := drop_lt hd
        rw [show (((i : Nat) : Int) == ((ps.length : Nat) : Int)) = false from beq_eq_false_iff_ne.mpr (by omega), if_neg (by decide)]
        refine wpAny_execs_cons (addx V S₅ (a := 3) (kb := 0) (kl := 1) rfl rfl rfl rfl (by omega) (fs3 V S₅ (k := 6) rfl rfl (by omega) (by decide +kernel) (by decide +kernel) fun t₂ s₂ S₂ => ⟨S₂, fun s₃ S₃ => wpAny_execs_nil (wpAny_execs_nil ?_)⟩) V.inter)
        refine ⟨ps.length - i, by omega, i, ti, _, _, _, _, by omega, hC.snoc _ t₂, by rw [List.length_append]; show _ + 1 ≤ _; omega, hi, .inr ⟨q, hd, ?_⟩, S₃⟩
        rw [← hT, mkS_toList, cp2, cp3]
  rintro fl s₈ ⟨rfl, ti, vs, k, fx, hC, hv, S₈⟩
  refine wpAny_execs_cons (wpAny_Assert_holds (wpAny_isTrue_Compare1 (ev_loc V S₈ (k := 4) rfl rfl (ev_loc V S₈ (k := 5) rfl rfl (P.eq_int (wpAny_truthy_bool ⟨beq_self_eq_true _, ?_⟩))))))
  refine wpAny_execs_cons (joinx V S₈ (a := 2) (b := 2) rfl rfl rfl (fun s' S' => S'.get (List.mem_cons_of_mem _ (List.mem_cons_self ..))) hC (by omega) (by rfl) (fun t₄ s₄ S₅ => ?_) (by rfl))
  refine wpAny_execs_cons (wpAny_Return_some (fs3 V S₅ (k := 2) rfl rfl (by omega) (by decide +kernel) (by decide +kernel) fun t₅ s₆ S₆ => ?_))
  rw [cp4, cp5]
  exact hQ t₅ s₆ S₆.ext
end
end Mine
open PySem PySem.W PyProof.Rows PySem.Calls
set_option linter.unusedVariables false
set_option maxRecDepth 100000
namespace Mine
open Builtin.Re

theorem slot_sub : Slot "re.Pattern" "sub" "re.Pattern.sub" :=
  .of (owner := "re.Pattern") (n := "sub") (by rw [typeLookup_type, builtinLookup_eq_fast]; kernel_rfl) (by decide +kernel) (by decide +kernel) (by decide +kernel)
    (by first | exact .inl (by decide +kernel) | exact .inr (by decide +kernel)) (by rw [isSubtype_type]; kernel_rfl)
theorem type_sub : typeOf (.builtin "re.Pattern.sub") = pure (.type "method_descriptor") := by show builtinType _ = _; rw [builtinType_eq_fast]; kernel_rfl
theorem entry_sub : entryFor table "re.Pattern.sub" = some Builtin.«re.Pattern.sub» := entryFor_of_tree (by kernel_rfl)
theorem owner_pattern : Manifest.owners.lookup (String.ofList ['n', 'r', 'e', 't', 't', 'a', 'P', '.', 'e', 'r'].reverse) = some Manifest.sig_re_Pattern := by kernel_rfl
theorem args_sub (a b c : Value) : argsOk "re.Pattern.sub" ⟨[a, b, c], []⟩ := by
  unfold argsOk
  rw [signature?_of (id := "re.Pattern.sub") (n := ['b', 'u', 's']) (o := ['n', 'r', 'e', 't', 't', 'a', 'P', '.', 'e', 'r']) (by kernel_rfl) owner_pattern]; kernel_rfl


theorem reNamed2 (a b : Value) : reNamed "re.Pattern.sub" "sub" ["repl", "string", "count"] 2 [a, b] [] = pure [some a, some b, none] := by rfl
theorem str_nocall : typeLookup (.type "str") "__call__" = pure none := by rw [typeLookup_type, builtinLookup_eq_fast]; kernel_rfl

section
variable {prog : Program} {w : World} {A : Around} {E : Value → Shared → Prop} {s : Shared}
set_option maxHeartbeats 1000000 in
theorem sub_call0 {pa : Addr} {x r : Str} {u tr : Tok} {code : Array Nat} {groups k : Nat} {find : Nat → Option (Nat × Nat)} {Q : Value → Shared → Prop}
    (h57 : 57 < s.heap.objs.size) (hP : ∀ s', Ext s s' → PatAt s'.heap pa code groups) (hr : r.cps.contains 92 = false)
    (hf : ∀ p, Ends (SearchIs (find p)) (Sre.forSearch code x.cps groups p x.cps.size false) k) (hk : k ≤ 2 ^ 64)
    (hb : ∀ p a e, find p = some (a, e) → p ≤ a ∧ a < e ∧ e ≤ x.cps.size) (hx : x.cps.size ≤ 1000000)
    (hsum : ((subParts find x.cps r (x.cps.size + 1) 0).map (·.length)).sum ≤ 16777216)
    (hQ : ∀ t' s', Ext s s' → Q (.str (Txt.join Str.empty (subParts find x.cps r (x.cps.size + 1) 0)) t') s') :
    wpAny (model prog w) A (call (.builtin "re.Pattern.sub") [.ref pa, .str r tr, .str x u]) Q E s := by
  have P := hP s (Ext.refl s)
  obtain ⟨o, vs, ca, oc, xs, n, e1, e2, e3, _⟩ := P.obj
  have hT : s.TypeIs (.ref pa) "re.Pattern" := ⟨o, e1, e2⟩
  refine wpAny_call (codeAny_call_builtin slot_sub.plain entry_sub (slot_sub.check _ _ _ _ _ _ _ _ hT (args_sub _ _ _) ?_))
  unfold Builtin.«re.Pattern.sub» reSubstitute
  show wpAny _ _ (reNamed "re.Pattern.sub" "sub" ["repl", "string", "count"] 2 [.str r tr, .str x u] [] >>= _) _ _ s
  rw [reNamed2]
  refine wpAny_bind (wpAny_pure ?_)
  dsimp only
  refine wpAny_bind (wpAny_pure ?_)
  refine wpAny_bind (wpAny_specialOf (typeIs_str _ _ _) str_nocall ?_)
  simp only [Option.isSome_none, Bool.false_eq_true, if_false]
  refine wpAny_bind (m := asStr? (.str r tr)) (wpAny_pure (a := some r) ?_)
  dsimp only
  rw [hr]
  refine wpAny_bind (wpAny_pure ?_)
  simp only [Bool.not_false, if_true]
  refine wpAny_bind (wpAny_pure ?_)
  show wpAny _ _ (reWholeTarget (.ref pa) (.str x u) >>= _) _ _ s
  refine wpAny_bind (wholeTarget P ?_)
  show wpAny _ _ (newList [] >>= _) _ _ s
  refine wpAny_bind (wpAny_newList (wpAny_pure ⟨plainId_quiet plain_subloop _, ?_⟩) (by decide))
  refine sub_loop0 (s₀ := s) (ys := []) (vs := #[]) hP hf hk hb hx (x.cps.size + 1) 0 0 _ (by omega) (Nat.zero_le _) (by simp) .nil ?_ (by simpa using hsum) fun t' s' x' => ?_
  · refine ⟨Ext.of_keep (h' := s.heap.push _) (tk := s.toks) (fun b o e => Heap.get?_push_of_some _ e) (Nat.le_refl _) (by rw [Heap.size_push]; omega), get_none_size _, Nat.ne_of_gt h57, 0, Heap.get?_push_size _ rfl⟩
  · exact hQ t' s' x'

theorem fn_call : typeLookup (.type "function") "__call__" = pure (some (.builtin "function.__call__")) := by rw [typeLookup_type, builtinLookup_eq_fast]; kernel_rfl
theorem str_bytearray : isSubtype (.type "str") (.type "bytearray") = pure false := by rw [isSubtype_type]; kernel_rfl
theorem join_empty_one (x : Str) : Txt.join Str.empty [x] = x := by unfold Txt.join; rfl

set_option maxHeartbeats 1000000 in
theorem sub_callF {pa f : Addr} {x : Str} {u : Tok} {code : Array Nat} {groups k : Nat} {Q : Value → Shared → Prop} {of : Obj}
    (h57 : 57 < s.heap.objs.size) (hP : ∀ s', Ext s s' → PatAt s'.heap pa code groups) (hfn : s.heap.get? f = some of) (hcl : of.cls = .type "function")
    (hf : Ends (SearchIs none) (Sre.forSearch code x.cps groups 0 x.cps.size false) k) (hk : k ≤ 2 ^ 64) (hx : x.cps.size ≤ 1000000)
    (hQ : ∀ t' s', Ext s s' → Q (.str x t') s') :
    wpAny (model prog w) A (call (.builtin "re.Pattern.sub") [.ref pa, .ref f, .str x u]) Q E s := by
  have P := hP s (Ext.refl s)
  obtain ⟨o, vs, ca, oc, xs, n, e1, e2, e3, _⟩ := P.obj
  have hT : s.TypeIs (.ref pa) "re.Pattern" := ⟨o, e1, e2⟩
  refine wpAny_call (codeAny_call_builtin slot_sub.plain entry_sub (slot_sub.check _ _ _ _ _ _ _ _ hT (args_sub _ _ _) ?_))
  unfold Builtin.«re.Pattern.sub» reSubstitute
  show wpAny _ _ (reNamed "re.Pattern.sub" "sub" ["repl", "string", "count"] 2 [.ref f, .str x u] [] >>= _) _ _ s
  rw [reNamed2]
  refine wpAny_bind (wpAny_pure ?_)
  dsimp only
  refine wpAny_bind (wpAny_pure ?_)
  refine wpAny_bind (wpAny_specialOf (T := "function") ⟨of, hfn, hcl⟩ fn_call ?_)
  simp only [Option.isSome_some, if_true]
  refine wpAny_bind (wpAny_pure ?_)
  refine wpAny_bind (wpAny_pure ?_)
  refine wpAny_bind (wpAny_holding (wholeTarget P ?_))
  simp only [beq_self_eq_true, if_true]
  have hnh : ∀ (s' : Shared) (Q' : Unit → Shared → Prop), Q' () s' → wpAny (model prog w) A.in1 (reNotHeld "re.Pattern.sub" (.str x u)) Q' (fun e s' => wants Q E (.error e) s') s' := by
    intro s' Q' hq
    unfold reNotHeld
    refine wpAny_bind (wpAny_isInstance (T := "str") (b := false) (typeIs_str _ _ _) str_bytearray ?_)
    exact wpAny_pure hq
  refine wpAny_bind (hnh _ _ ?_)
  refine wpAny_bind (wpAny_newList (wpAny_pure ⟨plainId_quiet plain_subloop _, ?_⟩) (by decide))
  have O : Own s { s with heap := s.heap.push { cls := .type "list", data := .seq ([] : List Value).toArray } } s.heap.objs.size #[] :=
    ⟨Ext.of_keep (h' := s.heap.push _) (tk := s.toks) (fun b o e => Heap.get?_push_of_some _ e) (Nat.le_refl _) (by rw [Heap.size_push]; omega), get_none_size _, Nat.ne_of_gt h57, 0, Heap.get?_push_size _ rfl⟩
  generalize hs1 : ({ s with heap := s.heap.push { cls := .type "list", data := .seq ([] : List Value).toArray } } : Shared) = s1 at O ⊢
  refine codeAny_builtin entry_subloop ?_
  rw [Around.under_plainId plain_subloop]
  unfold Builtin.«re.Pattern.sub.loop»
  refine wpAny_bind (wholeTarget (hP _ O.ext) ?_)
  have e0 : ((0 : Int) != 0 && decide ((0 : Int) ≥ 0)) = false := rfl
  have e1 : ((1 : Int) == 0) = false := rfl
  simp only [e0, e1, Bool.false_eq_true, if_false, Int.toNat_zero]
  have slice : ∀ (b e : Nat) (s' : Shared) (Q' E' : Value → Shared → Prop), Q' (.str ⟨x.cps.extract b e⟩ s'.toks) { s' with toks := s'.toks + 1 } → wpAny (model prog w) A.in1 (reSlice (targetOf pa x u code groups).text (targetOf pa x u code groups).kind b e) Q' E' s' := by
    intro b e s' Q' E' hq
    show wpAny _ _ (mkStr ⟨x.cps.extract b e⟩) _ _ _
    refine wpAny_mkStr hq ?_
    show (x.cps.extract b e).size ≤ _
    rw [Array.size_extract, sizeLine_eq]; omega
  refine wpAny_bind (reRun_wp hf hk fun m' hm => .inr ⟨hm, ?_⟩)
  dsimp only
  have hx0 : (⟨x.cps.extract 0 0⟩ : Str) = Str.empty := by simp [Str.empty]
  have hxx : (⟨x.cps.extract 0 x.cps.size⟩ : Str) = x := by simp
  by_cases hpl : 0 < x.cps.size
  · rw [if_pos (show 0 < (targetOf pa x u code groups).lim from hpl)]
    refine wpAny_bind (slice 0 x.cps.size _ _ _ ?_)
    rw [hxx]
    obtain ⟨n', hn'⟩ := O.at'
    refine wpAny_bind (wpAny_updateSeq (s := { s1 with toks := s1.toks + 1 }) hn' rfl ?_ (by decide) (by rw [Array.size_push, sizeLine_eq]; decide))
    have O2 := (O.tok (Nat.le_succ s1.toks)).push (.str x s1.toks) (Nat.le_refl _)
    refine wpAny_bind (slice 0 0 _ _ _ ?_)
    rw [hx0]
    have O3 := O2.tok (Nat.le_succ (s1.toks + 1))
    obtain ⟨n2, hn2⟩ := O3.at'
    refine wpAny_bind (wpAny_seqItems hn2 rfl ?_)
    simp only [Option.getD_some]
    rw [if_neg (by simp)]
    have hj : (if ((targetOf pa x u code groups).kind == 0) = true then "str.join" else "bytes.join") = "str.join" := rfl
    rw [hj]
    refine wpAny_bind (gainQ (join_list (ys := [x]) O3.list (.cons _ _ .nil) (by show _ + _ * 0 ≤ _; simp [Str.length]; omega) fun t' k' => ?_))
    intro hm'
    refine wpAny_pure ?_
    have := hQ t' _ (O3.tok hm'.toks).ext
    rw [join_empty_one]
    exact this
  · rw [if_neg (show ¬ 0 < (targetOf pa x u code groups).lim from hpl)]
    refine wpAny_bind (slice 0 0 _ _ _ ?_)
    rw [hx0]
    have O3 := O.tok (Nat.le_succ s1.toks)
    obtain ⟨n2, hn2⟩ := O3.at'
    refine wpAny_bind (wpAny_seqItems hn2 rfl ?_)
    simp only [Option.getD_some]
    rw [if_pos (by rfl)]
    refine wpAny_bind (wpAny_pure (wpAny_pure ?_))
    have hxe : x = Str.empty := by
      obtain ⟨c⟩ := x
      have : c.size = 0 := by simpa using hpl
      rw [Array.size_eq_zero_iff.mp this]; rfl
    have := hQ s1.toks _ O3.ext
    rw [hxe] at this
    exact this
end
end Mine
open PySem PySem.W PyProof.Rows PySem.Calls
set_option linter.unusedVariables false
set_option maxRecDepth 100000
namespace Mine

def ns93 : List Str := [Str.ofString "data"]
def gs93 : List Str := [Str.ofString "_twin_re_2", Str.ofString "CRLF"]
theorem V93 (L : Addr) : EnvOk (callEnv (fd 93) L 93) L ns93 gs93 := envOk_of (by kernel_rfl) (by kernel_rfl) (by kernel_rfl) (by kernel_rfl) (by kernel_rfl) (by kernel_rfl)

def gs86 : List Str := [Str.ofString "twin_re_1_smtplib", Str.ofString "_twin_re_2", Str.ofString "CRLF"]
theorem V86 (L : Addr) : EnvOk (callEnv (fd 86) L 86) L ns93 gs86 := envOk_of (by kernel_rfl) (by kernel_rfl) (by kernel_rfl) (by kernel_rfl) (by kernel_rfl) (by kernel_rfl)

theorem pat2 {w : World} {s : Shared} (g : Good w s) : PatAt s.heap 79 code2 0 :=
  ⟨ob 79, fieldsAt 79, 78, ob 78, seqAt 78, seqN 78, g.bs.K 79 _ (by kernel_rfl), by kernel_rfl, by kernel_rfl, by kernel_rfl, by kernel_rfl, by kernel_rfl, by kernel_rfl, g.bs.K 78 _ (by kernel_rfl), by kernel_rfl, by kernel_rfl⟩
theorem pat1 {w : World} {s : Shared} (g : Good w s) : PatAt s.heap 74 code1 0 :=
  ⟨ob 74, fieldsAt 74, 73, ob 73, seqAt 73, seqN 73, g.bs.K 74 _ (by kernel_rfl), by kernel_rfl, by kernel_rfl, by kernel_rfl, by kernel_rfl, by kernel_rfl, by kernel_rfl, g.bs.K 73 _ (by kernel_rfl), by kernel_rfl, by kernel_rfl⟩
theorem pat0 {w : World} {s : Shared} (g : Good w s) : PatAt s.heap 36 code0 1 :=
  ⟨ob 36, fieldsAt 36, 35, ob 35, seqAt 35, seqN 35, g.bs.K 36 _ (by kernel_rfl), by kernel_rfl, by kernel_rfl, by kernel_rfl, by kernel_rfl, by kernel_rfl, by kernel_rfl, g.bs.K 35 _ (by kernel_rfl), by kernel_rfl, by kernel_rfl⟩
theorem gl_twin2 (P : Params) : nsIn (hd.heap_39 P) mainGlobals (Str.ofString "_twin_re_2") = some (some (.ref 79)) := by kernel_rfl
theorem gl_twin1 (P : Params) : nsIn (hd.heap_39 P) mainGlobals (Str.ofString "twin_re_1_smtplib") = some (some (.ref 74)) := by kernel_rfl
theorem gl_twin0 (P : Params) : nsIn (hd.heap_39 P) mainGlobals (Str.ofString "twin_re_1_fnmatch") = some (some (.ref 36)) := by kernel_rfl
theorem gl_crlf (P : Params) : nsIn (hd.heap_39 P) mainGlobals (Str.ofString "CRLF") = some (some (.str (Str.ofString "\x0d\n") 580)) := by kernel_rfl
theorem plainAttrs_pattern : PlainAttrs "re.Pattern" :=
  ⟨⟨"object.__getattribute__", by rw [typeLookup_type, builtinLookup_eq_fast]; kernel_rfl, by decide +kernel⟩, by rw [typeLookup_type, builtinLookup_eq_fast]; kernel_rfl⟩

section
variable {M : Model} {A : Around} {E : Value → Shared → Prop} {s : Shared}
theorem gm_sub {pa : Addr} {code : Array Nat} {groups : Nat} {pl : Sem Bool} {Q : Value × List Value → Shared → Prop} (P : PatAt s.heap pa code groups) (h : Q (.builtin "re.Pattern.sub", [.ref pa]) s) : wpAny M A (getMethod (.ref pa) "sub" pl) Q E s := by
  obtain ⟨o, vs, ca, oc, xs, n, e1, e2, e3, _⟩ := P.obj
  exact getMethod_builtin (T := "re.Pattern") ⟨o, e1, e2⟩ plainAttrs_pattern slot_sub type_sub (fun a e => by cases e; exact ⟨o, e1, e3⟩) h
end
section
variable {w : World} {A : Around} {E : Value → Shared → Prop} {s : Shared}
set_option maxHeartbeats 1000000 in
theorem call_fix {x : Str} {t : Tok} {Q : Value → Shared → Prop} (ok : OkA A 3 20) (g : Good w s) (hx : x.cps.size ≤ 1000000) (hQ : ∀ t' s', Ext s s' → Q (.str (mkS (fixL x.cps.toList)) t') s') :
    wpAny (Md w) A (call (.ref 93) [.str x t]) Q E s := by
  refine enter (fd := fd 93) (d := 2) (u := 17) (ns := ns93) (gs := gs93) (body := bodyOf 93) (binds := [(Str.ofString "data", .str x t)]) ok.mono g K93 ck93 body93 rfl (by decide) (locs rfl) (fm_one _ _ []) (by decide) rfl (V93 _) ?_ (by kernel_rfl) (by kernel_rfl) (by kernel_rfl)
  intro env L s₁ A' ok' V hc hq _ S
  refine wpAny_execs_cons (wpAny_Return_some (MethodCall_ (ev_glob V S (k := 0) rfl gl_twin2 ?_)))
  refine gm_sub (pat2 S.good') (cw_m (wpAny_items_cons (ev_glob V S (k := 1) rfl gl_crlf (wpAny_items_cons (ev_loc V S (k := 0) rfl rfl (wpAny_items_nil ?_))))))
  refine sub_call0 S.good'.lt57 (fun s' x' => pat2 (S.good'.ext x')) (by decide +kernel) (search2 x.cps) (by decide) find2_bounds (by omega) ?_ ?_
  · rw [← catL_length, find2_pieces _ _ (by decide +kernel) _ _ (by omega) (Nat.zero_le _)]
    have := fixL_len (x.cps.toList.drop 0)
    have e : (x.cps.toList.drop 0).length = x.cps.size := by simp
    omega
  · intro t' s' x'
    rw [join_mk (find2_pieces _ _ (by decide +kernel) _ _ (by omega) (Nat.zero_le _)), List.drop_zero]
    exact hQ t' s' (S.ext.trans x')

set_option maxHeartbeats 1000000 in
theorem call_quote {x : Str} {t : Tok} {Q : Value → Shared → Prop} (ok : OkA A 3 20) (g : Good w s) (hx : x.cps.size ≤ 400000) (hQ : ∀ t' s', Ext s s' → Q (.str (mkS (dqL true (fixL x.cps.toList))) t') s') :
    wpAny (Md w) A (call (.ref 86) [.str x t]) Q E s := by
  refine enter (fd := fd 86) (d := 2) (u := 17) (ns := ns93) (gs := gs86) (body := bodyOf 86) (binds := [(Str.ofString "data", .str x t)]) ok.mono g K86 ck86 body86 rfl (by decide) (locs rfl) (fm_one _ _ []) (by decide) rfl (V86 _) ?_ (by kernel_rfl) (by kernel_rfl) (by kernel_rfl)
  intro env L s₁ A' ok' V hc hq _ S
  refine wpAny_execs_cons (wpAny_Return_some (MethodCall_ (ev_glob V S (k := 0) rfl gl_twin1 ?_)))
  refine gm_sub (pat1 S.good') (cw_m (wpAny_items_cons (ev_str S fun tr s₂ S₂ _ _ => wpAny_items_cons ?_)))
  refine MethodCall_ (ev_glob V S₂ (k := 1) rfl gl_twin2 ?_)
  refine gm_sub (pat2 S₂.good') (cw_m (wpAny_items_cons (ev_glob V S₂ (k := 2) rfl gl_crlf (wpAny_items_cons (ev_loc V S₂ (k := 0) rfl rfl (wpAny_items_nil ?_))))))
  refine sub_call0 S₂.good'.lt57 (fun s' x' => pat2 (S₂.good'.ext x')) (by decide +kernel) (search2 x.cps) (by decide) find2_bounds (by omega) ?_ ?_
  · rw [← catL_length, find2_pieces _ _ (by decide +kernel) _ _ (by omega) (Nat.zero_le _)]
    have := fixL_len (x.cps.toList.drop 0)
    have e : (x.cps.toList.drop 0).length = x.cps.size := by simp
    omega
  · intro t' s₃ x'
    rw [join_mk (find2_pieces _ _ (by decide +kernel) _ _ (by omega) (Nat.zero_le _)), List.drop_zero]
    have S₃ := S₂.step x'
    have hz : (mkS (fixL x.cps.toList)).cps.size ≤ 800000 := by
      have := fixL_len x.cps.toList
      have e : x.cps.toList.length = x.cps.size := by simp
      show (fixL x.cps.toList).toArray.size ≤ _
      rw [List.size_toArray]; omega
    refine wpAny_items_nil ?_
    refine sub_call0 S₃.good'.lt57 (fun s' x' => pat1 (S₃.good'.ext x')) (by decide +kernel) (search1 (mkS (fixL x.cps.toList)).cps) (by omega) find1_bounds (by omega) ?_ ?_
    · rw [← catL_length, find1_pieces _ _ (by decide +kernel) _ _ (by omega) (Nat.zero_le _)]
      have := dqL_len (atBol (mkS (fixL x.cps.toList)).cps 0) ((mkS (fixL x.cps.toList)).cps.toList.drop 0)
      have e : ((mkS (fixL x.cps.toList)).cps.toList.drop 0).length = (mkS (fixL x.cps.toList)).cps.size := by simp
      omega
    · intro t₂ s₄ x₂
      rw [join_mk (find1_pieces _ _ (by decide +kernel) _ _ (by omega) (Nat.zero_le _)), List.drop_zero]
      exact hQ t₂ s₄ ((S₃.step x₂).ext)
end
end Mine
open PySem PySem.W PyProof.Rows PySem.Calls
set_option linter.unusedVariables false
set_option maxRecDepth 100000
namespace Mine
def ns62 : List Str := [Str.ofString "pat", Str.ofString "STAR", Str.ofString "QUESTION_MARK", Str.ofString "res", Str.ofString "add", Str.ofString "i", Str.ofString "n", Str.ofString "c", Str.ofString "j", Str.ofString "stuff", Str.ofString "chunks", Str.ofString "k", Str.ofString "chunk"]
def gs62 : List Str := [Str.ofString "len", Str.ofString "twin_re_1_fnmatch", Str.ofString "escape", Str.ofString "range"]
theorem V62 (L : Addr) : EnvOk (callEnv (fd 62) L 62) L ns62 gs62 := envOk_of (by kernel_rfl) (by kernel_rfl) (by kernel_rfl) (by kernel_rfl) (by kernel_rfl) (by kernel_rfl)
theorem post_gen {α : Type} {M : Model} {A : Around} {E : Value → Shared → Prop} {t : Sem α} {Q : α → Shared → Prop} {s : Shared} (h : ∀ Q' : α → Shared → Prop, (∀ x s, Q x s → Q' x s) → wpAny M A t Q' E s) : wpAny M A t Q E s := h Q fun _ _ h => h
theorem code62 : (fd 62).code = .ref 61 := by kernel_rfl
theorem gl_escape (P : Params) : nsIn (hd.heap_39 P) mainGlobals (Str.ofString "escape") = some (some (.ref 55)) := by kernel_rfl
theorem gl_no_range (P : Params) : nsIn (hd.heap_39 P) mainGlobals (Str.ofString "range") = some none := by kernel_rfl

theorem PVs.last {st : Addr} {ps : List Pt} {vs : List Value} (h : PVs st ps vs) : (ps = [] ∧ vs = []) ∨ (ps.getLast? = some none ∧ vs.getLast? = some (.ref st)) ∨ ∃ x t, ps.getLast? = some (some x) ∧ vs.getLast? = some (.str (mkS x) t) := by
  induction h with
  | nil => exact .inl ⟨rfl, rfl⟩
  | @star ps vs _ ih =>
    rcases ih with ⟨rfl, rfl⟩ | ⟨h1, h2⟩ | ⟨x, t, h1, h2⟩
    · exact .inr (.inl ⟨rfl, rfl⟩)
    · exact .inr (.inl ⟨by rw [List.getLast?_cons, h1]; rfl, by rw [List.getLast?_cons, h2]; rfl⟩)
    · exact .inr (.inr ⟨x, t, by rw [List.getLast?_cons, h1]; rfl, by rw [List.getLast?_cons, h2]; rfl⟩)
  | @str ps vs y u _ ih =>
    rcases ih with ⟨rfl, rfl⟩ | ⟨h1, h2⟩ | ⟨x, t, h1, h2⟩
    · exact .inr (.inr ⟨y, u, rfl, rfl⟩)
    · exact .inr (.inl ⟨by rw [List.getLast?_cons, h1]; rfl, by rw [List.getLast?_cons, h2]; rfl⟩)
    · exact .inr (.inr ⟨x, t, by rw [List.getLast?_cons, h1]; rfl, by rw [List.getLast?_cons, h2]; rfl⟩)
section
variable {w : World} {A : Around} {E : Value → Shared → Prop} {s : Shared}
set_option maxHeartbeats 4000000 in
theorem call_tokens {st : Addr} {ts : List Tk} {tp tq : Tok} {Q : Value → Shared → Prop} (ok : OkA A 5 30) (g : Good w s) (hst : s.heap.get? st = some plainO) (h57 : st ≠ 57)
    (hok : ∀ t ∈ ts, t.ok = true) (hn : (textAll ts).length ≤ 10000) (hQ : ∀ l xs m s', Ext s s' → s.heap.objs.size ≤ l → s'.heap.get? l = some (lstO xs m) → PVs st (partsOf ts) xs → Q (.ref l) s') :
    wpAny (Md w) A (call (.ref 62) [.str (mkS (textAll ts)) tp, .ref st, .str (Str.ofString ".") tq]) Q E s := by
  refine enter (fd := fd 62) (d := 4) (u := 27) (ns := ns62) (gs := gs62) (body := bodyOf 62) (binds := [(Str.ofString "pat", .str (mkS (textAll ts)) tp), (Str.ofString "STAR", .ref st), (Str.ofString "QUESTION_MARK", .str (Str.ofString ".") tq)]) ok.mono g K62 ck62 body62 rfl (by decide) (locs rfl)
    (fm_three _ _ _ _ _ _ _ (by decide) (by decide) (by decide)) (by decide) rfl (V62 _) ?_ (by kernel_rfl) (by kernel_rfl) (by kernel_rfl)
  intro env L s₁ A' ok' V hc hq _ S
  rw [code62] at hc
  refine wpAny_execs_cons (wpAny_Assign_Name (List_ (wpAny_items_nil (wpAny_newList (st_loc V (S.push (o := lstO [] 0)) (k := 3) rfl fun s₂ S₂ _ => ?_) (by decide)))) (by rfl))
  have hrs : s.heap.objs.size ≤ s₁.heap.objs.size := S.ext.size
  generalize hr : s₁.heap.objs.size = r at S₂ hrs
  refine wpAny_execs_cons (wpAny_Assign_Name (Attribute_name (ev_loc V S₂ (k := 3) rfl rfl (ga_append (S₂.get (o := lstO [] 0) (List.mem_cons_self ..)) (st_loc V (S₂.push (o := bmO r) (tk := s₂.toks + 1) rfl (Nat.le_succ _)) (k := 4) rfl fun s₃ S₃ _ => ?_)))) (by rfl))
  generalize hb : s₂.heap.objs.size = b at S₃
  refine wpAny_execs_cons (Assign_Tuple_swapped (names := [Str.ofString "i", Str.ofString "n"]) (Tuple_ (wpAny_items_cons ?_)) (by rfl) (swap2 V (i := 5) (j := 6) rfl rfl (by decide) (by decide) (by rfl) (by rfl) (by rfl)))
  refine ev_int S₃ fun ti s₄ S₄ _ _ => wpAny_items_cons (Call_ (ev_bi V S₄ (k := 0) rfl gl_no_len bo_len (by decide) (cw_b (wpAny_items_cons ?_))))
  refine ev_loc V S₄ (k := 0) rfl rfl (wpAny_items_nil (len_s S₄ ?_ fun tn s₅ S₅ => wpAny_items_nil ?_))
  · show (textAll ts).toArray.size ≤ _
    rw [List.size_toArray]; omega
  rw [mkS_toList]
  refine as2s ok'.hh V S₅ (i := 5) (j := 6) rfl rfl fun s₆ S₆ => ?_
  refine wpAny_execs_cons (wpAny_mono (Q := fun fl s' => fl = .next ∧ ∃ ti vs k v1 v2 v3 v4 v5 v6, PVs st (partsOf ts) vs ∧
      Mst w s L ns62 [some (.str (mkS (textAll ts)) tp), some (.ref st), some (.str (Str.ofString ".") tq), some (.ref r), some (.ref b), some (.int ((textAll ts).length : Nat) ti), some (.int ((textAll ts).length : Nat) tn), v1, v2, v3, v4, v5, v6] [(b, bmO r), (r, lstO vs k)] s')
    (wh (I := fun M s' => ∃ done more ti vs k v1 v2 v3 v4 v5 v6, M = more.length ∧ ts = done ++ more ∧ PVs st (partsOf done) vs ∧ vs.length ≤ done.length ∧
      Mst w s L ns62 [some (.str (mkS (textAll ts)) tp), some (.ref st), some (.str (Str.ofString ".") tq), some (.ref r), some (.ref b), some (.int ((textAll done).length : Nat) ti), some (.int ((textAll ts).length : Nat) tn), v1, v2, v3, v4, v5, v6] [(b, bmO r), (r, lstO vs k)] s')
      ?_ ts.length ⟨[], ts, ti, [], 0, _, _, _, _, _, _, rfl, rfl, .nil, Nat.le_refl _, S₆⟩) ?_ (fun _ _ x => x))
  · rintro M s' ⟨done, more, ti, vs, k, v1, v2, v3, v4, v5, v6, hM, hT, hP, hv, S'⟩
    refine wpAny_isTrue_Compare1 (ev_loc V S' (k := 5) rfl rfl (ev_loc V S' (k := 6) rfl rfl (P.lt_int (wpAny_truthy_bool ?_))))
    cases more with
    | nil =>
      rw [List.append_nil] at hT
      subst hT
      rw [decide_eq_false (by omega), if_neg (by decide)]
      exact ⟨rfl, ti, vs, k, v1, v2, v3, v4, v5, v6, hP, S'⟩
    | cons tk more =>
    have hT1 : textAll ts = textAll done ++ (tk.text ++ textAll more) := by rw [hT, textAll_append, textAll_cons]
    have hl1 := tk.text_ne
    have hlen : (textAll ts).length = (textAll done).length + (tk.text.length + (textAll more).length) := by rw [hT1, List.length_append, List.length_append]
    have hokt : tk.ok = true := hok tk (by rw [hT]; exact List.mem_append_right _ (List.mem_cons_self ..))
    have hdl : done.length ≤ 10000 := by
      have : done.length ≤ (textAll done).length := by
        clear hP S' hv hT hT1 hlen
        induction done with
        | nil => simp
        | cons a r ih => rw [textAll_cons, List.length_append, List.length_cons]; have := a.text_ne; omega
      omega
    rw [decide_eq_true (by omega), if_pos rfl]
    refine post_gen fun Pq hPq => ?_
    have hnext : textAll (done ++ [tk]) = textAll done ++ tk.text := by rw [textAll_append, textAll_one]
    have hT2 : ts = (done ++ [tk]) ++ more := by rw [hT]; simp
    have hat : ∀ i, (textAll ts)[(textAll done).length + i]? = (tk.text ++ textAll more)[i]? := fun i => by rw [hT1, List.getElem?_append_right (by omega)]; congr 1; omega
    obtain ⟨c0, r0, hc0⟩ : ∃ c0 r0, tk.text = c0 :: r0 := by cases h : tk.text with | nil => rw [h] at hl1; simp at hl1 | cons a b => exact ⟨a, b, rfl⟩
    refine wpAny_execs_cons (wpAny_Assign_Name (ev_char (c := c0) V S' (a := 0) (b := 5) rfl rfl rfl rfl (by have := hat 0; rw [hc0] at this; simpa using this) (by omega) fun tc s₇ S₇ => st_loc V S₇ (k := 7) rfl fun s₈ S₈ _ => ?_) (by rfl))
    refine wpAny_execs_cons (setadd V S₈ (a := 5) (b := 5) rfl rfl rfl (fun ti' s₉ S₉ => ?_) (by rfl))
    simp only [List.set] at S₉
    rw [show ((((textAll done).length : Nat) : Int) + 1) = (((textAll done).length + 1 : Nat) : Int) from by omega] at S₉
    refine wpAny_execs_cons (wpAny_If (is_sign V S₉ (a := 7) rfl rfl (fun s' S' => ?_) (by with_unfolding_all rfl)))
    cases tk with
    | star =>
      obtain ⟨rfl, rfl⟩ : 42 = c0 ∧ [] = r0 := by simpa [Tk.text] using hc0
      rw [show ([42] == (Str.ofString "*").cps.toList) = true from by decide +kernel, if_pos rfl]
      refine wpAny_execs_cons (wpAny_If (wpAny_isTrue_BoolOp (wpAny_allTrue_Or_cons (wpAny_isTrue_Not (wpAny_isTrue_value (ev_loc V S' (k := 3) rfl rfl ?_))))))
      refine wpAny_truthy_list (items := vs.toArray) ⟨_, S'.get (List.mem_cons_of_mem _ (List.mem_cons_self ..)), rfl, _, rfl⟩ (by rw [List.size_toArray]; omega) ?_
      have S' := S'.tok (tk := s'.toks + 1 + 1) (by omega)
      have fin : ∀ {vs' k' s''}, PVs st (partsOf (done ++ [.star])) vs' → vs'.length ≤ done.length + 1 → Mst w s L ns62 [some (.str (mkS (textAll ts)) tp), some (.ref st), some (.str (Str.ofString ".") tq), some (.ref r), some (.ref b), some (.int ((textAll done).length + 1 : Nat) ti'), some (.int ((textAll ts).length : Nat) tn), some (.str ⟨#[42]⟩ tc), v2, v3, v4, v5, v6] [(b, bmO r), (r, lstO vs' k')] s'' →
          ∃ m, m < M ∧ ∃ done more ti vs k v1 v2 v3 v4 v5 v6, m = more.length ∧ ts = done ++ more ∧ PVs st (partsOf done) vs ∧ vs.length ≤ done.length ∧
      Mst w s L ns62 [some (.str (mkS (textAll ts)) tp), some (.ref st), some (.str (Str.ofString ".") tq), some (.ref r), some (.ref b), some (.int ((textAll done).length : Nat) ti), some (.int ((textAll ts).length : Nat) tn), v1, v2, v3, v4, v5, v6] [(b, bmO r), (r, lstO vs k)] s'' :=
        fun {vs' k' s''} h1 h2 h3 => ⟨_, by rw [hM]; exact Nat.lt_succ_self _, done ++ [.star], more, ti', _, _, _, _, _, _, _, _, rfl, hT2, h1, by rw [List.length_append]; exact h2, by rw [hnext, List.length_append]; exact h3⟩
      rcases hP.last with ⟨h1, h2⟩ | ⟨h1, h2⟩ | ⟨x, t, h1, h2⟩
      · subst h2
        rw [show (!(!(([] : List Value).toArray.isEmpty))) = true from rfl, if_pos rfl, if_pos rfl]
        refine wpAny_execs_cons (addx V S' (a := 4) (kb := 0) (kl := 1) rfl rfl rfl rfl (by simp) (ev_loc V S' (k := 1) rfl rfl ⟨S', fun s₃ S₃ => wpAny_execs_nil (wpAny_execs_nil (wpAny_execs_nil ?_))⟩) V.inter)
        refine hPq _ _ (fin ?_ (by simp) S₃)
        rw [partsOf_snoc, h1]
        exact PVs.star .nil
      · rw [show (!(!vs.toArray.isEmpty)) = false from by cases vs with | nil => cases h2 | cons a r => rfl, if_neg (by decide)]
        refine wpAny_allTrue_Or_cons (wpAny_isTrue_Compare1 (ev_last V S' (a := 3) rfl rfl (List.mem_cons_of_mem _ (List.mem_cons_self ..)) h2 (by omega) fun s' S' => ev_loc V S' (k := 1) rfl rfl (wpAny_isNot_ref_self (wpAny_truthy_bool ?_))))
        rw [if_neg (by decide)]
        refine wpAny_allTrue_Or_nil ?_
        rw [if_neg (by decide)]
        refine wpAny_execs_nil (wpAny_execs_nil (wpAny_execs_nil ?_))
        refine hPq _ _ (fin ?_ (by omega) S')
        rw [partsOf_snoc]
        show PVs st (pushPt _ none) _
        unfold pushPt
        rw [if_pos ⟨rfl, h1⟩]
        exact hP
      · rw [show (!(!vs.toArray.isEmpty)) = false from by cases vs with | nil => cases h2 | cons a r => rfl, if_neg (by decide)]
        refine wpAny_allTrue_Or_cons (wpAny_isTrue_Compare1 (ev_last V S' (a := 3) rfl rfl (List.mem_cons_of_mem _ (List.mem_cons_self ..)) h2 (by omega) fun s' S' => ev_loc V S' (k := 1) rfl rfl (isnot_sr (wpAny_truthy_bool ?_))))
        rw [if_pos rfl, if_pos rfl]
        refine wpAny_execs_cons (addx V S' (a := 4) (kb := 0) (kl := 1) rfl rfl rfl rfl (by omega) (ev_loc V S' (k := 1) rfl rfl ⟨S', fun s₃ S₃ => wpAny_execs_nil (wpAny_execs_nil (wpAny_execs_nil ?_))⟩) V.inter)
        refine hPq _ _ (fin ?_ (by rw [List.length_append]; show _ + 1 ≤ _; omega) S₃)
        rw [partsOf_snoc]
        show PVs st (pushPt _ none) _
        unfold pushPt
        rw [if_neg (by rw [h1]; simp)]
        exact hP.snocStar
    | q =>
      obtain ⟨rfl, rfl⟩ : 63 = c0 ∧ [] = r0 := by simpa [Tk.text] using hc0
      rw [show ([63] == (Str.ofString "*").cps.toList) = false from by decide +kernel, if_neg (by decide)]
      refine wpAny_execs_cons (wpAny_If (is_sign V S' (a := 7) rfl rfl (fun s' S' => ?_) (by with_unfolding_all rfl)))
      rw [show ([63] == (Str.ofString "?").cps.toList) = true from by decide +kernel, if_pos rfl]
      refine wpAny_execs_cons (addx V S' (a := 4) (kb := 0) (kl := 1) rfl rfl rfl rfl (by omega) (ev_loc V S' (k := 2) rfl rfl ⟨S', fun s₃ S₃ => wpAny_execs_nil (wpAny_execs_nil (wpAny_execs_nil ?_))⟩) V.inter)
      refine hPq _ _ ⟨_, by rw [hM]; exact Nat.lt_succ_self _, done ++ [.q], more, ti', _, _, _, _, _, _, _, _, rfl, hT2, ?_, ?_, by rw [hnext, List.length_append]; exact S₃⟩
      · rw [partsOf_snoc]
        show PVs st (pushPt _ (some [46])) _
        rw [pushPt_some]
        exact hP.snocStr [46] _
      · rw [List.length_append, List.length_append]; show _ + 1 ≤ _ + 1; omega
    | ch c =>
      obtain ⟨rfl, rfl⟩ : c = c0 ∧ [] = r0 := by simpa [Tk.text] using hc0
      simp only [Tk.ok, Bool.and_eq_true, bne_iff_ne, ne_eq] at hokt
      have hne : ∀ d : Nat, c ≠ d → ([c] == [d]) = false := fun d h => by simp [h]
      rw [show (Str.ofString "*").cps.toList = [42] from by decide +kernel, hne 42 hokt.1.1, if_neg (by decide)]
      refine wpAny_execs_cons (wpAny_If (is_sign V S' (a := 7) rfl rfl (fun s' S' => ?_) (by with_unfolding_all rfl)))
      rw [show (Str.ofString "?").cps.toList = [63] from by decide +kernel, hne 63 hokt.1.2, if_neg (by decide)]
      refine wpAny_execs_cons (wpAny_If (is_sign V S' (a := 7) rfl rfl (fun s' S' => ?_) (by with_unfolding_all rfl)))
      rw [show (Str.ofString "[").cps.toList = [91] from by decide +kernel, hne 91 hokt.2, if_neg (by decide)]
      refine wpAny_execs_cons (addx V S' (a := 4) (kb := 0) (kl := 1) rfl rfl rfl rfl (by omega) (Call_ (ev_glob V S' (k := 2) rfl gl_escape ?_)) V.inter)
      refine cw_fn kp55 (wpAny_items_cons (ev_loc V S' (k := 7) rfl rfl (wpAny_items_nil ⟨S'.good', ?_⟩)))
      with_reducible refine call_escape ok'.mono S'.good' ?_
      intro t' s₃ x₃
      refine ⟨S'.step x₃, fun s₃ S₃ => wpAny_execs_nil (wpAny_execs_nil (wpAny_execs_nil (wpAny_execs_nil ?_)))⟩
      refine hPq _ _ ⟨_, by rw [hM]; exact Nat.lt_succ_self _, done ++ [.ch c], more, ti', _, _, _, _, _, _, _, _, rfl, hT2, ?_, ?_, by rw [hnext, List.length_append]; exact S₃⟩
      · rw [partsOf_snoc]
        show PVs st (pushPt _ (some (escL c))) _
        rw [pushPt_some]
        exact hP.snocStr _ _
      · rw [List.length_append, List.length_append]; show _ + 1 ≤ _ + 1; omega
    | br Ab Bb =>
      obtain ⟨rfl, hr0⟩ : 91 = c0 ∧ bodyTx Ab Bb ++ [93] = r0 := by simpa [Tk.text] using hc0
      have hbody : ∀ m c, (bodyTx Ab Bb)[m]? = some c → (textAll ts)[(textAll done).length + 1 + m]? = some c := fun m c h => by
        have := hat (1 + m)
        rw [← Nat.add_assoc] at this
        rw [this, hc0, ← hr0, Nat.add_comm 1 m, List.cons_append, List.getElem?_cons_succ, List.append_assoc, List.getElem?_append_left (List.getElem?_eq_some_iff.mp h).1, h]
      have hclose : (textAll ts)[(textAll done).length + 1 + (bodyTx Ab Bb).length]? = some 93 := by
        have := hat (1 + (bodyTx Ab Bb).length)
        rw [← Nat.add_assoc] at this
        rw [this, hc0, ← hr0, Nat.add_comm 1, List.cons_append, List.getElem?_cons_succ, List.append_assoc, List.getElem?_append_right (Nat.le_refl _), Nat.sub_self]; rfl
      have hN : (textAll done).length + 1 + (bodyTx Ab Bb).length < (textAll ts).length := (List.getElem?_eq_some_iff.mp hclose).1
      have hdrop : ((textAll ts).drop ((textAll done).length + 1)).take (bodyTx Ab Bb).length = bodyTx Ab Bb := by
        rw [hT1, ← List.drop_drop, List.drop_append_of_le_length (Nat.le_refl _), List.drop_length, List.nil_append, hc0, ← hr0, List.cons_append, List.drop_succ_cons, List.drop_zero, List.append_assoc, List.take_append_of_le_length (Nat.le_refl _), List.take_length]
      obtain ⟨hA1, hA2, hB⟩ : okA Ab = true ∧ (∀ c ∈ Ab, setSign c = true) ∧ (∀ B, Bb = some B → B ≠ [] ∧ ∀ c ∈ B, setSign c = true) := by
        simp only [Tk.ok, Bool.and_eq_true, List.all_eq_true] at hokt
        refine ⟨hokt.1.1, hokt.1.2, fun B e => ?_⟩
        subst e
        have := hokt.2
        simp only [Bool.and_eq_true, List.all_eq_true, Bool.not_eq_true', List.isEmpty_eq_false_iff] at this
        exact ⟨this.2, this.1⟩
      have hno93 : ∀ m : Nat, (bodyTx Ab Bb)[m]? ≠ some 93 := by
        intro m h
        have hm := List.mem_of_getElem? h
        have hs : ∀ c, setSign c = true → c ≠ 93 := fun c h e => by subst e; simp [setSign] at h
        cases Bb with
        | none => exact hs _ (hA2 _ hm) rfl
        | some B =>
          rcases List.mem_append.mp hm with h1 | h1
          · exact hs _ (hA2 _ h1) rfl
          · rcases List.mem_cons.mp h1 with h1 | h1
            · cases h1
            · exact hs _ ((hB B rfl).2 _ h1) rfl
      obtain ⟨d0, dr, hd0, hd2⟩ : ∃ d0 dr, bodyTx Ab Bb = d0 :: dr ∧ (d0 = 33 → dr ≠ []) := by
        cases Ab with
        | nil => simp [okA] at hA1
        | cons a r =>
          cases Bb with
          | none =>
            refine ⟨a, r, rfl, fun e h => ?_⟩
            subst e; subst h; simp [okA] at hA1
          | some B => exact ⟨a, r ++ 45 :: B, rfl, fun _ h => by simp at h⟩
      have hlenb : (bodyTx Ab Bb).length = dr.length + 1 := by rw [hd0]; rfl
      rw [show ([91] == (Str.ofString "*").cps.toList) = false from by decide +kernel, if_neg (by decide)]
      refine wpAny_execs_cons (wpAny_If (is_sign V S' (a := 7) rfl rfl (fun s' S' => ?_) (by with_unfolding_all rfl)))
      rw [show ([91] == (Str.ofString "?").cps.toList) = false from by decide +kernel, if_neg (by decide)]
      refine wpAny_execs_cons (wpAny_If (is_sign V S' (a := 7) rfl rfl (fun s' S' => ?_) (by with_unfolding_all rfl)))
      rw [show ([91] == (Str.ofString "[").cps.toList) = true from by decide +kernel, if_pos rfl]
      refine wpAny_execs_cons (wpAny_Assign_Name (ev_loc V S' (k := 5) rfl rfl (st_loc V S' (k := 8) rfl fun s₁ S₁ _ => ?_)) (by rfl))
      simp only [List.set] at S₁
      generalize hp : textAll ts = p at *
      generalize hPl : (textAll done).length = N0 at *
      generalize hbd : bodyTx Ab Bb = bd at *
      -- a leading bar
      have hb0 : bd[0]? = some d0 := by rw [hd0]; rfl
      refine wpAny_execs_cons (wpAny_mono (Q := fun fl s' => fl = .next ∧ ∃ e tj, e < bd.length ∧ Mst w s L ns62 [some (.str (mkS p) tp), some (.ref st), some (.str (Str.ofString ".") tq), some (.ref r), some (.ref b), some (.int (N0 + 1 : Nat) ti'), some (.int (p.length : Nat) tn), some (.str ⟨#[91]⟩ tc), some (.int (N0 + 1 + e : Nat) tj), v3, v4, v5, v6] [(b, bmO r), (r, lstO vs k)] s') ?_ ?_ (fun _ _ x => x))
      · refine wpAny_If (wpAny_isTrue_BoolOp (wpAny_allTrue_And_cons (wpAny_isTrue_Compare1 (ev_loc V S₁ (k := 8) rfl rfl (ev_loc V S₁ (k := 6) rfl rfl (P.lt_int (wpAny_truthy_bool ?_)))))))
        rw [decide_eq_true (by omega), if_pos rfl]
        refine wpAny_allTrue_And_cons (wpAny_isTrue_Compare1 (ev_char (c := d0) V S₁ (a := 0) (b := 8) rfl rfl rfl rfl (hbody 0 d0 hb0) (by omega) fun t2 s₂ S₂ => ev_str S₂ fun t3 s₃ S₃ _ _ => P.eq_str (wpAny_truthy_bool ?_)))
        rw [show (Str.ofString "!").cps.toList = [33] from by decide +kernel]
        by_cases h33 : d0 = 33
        · rw [show (([d0] : List Nat) == [33]) = true by rw [h33]; rfl, if_pos rfl]
          refine wpAny_allTrue_And_nil ?_
          rw [if_pos rfl]
          refine wpAny_execs_cons (setadd V S₃ (a := 8) (b := 8) rfl rfl rfl (fun t4 s₄ S₄ => wpAny_execs_nil ⟨rfl, 1, t4, ?_, ?_⟩) (by rfl))
          · have := hd2 h33
            have : 1 ≤ dr.length := by cases dr with | nil => exact absurd rfl this | cons a r => simp
            omega
          · simp only [List.set] at S₄
            rw [show (((N0 + 1 : Nat) : Int) + 1) = ((N0 + 1 + 1 : Nat) : Int) from by omega] at S₄
            exact S₄
        · rw [show (([d0] : List Nat) == [33]) = false by simp [h33], if_neg (by decide), if_neg (by decide)]
          exact wpAny_execs_nil ⟨rfl, 0, _, by omega, S₃⟩
      · rintro fl s' ⟨rfl, e, tj, he, S'⟩
        obtain ⟨de, hde⟩ : ∃ c, bd[e]? = some c := ⟨_, List.getElem?_eq_getElem he⟩
        have hne93 : ∀ m c, bd[m]? = some c → (([c] : List Nat) == [93]) = false := fun m c h => by
          have : c ≠ 93 := fun q => hno93 m (by rw [h, q])
          simp [this]
        refine wpAny_execs_cons (wpAny_If (wpAny_isTrue_BoolOp (wpAny_allTrue_And_cons (wpAny_isTrue_Compare1 (ev_loc V S' (k := 8) rfl rfl (ev_loc V S' (k := 6) rfl rfl (P.lt_int (wpAny_truthy_bool ?_))))))))
        rw [decide_eq_true (by omega), if_pos rfl]
        refine wpAny_allTrue_And_cons (wpAny_isTrue_Compare1 (ev_char (c := de) V S' (a := 0) (b := 8) rfl rfl rfl rfl (hbody e de hde) (by omega) fun t2 s₂ S₂ => ev_str S₂ fun t3 s₃ S₃ _ _ => P.eq_str (wpAny_truthy_bool ?_)))
        rw [show (Str.ofString "]").cps.toList = [93] from by decide +kernel, hne93 e de hde, if_neg (by decide), if_neg (by decide)]
        refine wpAny_execs_nil ?_
        -- on to the closing bracket
        refine wpAny_execs_cons (wpAny_mono (Q := fun fl s' => fl = .next ∧ ∃ tj, Mst w s L ns62 [some (.str (mkS p) tp), some (.ref st), some (.str (Str.ofString ".") tq), some (.ref r), some (.ref b), some (.int (N0 + 1 : Nat) ti'), some (.int (p.length : Nat) tn), some (.str ⟨#[91]⟩ tc), some (.int (N0 + 1 + bd.length : Nat) tj), v3, v4, v5, v6] [(b, bmO r), (r, lstO vs k)] s')
          (wh (I := fun M s' => ∃ e tj, M + e = bd.length ∧ Mst w s L ns62 [some (.str (mkS p) tp), some (.ref st), some (.str (Str.ofString ".") tq), some (.ref r), some (.ref b), some (.int (N0 + 1 : Nat) ti'), some (.int (p.length : Nat) tn), some (.str ⟨#[91]⟩ tc), some (.int (N0 + 1 + e : Nat) tj), v3, v4, v5, v6] [(b, bmO r), (r, lstO vs k)] s') ?_ (bd.length - e) ⟨e, tj, by omega, S₃⟩) ?_ (fun _ _ x => x))
        · clear S' S₃ S₂ hde he
          rintro M' s' ⟨e, tj, hM', S'⟩
          refine wpAny_isTrue_BoolOp (wpAny_allTrue_And_cons (wpAny_isTrue_Compare1 (ev_loc V S' (k := 8) rfl rfl (ev_loc V S' (k := 6) rfl rfl (P.lt_int (wpAny_truthy_bool ?_))))))
          rw [decide_eq_true (by omega), if_pos rfl]
          by_cases he : e < bd.length
          · obtain ⟨de, hde⟩ : ∃ c, bd[e]? = some c := ⟨_, List.getElem?_eq_getElem he⟩
            refine wpAny_allTrue_And_cons (wpAny_isTrue_Compare1 (ev_char (c := de) V S' (a := 0) (b := 8) rfl rfl rfl rfl (hbody e de hde) (by omega) fun t2 s₂ S₂ => ev_str S₂ fun t3 s₃ S₃ _ _ => P.ne_str (wpAny_truthy_bool ?_)))
            rw [show (Str.ofString "]").cps.toList = [93] from by decide +kernel]
            rw [show (([de] : List Nat) != [93]) = true by rw [bne, hne93 e de hde]; rfl, if_pos rfl]
            refine wpAny_allTrue_And_nil ?_
            rw [if_pos rfl]
            refine wpAny_execs_cons (setadd V S₃ (a := 8) (b := 8) rfl rfl rfl (fun t4 s₄ S₄ => wpAny_execs_nil ⟨M' - 1, by omega, e + 1, t4, by omega, ?_⟩) (by rfl))
            simp only [List.set] at S₄
            rw [show (((N0 + 1 + e : Nat) : Int) + 1) = ((N0 + 1 + (e + 1) : Nat) : Int) from by omega] at S₄
            exact S₄
          · obtain rfl : e = bd.length := by omega
            refine wpAny_allTrue_And_cons (wpAny_isTrue_Compare1 (ev_char (c := 93) V S' (a := 0) (b := 8) rfl rfl rfl rfl hclose (by omega) fun t2 s₂ S₂ => ev_str S₂ fun t3 s₃ S₃ _ _ => P.ne_str (wpAny_truthy_bool ?_)))
            rw [show (Str.ofString "]").cps.toList = [93] from by decide +kernel, show (([93] : List Nat) != [93]) = false from rfl, if_neg (by decide), if_neg (by decide)]
            exact ⟨rfl, tj, S₃⟩
        clear S' S₃ S₂ hde he
        rintro fl s' ⟨rfl, tj, S'⟩
        refine wpAny_execs_cons (wpAny_If (wpAny_isTrue_Compare1 (ev_loc V S' (k := 8) rfl rfl (ev_loc V S' (k := 6) rfl rfl (P.ge_int (wpAny_truthy_bool ?_))))))
        rw [decide_eq_false (by omega), if_neg (by decide)]
        refine wpAny_execs_cons (wpAny_Assign_Name (sl_ss V S' (a := 0) (b := 5) (c := 8) rfl rfl rfl rfl rfl rfl (by omega) (by omega) (by omega) fun t2 s₂ S₂ => st_loc V S₂ (k := 9) rfl fun s₃ S₃ _ => ?_) (by rfl))
        rw [show N0 + 1 + bd.length - (N0 + 1) = bd.length by omega, hdrop] at S₃
        simp only [List.set] at S₃
        have y45 : Str.ofString "-" = ⟨#[45]⟩ := by decide +kernel
        have y92 : Str.ofString "\\" = ⟨#[92]⟩ := by decide +kernel
        have hset : ∀ c, setSign c = true → c ≠ 45 ∧ c ≠ 92 := fun c h => by constructor <;> (intro e; subst e; simp [setSign] at h)
        refine wpAny_execs_cons (wpAny_mono (Q := fun fl s' => fl = .next ∧ ∃ vi t w4 w5 w6, Mst w s L ns62 [some (.str (mkS p) tp), some (.ref st), some (.str (Str.ofString ".") tq), some (.ref r), some (.ref b), vi, some (.int (p.length : Nat) tn), some (.str ⟨#[91]⟩ tc), some (.int (N0 + 1 + bd.length : Nat) tj), some (.str (mkS (stuffOf Ab Bb)) t), w4, w5, w6] [(b, bmO r), (r, lstO vs k)] s') ?_ ?_ (fun _ _ x => x))
        · refine wpAny_If (wpAny_isTrue_Compare1 (ev_str S₃ fun t4 s₄ S₄ _ _ => ev_loc V S₄ (k := 9) rfl rfl (not_in (M := Md w) y45 (wpAny_truthy_bool ?_))))
          cases Bb with
          | none =>
            have hbd' : Ab = bd := hbd
            subst hbd'
            rw [decide_eq_false (fun h => (hset _ (hA2 _ h)).1 rfl), if_pos (by rfl)]
            refine wpAny_execs_cons (wpAny_Assign_Name (MethodCall_ (ev_loc V S₄ (k := 9) rfl rfl ?_)) (by rfl))
            with_reducible refine gm_str F.slot_str_replace F.type_str_replace ?_
            refine cw_m (wpAny_items_cons (ev_str S₄ fun t5 s₅ S₅ _ _ => wpAny_items_cons (ev_str S₅ fun t6 s₆ S₆ _ _ => wpAny_items_nil ?_)))
            with_reducible refine rep0 y92 (fun h => absurd rfl (hset 92 (hA2 92 h)).2) ?_
            exact st_loc V S₆ (k := 9) rfl fun s₇ S₇ _ => wpAny_execs_nil ⟨rfl, _, _, _, _, _, S₇⟩
          | some B =>
            have hbd' : Ab ++ 45 :: B = bd := hbd
            obtain ⟨hB1, hB2⟩ := hB B rfl
            have hlb : bd.length = Ab.length + 1 + B.length := by rw [← hbd']; simp; omega
            have hAl : 1 ≤ Ab.length := by cases Ab with | nil => simp [okA] at hA1 | cons a r => simp
            have hBl : 1 ≤ B.length := by cases B with | nil => exact absurd rfl hB1 | cons a r => simp
            have hA33 : d0 = 33 → 2 ≤ Ab.length := fun e => by
              have h0 := hb0
              rw [← hbd', e] at h0
              match Ab, hA1, hAl, h0 with
              | [c], h1, _, h0 => simp [okA] at h1; simp at h0; exact absurd h0 h1
              | a :: b :: r, _, _, _ => simp
            have hnoA : ∀ m : Nat, m < Ab.length → bd[m]? ≠ some 45 := fun m hm h => by
              rw [← hbd', List.getElem?_append_left hm] at h
              exact (hset _ (hA2 _ (List.mem_of_getElem? h))).1 rfl
            have hmid : bd[Ab.length]? = some 45 := by rw [← hbd', List.getElem?_append_right (Nat.le_refl _), Nat.sub_self]; rfl
            have hnoB : ∀ m : Nat, Ab.length < m → bd[m]? ≠ some 45 := fun m hm h => by
              rw [← hbd', List.getElem?_append_right (by omega), show m - Ab.length = (m - Ab.length - 1) + 1 by omega, List.getElem?_cons_succ] at h
              exact (hset _ (hB2 _ (List.mem_of_getElem? h))).1 rfl
            have hpb : ∀ m : Nat, m < bd.length → p[N0 + 1 + m]? = bd[m]? := fun m hm => by
              rw [hbody m bd[m] (List.getElem?_eq_getElem hm), List.getElem?_eq_getElem hm]
            have hpA : (p.drop (N0 + 1)).take Ab.length = Ab := by
              have : ((p.drop (N0 + 1)).take bd.length).take Ab.length = Ab := by rw [hdrop, ← hbd', List.take_append_of_le_length (Nat.le_refl _), List.take_length]
              rwa [List.take_take, Nat.min_eq_left (by omega)] at this
            have hpB : (p.drop (N0 + 1 + Ab.length + 1)).take B.length = B := by
              have : ((p.drop (N0 + 1)).take bd.length).drop (Ab.length + 1) = B := by
                rw [hdrop, ← hbd', ← List.drop_drop, List.drop_left]; rfl
              rw [List.drop_take, List.drop_drop, hlb] at this
              rwa [show N0 + 1 + (Ab.length + 1) = N0 + 1 + Ab.length + 1 by omega, show Ab.length + 1 + B.length - (Ab.length + 1) = B.length by omega] at this
            rw [decide_eq_true (by rw [← hbd']; simp), if_neg (by decide)]
            refine wpAny_execs_cons (wpAny_Assign_Name (List_ (wpAny_items_nil (wpAny_newList (st_loc V (S₄.push (o := lstO [] 0)) (k := 10) rfl fun s₅ S₅ _ => ?_) (by decide)))) (by rfl))
            generalize s₄.heap.objs.size = cl at S₅
            simp only [List.set] at S₅
            refine wpAny_execs_cons (wpAny_Assign_Name (wpAny_mono (Q := fun v s' => ∃ e1 t, 1 ≤ e1 ∧ e1 ≤ Ab.length ∧ v = .int (N0 + 1 + e1 : Nat) t ∧ Mst w s L ns62 [some (.str (mkS p) tp), some (.ref st), some (.str (Str.ofString ".") tq), some (.ref r), some (.ref b), some (.int (N0 + 1 : Nat) ti'), some (.int (p.length : Nat) tn), some (.str ⟨#[91]⟩ tc), some (.int (N0 + 1 + bd.length : Nat) tj), some (.str (mkS bd) t2), some (.ref cl), v5, v6] [(cl, lstO [] 0), (b, bmO r), (r, lstO vs k)] s')
              (wpAny_IfExp (wpAny_isTrue_Compare1 (ev_char (c := d0) V S₅ (a := 0) (b := 5) rfl rfl rfl rfl (hbody 0 d0 hb0) (by omega) fun t6 s₆ S₆ => ev_str S₆ fun t7 s₇ S₇ _ _ => P.eq_str (wpAny_truthy_bool ?_)))) ?_ (fun _ _ x => x)) (by rfl))
            · rw [show (Str.ofString "!").cps.toList = [33] from by decide +kernel]
              by_cases h33 : d0 = 33
              · rw [show (([d0] : List Nat) == [33]) = true by rw [h33]; rfl, if_pos rfl]
                refine wpAny_BinOp (ev_loc V S₇ (k := 5) rfl rfl (ev_int S₇ fun t8 s₈ S₈ _ _ => P.add_int ⟨2, s₈.toks, by omega, hA33 h33, by rw [show (((N0 + 1 : Nat) : Int) + 2) = ((N0 + 1 + 2 : Nat) : Int) from by omega], S₈.tok (Nat.le_succ _)⟩))
              · rw [show (([d0] : List Nat) == [33]) = false by simp [h33], if_neg (by decide)]
                refine wpAny_BinOp (ev_loc V S₇ (k := 5) rfl rfl (ev_int S₇ fun t8 s₈ S₈ _ _ => P.add_int ⟨1, s₈.toks, by omega, hAl, by rw [show (((N0 + 1 : Nat) : Int) + 1) = ((N0 + 1 + 1 : Nat) : Int) from by omega], S₈.tok (Nat.le_succ _)⟩))
            rintro _ s₆ ⟨e1, t6, he1, he2, rfl, S₆⟩
            refine st_loc V S₆ (k := 11) rfl fun s₇ S₇ _ => ?_
            simp only [List.set] at S₇
            clear S₆ S₅ S₄
            refine wpAny_execs_cons (wpAny_mono (Q := fun fl s' => fl = .next ∧ ∃ ta tk ti, Mst w s L ns62 [some (.str (mkS p) tp), some (.ref st), some (.str (Str.ofString ".") tq), some (.ref r), some (.ref b), some (.int (N0 + 1 + Ab.length + 1 : Nat) ti), some (.int (p.length : Nat) tn), some (.str ⟨#[91]⟩ tc), some (.int (N0 + 1 + bd.length : Nat) tj), some (.str (mkS bd) t2), some (.ref cl), some (.int (-1) tk), v6] [(cl, lstO [.str (mkS Ab) ta] 1), (b, bmO r), (r, lstO vs k)] s')
              (wh (I := fun M s' => (M = 1 ∧ ∃ t, Mst w s L ns62 [some (.str (mkS p) tp), some (.ref st), some (.str (Str.ofString ".") tq), some (.ref r), some (.ref b), some (.int (N0 + 1 : Nat) ti'), some (.int (p.length : Nat) tn), some (.str ⟨#[91]⟩ tc), some (.int (N0 + 1 + bd.length : Nat) tj), some (.str (mkS bd) t2), some (.ref cl), some (.int (N0 + 1 + e1 : Nat) t), v6] [(cl, lstO [] 0), (b, bmO r), (r, lstO vs k)] s') ∨
                (M = 0 ∧ ∃ ta ti tk, Mst w s L ns62 [some (.str (mkS p) tp), some (.ref st), some (.str (Str.ofString ".") tq), some (.ref r), some (.ref b), some (.int (N0 + 1 + Ab.length + 1 : Nat) ti), some (.int (p.length : Nat) tn), some (.str ⟨#[91]⟩ tc), some (.int (N0 + 1 + bd.length : Nat) tj), some (.str (mkS bd) t2), some (.ref cl), some (.int (N0 + 1 + Ab.length + 3 : Nat) tk), v6] [(cl, lstO [.str (mkS Ab) ta] 1), (b, bmO r), (r, lstO vs k)] s')) ?_ 1 (.inl ⟨rfl, t6, S₇⟩)) ?_ (fun _ _ x => x))
            · clear S₇
              rintro M' s' (⟨hM', tk1, S'⟩ | ⟨hM', ta, ti1, tk1, S'⟩)
              · refine is_true ?_
                rw [if_pos rfl]
                refine wpAny_execs_cons (findx V S' (a := 11) (b := 0) (c := 11) (d := 8) (q := 45) rfl rfl rfl rfl rfl rfl rfl y45 (by omega) (fun tf s₁ S₁ => ?_) (by rfl))
                rw [occ_first (k := N0 + 1 + Ab.length) (by omega) (by omega) (by rw [hpb _ (by omega)]; exact hmid) (fun i h1 h2 => by
                  rw [show i = N0 + 1 + (i - (N0 + 1)) by omega, hpb _ (by omega)]; exact hnoA _ (by omega))] at S₁
                simp only [List.set] at S₁
                refine wpAny_execs_cons (wpAny_If (wpAny_isTrue_Compare1 (ev_loc V S₁ (k := 11) rfl rfl (ev_int S₁ fun t7 s₂ S₂ _ _ => P.lt_int (wpAny_truthy_bool ?_)))))
                rw [decide_eq_false (by omega), if_neg (by decide)]
                refine wpAny_execs_nil ?_
                refine wpAny_execs_cons (appx V S₂ (a := 10) (kl := 0) rfl rfl rfl (by simp) (sl_ss V S₂ (a := 0) (b := 5) (c := 11) rfl rfl rfl rfl rfl rfl (by omega) (by omega) (by omega) fun t8 s₃ S₃ => ⟨S₃, fun s₄ S₄ => ?_⟩) V.inter)
                rw [show N0 + 1 + Ab.length - (N0 + 1) = Ab.length by omega, hpA] at S₄
                simp only [List.set] at S₄
                refine wpAny_execs_cons (setadd V S₄ (a := 5) (b := 11) rfl rfl rfl (fun t9 s₅ S₅ => ?_) (by rfl))
                refine wpAny_execs_cons (setadd V S₅ (a := 11) (b := 11) rfl rfl rfl (fun ta s₆ S₆ => wpAny_execs_nil ?_) (by rfl))
                simp only [List.set] at S₆
                rw [show (((N0 + 1 + Ab.length : Nat) : Int) + 1) = ((N0 + 1 + Ab.length + 1 : Nat) : Int) from by omega, show (((N0 + 1 + Ab.length : Nat) : Int) + 3) = ((N0 + 1 + Ab.length + 3 : Nat) : Int) from by omega] at S₆
                exact ⟨0, by omega, .inr ⟨rfl, _, _, _, S₆⟩⟩
              · refine is_true ?_
                rw [if_pos rfl]
                refine wpAny_execs_cons (findx V S' (a := 11) (b := 0) (c := 11) (d := 8) (q := 45) rfl rfl rfl rfl rfl rfl rfl y45 (by omega) (fun tf s₁ S₁ => ?_) (by rfl))
                rw [occ_nil (fun i h1 h2 => by rw [show i = N0 + 1 + (i - (N0 + 1)) by omega, hpb _ (by omega)]; exact hnoB _ (by omega)) rfl] at S₁
                simp only [List.set] at S₁
                refine wpAny_execs_cons (wpAny_If (wpAny_isTrue_Compare1 (ev_loc V S₁ (k := 11) rfl rfl (ev_int S₁ fun t7 s₂ S₂ _ _ => P.lt_int (wpAny_truthy_bool ?_)))))
                rw [decide_eq_true (by omega), if_pos rfl]
                exact wpAny_execs_cons (wpAny_Break ⟨rfl, _, _, _, S₂⟩)
            clear S₇
            rintro fl s₆ ⟨rfl, ta, tk1, ti1, S₆⟩
            refine wpAny_execs_cons (wpAny_Assign_Name (sl_ss V S₆ (a := 0) (b := 5) (c := 8) rfl rfl rfl rfl rfl rfl (by omega) (by omega) (by omega) fun tb s₇ S₇ => st_loc V S₇ (k := 12) rfl fun s₈ S₈ _ => ?_) (by rfl))
            rw [show N0 + 1 + bd.length - (N0 + 1 + Ab.length + 1) = B.length by omega, hpB] at S₈
            simp only [List.set] at S₈
            refine wpAny_execs_cons (wpAny_If (wpAny_isTrue_value (ev_loc V S₈ (k := 12) rfl rfl (P.truthy_str (by rw [size_mk]; omega) ?_))))
            have S₉ := S₈.tok (tk := s₈.toks + 1 + 1) (by omega)
            rw [size_mk, show (((B.length : Nat) : Int) != 0) = true from by simp; omega, if_pos rfl]
            refine wpAny_execs_cons (appx V S₉ (a := 10) (kl := 0) rfl rfl rfl (by simp) (ev_loc V S₉ (k := 12) rfl rfl ⟨S₉, fun s₄ S₄ => wpAny_execs_nil ?_⟩) V.inter)
            simp only [List.set] at S₄
            clear S₉ S₈ S₇ S₆
            -- the two are joined, or made one
            refine wpAny_execs_cons (wpAny_mono (Q := fun fl s' => fl = .next ∧ ∃ xs m ys vk, StrsAre xs ys ∧ xs.length ≤ 2 ∧ (∀ y ∈ ys, ∃ q, y = mkS q ∧ 45 ∉ q ∧ 92 ∉ q ∧ q.length ≤ 10000) ∧ Txt.join (Str.ofString "-") ys = mkS (stuffOf Ab (some B)) ∧
              Mst w s L ns62 [some (.str (mkS p) tp), some (.ref st), some (.str (Str.ofString ".") tq), some (.ref r), some (.ref b), some (.int (N0 + 1 + Ab.length + 1 : Nat) ti1), some (.int (p.length : Nat) tn), some (.str ⟨#[91]⟩ tc), some (.int (N0 + 1 + bd.length : Nat) tj), some (.str (mkS bd) t2), some (.ref cl), vk, some (.str (mkS B) tb)] [(cl, lstO xs m), (b, bmO r), (r, lstO vs k)] s')
              (forq (Call_ (ev_bi V S₄ (k := 3) rfl gl_no_range bo_range (by decide) (cw_t (wpAny_items_cons (wpAny_BinOp (Call_ (ev_bi V S₄ (k := 0) rfl gl_no_len bo_len (by decide) (cw_b (wpAny_items_cons (ev_loc V S₄ (k := 10) rfl rfl (wpAny_items_nil
                (len_l S₄ (S₄.get (List.mem_cons_self ..)) (by simp) fun t5 s₅ S₅ => ev_int S₅ fun t6 s₆ S₆ _ _ => P.sub_int ?_)))))))))))) (fun _ => by rfl) (fun _ _ => by rfl)) ?_ (fun _ _ x => x))
            · have S₆ := S₆.tok (tk := s₆.toks + 1) (Nat.le_succ _)
              refine wpAny_items_cons (ev_int S₆ fun t7 s₇ S₇ _ _ => wpAny_items_cons (ev_neg1 S₇ fun t8 s₈ S₈ => wpAny_items_nil (range1 S₈ (by simp) rfl rfl fun rr s₉ S₉ hr => iter1 S₉ hr fun it s₁ S₁ => ?_)))
              clear S₉ S₈ S₇ S₆ S₅ S₄ hr
              refine ⟨fun M s' => (M = 1 ∧ Mst w s L ns62 [some (.str (mkS p) tp), some (.ref st), some (.str (Str.ofString ".") tq), some (.ref r), some (.ref b), some (.int (N0 + 1 + Ab.length + 1 : Nat) ti1), some (.int (p.length : Nat) tn), some (.str ⟨#[91]⟩ tc), some (.int (N0 + 1 + bd.length : Nat) tj), some (.str (mkS bd) t2), some (.ref cl), some (.int (-1) tk1), some (.str (mkS B) tb)] [(it, rangeIt 1 1 (-1)), (cl, lstO [.str (mkS Ab) ta, .str (mkS B) tb] 2), (b, bmO r), (r, lstO vs k)] s') ∨
                (M = 0 ∧ ∃ xs m ys vk, StrsAre xs ys ∧ xs.length ≤ 2 ∧ (∀ y ∈ ys, ∃ q, y = mkS q ∧ 45 ∉ q ∧ 92 ∉ q ∧ q.length ≤ 10000) ∧ Txt.join (Str.ofString "-") ys = mkS (stuffOf Ab (some B)) ∧
              Mst w s L ns62 [some (.str (mkS p) tp), some (.ref st), some (.str (Str.ofString ".") tq), some (.ref r), some (.ref b), some (.int (N0 + 1 + Ab.length + 1 : Nat) ti1), some (.int (p.length : Nat) tn), some (.str ⟨#[91]⟩ tc), some (.int (N0 + 1 + bd.length : Nat) tj), some (.str (mkS bd) t2), some (.ref cl), vk, some (.str (mkS B) tb)] [(it, rangeIt 0 0 (-1)), (cl, lstO xs m), (b, bmO r), (r, lstO vs k)] s'), 1, .inl ⟨rfl, S₁⟩, ?_⟩
              clear S₁
              rintro M' s' (⟨rfl, S'⟩ | ⟨rfl, xs, m, ys, vk, hxs, hx2, hys, hj, S'⟩)
              · refine next_range S' (k := 0) rfl (by decide) fun tk s₂ S₂ => wpAny_assign_Name (st_loc V S₂ (k := 11) rfl fun s₃ S₃ _ => ?_)
                simp only [List.set] at S₃
                obtain ⟨ca, hca⟩ : ∃ c, Ab.getLast? = some c := by cases h : Ab.getLast? with | none => rw [List.getLast?_eq_none_iff] at h; subst h; simp at hAl | some c => exact ⟨c, rfl⟩
                obtain ⟨cb, hcb⟩ : ∃ c, B[0]? = some c := ⟨B[0], List.getElem?_eq_getElem (by omega)⟩
                refine rg_body V S₃ (a := 10) (b := 11) (kl := 1) rfl rfl rfl rfl rfl hca hcb (by omega) (by omega) (by rfl) fun xs m s₄ hxs S₄ => ?_
                have okA' : ∃ q, mkS Ab = mkS q ∧ 45 ∉ q ∧ 92 ∉ q ∧ q.length ≤ 10000 := ⟨Ab, rfl, fun h => (hset _ (hA2 _ h)).1 rfl, fun h => (hset _ (hA2 _ h)).2 rfl, by omega⟩
                have okB' : ∃ q, mkS B = mkS q ∧ 45 ∉ q ∧ 92 ∉ q ∧ q.length ≤ 10000 := ⟨B, rfl, fun h => (hset _ (hB2 _ h)).1 rfl, fun h => (hset _ (hB2 _ h)).2 rfl, by omega⟩
                refine ⟨0, by decide, .inr ⟨rfl, ?_⟩⟩
                by_cases hlt : cb < ca
                · rw [if_pos hlt] at hxs
                  obtain ⟨u, rfl⟩ := hxs
                  refine ⟨_, m, [mkS (Ab.dropLast ++ B.drop 1)], _, .cons _ _ .nil, by simp, ?_, join_one hca hcb hlt, S₄⟩
                  intro y hy
                  rw [List.mem_singleton] at hy
                  have hmem : ∀ c ∈ Ab.dropLast ++ B.drop 1, setSign c = true := fun c hc => by
                    rcases List.mem_append.mp hc with h1 | h1
                    · exact hA2 c (List.dropLast_subset _ h1)
                    · exact hB2 c (List.mem_of_mem_drop h1)
                  refine ⟨_, hy, fun h => (hset _ (hmem _ h)).1 rfl, fun h => (hset _ (hmem _ h)).2 rfl, ?_⟩
                  rw [List.length_append, List.length_dropLast, List.length_drop]; omega
                · rw [if_neg hlt] at hxs
                  subst hxs
                  refine ⟨_, m, [mkS Ab, mkS B], _, .cons _ _ (.cons _ _ .nil), by simp, ?_, join_two hca hcb hlt, S₄⟩
                  intro y hy
                  rcases List.mem_cons.mp hy with rfl | hy
                  · exact okA'
                  · rw [List.mem_singleton] at hy
                    subst hy
                    exact okB'
              · exact end_range ok'.hh S' (by decide) fun s₂ S₂ => ⟨rfl, xs, m, ys, vk, hxs, hx2, hys, hj, S₂⟩
            · rintro fl s₅ ⟨rfl, xs, m, ys, vk, hxs, hx2, hys, hj, S₅⟩
              refine wpAny_execs_cons (wpAny_Assign_Name (mcall1 (ev_str S₅ fun t7 s₇ S₇ _ _ pl => ?_) (by rfl) (by rfl) (by rfl)) (by rfl))
              with_reducible refine gm_str F.slot_str_join F.type_str_join ?_
              refine cw_m (wpAny_items_cons (wpAny_mono (gen_join (ys := ys) ok'.hh ok'.room V S₇ hc (a := 10) rfl rfl (List.mem_cons_self ..) hxs (by omega) ?_ (by rfl) (by rfl) (by decide) (by rfl) (by rfl) (by rfl) ?_ fun t8 s₈ S₈ => ?_) (fun g s₁ h => wpAny_items_nil h) fun _ _ x => x))
              · have h2 : ys.length ≤ 2 := by rw [← strsAre_len hxs]; exact hx2
                have h3 := sum_le2 h2 fun y hy => by
                  obtain ⟨q, rfl, _, _, h⟩ := hys y hy
                  rw [size_mk]; exact h
                have h4 : (Str.ofString "-").length = 1 := by decide +kernel
                rw [h4]; omega
              · intro A2 C2 code2 s₂ m₂ E2 i v hA2 hv hns hm
                obtain ⟨y, u, rfl, hy⟩ := strsAre_mem hxs hv
                obtain ⟨q, rfl, hq1, hq2, _⟩ := hys y hy
                exact rep_elt (by rfl) (by rfl) (by decide) hns hm y92 y45 hq2 hq1 (by rfl) (by rfl)
              · rw [hj]
                exact st_loc V S₈ (k := 9) rfl fun s₉ S₉ _ => wpAny_execs_nil ⟨rfl, _, _, _, _, _, S₉.drop1⟩
        clear S' S₃ S₂
        rintro fl s' ⟨rfl, vi, tx, w4, w5, w6, S'⟩
        generalize hx : stuffOf Ab Bb = x at S'
        have hss : ∀ c, setSign c = true → c ≠ 38 ∧ c ≠ 124 ∧ c ≠ 126 ∧ c ≠ 94 ∧ c ≠ 91 := fun c h => by
          simp only [setSign, Bool.and_eq_true, bne_iff_ne, ne_eq] at h
          obtain ⟨⟨⟨⟨⟨⟨⟨_, _⟩, _⟩, h1⟩, h2⟩, h3⟩, h4⟩, h5⟩ := h
          exact ⟨h1, h3, h2, h4, h5⟩
        have hxs : ∀ c ∈ x, c ≠ 38 ∧ c ≠ 124 ∧ c ≠ 126 ∧ c ≠ 94 ∧ c ≠ 91 := by
          intro c hc'
          rw [← hx] at hc'
          cases Bb with
          | none => exact hss c (hA2 c hc')
          | some B =>
            have hBs := (hB B rfl).2
            rw [stuffOf_some] at hc'
            split at hc'
            · rcases List.mem_append.mp hc' with h1 | h1
              · exact hss c (hA2 c (List.dropLast_subset _ h1))
              · exact hss c (hBs c (List.mem_of_mem_tail h1))
            · rcases List.mem_append.mp hc' with h1 | h1
              · exact hss c (hA2 c h1)
              · rcases List.mem_cons.mp h1 with rfl | h1
                · decide
                · exact hss c (hBs c h1)
        have hxl : x.length ≤ 10000 := by
          have : x.length ≤ bd.length := by
            rw [← hx, ← hbd]
            cases Bb with
            | none => exact Nat.le_refl _
            | some B =>
              rw [stuffOf_some]
              show _ ≤ (Ab ++ 45 :: B).length
              split
              · simp only [List.length_append, List.length_dropLast, List.length_tail, List.length_cons]; omega
              · exact Nat.le_refl _
          omega
        refine wpAny_execs_cons (wpAny_Assign_Name (MethodCall_ (ev_glob V S' (k := 1) rfl gl_twin0 ?_)) (by rfl))
        refine gm_sub (pat0 S'.good') (cw_m (wpAny_items_cons (lam (clos := []) V S' hc (by rfl) (by rfl) fun f of s₁ S₁ hf hfc => wpAny_items_cons (ev_loc V S₁ (k := 9) rfl rfl (wpAny_items_nil ?_)))))
        refine sub_callF S₁.good'.lt57 (fun s' x' => pat0 (S₁.good'.ext x')) hf hfc (search0 (mkS x).cps 0 ?_) (by decide) (by show x.toArray.size ≤ _; rw [List.size_toArray]; omega) ?_
        · intro i hi
          have hi' : i < x.length := by simpa [mkS] using hi
          have hm : (mkS x).cps.getD i 0 ∈ x := by
            rw [show (mkS x).cps.getD i 0 = x[i] by simp [mkS, hi']]
            exact List.getElem_mem hi'
          obtain ⟨h1, h2, h3, _, _⟩ := hxs _ hm
          generalize (mkS x).cps.getD i 0 = cc at h1 h2 h3
          simp [plain0, h1, h2, h3]
        intro tx' s₂ x₂
        have S₂ := S₁.step x₂
        clear S₁ x₂ hf hfc S'
        refine st_loc V S₂ (k := 9) rfl fun s₃ S₃ _ => ?_
        clear S₂
        simp only [List.set] at S₃
        refine wpAny_execs_cons (setadd V S₃ (a := 5) (b := 8) rfl rfl rfl (fun ti3 s₄ S₄ => ?_) (by rfl))
        simp only [List.set] at S₄
        rw [show (((N0 + 1 + bd.length : Nat) : Int) + 1) = ((N0 + (bd.length + 2) : Nat) : Int) from by omega] at S₄
        clear S₃
        have fin : ∀ {t' u1 u2 u3 u4 s''}, Mst w s L ns62 [some (.str (mkS p) tp), some (.ref st), some (.str (Str.ofString ".") tq), some (.ref r), some (.ref b), some (.int (N0 + (bd.length + 2) : Nat) ti3), some (.int (p.length : Nat) tn), some (.str ⟨#[91]⟩ tc), some (.int (N0 + 1 + bd.length : Nat) tj), u1, u2, u3, u4] [(b, bmO r), (r, lstO (vs ++ [.str (mkS (brOut x)) t']) (k + 1))] s'' →
            ∃ m, m < M ∧ ∃ done more ti vs k v1 v2 v3 v4 v5 v6, m = more.length ∧ ts = done ++ more ∧ PVs st (partsOf done) vs ∧ vs.length ≤ done.length ∧
            Mst w s L ns62 [some (.str (mkS p) tp), some (.ref st), some (.str (Str.ofString ".") tq), some (.ref r), some (.ref b), some (.int ((textAll done).length : Nat) ti), some (.int (p.length : Nat) tn), v1, v2, v3, v4, v5, v6] [(b, bmO r), (r, lstO vs k)] s'' := by
          intro t' u1 u2 u3 u4 s'' h3
          refine ⟨_, by rw [hM]; exact Nat.lt_succ_self _, done ++ [.br Ab Bb], more, ti3, vs ++ [.str (mkS (brOut x)) t'], k + 1, some (.str ⟨#[91]⟩ tc), some (.int (N0 + 1 + bd.length : Nat) tj), u1, u2, u3, u4, rfl, hT2, ?_, ?_, ?_⟩
          · rw [partsOf_snoc]
            show PVs st (pushPt _ (some (brOut (stuffOf Ab Bb)))) _
            rw [pushPt_some, hx]
            exact hP.snocStr _ _
          · rw [List.length_append, List.length_append]; show _ + 1 ≤ _ + 1; omega
          · have e : (textAll (done ++ [.br Ab Bb])).length = N0 + (bd.length + 2) := by rw [hnext, List.length_append, hPl]; simp [Tk.text, hbd]
            rw [e]
            exact h3
        refine wpAny_execs_cons (wpAny_If (wpAny_isTrue_Not (wpAny_isTrue_value (ev_loc V S₄ (k := 9) rfl rfl (P.truthy_str (by rw [size_mk]; omega) ?_)))))
        have S₄ := S₄.tok (tk := s₄.toks + 1 + 1) (by omega)
        rw [size_mk]
        cases x with
        | nil =>
          rw [show (!((([] : List Nat).length : Int) != 0)) = true from rfl, if_pos rfl]
          refine wpAny_execs_cons (addx V S₄ (a := 4) (kb := 0) (kl := 1) rfl rfl rfl rfl (by omega) (ev_str S₄ fun t5 s₅ S₅ _ _ => ⟨S₅, fun s₆ S₆ => wpAny_execs_nil (wpAny_execs_nil (wpAny_execs_nil (wpAny_execs_nil (wpAny_execs_nil (wpAny_execs_nil ?_)))))⟩) V.inter)
          rw [show Str.ofString "(?!)" = mkS (brOut []) from by decide +kernel] at S₆
          exact hPq _ _ (fin S₆)
        | cons e0 er =>
          rw [show (!(((e0 :: er : List Nat).length : Int) != 0)) = false from by simp; omega, if_neg (by decide)]
          refine wpAny_execs_cons (wpAny_If (wpAny_isTrue_Compare1 (ev_loc V S₄ (k := 9) rfl rfl (ev_str S₄ fun t5 s₅ S₅ _ _ => P.eq_str (wpAny_truthy_bool ?_)))))
          rw [mkS_toList, show (Str.ofString "!").cps.toList = [33] from by decide +kernel]
          by_cases hone : e0 :: er = [33]
          · rw [hone, show (([33] : List Nat) == [33]) = true from rfl, if_pos rfl]
            refine wpAny_execs_cons (addx V S₅ (a := 4) (kb := 0) (kl := 1) rfl rfl rfl rfl (by omega) (ev_str S₅ fun t5 s₅ S₅ _ _ => ⟨S₅, fun s₆ S₆ => wpAny_execs_nil (wpAny_execs_nil (wpAny_execs_nil (wpAny_execs_nil (wpAny_execs_nil (wpAny_execs_nil (wpAny_execs_nil ?_))))))⟩) V.inter)
            have e : Str.ofString "." = mkS (brOut (e0 :: er)) := by rw [hone]; decide +kernel
            exact hPq _ _ (fin (by rw [← e]; exact S₆))
          · rw [show ((e0 :: er : List Nat) == [33]) = false from beq_eq_false_iff_ne.mpr hone, if_neg (by decide)]
            refine wpAny_execs_cons (wpAny_If (wpAny_isTrue_Compare1 (ev_at0 (c := e0) V S₅ (a := 9) rfl rfl rfl (by omega) fun t6 s₆ S₆ => ev_str S₆ fun t7 s₇ S₇ _ _ => P.eq_str (wpAny_truthy_bool ?_))))
            rw [show (Str.ofString "!").cps.toList = [33] from by decide +kernel]
            have c91 : (Str.ofString "[").cps.toList = [91] := by decide +kernel
            have c93 : (Str.ofString "]").cps.toList = [93] := by decide +kernel
            have hxl' : er.length ≤ 10000 := by have : er.length + 1 ≤ 10000 := hxl; omega
            by_cases h33 : e0 = 33
            · rw [show (([e0] : List Nat) == [33]) = true by rw [h33]; rfl, if_pos rfl]
              refine wpAny_execs_cons (wpAny_Assign_Name (wpAny_BinOp (ev_str S₇ fun t8 s₈ S₈ _ _ => sl_1n (v := e0 :: er) (s₀ := s) (L := L) (ns := ns62) (by simp) (by omega) (fun _ _ => rfl) (fun Q' hq => ev_loc V S₈ (k := 9) rfl rfl (hq _ _ S₈)) fun t9 s₉ S₉ => ?_)) (by rfl))
              refine add_s (p := [94]) (q := er) S₉ (by decide +kernel) (by simp; omega) fun ta sa Sa => st_loc V Sa (k := 9) rfl fun sb Sb _ => wpAny_execs_nil ?_
              refine wpAny_execs_cons (addx V Sb (a := 4) (kb := 0) (kl := 1) rfl rfl rfl rfl (by omega) (fs3 V Sb (k := 9) rfl rfl (by simp; omega) (by decide +kernel) (by decide +kernel) fun t₂ s₂ S₂ => ⟨S₂, fun s₃ S₃ => ?_⟩) V.inter)
              refine wpAny_execs_nil (wpAny_execs_nil (wpAny_execs_nil (wpAny_execs_nil (wpAny_execs_nil (wpAny_execs_nil (wpAny_execs_nil ?_))))))
              have e : (Str.ofString "[").cps.toList ++ ([94] ++ er) ++ (Str.ofString "]").cps.toList = brOut (e0 :: er) := by
                rw [c91, c93, h33]
                cases er with
                | nil => exact absurd (by rw [h33]) hone
                | cons a r => rfl
              rw [e] at S₃
              exact hPq _ _ (fin S₃)
            · rw [show (([e0] : List Nat) == [33]) = false by simp [h33], if_neg (by decide)]
              refine wpAny_execs_cons (wpAny_If (wpAny_isTrue_Compare1 (ev_at0 (c := e0) V S₇ (a := 9) rfl rfl rfl (by omega) fun t8 s₈ S₈ => Tuple_ (wpAny_items_cons (ev_str S₈ fun t9 s₉ S₉ _ _ => wpAny_items_cons (ev_str S₉ fun ta sa Sa _ _ => wpAny_items_nil (wpAny_newTuple ?_ (by show 2 ≤ sizeLine; decide))))))))
              have Sb := (Sa.push (o := { cls := .type "tuple", data := .seq #[.str (Str.ofString "^") t9, .str (Str.ofString "[") ta] })).sub (objs' := [(b, bmO r), (r, lstO vs k)]) (fun p hp => List.mem_cons_of_mem _ hp) Sa.ond
              refine in_tuple_strs (items := #[.str (Str.ofString "^") t9, .str (Str.ofString "[") ta]) (ys := [Str.ofString "^", Str.ofString "["]) ⟨_, Heap.get?_push_size _ rfl, rfl, _, rfl⟩ (.cons _ _ (.cons _ _ .nil)) (wpAny_truthy_bool ?_)
              have hx0 := hxs e0 (List.mem_cons_self ..)
              have en : ([Str.ofString "^", Str.ofString "["].any fun y => y == (⟨#[e0]⟩ : Str)) = false := by
                rw [show Str.ofString "^" = ⟨#[94]⟩ from by decide +kernel, show Str.ofString "[" = ⟨#[91]⟩ from by decide +kernel]
                simp only [List.any_cons, List.any_nil, Bool.or_false, Bool.or_eq_false_iff, beq_eq_false_iff_ne, ne_eq, Str.mk.injEq]
                exact ⟨fun q => hx0.2.2.2.1 (by simpa using q.symm), fun q => hx0.2.2.2.2 (by simpa using q.symm)⟩
              rw [en, if_neg (by decide)]
              refine wpAny_execs_nil (wpAny_execs_nil ?_)
              refine wpAny_execs_cons (addx V Sb (a := 4) (kb := 0) (kl := 1) rfl rfl rfl rfl (by omega) (fs3 V Sb (k := 9) rfl rfl (by simp; omega) (by decide +kernel) (by decide +kernel) fun t₂ s₂ S₂ => ⟨S₂, fun s₃ S₃ => ?_⟩) V.inter)
              refine wpAny_execs_nil (wpAny_execs_nil (wpAny_execs_nil (wpAny_execs_nil (wpAny_execs_nil (wpAny_execs_nil (wpAny_execs_nil ?_))))))
              have e : (Str.ofString "[").cps.toList ++ (e0 :: er) ++ (Str.ofString "]").cps.toList = brOut (e0 :: er) := by
                rw [c91, c93]
                unfold brOut
                split
                · rename_i h; cases h
                · rename_i h; exact absurd h hone
                · rename_i h; injection h with h1 h2; exact absurd h1 h33
                · rfl
              rw [e] at S₃
              exact hPq _ _ (fin S₃)
  · rintro fl s' ⟨rfl, ti, vs, k, v1, v2, v3, v4, v5, v6, hP, S'⟩
    refine wpAny_execs_cons (wpAny_Assert_holds (wpAny_isTrue_Compare1 (ev_loc V S' (k := 5) rfl rfl (ev_loc V S' (k := 6) rfl rfl (P.eq_int (wpAny_truthy_bool ⟨beq_self_eq_true _, ?_⟩))))))
    refine wpAny_execs_cons (wpAny_Return_some (ev_loc V S' (k := 3) rfl rfl ?_))
    exact hQ r vs k s' S'.ext hrs (S'.get (List.mem_cons_of_mem _ (List.mem_cons_self ..))) hP
end
end Mine
open PySem PySem.W PyProof.Rows PySem.Calls
set_option linter.unusedVariables false
set_option maxRecDepth 100000
namespace Mine

/-! ## the parts of a pattern, plainly -/
theorem NoAdj.nil : NoAdj [] := fun i r h => by simp at h
theorem NoAdj.snoc {ps : List Pt} (h : NoAdj ps) {p : Pt} (hp : ¬ (p = none ∧ ps.getLast? = some none)) : NoAdj (ps ++ [p]) := by
  intro i r e
  rcases Nat.lt_or_ge (i + 1) ps.length with hi | hi
  · have h0 : (ps ++ [p])[i]? = some none := by rw [← Nat.add_zero i, ← List.getElem?_drop, e]; rfl
    have h1 : (ps ++ [p])[i + 1]? = some none := by rw [← List.getElem?_drop, e]; rfl
    rw [List.getElem?_append_left (by omega)] at h0 h1
    refine h i (ps.drop (i + 2)) ?_
    obtain ⟨l0, g0⟩ := List.getElem?_eq_some_iff.mp h0
    obtain ⟨l1, g1⟩ := List.getElem?_eq_some_iff.mp h1
    rw [List.drop_eq_getElem_cons l0, g0, List.drop_eq_getElem_cons l1, g1]
  · have hl := congrArg List.length e
    rw [List.length_drop, List.length_append] at hl
    simp only [List.length_cons, List.length_nil] at hl
    have hi' : i + 1 = ps.length := by omega
    have h0 : (ps ++ [p])[i]? = some none := by rw [← Nat.add_zero i, ← List.getElem?_drop, e]; rfl
    have h1 : (ps ++ [p])[i + 1]? = some none := by rw [← List.getElem?_drop, e]; rfl
    rw [List.getElem?_append_left (by omega)] at h0
    rw [List.getElem?_append_right (by omega), hi', Nat.sub_self] at h1
    refine hp ⟨by simpa using h1, ?_⟩
    rw [List.getLast?_eq_getElem?, ← hi', Nat.add_sub_cancel, h0]
theorem noAdj_push {ps : List Pt} (h : NoAdj ps) (p : Pt) : NoAdj (pushPt ps p) := by
  unfold pushPt
  split
  · exact h
  · rename_i hp; exact h.snoc hp
theorem noAdj_fold : ∀ (ts : List Tk) (ps : List Pt), NoAdj ps → NoAdj (ts.foldl (fun acc t => pushPt acc t.out) ps)
  | [], ps, h => h
  | t :: ts, ps, h => noAdj_fold ts _ (noAdj_push h _)
theorem noAdj_parts (ts : List Tk) : NoAdj (partsOf ts) := noAdj_fold ts [] .nil

def wt : Pt → Nat
  | none => 7
  | some x => x.length
theorem tailR_le : ∀ (r : List Nat) (rs : List (List Nat)), (tailR (r :: rs)).length ≤ 7 + (textOf (r :: rs)).length
  | r, [] => by simp [tailR, textOf]; omega
  | r, a :: b => by simp [tailR, textOf]; omega
theorem textOf_le : ∀ ps : List Pt, (textOf (runs ps)).length ≤ (ps.map wt).sum
  | [] => by simp [runs, textOf, tailR]
  | none :: ps => by
    rw [textOf_none]
    obtain ⟨r, rs, e⟩ := runs_ne ps
    have h1 := tailR_le r rs
    have h2 := textOf_le ps
    rw [e] at h2 ⊢
    simp only [List.map_cons, List.sum_cons, wt]
    omega
  | some x :: ps => by
    rw [textOf_some, List.length_append]
    have := textOf_le ps
    simp only [List.map_cons, List.sum_cons, wt]
    omega
theorem wt_push (ps : List Pt) (p : Pt) : ((pushPt ps p).map wt).sum ≤ (ps.map wt).sum + wt p := by
  unfold pushPt
  split
  · omega
  · simp
theorem escL_len (c : Nat) : (escL c).length ≤ 2 := by unfold escL; split <;> simp
theorem brOut_len (l : List Nat) : (brOut l).length ≤ l.length + 4 := by
  unfold brOut; split <;> simp
theorem stuffOf_len (A : List Nat) (B : Option (List Nat)) : (stuffOf A B).length ≤ (bodyTx A B).length := by
  cases B with
  | none => exact Nat.le_refl _
  | some B =>
    rw [stuffOf_some]
    show _ ≤ (A ++ 45 :: B).length
    split
    · simp only [List.length_append, List.length_dropLast, List.length_tail, List.length_cons]; omega
    · exact Nat.le_refl _
theorem wt_out (t : Tk) : wt t.out ≤ 10 * t.text.length := by
  cases t with
  | star => simp [Tk.out, Tk.text, wt]
  | q => simp [Tk.out, Tk.text, wt]
  | ch c => have := escL_len c; simp [Tk.out, Tk.text, wt]; omega
  | br A B =>
    have h1 := brOut_len (stuffOf A B)
    have h2 := stuffOf_len A B
    simp only [Tk.out, Tk.text, wt, List.length_cons, List.length_append, List.length_nil]
    omega
theorem wt_fold : ∀ (ts : List Tk) (ps : List Pt), ((ts.foldl (fun acc t => pushPt acc t.out) ps).map wt).sum ≤ (ps.map wt).sum + 10 * (textAll ts).length
  | [], ps => by simp [textAll]
  | t :: ts, ps => by
    have h1 := wt_fold ts (pushPt ps t.out)
    have h2 := wt_push ps t.out
    have h3 := wt_out t
    rw [textAll_cons, List.length_append, List.foldl_cons]
    omega
theorem textOf_parts (ts : List Tk) : (textOf (runs (partsOf ts))).length ≤ 10 * (textAll ts).length := by
  have h1 := textOf_le (partsOf ts)
  have h2 := wt_fold ts []
  have h3 : partsOf ts = ts.foldl (fun acc t => pushPt acc t.out) [] := rfl
  rw [← h3] at h2
  simp at h2
  omega
theorem len_fold : ∀ (ts : List Tk) (ps : List Pt), (ts.foldl (fun acc t => pushPt acc t.out) ps).length ≤ ps.length + (textAll ts).length
  | [], ps => by simp [textAll]
  | t :: ts, ps => by
    have h1 := len_fold ts (pushPt ps t.out)
    have h2 := pushPt_len ps t.out
    have h3 := t.text_ne
    rw [textAll_cons, List.length_append, List.foldl_cons]
    omega
theorem len_parts (ts : List Tk) : (partsOf ts).length ≤ (textAll ts).length := by have := len_fold ts []; rw [List.length_nil, Nat.zero_add] at this; exact this

def trL (ts : List Tk) : List Nat := resL (partsOf ts)
theorem trL_len (ts : List Tk) : (trL ts).length ≤ 10 * (textAll ts).length + 7 := by
  have := textOf_parts ts
  simp only [trL, resL, List.length_append, List.length_cons, List.length_nil]
  omega

def ns43 : List Str := [Str.ofString "pat", Str.ofString "STAR", Str.ofString "parts"]
def gs43 : List Str := [Str.ofString "object", Str.ofString "_translate", Str.ofString "_join_translated_parts"]
theorem V43 (L : Addr) : EnvOk (callEnv (fd 43) L 43) L ns43 gs43 := envOk_of (by kernel_rfl) (by kernel_rfl) (by kernel_rfl) (by kernel_rfl) (by kernel_rfl) (by kernel_rfl)
theorem gl_no_object (P : Params) : nsIn (hd.heap_39 P) mainGlobals (Str.ofString "object") = some none := by kernel_rfl
theorem bo_object : bootBuiltins (Str.ofString "object") = some (.type "object") := by decide +kernel
theorem gl_tokens (P : Params) : nsIn (hd.heap_39 P) mainGlobals (Str.ofString "_translate") = some (some (.ref 62)) := by kernel_rfl
theorem gl_join (P : Params) : nsIn (hd.heap_39 P) mainGlobals (Str.ofString "_join_translated_parts") = some (some (.ref 69)) := by kernel_rfl

section
variable {w : World} {A : Around} {E : Value → Shared → Prop} {s₀ s s' : Shared} {L : Addr} {ns gs : List Str} {vs : List (Option Value)} {objs : List (Addr × Obj)} {env : Env}
/-- an object that a callee made -/
theorem Mst.adopt (S : Mst w s₀ L ns vs objs s) (x : Ext s s') {l : Addr} {o : Obj} (hl : s.heap.objs.size ≤ l) (ho : s'.heap.get? l = some o) : Mst w s₀ L ns vs ((l, o) :: objs) s' := by
  have S' := S.step x
  refine ⟨S'.ext, S'.good, S'.loc, S'.nd, S'.len, S'.newL, S'.L57, fun p hp => ?_, ?_⟩
  · rcases List.mem_cons.mp hp with rfl | hp
    · refine ⟨ho, Nat.ne_of_gt (Nat.lt_of_lt_of_le S.loc.lt hl), ?_, Nat.ne_of_gt (Nat.lt_of_lt_of_le S.good'.lt57 hl)⟩
      cases q : s₀.heap.get? l with
      | none => rfl
      | some o' => exact absurd (Nat.lt_of_lt_of_le (S.above q) hl) (Nat.lt_irrefl _)
    · exact S'.obj p hp
  · rw [List.map_cons, List.nodup_cons]
    refine ⟨fun hm => ?_, S.ond⟩
    obtain ⟨p, hp, e⟩ := List.mem_map.mp hm
    have h1 := Heap.lt_size (S.obj p hp).1
    have e' : p.1 = l := e
    rw [e'] at h1
    exact Nat.lt_irrefl _ (Nat.lt_of_lt_of_le h1 hl)
theorem cw_t0 {T : String} {pos : Pos} {Q : Value → Shared → Prop} (h : wpAny (Md w) A (call (.type T) []) Q E s) : wpAny (Md w) A (callWith pos (.type T) [] (backTo pos (starEach [] env)) []) Q E s :=
  PySem.callWith_type (by rfl) (evalArgs_empty h)

set_option maxHeartbeats 1000000 in
theorem call_trans {ts : List Tk} {t : Tok} {Q : Value → Shared → Prop} (ok : OkA A 8 40) (g : Good w s) (hok : ∀ t ∈ ts, t.ok = true) (hn : (textAll ts).length ≤ 10000) (hQ : ∀ t' s', Ext s s' → Q (.str (mkS (trL ts)) t') s') :
    wpAny (Md w) A (call (.ref 43) [.str (mkS (textAll ts)) t]) Q E s := by
  refine enter (fd := fd 43) (d := 7) (u := 37) (ns := ns43) (gs := gs43) (body := bodyOf 43) (binds := [(Str.ofString "pat", .str (mkS (textAll ts)) t)]) ok.mono g K43 ck43 body43 rfl (by decide) (locs rfl) (fm_one _ _ _) (by decide) rfl (V43 _) ?_ (by kernel_rfl) (by kernel_rfl) (by kernel_rfl)
  intro env L s₁ A' ok' V hc hq _ S
  refine wpAny_execs_cons (wpAny_Assign_Name (Call_ (ev_bi V S (k := 0) rfl gl_no_object bo_object (by decide) (cw_t0 (call_object (st_loc V (S.push (o := plainO)) (k := 1) rfl fun s₂ S₂ _ => ?_))))) (by rfl))
  generalize hst : s₁.heap.objs.size = st at S₂
  refine wpAny_execs_cons (wpAny_Assign_Name (Call_ (ev_glob V S₂ (k := 1) rfl gl_tokens ?_)) (by rfl))
  refine cw_fn kp62 (wpAny_items_cons (ev_loc V S₂ (k := 0) rfl rfl (wpAny_items_cons (ev_loc V S₂ (k := 1) rfl rfl (wpAny_items_cons (ev_str S₂ fun tq s₃ S₃ _ _ => wpAny_items_nil ⟨S₃.good', ?_⟩))))))
  have hm := List.mem_cons_self (a := (st, plainO)) (l := [])
  with_reducible refine call_tokens ok'.mono S₃.good' (S₃.get hm) (S₃.obj _ hm).2.2.2 hok hn ?_
  intro l xs m s₄ x₄ hl hlo hP
  refine st_loc V (S₃.adopt x₄ hl hlo) (k := 2) rfl fun s₅ S₅ _ => ?_
  refine wpAny_execs_cons (wpAny_Return_some (Call_ (ev_glob V S₅ (k := 2) rfl gl_join ?_)))
  refine cw_fn kp69 (wpAny_items_cons (ev_loc V S₅ (k := 2) rfl rfl (wpAny_items_cons (ev_loc V S₅ (k := 1) rfl rfl (wpAny_items_nil ⟨S₅.good', ?_⟩)))))
  have hml := List.mem_cons_self (a := (l, lstO xs m)) (l := [(st, plainO)])
  have hms := List.mem_cons_of_mem (l, lstO xs m) hm
  have h1 := len_parts ts
  have h2 := textOf_parts ts
  with_reducible refine call_join ok'.mono S₅.good' (S₅.get hms) (S₅.get hml) (S₅.obj _ hml).2.2.2 hP (noAdj_parts ts) (by omega) (by omega) ?_
  exact fun t' s' x' => hQ t' s' (S₅.ext.trans x')
end
end Mine
open PySem PySem.W PyProof.Rows PySem.Calls
set_option linter.unusedVariables false
set_option maxRecDepth 100000
namespace Mine
abbrev tupO (vs : List Value) : Obj := { cls := .type "tuple", data := .seq vs.toArray }
/-- is an iterator over a list, at a place -/
def ItO (o : Obj) (l : Addr) (i : Nat) : Prop := o.cls = .type "list_iterator" ∧ o.data = .fields #[.ref l, .int i 0]
section
variable {w : World} {A : Around} {E : Value → Shared → Prop} {s₀ s s' : Shared} {L : Addr} {ns gs : List Str} {vs : List (Option Value)} {objs : List (Addr × Obj)} {env : Env}

/-- objects that a callee made -/
theorem Mst.adoptAll (S : Mst w s₀ L ns vs objs s) (x : Ext s s') {news : List (Addr × Obj)} (hn : (news.map (·.1)).Nodup) (h : ∀ p ∈ news, s.heap.get? p.1 = none ∧ s'.heap.get? p.1 = some p.2) :
    Mst w s₀ L ns vs (news ++ objs) s' := by
  have S' := S.step x
  refine ⟨S'.ext, S'.good, S'.loc, S'.nd, S'.len, S'.newL, S'.L57, fun p hp => ?_, ?_⟩
  · rcases List.mem_append.mp hp with hp | hp
    · obtain ⟨h1, h2⟩ := h p hp
      have h57 : p.1 ≠ 57 := fun q => by
        obtain ⟨ps, t⟩ := S.good'.tab
        rw [q, t.1] at h1; cases h1
      refine ⟨h2, fun q => ?_, ?_, h57⟩
      · obtain ⟨o, es, ep, e, _⟩ := S.loc
        rw [q, e] at h1; cases h1
      · cases q : s₀.heap.get? p.1 with
        | none => rfl
        | some o' => rw [S.ext.keep _ _ h57 q] at h1; cases h1
    · exact S'.obj p hp
  · rw [List.map_append, List.nodup_append]
    refine ⟨hn, S.ond, fun a ha b hb hab => ?_⟩
    subst hab
    obtain ⟨p, hp, e⟩ := List.mem_map.mp ha
    obtain ⟨q, hq, e'⟩ := List.mem_map.mp hb
    have h1 := (h p hp).1
    have h2 := (S.obj q hq).1
    have e1 : p.1 = a := e
    have e2 : q.1 = a := e'
    rw [e1] at h1
    rw [e2, h1] at h2
    cases h2
theorem Mst.perm {objs' : List (Addr × Obj)} (S : Mst w s₀ L ns vs objs s) (h : objs'.Perm objs) : Mst w s₀ L ns vs objs' s :=
  S.sub (fun p hp => h.mem_iff.mp hp) ((h.map _).nodup_iff.mpr S.ond)
/-- the second goes first -/
theorem Mst.flip {a b : Addr × Obj} {r : List (Addr × Obj)} (S : Mst w s₀ L ns vs (a :: b :: r) s) : Mst w s₀ L ns vs (b :: a :: r) s := S.perm (List.Perm.swap ..)

/-! ## a loop over a list -/
theorem iter_l {l : Addr} {xs : List Value} {Q : Value → Shared → Prop} (S : Mst w s₀ L ns vs objs s) (hl : s.heap.IsList l xs.toArray) (h : ∀ it o s', ItO o l 0 → Mst w s₀ L ns vs ((it, o) :: objs) s' → Q (.ref it) s') :
    wpAny (Md w) A (pyIter (.ref l)) Q E s :=
  wpAny_pyIter_list hl (h _ _ _ ⟨rfl, rfl⟩ (S.push (o := { cls := .type "list_iterator", data := .fields #[.ref l, .int 0 0] })))
theorem next_l {it l : Addr} {o : Obj} {i : Nat} {xs : List Value} {v : Value} {Q : Option Value → Shared → Prop} (S : Mst w s₀ L ns vs ((it, o) :: objs) s) (ho : ItO o l i) (hl : s.heap.IsList l xs.toArray) (hv : xs[i]? = some v)
    (h : ∀ o' s', ItO o' l (i + 1) → s'.heap.IsListIter it l (i + 1) → Mst w s₀ L ns vs ((it, o') :: objs) s' → Q (some v) s') : wpAny (Md w) A (pyNext (.ref it)) Q E s := by
  refine wpAny_pyNext_list_item (items := xs.toArray) ⟨o, S.get (List.mem_cons_self ..), ho.1, ho.2⟩ hl (by rw [List.getElem?_toArray]; exact hv) fun h' hit hs => ?_
  obtain ⟨o', e1, e2, e3⟩ := id hit
  exact h o' _ ⟨e2, e3⟩ hit (S.swap (k := 0) rfl hs e1 (Nat.le_refl _))
theorem end_l {it l : Addr} {o : Obj} {i : Nat} {xs : List Value} {Q : Option Value → Shared → Prop} (hh : A.handled = none) (S : Mst w s₀ L ns vs ((it, o) :: objs) s) (ho : ItO o l i) (hl : s.heap.IsList l xs.toArray) (hv : xs.length ≤ i)
    (h : ∀ s', Mst w s₀ L ns vs objs s' → Q none s') : wpAny (Md w) A (pyNext (.ref it)) Q E s :=
  gainQ (wpAny_pyNext_list_end (items := xs.toArray) hh ⟨o, S.get (List.mem_cons_self ..), ho.1, ho.2⟩ hl (by simp; omega) fun h' hx m => h _ (S.but hx m.size))

/-- a for loop over a list: what holds between its turns, of the names and of the objects -/
theorem forl {target iter : Expr} {body : List Stmt} {pos : Pos} {l : Addr} {xs : List Value} {Q : Flow → Shared → Prop} (J : Nat → List (Option Value) → List (Addr × Obj) → Prop) (hh : A.handled = none)
    (h : wpAny (Md w) A (eval iter env) (fun x s₁ => x = .ref l ∧ s₁.heap.IsList l xs.toArray ∧ ∃ vs objs, J 0 vs objs ∧ Mst w s₀ L ns vs objs s₁) (fun _ _ => False) s)
    (hl : ∀ i vs objs it o s, J i vs objs → Mst w s₀ L ns vs ((it, o) :: objs) s → s.heap.IsList l xs.toArray)
    (turn : ∀ i vs objs it o s v, J i vs objs → xs[i]? = some v → Mst w s₀ L ns vs ((it, o) :: objs) s → wpAny (Md w) A (assign target env v) (fun _ s₂ => wpAny (Md w) A (execs body env) (fun f s₃ => f = .next ∧ ∃ vs' objs', J (i + 1) vs' objs' ∧ Mst w s₀ L ns vs' ((it, o) :: objs') s₃) (fun _ _ => False) s₂) (fun _ _ => False) s)
    (fin : ∀ vs objs s, J xs.length vs objs → Mst w s₀ L ns vs objs s → Q .next s)
    (ht : (∀ it v, letOwnedTupleGo target it v = pure ()) ∨ ((∃ elts k p, target = .Tuple elts k p) ∧ ∀ (i : Nat) v, xs[i]? = some v → ∃ a, v = .ref a))
    (hs : ∀ x, foldedSetIterable iter env x = pure x := by intro _; rfl) :
    wpAny (Md w) A (exec (.For target iter body [] pos) env) Q (fun _ _ => False) s := by
  refine wpAny_For (wpAny_mono h (fun x s₁ h₁ => ?_) fun _ _ e => e.elim) hs
  obtain ⟨rfl, hl₁, vs₁, objs₁, hJ, S₁⟩ := h₁
  refine iter_l S₁ hl₁ fun it o s₂ ho S₂ => ?_
  refine codeAny_forLoop_any (fun n s => ∃ i vs objs o, n + i = xs.length ∧ J i vs objs ∧ ItO o l i ∧ Mst w s₀ L ns vs ((it, o) :: objs) s) (fun n s hn => ?_) xs.length ⟨0, vs₁, objs₁, o, rfl, hJ, ho, S₂⟩
  obtain ⟨i, vs, objs, o, hi, hJ, ho, S⟩ := hn
  have hL := hl i vs objs it o s hJ S
  rcases Nat.lt_or_ge i xs.length with hlt | hge
  · refine next_l S ho hL (List.getElem?_eq_getElem hlt) fun o' s' ho' hit S' => ?_
    have fin' : wpAny (Md w) A (assign target env xs[i]) (fun _ s₂ => wpAny (Md w) A (execs body env) (fun f s₃ => match f with
            | .next | .cont => ∃ m, m < n ∧ ∃ i vs objs o, m + i = xs.length ∧ J i vs objs ∧ ItO o l i ∧ Mst w s₀ L ns vs ((it, o) :: objs) s₃
            | .brk => Q .next s₃
            | .ret v => Q (.ret v) s₃) (fun _ _ => False) s₂) (fun _ _ => False) s' := by
      refine wpAny_mono (turn i vs objs it o' s' xs[i] hJ (List.getElem?_eq_getElem hlt) S') (fun _ s₂ h₂ => wpAny_mono h₂ (fun f s₃ h₃ => ?_) fun _ _ e => e) fun _ _ e => e
      obtain ⟨rfl, vs', objs', hJ', S₃⟩ := h₃
      exact ⟨n - 1, by omega, i + 1, vs', objs', o', by omega, hJ', ho', S₃⟩
    rcases ht with ht | ⟨⟨elts, k, p, rfl⟩, hr⟩
    · refine wpAny_of_eq (ht _ _) ?_
      refine wpAny_mono fin' (fun _ s₂ h₂ => wpAny_mono h₂ (fun f s₃ h₃ => by cases f <;> exact h₃) fun _ _ e => e.elim) fun _ _ e => e.elim
    · obtain ⟨a, ha⟩ := hr i _ (List.getElem?_eq_getElem hlt)
      dsimp only
      rw [ha] at fin' ⊢
      refine wpAny_letOwnedTupleGo_listiter hit ?_
      refine wpAny_mono fin' (fun _ s₂ h₂ => wpAny_mono h₂ (fun f s₃ h₃ => by cases f <;> exact h₃) fun _ _ e => e.elim) fun _ _ e => e.elim
  · obtain rfl : n = 0 := by omega
    obtain rfl : i = xs.length := by omega
    exact end_l hh S ho hL hge fun s' S' => wpAny_execs_nil (fin vs objs s' hJ S')

/-- three names at once, from a tuple -/
theorem as3 {x y z : Str} {i j k : Nat} {px py pz tp : Pos} {ct : Nat} {a : Addr} {v1 v2 v3 : Value} {Q : Unit → Shared → Prop} (hh : A.handled = none) (V : EnvOk env L ns gs) (S : Mst w s₀ L ns vs objs s) (hx : ns[i]? = some x) (hy : ns[j]? = some y) (hz : ns[k]? = some z)
    (ht : s.heap.get? a = some (tupO [v1, v2, v3])) (h : ∀ s', Mst w s₀ L ns (((vs.set i (some v1)).set j (some v2)).set k (some v3)) objs s' → Q () s') :
    wpAny (Md w) A (assign (.Tuple [.Name x px, .Name y py, .Name z pz] ct tp) env (.ref a)) Q E s := by
  refine gainQ ?_
  refine assign_Tuple_tuple hh (items := #[v1, v2, v3]) ⟨_, ht, rfl, _, rfl⟩ rfl rfl fun h' hk => ?_
  have hk' : ∀ b o, s.heap.get? b = some o → h'.get? b = some o := fun b o e =>
    hk b o (fun q => by subst q; rw [get_none_size] at e; cases e) e
  have st : ∀ {x : Str} {k : Nat} {v : Value} {u : List (Option Value)} {tk : Nat} {h : Heap} {Q : Unit → Shared → Prop}, ns[k]? = some x → u.length = ns.length → h.Ns L (fm ns u) →
      (∀ h₂, h₂.Ns L (fm ns (u.set k (some v))) → Heap.SameBut L h h₂ → Q () { s with heap := h₂, toks := tk + 1 }) → wpAny (Md w) A (storeName env x v) Q E { s with heap := h, toks := tk } := by
    intro x k v u tk h Q hx hu hn hq
    refine wpAny_storeName_local (m := fm ns u) (V.names x (List.mem_of_getElem? hx)) (by rw [V.loc]; exact hn) (fun h' hn hs => ?_) (by rw [V.kind]; rfl)
    rw [V.loc] at hn hs
    rw [fm_set S.nd hu.symm hx] at hn
    exact hq h' hn hs
  have hn0 : h'.Ns L (fm ns vs) := S.loc.at' fun o e => hk' _ o e
  have hl0 := S.len.symm
  refine assignInOrder_cons (wpAny_assign_Name (st hx hl0 hn0 fun h1 hn1 hs1 => ?_))
  refine assignInOrder_cons (wpAny_assign_Name (st hy (by rw [List.length_set]; exact hl0) hn1 fun h2 hn2 hs2 => ?_))
  refine assignInOrder_cons (wpAny_assign_Name (st hz (by rw [List.length_set, List.length_set]; exact hl0) hn2 fun h3 hn3 hs3 => ?_))
  refine assignInOrder_nil fun m => h _ ?_
  have back : ∀ b o, b ≠ L → s.heap.get? b = some o → h3.get? b = some o := fun b o hb e => (hs3.2 b hb).trans ((hs2.2 b hb).trans ((hs1.2 b hb).trans (hk' b o e)))
  refine ⟨⟨fun b o n e => back b o (fun q => by rw [q, S.newL] at e; cases e) (S.ext.keep b o n e), fun ps t => ?_, S.ext.bare, S.ext.os, Nat.le_trans S.ext.toks m.toks, Nat.le_trans S.ext.size m.size⟩, S.good, hn3, S.nd, by simp only [List.length_set]; exact S.len, S.newL, S.L57,
    fun p hp => ⟨back _ _ (S.obj p hp).2.1 (S.obj p hp).1, (S.obj p hp).2⟩, S.ond⟩
  obtain ⟨more, t1, t2⟩ := S.ext.tab ps t
  exact ⟨more, back 57 _ (Ne.symm S.L57) t1, t2⟩
/-- a tuple of three -/
theorem ev_tup3 {e1 e2 e3 : Expr} {k : Nat} {pos : Pos} {Q : Value → Shared → Prop}
    (h : wpAny (Md w) A (eval e1 env) (fun v1 s1 => wpAny (Md w) A (eval e2 env) (fun v2 s2 => wpAny (Md w) A (eval e3 env) (fun v3 s3 => Mst w s₀ L ns vs objs s3 ∧ ∀ a s', Mst w s₀ L ns vs ((a, tupO [v1, v2, v3]) :: objs) s' → Q (.ref a) s') E s2) E s1) E s)
    (he : starEach [e1, e2, e3] env = (false, eval e1 env) :: starEach [e2, e3] env := by rfl) (he2 : starEach [e2, e3] env = (false, eval e2 env) :: starEach [e3] env := by rfl) (he3 : starEach [e3] env = (false, eval e3 env) :: starEach [] env := by rfl) :
    wpAny (Md w) A (eval (.Tuple [e1, e2, e3] k pos) env) Q E s := by
  refine Tuple_ (wpAny_items_cons (wpAny_mono h (fun v1 s1 h1 => wpAny_items_cons (wpAny_mono h1 (fun v2 s2 h2 => wpAny_items_cons (wpAny_mono h2 (fun v3 s3 h3 => wpAny_items_nil ?_) fun _ _ x => x) he3) fun _ _ x => x) he2) fun _ _ x => x) he)
  refine wpAny_newTuple ?_ (by show 3 ≤ sizeLine; decide)
  exact h3.2 _ _ (h3.1.push (o := tupO [v1, v2, v3]))
end
end Mine
open PySem PySem.W PyProof.Rows PySem.Calls
set_option linter.unusedVariables false
set_option maxRecDepth 100000
namespace Mine
open Builtin Builtin.Str StrLaws
/-! ## str.replace of a line feed with a dot -/
theorem sub2 (p : List Nat) (c d i : Nat) : subAt (mkS p) (mkS [c, d]) i = true ↔ p[i]? = some c ∧ p[i + 1]? = some d := by
  unfold subAt
  rw [beq_iff_eq, ← Array.toList_inj, Array.toList_extract, List.extract_eq_drop_take']
  show (p.take (i + 2)).drop i = [c, d] ↔ _
  rw [List.drop_take, show i + 2 - i = 2 by omega]
  have h0 : p[i]? = (p.drop i)[0]? := by simp
  have h1 : p[i + 1]? = (p.drop i)[1]? := by simp
  rw [h0, h1]
  cases p.drop i with
  | nil => simp
  | cons a r =>
    cases r with
    | nil => simp
    | cons b r => simp
theorem at2 (p : List Nat) (c d i : Nat) : At (mkS p) (mkS [c, d]) (mkS p).length i ↔ p[i]? = some c ∧ p[i + 1]? = some d := by
  unfold At
  rw [sub2]
  constructor
  · exact fun h => h.2
  · intro h
    refine ⟨?_, h⟩
    have := (List.getElem?_eq_some_iff.mp h.2).1
    rw [size_mk, size_mk]
    simp only [List.length_cons, List.length_nil]
    omega
theorem dq_true {l : List Nat} (h : l.head? ≠ some 46) : dqL true l = dqL false l := by
  cases l with
  | nil => rfl
  | cons a r =>
    have : a ≠ 46 := fun e => h (by simp [e])
    simp [dqL, this]
theorem dq_free : ∀ (p q : List Nat), (∀ i, i < p.length → ¬ ((p ++ q)[i]? = some 10 ∧ (p ++ q)[i + 1]? = some 46)) → dqL false (p ++ q) = p ++ dqL false q
  | [], q, _ => rfl
  | c :: p, q, h => by
    have ih := dq_free p q fun i hi => by have := h (i + 1) (by simp; omega); simpa using this
    have h0 := h 0 (by simp)
    show (if false = true ∧ c = 46 then _ else c :: dqL (c == 10) (p ++ q)) = _
    rw [if_neg (by simp), List.cons_append]
    congr 1
    by_cases hc : c = 10
    · rw [beq_iff_eq.mpr hc, dq_true, ih]
      intro q'
      refine h0 ⟨by simp [hc], ?_⟩
      rw [List.cons_append, List.getElem?_cons_succ, ← List.head?_eq_getElem?, q']
    · rw [beq_eq_false_iff_ne.mpr hc, ih]
theorem join_cons2 (z p : Str) (l : List Str) (h : l ≠ []) : (Str.join z (p :: l)).cps.toList = p.cps.toList ++ z.cps.toList ++ (Str.join z l).cps.toList := by
  cases l with
  | nil => exact absurd rfl h
  | cons q r =>
    show (p ++ z ++ Str.join z (q :: r)).cps.toList = _
    simp only [Str.cps_append, Array.toList_append]
theorem parts_ne (x : Str) (w a : Nat) (cuts : List Nat) : partsFrom x w a cuts ≠ [] := by
  intro h; cases cuts <;> cases h
theorem chain_text (x : List Nat) : ∀ (cuts : List Nat) (a f : Nat), ChainG (mkS x) (mkS [10, 46]) (mkS x).length a cuts f → (∀ k, f ≤ k → ¬ At (mkS x) (mkS [10, 46]) (mkS x).length k) →
    (Str.join (mkS [10, 46, 46]) (partsFrom (mkS x) 2 a cuts)).cps.toList = dqL false (x.drop a)
  | [], a, f, h, hn => by
    have e : f = a := h
    subst e
    show (strSub (mkS x) f (mkS x).length).cps.toList = _
    rw [strSub_toList, mkS_toList, size_mk, List.take_of_length_le (by simp)]
    have := dq_free (x.drop f) [] fun i hi q => hn (f + i) (by omega) ((at2 x 10 46 (f + i)).mpr (by
      rw [List.append_nil, List.getElem?_drop, List.getElem?_drop] at q; rw [Nat.add_assoc]; exact q))
    rw [List.append_nil] at this
    rw [this]; simp [dqL]
  | c :: r, a, f, h, hn => by
    obtain ⟨h1, h2, h3, h4⟩ := h
    have ih := chain_text x r (c + 2) f h4 hn
    show (Str.join (mkS [10, 46, 46]) (strSub (mkS x) a c :: partsFrom (mkS x) 2 (c + 2) r)).cps.toList = _
    rw [join_cons2 _ _ _ (parts_ne _ _ _ _), ih, strSub_toList, mkS_toList, mkS_toList]
    have hc := (at2 x 10 46 c).mp h2
    have hl := (List.getElem?_eq_some_iff.mp hc.2).1
    have e2 : x.drop a = (x.drop a).take (c - a) ++ x.drop c := by
      have := List.take_append_drop (c - a) (x.drop a)
      rw [List.drop_drop, show a + (c - a) = c by omega] at this
      exact this.symm
    have e3 : x.drop c = 10 :: 46 :: x.drop (c + 2) := by
      rw [List.drop_eq_getElem_cons (by omega), List.drop_eq_getElem_cons hl, (List.getElem?_eq_some_iff.mp hc.1).2, (List.getElem?_eq_some_iff.mp hc.2).2]
    have e4 := dq_free ((x.drop a).take (c - a)) (x.drop c) fun i hi q => by
      rw [← e2, List.getElem?_drop, List.getElem?_drop] at q
      have hi' : i < c - a := Nat.lt_of_lt_of_le hi (by rw [List.length_take]; exact Nat.min_le_left _ _)
      exact h3 (a + i) (by omega) (by omega) ((at2 x 10 46 (a + i)).mpr (by rw [Nat.add_assoc]; exact q))
    rw [← e2] at e4
    rw [e4, e3]
    simp [dqL]
theorem repl_text (x : List Nat) : Txt.replace (mkS x) (mkS [10, 46]) (mkS [10, 46, 46]) = mkS (dqL false x) := by
  apply str_ext
  obtain ⟨f, hG, hn⟩ := occ_tight (mkS x) (mkS [10, 46]) (by decide)
  have key := chain_text x _ 0 f hG hn
  rw [List.drop_zero] at key
  unfold Txt.replace
  have hz : ((mkS [10, 46]).length == 0) = false := by decide
  rw [hz, Bool.false_and, Bool.or_false]
  cases he : (occurrences (mkS x) (mkS [10, 46]) 0 (mkS x).length ((mkS x).length + 1)).isEmpty
  · rw [if_neg Bool.false_ne_true, glued_eq_join, partsBetween_eq]
    exact key
  · rw [if_pos rfl, mkS_toList, mkS_toList]
    rw [List.isEmpty_iff.mp he] at key
    rw [← key]
    show _ = (strSub (mkS x) 0 (mkS x).length).cps.toList
    rw [strSub_toList, mkS_toList, size_mk]
    simp
section
variable {w : World} {A : Around} {E : Value → Shared → Prop} {s₀ s : Shared} {L : Addr} {ns gs : List Str} {vs : List (Option Value)} {objs : List (Addr × Obj)} {env : Env}
theorem call_rep {p : List Nat} {t u v : Tok} {y z : Str} {Q : Value → Shared → Prop} (S : Mst w s₀ L ns vs objs s) (hy : y = mkS [10, 46]) (hz : z = mkS [10, 46, 46]) (hu : u ≠ 0) (hv : v ≠ 0) (huv : u ≠ v) (hp : p.length ≤ 1000000)
    (h : ∀ t' s', Mst w s₀ L ns vs objs s' → Q (.str (mkS (dqL false p)) t') s') : wpAny (Md w) A (call (.builtin "str.replace") [.str (mkS p) t, .str y u, .str z v]) Q E s := by
  subst hy; subst hz
  refine gainQ (SC.replaceW hu hv huv (by decide) (by rw [size_mk]; omega) (by decide) fun t' k m => ?_)
  rw [repl_text]
  exact h _ _ (S.tok m.toks)
end
end Mine
open PySem PySem.W PyProof.Rows PySem.Calls
set_option linter.unusedVariables false
set_option maxRecDepth 100000
namespace Mine
/-! ## the law's pieces -/
structure Pc3 where
  pat : List Nat
  part : Pt
  behind : Pt
/-- a text or None -/
def OV : Pt → Value → Prop
  | none, v => v = .none
  | some x, v => ∃ t, v = .str (mkS x) t
def PcAt (h : Heap) (p : Pc3) (v : Value) : Prop := ∃ a t v2 v3, v = .ref a ∧ a ≠ 57 ∧ h.get? a = some (tupO [.str (mkS p.pat) t, v2, v3]) ∧ OV p.part v2 ∧ OV p.behind v3
theorem PcAt.keep {h h' : Heap} {p : Pc3} {v : Value} (x : PcAt h p v) (hk : ∀ b o, b ≠ 57 → h.get? b = some o → h'.get? b = some o) : PcAt h' p v :=
  let ⟨a, t, v2, v3, e, n, ho, r⟩ := x; ⟨a, t, v2, v3, e, n, hk _ _ n ho, r⟩
theorem paired_get {α β : Type} {F : α → β → Prop} : ∀ {l : List α} {m : List β}, Paired F l m → ∀ {i : Nat} {b : β}, m[i]? = some b → ∃ a, l[i]? = some a ∧ F a b
  | _, _, .nil, i, b, h => by simp at h
  | _, _, .cons (a := a) f _, 0, b, h => ⟨a, rfl, by simp at h; exact h ▸ f⟩
  | _, _, .cons f r, i + 1, b, h => by simpa using paired_get r (i := i) (by simpa using h)
theorem paired_mono {α β : Type} {F G : α → β → Prop} (h : ∀ a b, F a b → G a b) : ∀ {l : List α} {m : List β}, Paired F l m → Paired G l m
  | _, _, .nil => .nil
  | _, _, .cons f r => .cons (h _ _ f) (paired_mono h r)

def moreOf (d : Bool) (last : List Nat) (p : Pc3) : Pt := match p.part with
  | none => none
  | some x => if d = false then some x else if p.pat = [46] ∧ (last = [10] ∨ last = [13] ∨ last = [13, 10]) then some [92, 46, 92, 46] else some (dqL false x)
def stepA (d : Bool) (st : List Nat × List Pt) (p : Pc3) : List Nat × List Pt := (p.pat, if st.1 = [13] ∧ p.pat = [10] then st.2 else st.2 ++ [moreOf d st.1 p])
def foldA (d : Bool) (ps : List Pc3) : List Nat × List Pt := ps.foldl (stepA d) ([10], [])
theorem foldA_snoc (d : Bool) (ps : List Pc3) (p : Pc3) : foldA d (ps ++ [p]) = stepA d (foldA d ps) p := by simp [foldA]
theorem foldA_len (d : Bool) (ps : List Pc3) : ∀ st : List Nat × List Pt, (ps.foldl (stepA d) st).2.length ≤ st.2.length + ps.length := by
  induction ps with
  | nil => intro st; simp
  | cons p r ih =>
    intro st
    rw [List.foldl_cons]
    have := ih (stepA d st p)
    have h2 : (stepA d st p).2.length ≤ st.2.length + 1 := by unfold stepA; dsimp only; split <;> simp
    simp only [List.length_cons]; omega
theorem take_snoc {α : Type} {l : List α} {i : Nat} {x : α} (h : l[i]? = some x) : l.take (i + 1) = l.take i ++ [x] := by
  rw [List.take_add_one, h]; rfl
theorem mk_eq (x : List Nat) (y : Str) : ((mkS x : Str) == y) = decide (x = y.cps.toList) := by
  by_cases h : x = y.cps.toList
  · rw [decide_eq_true h, beq_iff_eq]; apply str_ext; rw [mkS_toList, h]
  · rw [decide_eq_false h]; apply beq_eq_false_iff_ne.mpr; intro e; exact h (by rw [← e, mkS_toList])

def ns107 : List Str := [Str.ofString "pieces", Str.ofString "dots", Str.ofString "parts", Str.ofString "last", Str.ofString "pattern", Str.ofString "part", Str.ofString "behind", Str.ofString "more"]
theorem V107 (L : Addr) : EnvOk (callEnv (fd 107) L 107) L ns107 [] := envOk_of (by kernel_rfl) (by kernel_rfl) (by kernel_rfl) (by kernel_rfl) (by kernel_rfl) (by kernel_rfl)
theorem c10 : (Str.ofString "\n").cps.toList = [10] := by decide +kernel
theorem c13 : (Str.ofString "\x0d").cps.toList = [13] := by decide +kernel
theorem c1310 : (Str.ofString "\x0d\n").cps.toList = [13, 10] := by decide +kernel
theorem c46 : (Str.ofString ".").cps.toList = [46] := by decide +kernel
theorem m10 : Str.ofString "\n" = mkS [10] := by decide +kernel
theorem y1046 : Str.ofString "\n." = mkS [10, 46] := by decide +kernel
theorem y104646 : Str.ofString "\n.." = mkS [10, 46, 46] := by decide +kernel
section
variable {w : World} {A : Around} {E : Value → Shared → Prop} {s : Shared}
set_option maxHeartbeats 2000000 in
theorem call_ahead {l : Addr} {d : Bool} {ps : List Pc3} {xs : List Value} {Q : Value → Shared → Prop} (ok : OkA A 3 20) (g : Good w s) (ht : 0 < s.toks) (h57 : l ≠ 57) (hl : s.heap.IsList l xs.toArray) (hp : Paired (PcAt s.heap) ps xs) (hn : ps.length ≤ 1000)
    (hsz : ∀ p ∈ ps, p.pat.length ≤ 1000 ∧ ∀ x, p.part = some x → x.length ≤ 1000)
    (hQ : ∀ l' ys n s', Ext s s' → s.heap.get? l' = none → s'.heap.get? l' = some (lstO ys n) → Paired OV (foldA d ps).2 ys → Q (.ref l') s') :
    wpAny (Md w) A (call (.ref 107) [.ref l, .bool d]) Q E s := by
  refine enter (fd := fd 107) (d := 2) (u := 17) (ns := ns107) (gs := []) (body := bodyOf 107) (binds := [(Str.ofString "pieces", .ref l), (Str.ofString "dots", .bool d)]) ok.mono g K107 ck107 body107 rfl (by decide) (locs rfl) (fm_two _ _ _ _ _ (by decide)) (by decide) rfl (V107 _) ?_ (by kernel_rfl) (by kernel_rfl) (by kernel_rfl)
  intro env L s₁ A' ok' V hc hq _ S
  have keepP : ∀ {vs objs s'}, Mst w s L ns107 vs objs s' → Paired (PcAt s'.heap) ps xs := fun S' => paired_mono (fun _ _ x => x.keep S'.ext.keep) hp
  have keepL : ∀ {vs objs s'}, Mst w s L ns107 vs objs s' → s'.heap.IsList l xs.toArray := fun S' => by
    obtain ⟨o, e, r⟩ := hl
    exact ⟨o, S'.ext.keep _ _ h57 e, r⟩
  refine wpAny_execs_cons (wpAny_Assign_Name (List_ (wpAny_items_nil (wpAny_newList (st_loc V (S.push (o := lstO [] 0)) (k := 2) rfl fun s₂ S₂ _ => ?_) (by decide)))) (by rfl))
  generalize hr : s₁.heap.objs.size = r at S₂
  refine wpAny_execs_cons (wpAny_Assign_Name (ev_str S₂ fun tl s₃ S₃ _ _ => st_loc V S₃ (k := 3) rfl fun s₄ S₄ _ => ?_) (by rfl))
  refine wpAny_execs_cons (forl (l := l) (xs := xs) (ns := ns107) (s₀ := s) (L := L) (J := fun i vs objs => ∃ t v1 v2 v3 v4 ys n, vs = [some (.ref l), some (.bool d), some (.ref r), some (.str (mkS (foldA d (ps.take i)).1) t), v1, v2, v3, v4] ∧ objs = [(r, lstO ys n)] ∧ Paired OV (foldA d (ps.take i)).2 ys)
    ok'.hh (ev_loc V S₄ (k := 0) rfl rfl ⟨rfl, keepL S₄, _, _, ⟨tl, none, none, none, none, [], 0, ?_, rfl, .nil⟩, S₄⟩) ?_ ?_ ?_ (.inr ⟨⟨_, _, _, rfl⟩, fun i v hv => ?_⟩) (fun _ => by rfl))
  · show _ = [_, _, _, some (Value.str (mkS [10]) tl), _, _, _, _]
    rw [← m10]; rfl
  · rintro i vs objs it o s' ⟨t, v1, v2, v3, v4, ys, n, rfl, rfl, hP⟩ S'
    exact keepL S'
  · rintro i vs objs it o s' v ⟨t, v1, v2, v3, v4, ys, n, rfl, rfl, hP⟩ hv S'
    obtain ⟨p, hpi, hpv⟩ := paired_get (keepP S') hv
    obtain ⟨a, tp, w2, w3, rfl, ha57, ha, hw2, hw3⟩ := hpv
    have hts := take_snoc hpi
    have hpm := List.mem_of_getElem? hpi
    have hils := (List.getElem?_eq_some_iff.mp hpi).1
    have hyl : ys.length ≤ 1000 := by
      have h1 := hP.length
      have h2 := foldA_len d (ps.take i) ([10], [])
      have h3 : (ps.take i).length ≤ ps.length := by rw [List.length_take]; exact Nat.min_le_right _ _
      have h4 : (foldA d (ps.take i)).2.length ≤ 0 + (ps.take i).length := h2
      omega
    refine as3 ok'.hh V S' (i := 4) (j := 5) (k := 6) rfl rfl rfl ha fun s₅ S₅ => ?_
    simp only [List.set] at S₅
    generalize hla : (foldA d (ps.take i)).1 = la at S₅
    generalize hac : (foldA d (ps.take i)).2 = ac at hP
    have htk : ∀ {vs objs s'}, Mst w s L ns107 vs objs s' → 0 < s'.toks := fun S' => Nat.lt_of_lt_of_le ht S'.ext.toks
    -- more
    refine wpAny_execs_cons (wpAny_mono (Q := fun fl s' => fl = .next ∧ ∃ v, OV (moreOf d la p) v ∧ Mst w s L ns107 [some (.ref l), some (.bool d), some (.ref r), some (.str (mkS la) t), some (.str (mkS p.pat) tp), some w2, some w3, some v] [(it, o), (r, lstO ys n)] s') ?_ ?_ fun _ _ x => x)
    · refine wpAny_If (wpAny_isTrue_BoolOp (wpAny_allTrue_Or_cons (wpAny_isTrue_Compare1 (ev_loc V S₅ (k := 5) rfl rfl (wpAny_Constant_none ?_)))))
      cases hpp : p.part with
      | none =>
        rw [hpp] at hw2
        obtain rfl : w2 = .none := hw2
        refine is_none_none (wpAny_truthy_bool ?_)
        rw [if_pos rfl, if_pos rfl]
        refine wpAny_execs_cons (wpAny_Assign_Name (ev_loc V S₅ (k := 5) rfl rfl (st_loc V S₅ (k := 7) rfl fun s₆ S₆ _ => wpAny_execs_nil ⟨rfl, _, ?_, S₆⟩)) (by rfl))
        unfold moreOf; rw [hpp]; rfl
      | some x =>
        rw [hpp] at hw2
        obtain ⟨tx, rfl⟩ := hw2
        have hxl := (hsz p hpm).2 x hpp
        refine is_str_none (wpAny_truthy_bool ?_)
        rw [if_neg (by decide)]
        refine wpAny_allTrue_Or_cons (wpAny_isTrue_Not (wpAny_isTrue_value (ev_loc V S₅ (k := 1) rfl rfl (wpAny_truthy_bool ?_))))
        cases d with
        | false =>
          rw [show (!false) = true from rfl, if_pos rfl, if_pos rfl]
          refine wpAny_execs_cons (wpAny_Assign_Name (ev_loc V S₅ (k := 5) rfl rfl (st_loc V S₅ (k := 7) rfl fun s₆ S₆ _ => wpAny_execs_nil ⟨rfl, _, ?_, S₆⟩)) (by rfl))
          unfold moreOf; rw [hpp]; exact ⟨_, rfl⟩
        | true =>
          rw [show (!true) = false from rfl, if_neg (by decide)]
          refine wpAny_allTrue_Or_nil ?_
          rw [if_neg (by decide)]
          have rep : ∀ s', Mst w s L ns107 [some (.ref l), some (.bool true), some (.ref r), some (.str (mkS la) t), some (.str (mkS p.pat) tp), some (.str (mkS x) tx), some w3, v4] [(it, o), (r, lstO ys n)] s' → ¬ (p.pat = [46] ∧ (la = [10] ∨ la = [13] ∨ la = [13, 10])) →
              wpAny (Md w) A' (exec (.Assign [.Name (Str.ofString "more") ⟨137, 12, 137, 16⟩] (.Call (.Attribute (.Name (Str.ofString "part") ⟨137, 19, 137, 23⟩) (Str.ofString "replace") ⟨137, 19, 137, 31⟩) [.Constant (.str (Str.ofString "\n.")) 0 ⟨137, 32, 137, 37⟩, .Constant (.str (Str.ofString "\n..")) 0 ⟨137, 39, 137, 45⟩] [] ⟨137, 19, 137, 46⟩) ⟨137, 12, 137, 46⟩) env)
              (fun fl s' => fl = .next ∧ ∃ v, OV (moreOf true la p) v ∧ Mst w s L ns107 [some (.ref l), some (.bool true), some (.ref r), some (.str (mkS la) t), some (.str (mkS p.pat) tp), some (.str (mkS x) tx), some w3, some v] [(it, o), (r, lstO ys n)] s') (fun _ _ => False) s' := by
            intro s' S' hno
            refine wpAny_Assign_Name (mcall2 (ev_loc V S' (k := 5) rfl rfl fun pl => ?_) (by rfl) (by rfl) (by rfl)) (by rfl)
            with_reducible refine gm_str F.slot_str_replace F.type_str_replace ?_
            refine cw_m (wpAny_items_cons (ev_str S' fun t5 s₅ S₅ h5 h5' => wpAny_items_cons (ev_str S₅ fun t6 s₆ S₆ h6 h6' => wpAny_items_nil ?_)))
            have h0 := htk S'
            refine call_rep S₆ y1046 y104646 (Nat.ne_of_gt (Nat.lt_of_lt_of_le h0 h5)) (Nat.ne_of_gt (Nat.lt_of_lt_of_le (htk S₅) h6)) (Nat.ne_of_lt (Nat.lt_of_lt_of_le h5' h6)) (by omega) fun t7 s₇ S₇ => st_loc V S₇ (k := 7) rfl fun s₈ S₈ _ => ⟨rfl, _, ?_, S₈⟩
            unfold moreOf; rw [hpp]; dsimp only; rw [if_neg (by decide), if_neg hno]; exact ⟨_, rfl⟩
          refine wpAny_execs_cons (wpAny_If (wpAny_isTrue_BoolOp (wpAny_allTrue_And_cons (wpAny_isTrue_Compare1 (ev_loc V S₅ (k := 4) rfl rfl (ev_str S₅ fun t5 s₆ S₆ _ _ => P.eq_str (wpAny_truthy_bool ?_)))))))
          rw [mkS_toList, c46]
          by_cases hpat : p.pat = [46]
          · rw [show (p.pat == [46]) = true by rw [hpat]; rfl, if_pos rfl]
            refine wpAny_allTrue_And_cons (wpAny_isTrue_Compare1 (ev_loc V S₆ (k := 3) rfl rfl (List_ (wpAny_items_cons (ev_str S₆ fun t7 s₇ S₇ _ _ => wpAny_items_cons (ev_str S₇ fun t8 s₈ S₈ _ _ => wpAny_items_cons (ev_str S₈ fun t9 s₉ S₉ _ _ => wpAny_items_nil (wpAny_newList ?_ (by show 3 ≤ sizeLine; decide)))))))))
            have Sb := (S₉.push (o := lstO [.str (Str.ofString "\n") t7, .str (Str.ofString "\x0d") t8, .str (Str.ofString "\x0d\n") t9] 0)).drop1
            refine in_list_strs (vs := [.str (Str.ofString "\n") t7, .str (Str.ofString "\x0d") t8, .str (Str.ofString "\x0d\n") t9]) (ys := [Str.ofString "\n", Str.ofString "\x0d", Str.ofString "\x0d\n"]) ⟨_, Heap.get?_push_size _ rfl, rfl, _, rfl⟩ (.cons _ _ (.cons _ _ (.cons _ _ .nil))) (wpAny_truthy_bool ?_)
            have en : ([Str.ofString "\n", Str.ofString "\x0d", Str.ofString "\x0d\n"].any fun y => y == mkS la) = decide (la = [10] ∨ la = [13] ∨ la = [13, 10]) := by
              simp only [List.any_cons, List.any_nil, Bool.or_false]
              rw [BEq.comm, mk_eq, BEq.comm, mk_eq, BEq.comm, mk_eq, c10, c13, c1310]
              simp only [Bool.decide_or]
            rw [en]
            by_cases hlast : la = [10] ∨ la = [13] ∨ la = [13, 10]
            · rw [decide_eq_true hlast, if_pos rfl]
              refine wpAny_allTrue_And_nil ?_
              rw [if_pos rfl]
              refine wpAny_execs_cons (wpAny_Assign_Name (ev_str Sb fun ta sa Sa _ _ => st_loc V Sa (k := 7) rfl fun sc Sc _ => wpAny_execs_nil (wpAny_execs_nil ⟨rfl, _, ?_, Sc⟩)) (by rfl))
              unfold moreOf; rw [hpp]; dsimp only; rw [if_neg (by decide), if_pos ⟨hpat, hlast⟩]
              exact ⟨ta, by rw [show Str.ofString "\\.\\." = mkS [92, 46, 92, 46] from by decide +kernel]⟩
            · rw [decide_eq_false hlast, if_neg (by decide), if_neg (by decide)]
              exact wpAny_execs_cons (wpAny_mono (rep _ Sb fun h => hlast h.2) (fun fl s' h => by obtain ⟨rfl, h⟩ := h; exact wpAny_execs_nil (wpAny_execs_nil ⟨rfl, h⟩)) fun _ _ x => x)
          · rw [show (p.pat == [46]) = false by rw [beq_eq_false_iff_ne]; exact hpat, if_neg (by decide), if_neg (by decide)]
            exact wpAny_execs_cons (wpAny_mono (rep _ S₆ fun h => hpat h.1) (fun fl s' h => by obtain ⟨rfl, h⟩ := h; exact wpAny_execs_nil (wpAny_execs_nil ⟨rfl, h⟩)) fun _ _ x => x)
    clear S₅ S'
    rintro fl s₆ ⟨rfl, v, hv', S₆⟩
    -- it is added
    refine wpAny_execs_cons (wpAny_mono (Q := fun fl s' => fl = .next ∧ ∃ ys' n', Paired OV (if la = [13] ∧ p.pat = [10] then ac else ac ++ [moreOf d la p]) ys' ∧ Mst w s L ns107 [some (.ref l), some (.bool d), some (.ref r), some (.str (mkS la) t), some (.str (mkS p.pat) tp), some w2, some w3, some v] [(it, o), (r, lstO ys' n')] s') ?_ ?_ fun _ _ x => x)
    · have add : ∀ s', Mst w s L ns107 [some (.ref l), some (.bool d), some (.ref r), some (.str (mkS la) t), some (.str (mkS p.pat) tp), some w2, some w3, some v] [(it, o), (r, lstO ys n)] s' → ¬ (la = [13] ∧ p.pat = [10]) →
          wpAny (Md w) A' (exec (.Expr (.Call (.Attribute (.Name (Str.ofString "parts") ⟨139, 12, 139, 17⟩) (Str.ofString "append") ⟨139, 12, 139, 24⟩) [.Name (Str.ofString "more") ⟨139, 25, 139, 29⟩] [] ⟨139, 12, 139, 30⟩) ⟨139, 12, 139, 30⟩) env) (fun fl s' => fl = .next ∧ ∃ ys' n', Paired OV (if la = [13] ∧ p.pat = [10] then ac else ac ++ [moreOf d la p]) ys' ∧ Mst w s L ns107 [some (.ref l), some (.bool d), some (.ref r), some (.str (mkS la) t), some (.str (mkS p.pat) tp), some w2, some w3, some v] [(it, o), (r, lstO ys' n')] s') (fun _ _ => False) s' := by
        intro s' S' hno
        refine appx V S' (a := 2) (kl := 1) rfl rfl rfl (by omega) (ev_loc V S' (k := 7) rfl rfl ⟨S', fun s₇ S₇ => ⟨rfl, _, _, ?_, S₇⟩⟩) V.inter
        rw [if_neg hno]
        exact hP.snoc hv'
      refine wpAny_If (wpAny_isTrue_BoolOp (wpAny_allTrue_Or_cons (wpAny_isTrue_Compare1 (ev_loc V S₆ (k := 3) rfl rfl (ev_str S₆ fun t5 s₇ S₇ _ _ => P.ne_str (wpAny_truthy_bool ?_))))))
      rw [mkS_toList, c13]
      by_cases h13 : la = [13]
      · rw [show (la != [13]) = false by rw [h13]; rfl, if_neg (by decide)]
        refine wpAny_allTrue_Or_cons (wpAny_isTrue_Compare1 (ev_loc V S₇ (k := 4) rfl rfl (ev_str S₇ fun t6 s₈ S₈ _ _ => P.ne_str (wpAny_truthy_bool ?_))))
        rw [mkS_toList, c10]
        by_cases h10 : p.pat = [10]
        · rw [show (p.pat != [10]) = false by rw [h10]; rfl, if_neg (by decide)]
          refine wpAny_allTrue_Or_nil ?_
          rw [if_neg (by decide)]
          exact wpAny_execs_nil ⟨rfl, ys, n, by rw [if_pos ⟨h13, h10⟩]; exact hP, S₈⟩
        · rw [show (p.pat != [10]) = true by rw [bne_iff_ne]; exact h10, if_pos rfl, if_pos rfl]
          exact wpAny_execs_cons (wpAny_mono (add _ S₈ fun h => h10 h.2) (fun fl s' h => by obtain ⟨rfl, h⟩ := h; exact wpAny_execs_nil ⟨rfl, h⟩) fun _ _ x => x)
      · rw [show (la != [13]) = true by rw [bne_iff_ne]; exact h13, if_pos rfl, if_pos rfl]
        exact wpAny_execs_cons (wpAny_mono (add _ S₇ fun h => h13 h.1) (fun fl s' h => by obtain ⟨rfl, h⟩ := h; exact wpAny_execs_nil ⟨rfl, h⟩) fun _ _ x => x)
    rintro fl s₇ ⟨rfl, ys', n', hP', S₇⟩
    refine wpAny_execs_cons (wpAny_Assign_Name (ev_loc V S₇ (k := 4) rfl rfl (st_loc V S₇ (k := 3) rfl fun s₈ S₈ _ => wpAny_execs_nil ⟨rfl, _, _, ⟨tp, some (.str (mkS p.pat) tp), some w2, some w3, some v, ys', n', ?_, rfl, ?_⟩, S₈⟩)) (by rfl))
    · rw [hts, foldA_snoc]; rfl
    · rw [hts, foldA_snoc]
      unfold stepA
      rw [hla, hac]
      exact hP'
  · rintro vs objs s' ⟨t, v1, v2, v3, v4, ys, n, rfl, rfl, hP⟩ S'
    refine wpAny_execs_cons (wpAny_Return_some (ev_loc V S' (k := 2) rfl rfl ?_))
    have hm := List.mem_cons_self (a := (r, lstO ys n)) (l := [])
    have e : ps.take xs.length = ps := by rw [hp.length.symm]; exact List.take_length
    rw [e] at hP
    exact hQ r ys n s' S'.ext (S'.obj _ hm).2.2.1 (S'.get hm) hP
  · obtain ⟨p, hpi, a, _, _, _, rfl, _⟩ := paired_get hp hv
    exact ⟨a, rfl⟩
end
end Mine
open PySem PySem.W PyProof.Rows PySem.Calls
set_option linter.unusedVariables false
set_option maxRecDepth 100000
namespace Mine
section
variable {w : World} {A : Around} {E : Value → Shared → Prop} {s₀ s s' : Shared} {L : Addr} {ns gs : List Str} {vs : List (Option Value)} {objs : List (Addr × Obj)} {env : Env}

/-- the last of a list is another -/
theorem setItem_last {l : Addr} {items : Array Value} {n : Nat} {t : Tok} {v : Value} {Q : Unit → Shared → Prop} (ho : s.heap.get? l = some { cls := .type "list", data := .seq items n })
    (hn : 0 < items.size)
    (hQ : Q () { s with heap := s.heap.update l (Obj.mapSeq (·.setIfInBounds (items.size - 1) v)) }) : wpAny (Md w) A (setItem (.ref l) (.int (-1) t) v) Q E s := by
  have hl : s.heap.IsList l items := ⟨_, ho, rfl, _, rfl⟩
  unfold setItem
  try with_reducible refine wpAny_holding ?_
  first | refine wpAny_bind (wpAny_pure ?_) | skip
  refine wpAny_bind (wpAny_sequenceKey hl.typeIs (by decide) ?_)
  refine wpAny_bind (wpAny_callSpecial?_slot (name := Str.ofString "__setitem__") hl.typeIs slot_list_setitem
    (wpAny_call_entry slot_list_setitem hl.typeIs entry_list_setitem ?_ (args_list_setitem _ _ _)))
  show wpAny _ _ (Builtin.List.listSubscript? (.int (-1) t) >>= _) _ _ s
  refine wpAny_bind (wpAny_listSubscript_int (fitsIndex_neg (by decide) (by decide)) ?_)
  have hidx := seqIndex_neg (k := -1) (n := items.size) (by decide) (by omega)
  have hx' : items[items.size - 1]? = some items[items.size - 1] := Array.getElem?_eq_getElem (by omega)
  show wpAny _ _ ((Builtin.List.listItems (.ref l) >>= fun xs => pure ((seqIndex? (-1) xs.size).bind fun i => xs[i]?.map (i, ·))) >>= _) _ _ s
  refine wpAny_bind (wpAny_bind ?_)
  show wpAny _ _ (seqItems? (.ref l) >>= _) _ _ s
  refine wpAny_bind (wpAny_seqItems ho rfl (wpAny_pure (wpAny_pure ?_)))
  rw [hidx, show ((-1 : Int) + (items.size : Nat)).toNat = items.size - 1 by omega]
  simp only [Option.bind_some, hx', Option.map_some]
  show wpAny _ _ (setSeqItemAt l (items.size - 1) v >>= _) _ _ s
  refine wpAny_bind (wpAny_setSeqItemAt ho rfl ?_)
  first
    | exact wpAny_bind (wpAny_pure (wpAny_pure ⟨.none, rfl, wpAny_pure hQ⟩))
    | exact wpAny_pure ⟨.none, rfl, wpAny_pure hQ⟩
theorem set_last {k n : Nat} {l : Addr} {t : Tok} {xs : List Value} {x v : Value} {Q : Unit → Shared → Prop} (S : Mst w s₀ L ns vs objs s) (hk : objs[k]? = some (l, lstO (xs ++ [x]) n))
    (h : ∀ m s', Mst w s₀ L ns vs (objs.set k (l, lstO (xs ++ [v]) m)) s' → Q () s') : wpAny (Md w) A (setItem (.ref l) (.int (-1) t) v) Q E s := by
  have hmap : Obj.mapSeq (·.setIfInBounds ((xs ++ [x]).toArray.size - 1) v) (lstO (xs ++ [x]) n) = lstO (xs ++ [v]) n := by
    have e : (xs ++ [x]).length - 1 = xs.length := by simp
    simp only [Obj.mapSeq, lstO, List.size_toArray, e, List.setIfInBounds_toArray]
    rw [List.set_append_right _ _ (Nat.le_refl _), Nat.sub_self]
    simp
  exact setItem_last (S.get (List.mem_of_getElem? hk)) (by simp) (h n _ (S.upd hk hmap))

theorem add_m {p q : List Nat} {t u : Tok} {Q : Value → Shared → Prop} (S : Mst w s₀ L ns vs objs s) (hsz : p.length + q.length ≤ 10000000) (h : ∀ t' s', Mst w s₀ L ns vs objs s' → Q (.str (mkS (p ++ q)) t') s') :
    wpAny (Md w) A (binaryOp .Add (.str (mkS p) t) (.str (mkS q) u)) Q E s := by
  refine gainQ (add_str (fun t' tk m => ?_) (by rw [size_mk, size_mk]; have : sizeLine = 16777216 := rfl; omega))
  rw [show (mkS p ++ mkS q : Str) = mkS (p ++ q) from str_ext (by show (p.toArray ++ q.toArray).toList = _; simp [mkS])]
  exact h _ _ (S.tok m.toks)
theorem iadd_m {p q : List Nat} {t u : Tok} {Q : Value → Shared → Prop} (S : Mst w s₀ L ns vs objs s) (hsz : p.length + q.length ≤ 10000000) (h : ∀ t' s', Mst w s₀ L ns vs objs s' → Q (.str (mkS (p ++ q)) t') s') :
    wpAny (Md w) A (inplaceOp .Add (.str (mkS p) t) (.str (mkS q) u)) Q E s := by
  refine gainQ (PyProof.Rows.iadd_str (fun t' tk m => ?_) (by rw [size_mk, size_mk]; have : sizeLine = 16777216 := rfl; omega))
  rw [show (mkS p ++ mkS q : Str) = mkS (p ++ q) from str_ext (by show (p.toArray ++ q.toArray).toList = _; simp [mkS])]
  exact h _ _ (S.tok m.toks)
theorem mk_str (x : Str) : x = mkS x.cps.toList := str_ext rfl

/-- one slice of a list -/
theorem slicePick_mid (items : Array Value) (h : 1 ≤ items.size) : slicePick items (some 1) (some (-1)) none = (items.toList.drop 1).dropLast.toArray := by
  have e : sliceBounds (some 1) (some (-1)) none items.size = sliceBounds (some ((1 : Nat) : Int)) (some ((items.size - 1 : Nat) : Int)) none items.size := by
    simp only [sliceBounds, Option.getD_none]
    have h1 : ((-1 : Int) < 0) := by omega
    have h2 : ¬ (((items.size - 1 : Nat) : Int) < 0) := by omega
    simp only [h1, h2, if_true, if_false, show (1 : Int) > 0 by decide]
    congr 2
    congr 1
    omega
  rcases Nat.lt_or_ge items.size 2 with h2 | h2
  · have e1 : items.size = 1 := by omega
    have e2 : items.toList.drop 1 = [] := List.drop_eq_nil_of_le (by simp; omega)
    rw [e2]
    unfold slicePick
    rw [e, e1]
    rfl
  · have := slicePick_run items 1 (items.size - 1) (by omega) (by omega)
    unfold slicePick at this ⊢
    rw [e, this, List.dropLast_eq_take]
    congr 2
    simp

theorem Mst.lite (S : Mst w s₀ L ns vs objs s) (x : Lite s s') (m : Mono s₀ s') : Mst w s₀ L ns vs objs s' :=
  ⟨(Lite.trans (Lite.of S.ext) x).ext m, S.good, S.loc.at' fun o e => x.keep _ o S.L57 e, S.nd, S.len, S.newL, S.L57, fun p hp => ⟨x.keep _ _ (S.obj p hp).2.2.2 (S.obj p hp).1, (S.obj p hp).2⟩, S.ond⟩
theorem Mst.mono (S : Mst w s₀ L ns vs objs s) : Mono s₀ s := ⟨S.ext.toks, S.ext.size⟩
theorem Mst.adoptLite (S : Mst w s₀ L ns vs objs s) (x : Lite s s') (m : Mono s₀ s') {D : Addr} {o : Obj} (hD : s.heap.get? D = none) (ho : s'.heap.get? D = some o) : Mst w s₀ L ns vs ((D, o) :: objs) s' := by
  have S' := S.lite x m
  have h57 : D ≠ 57 := fun q => by
    obtain ⟨ps, t⟩ := S.good'.tab
    rw [q, t.1] at hD; cases hD
  refine ⟨S'.ext, S'.good, S'.loc, S'.nd, S'.len, S'.newL, S'.L57, fun p hp => ?_, ?_⟩
  · rcases List.mem_cons.mp hp with rfl | hp
    · refine ⟨ho, fun q => ?_, ?_, h57⟩
      · obtain ⟨o, es, ep, e, _⟩ := S.loc
        have q' : D = L := q
        rw [q', e] at hD; cases hD
      · cases q : s₀.heap.get? D with
        | none => rfl
        | some o' => rw [S.ext.keep _ _ h57 q] at hD; cases hD
    · exact S'.obj p hp
  · rw [List.map_cons, List.nodup_cons]
    refine ⟨fun hm => ?_, S.ond⟩
    obtain ⟨p, hp, e⟩ := List.mem_map.mp hm
    have e' : p.1 = D := e
    have := (S.obj p hp).1
    rw [e', hD] at this; cases this

/-- a list comprehension over a list -/
theorem lcomp {elt iter : Expr} {x : Str} {px : Pos} {scope : Scope} {pos : Pos} {Q : Value → Shared → Prop} {vs' : List (Option Value)} {objs' : List (Addr × Obj)} (F : Value → Value → Prop) (hh : A.handled = none) (S : Mst w s₀ L ns vs' objs' s)
    (hfree : ∀ y ∈ scope.names, y.2 ≠ .free) (hcell : ∀ y ∈ scope.names, y.2 ≠ .cell) (hkind : scope.kind = .function)
    (hnames : ∀ y ∈ scope.names, y.2 = .local → scope.names.lookup y.1 = some .local) (hx : scope.names.lookup x = some .local)
    (h : wpAny (Md w) A (eval iter env) (fun xv s₁ => ∃ ax xs, xv = .ref ax ∧ Mst w s₀ L ns vs objs s₁ ∧ s₁.heap.IsList ax xs.toArray ∧ xs.length ≤ 100000 ∧
      (∀ C v s₂ m₂ E', v ∈ xs → s₂.heap.Ns C m₂ → m₂ x = some v → (∀ b o, s₁.heap.get? b = some o → s₂.heap.get? b = some o) → wpAny (Md w) A (eval elt (compEnv scope C env)) (fun y s₃ => F v y ∧ Keeps s₂ s₃) E' s₂) ∧
      (∀ D ys o s', Mst w s₀ L ns vs ((D, o) :: objs) s' → s'.heap.IsList D ys.toArray → Paired F xs ys → Q (.ref D) s')) E s)
    (hs : ∀ x, foldedSetIterable iter env x = pure x := by intro _; rfl) :
    wpAny (Md w) A (eval (.ListComp elt [⟨.Name x px, iter, [], 0⟩] scope pos) env) Q E s := by
  refine gainQ (wpAny_ListComp_map (fun _ => true) F hh hfree hcell hkind hnames hx (wpAny_mono h (fun xv s₁ h₁ => ?_) fun _ _ e => e) hs)
  obtain ⟨ax, xs, rfl, S₁, hl, hsz, helt, hQ⟩ := h₁
  refine ⟨ax, xs.toArray, rfl, hl, by rw [List.size_toArray]; have : sizeLine = 16777216 := rfl; omega, fun C v s₂ m₂ E' hv hn hm hk => wpAny_tests_nil ⟨rfl, Keeps.refl' s₂⟩,
    fun C v s₂ m₂ E' hv _ hn hm hk => helt C v s₂ m₂ E' (by simpa using hv) hn hm hk, fun D h' tk ys hD hl' hF hk m => ?_⟩
  obtain ⟨o, ho, hc, hd⟩ := id hl'
  have e : ys.toList.toArray = ys := by simp
  have hm := S.mono
  refine hQ D ys.toList o _ (S₁.adoptLite (s' := { s₁ with heap := h', toks := tk }) (Lite.of_keep hk (fun x => x) rfl) (hm.trans m) hD ho) (by rw [e]; exact hl') ?_
  rw [List.filter_eq_self.mpr (fun _ _ => rfl)] at hF
  exact hF

/-- ''.join of a list -/
theorem join_s' {l : Addr} {x0 : Str} {xs : List Value} {u : Tok} {out : List Nat} {Q : Value → Shared → Prop} (S : Mst w s₀ L ns vs objs s) (hl : s.heap.IsList l xs.toArray) (hc : CatIs xs out) (hsz : out.length ≤ 10000000)
    (h : ∀ t s', Mst w s₀ L ns vs objs s' → Q (.str (mkS out) t) s') (hx0 : x0 = Str.empty := by rfl) : wpAny (Md w) A (call (.builtin "str.join") [.str x0 u, .ref l]) Q E s := by
  subst hx0
  obtain ⟨ys, a, b⟩ := hc
  refine gainQ (join_list (items := xs.toArray) hl (by simpa using a) ?_ fun t' k m => ?_)
  · have := catL_length ys
    rw [b] at this
    have e : (Str.empty).length = 0 := rfl
    rw [e]; omega
  · rw [join_mk b]
    exact h _ _ (S.tok m.toks)
end
end Mine
open PySem PySem.W PyProof.Rows PySem.Calls
set_option linter.unusedVariables false
set_option maxRecDepth 100000
namespace Mine
/-! ## what _law_text gives -/
def rStep (st : List (List Nat) × List Nat) : Pt → List (List Nat) × List Nat
  | some x => (st.1, st.2 ++ x)
  | none => if st.2 ≠ [] ∨ st.1 = [] then (st.1 ++ [st.2], []) else st
def rFold (pts : List Pt) : List (List Nat) × List Nat := pts.foldl rStep ([], [])
theorem rFold_snoc (pts : List Pt) (p : Pt) : rFold (pts ++ [p]) = rStep (rFold pts) p := by simp [rFold]
def lawL (pts : List Pt) : List Nat := [40, 63, 115, 58] ++ textOf ((rFold pts).1 ++ [(rFold pts).2]) ++ [41, 92, 90]
def wrapR (r : List Nat) : List Nat := [40, 63, 62, 46, 42, 63] ++ r ++ [41]
theorem tailR_snoc : ∀ (mid : List (List Nat)) (last : List Nat), tailR (mid ++ [last]) = (mid.map wrapR).flatten ++ ([46, 42] ++ last)
  | [], last => by simp [tailR]
  | m :: mid, last => by
    have ih := tailR_snoc mid last
    have e : tailR (m :: (mid ++ [last])) = wrapR m ++ tailR (mid ++ [last]) := by
      cases h : mid ++ [last] with
      | nil => simp at h
      | cons a b => simp [tailR, wrapR]
    rw [List.cons_append, e, ih]
    simp
def tot (st : List (List Nat) × List Nat) : Nat := (st.1.map List.length).sum + st.2.length
theorem rStep_tot (st : List (List Nat) × List Nat) (p : Pt) (hp : ∀ x, p = some x → x.length ≤ 1000) : tot (rStep st p) ≤ tot st + 1000 ∧ (rStep st p).1.length ≤ st.1.length + 1 := by
  cases p with
  | none =>
    show tot (if st.2 ≠ [] ∨ st.1 = [] then (st.1 ++ [st.2], []) else st) ≤ _ ∧ (if st.2 ≠ [] ∨ st.1 = [] then (st.1 ++ [st.2], []) else st).1.length ≤ _
    by_cases h : st.2 ≠ [] ∨ st.1 = []
    · rw [if_pos h]; simp [tot]
    · rw [if_neg h]; exact ⟨Nat.le_add_right _ _, Nat.le_succ _⟩
  | some x => have := hp x rfl; simp [rStep, tot]; omega
theorem foldl_tot : ∀ (pts : List Pt) (st : List (List Nat) × List Nat), (∀ p ∈ pts, ∀ x, p = some x → x.length ≤ 1000) → tot (pts.foldl rStep st) ≤ tot st + 1000 * pts.length ∧ (pts.foldl rStep st).1.length ≤ st.1.length + pts.length
  | [], st, _ => by simp
  | p :: r, st, h => by
    have h1 := rStep_tot st p (h p (List.mem_cons_self ..))
    have h2 := foldl_tot r (rStep st p) fun q hq => h q (List.mem_cons_of_mem _ hq)
    simp only [List.foldl_cons, List.length_cons]
    omega
theorem rFold_tot (pts : List Pt) (h : ∀ p ∈ pts, ∀ x, p = some x → x.length ≤ 1000) : tot (rFold pts) ≤ 1000 * pts.length ∧ (rFold pts).1.length ≤ pts.length := by
  have := foldl_tot pts ([], []) h
  simpa [tot, rFold] using this
theorem flat_wrap (mid : List (List Nat)) : (mid.map wrapR).flatten.length = (mid.map List.length).sum + 7 * mid.length := by
  induction mid with
  | nil => rfl
  | cons m r ih => simp only [List.map_cons, List.flatten_cons, List.length_append, ih, List.sum_cons, List.length_cons, wrapR, List.length_nil]; omega

/-- a value that is a text -/
def SV (x : List Nat) (v : Value) : Prop := ∃ t, v = .str (mkS x) t
theorem paired_at {α β : Type} {F : α → β → Prop} : ∀ {l : List α} {m : List β}, Paired F l m → ∀ {i : Nat} {a : α}, l[i]? = some a → ∃ b, m[i]? = some b ∧ F a b
  | _, _, .nil, i, b, h => by simp at h
  | _, _, .cons (b := b) f _, 0, a, h => ⟨b, rfl, by simp at h; exact h ▸ f⟩
  | _, _, .cons f r, i + 1, a, h => by simpa using paired_at r (i := i) (by simpa using h)
theorem cat_of : ∀ {rs : List (List Nat)} {vs : List Value}, Paired SV rs vs → CatIs vs rs.flatten
  | _, _, .nil => .nil
  | _, _, .cons (a := x) ⟨t, e⟩ r => by
    obtain ⟨ys, h1, h2⟩ := cat_of r
    subst e
    exact ⟨mkS x :: ys, .cons _ _ h1, by rw [catL_cons, h2]; rfl⟩
theorem paired_comp {rs : List (List Nat)} {vs ws : List Value} {F : Value → Value → Prop} {g : List Nat → List Nat} (h : ∀ x v y, SV x v → F v y → SV (g x) y) : Paired SV rs vs → Paired F vs ws → Paired SV (rs.map g) ws := by
  intro a b
  induction a generalizing ws with
  | nil => cases b; exact .nil
  | cons f _ ih => cases b with | cons f' r' => exact .cons (h _ _ _ f f') (ih r')
theorem paired_drop {α β : Type} {F : α → β → Prop} : ∀ {l : List α} {m : List β}, Paired F l m → ∀ n, Paired F (l.drop n) (m.drop n)
  | _, _, h, 0 => by simpa using h
  | _, _, .nil, n + 1 => by simpa using .nil
  | _, _, .cons _ r, n + 1 => by simpa using paired_drop r n
theorem paired_dropLast {α β : Type} {F : α → β → Prop} {l : List α} {m : List β} (h : Paired F l m) : Paired F l.dropLast m.dropLast := by
  induction h with
  | nil => exact .nil
  | cons f r ih =>
    cases r with
    | nil => exact .nil
    | cons f' r' => exact .cons f ih
theorem mem_le_sum : ∀ {l : List (List Nat)} {x : List Nat}, x ∈ l → x.length ≤ (l.map List.length).sum
  | a :: r, x, h => by
    simp only [List.map_cons, List.sum_cons]
    rcases List.mem_cons.mp h with rfl | h
    · omega
    · have := mem_le_sum h; omega
theorem paired_wrap {N : Nat} {g : List Nat → List Nat} : ∀ {md : List (List Nat)} {zs ys : List Value}, Paired SV md zs → (∀ x ∈ md, x.length ≤ N) → Paired (fun v y => ∀ x, SV x v → x.length ≤ N → SV (g x) y) zs ys → Paired SV (md.map g) ys
  | _, _, _, .nil, _, .nil => .nil
  | _, _, _, .cons f r, h, .cons f' r' => .cons (f' _ f (h _ (List.mem_cons_self ..))) (paired_wrap r (fun x hx => h x (List.mem_cons_of_mem _ hx)) r')
theorem keeps_trans {s s' s'' : Shared} (x : Keeps s s') (y : Keeps s' s'') : Keeps s s'' := by
  obtain ⟨h, t, rfl, k⟩ := x
  obtain ⟨h', t', rfl, k'⟩ := y
  exact ⟨h', t', rfl, fun b o e => k' b o (k b o e)⟩

def ns112 : List Str := [Str.ofString "parts", Str.ofString "runs", Str.ofString "part", Str.ofString "inner"]
def gs112 : List Str := [Str.ofString "len"]
theorem V112 (L : Addr) : EnvOk (callEnv (fd 112) L 112) L ns112 gs112 := envOk_of (by kernel_rfl) (by kernel_rfl) (by kernel_rfl) (by kernel_rfl) (by kernel_rfl) (by kernel_rfl)
theorem em : Str.ofString "" = mkS [] := by decide +kernel
theorem mpre : Str.ofString "(?>.*?" = mkS [40, 63, 62, 46, 42, 63] := by decide +kernel
theorem mpost : Str.ofString ")" = mkS [41] := by decide +kernel
theorem mds : Str.ofString ".*" = mkS [46, 42] := by decide +kernel
theorem mhd : Str.ofString "(?s:" = mkS [40, 63, 115, 58] := by decide +kernel
theorem mtl : Str.ofString ")\\Z" = mkS [41, 92, 90] := by decide +kernel
section
variable {w : World} {A : Around} {E : Value → Shared → Prop} {s : Shared} {env : Env}
theorem wrap_elt {x : Str} {px p1 p2 p3 p4 : Pos} {n1 n2 : Nat} {a b : Str} {C : Addr} {scope : Scope} {m : Str → Option Value} {r : List Nat} {t : Tok} (hk : scope.kind = .function) (hx : scope.names.lookup x = some .local) (hd : (x == ("__debug__" : Str)) = false)
    (hn : s.heap.Ns C m) (hm : m x = some (.str (mkS r) t)) (ha : a = mkS [40, 63, 62, 46, 42, 63]) (hb : b = mkS [41]) (hr : r.length ≤ 5000000) :
    wpAny (Md w) A (eval (.BinOp (.BinOp (.Constant (.str a) n1 p1) .Add (.Name x px) p2) .Add (.Constant (.str b) n2 p3) p4) (compEnv scope C env)) (fun y s₃ => SV (wrapR r) y ∧ Keeps s s₃) E s := by
  subst ha; subst hb
  have hs : sizeLine = 16777216 := rfl
  have e1 : (mkS [40, 63, 62, 46, 42, 63] ++ mkS r : Str) = mkS ([40, 63, 62, 46, 42, 63] ++ r) := str_ext (by show (_ ++ _ : Array Nat).toList = _; simp [mkS])
  have e2 : (mkS ([40, 63, 62, 46, 42, 63] ++ r) ++ mkS [41] : Str) = mkS (wrapR r) := str_ext (by show (_ ++ _ : Array Nat).toList = _; simp [mkS, wrapR])
  refine wpAny_BinOp (wpAny_BinOp (wpAny_Constant_str (wpAny_Name (wpAny_loadName_local hk hx hn hm ?_) hd)))
  refine add_str (fun t' k => ?_) (by rw [size_mk, size_mk, hs]; simp; omega)
  rw [e1]
  refine wpAny_Constant_str (add_str (fun t2 k2 => ?_) (by rw [size_mk, size_mk, hs]; simp; omega))
  rw [e2]
  exact ⟨⟨t2, rfl⟩, ⟨s.heap, k2, rfl, fun _ _ e => e⟩⟩

set_option maxHeartbeats 2000000 in
theorem call_text {l : Addr} {pts : List Pt} {xs : List Value} {Q : Value → Shared → Prop} (ok : OkA A 3 20) (g : Good w s) (h57 : l ≠ 57) (hl : s.heap.IsList l xs.toArray) (hp : Paired OV pts xs) (hn : pts.length ≤ 1000)
    (hsz : ∀ p ∈ pts, ∀ x, p = some x → x.length ≤ 1000) (hQ : ∀ t' s', Ext s s' → Q (.str (mkS (lawL pts)) t') s') : wpAny (Md w) A (call (.ref 112) [.ref l]) Q E s := by
  refine enter (fd := fd 112) (d := 2) (u := 17) (ns := ns112) (gs := gs112) (body := bodyOf 112) (binds := [(Str.ofString "parts", .ref l)]) ok.mono g K112 ck112 body112 rfl (by decide) (locs rfl) (fm_one _ _ _) (by decide) rfl (V112 _) ?_ (by kernel_rfl) (by kernel_rfl) (by kernel_rfl)
  intro env L s₁ A' ok' V hc hq _ S
  have keepL : ∀ {vs objs s'}, Mst w s L ns112 vs objs s' → s'.heap.IsList l xs.toArray := fun S' => by
    obtain ⟨o, e, r⟩ := hl
    exact ⟨o, S'.ext.keep _ _ h57 e, r⟩
  refine wpAny_execs_cons (wpAny_Assign_Name (List_ (wpAny_items_cons (ev_str S fun te s₂ S₂ _ _ => wpAny_items_nil (wpAny_newList (st_loc V (S₂.push (o := lstO [.str (Str.ofString "") te] 0)) (k := 1) rfl fun s₃ S₃ _ => ?_) (by show 1 ≤ sizeLine; decide))))) (by rfl))
  generalize hr : s₂.heap.objs.size = r at S₃
  refine wpAny_execs_cons (forl (l := l) (xs := xs) (ns := ns112) (s₀ := s) (L := L) (J := fun i vs objs => ∃ v1 t ivs n, vs = [some (.ref l), some (.ref r), v1, none] ∧ objs = [(r, lstO (ivs ++ [Value.str (mkS (rFold (pts.take i)).2) t]) n)] ∧ Paired SV (rFold (pts.take i)).1 ivs)
    ok'.hh (ev_loc V S₃ (k := 0) rfl rfl ⟨rfl, keepL S₃, _, _, ⟨none, te, [], 0, rfl, ?_, .nil⟩, S₃⟩) ?_ ?_ ?_ (.inl fun _ _ => by rfl) (fun _ => by rfl))
  · show [(r, lstO [.str (Str.ofString "") te] 0)] = [(r, lstO ([] ++ [.str (mkS []) te]) 0)]
    rw [em]; rfl
  · rintro i vs objs it o s' ⟨v1, t, ivs, n, rfl, rfl, hP⟩ S'
    exact keepL S'
  · rintro i vs objs it o s' v ⟨v1, t, ivs, n, rfl, rfl, hP⟩ hv S'
    obtain ⟨p, hpi, hpv⟩ := paired_get hp hv
    have hts := take_snoc hpi
    have hpm := List.mem_of_getElem? hpi
    have hils := (List.getElem?_eq_some_iff.mp hpi).1
    have htot := rFold_tot (pts.take i) fun q hq => hsz q (List.mem_of_mem_take hq)
    have hlt : (pts.take i).length ≤ 1000 := by rw [List.length_take]; omega
    have hmul : 1000 * (pts.take i).length ≤ 1000000 := by omega
    have hiv : ivs.length ≤ 1000 := by have := hP.length; omega
    rw [hts, rFold_snoc]
    generalize rFold (pts.take i) = st at hP S' htot ⊢
    obtain ⟨init, last⟩ := st
    have hla : last.length ≤ 1000000 := by have : tot (init, last) = (init.map List.length).sum + last.length := rfl; omega
    refine wpAny_assign_Name (st_loc V S' (k := 2) rfl fun s₄ S₄ _ => ?_)
    simp only [List.set] at S₄
    have hm := List.mem_cons_of_mem (it, o) (List.mem_cons_self (a := (r, lstO (ivs ++ [Value.str (mkS last) t]) n)) (l := []))
    have hlast : (ivs ++ [Value.str (mkS last) t]).getLast? = some (.str (mkS last) t) := by simp
    refine wpAny_execs_cons (wpAny_If (wpAny_isTrue_Compare1 (ev_loc V S₄ (k := 2) rfl rfl (wpAny_Constant_none ?_))))
    cases p with
    | some x =>
      obtain ⟨tx, rfl⟩ := hpv
      have hxl := hsz _ hpm x rfl
      refine isnot_str_none (wpAny_truthy_bool ?_)
      rw [if_pos rfl]
      refine wpAny_execs_cons (wpAny_AugAssign_SubscriptAny (ev_loc V S₄ (k := 1) rfl rfl (ev_neg1 S₄ fun t5 s₅ S₅ => ?_)) (by intros; rfl))
      have hl5 := S₅.get hm
      refine wpAny_getItem_list_neg (items := (ivs ++ [Value.str (mkS last) t]).toArray) ⟨_, hl5, rfl, _, rfl⟩ (by decide) (by rw [List.size_toArray, List.length_append]; simp only [List.length_cons, List.length_nil]; omega) (by decide) (x := .str (mkS last) t) ?_ (ev_loc V S₅ (k := 2) rfl rfl (iadd_m S₅ (by omega) fun t6 s₆ S₆ => ?_))
      · rw [List.size_toArray, List.length_append, List.getElem?_toArray]
        simp only [List.length_cons, List.length_nil]
        rw [show ((-1 : Int) + ((ivs.length + (0 + 1) : Nat) : Int)).toNat = ivs.length by omega, List.getElem?_append_right (Nat.le_refl _), Nat.sub_self]
        rfl
      · refine set_last S₆ (k := 1) rfl fun m s₇ S₇ => wpAny_execs_nil (wpAny_execs_nil ⟨rfl, _, _, ⟨_, t6, ivs, m, rfl, rfl, hP⟩, S₇⟩)
    | none =>
      obtain rfl : v = .none := hpv
      refine isnot_none_none (wpAny_truthy_bool ?_)
      rw [if_neg (by decide)]
      have addE : ∀ s', Mst w s L ns112 [some (.ref l), some (.ref r), some .none, none] [(it, o), (r, lstO (ivs ++ [Value.str (mkS last) t]) n)] s' → (last ≠ [] ∨ init = []) →
          wpAny (Md w) A' (exec (.Expr (.Call (.Attribute (.Name (Str.ofString "runs") ⟨148, 12, 148, 16⟩) (Str.ofString "append") ⟨148, 12, 148, 23⟩) [.Constant (.str (Str.ofString "")) 0 ⟨148, 24, 148, 26⟩] [] ⟨148, 12, 148, 27⟩) ⟨148, 12, 148, 27⟩) env)
            (fun fl s' => fl = .next ∧ ∃ vs' objs', (∃ v1 t ivs n, vs' = [some (.ref l), some (.ref r), v1, none] ∧ objs' = [(r, lstO (ivs ++ [Value.str (mkS (rStep (init, last) none).2) t]) n)] ∧ Paired SV (rStep (init, last) none).1 ivs) ∧ Mst w s L ns112 vs' ((it, o) :: objs') s') (fun _ _ => False) s' := by
        intro s' S' hc
        refine appx V S' (a := 1) (kl := 1) rfl rfl rfl (by simp; omega) (ev_str S' fun t6 s₆ S₆ _ _ => ⟨S₆, fun s₇ S₇ => ⟨rfl, _, _, ⟨some .none, t6, ivs ++ [Value.str (mkS last) t], n + 1, rfl, ?_, ?_⟩, S₇⟩⟩) V.inter
        · rw [em]
          have : (rStep (init, last) none).2 = [] := by simp only [rStep, if_pos hc]
          rw [this]; rfl
        · have : (rStep (init, last) none).1 = init ++ [last] := by simp only [rStep, if_pos hc]
          rw [this]
          exact hP.snoc ⟨t, rfl⟩
      refine wpAny_execs_cons (wpAny_If (wpAny_isTrue_BoolOp (wpAny_allTrue_Or_cons (wpAny_isTrue_Compare1 (ev_last V S₄ (a := 1) rfl rfl hm hlast (by simp; omega) fun s₅ S₅ => ev_str S₅ fun t6 s₆ S₆ _ _ => P.ne_str (wpAny_truthy_bool ?_))))))
      rw [mkS_toList, em, mkS_toList]
      by_cases hne : last = []
      · rw [show (last != []) = false by rw [hne]; rfl, if_neg (by decide)]
        refine wpAny_allTrue_Or_cons (wpAny_isTrue_Compare1 (Call_ (ev_bi V S₆ (k := 0) rfl gl_no_len bo_len (by decide) (cw_b (wpAny_items_cons (ev_loc V S₆ (k := 1) rfl rfl (wpAny_items_nil (len_l S₆ (S₆.get hm) (by simp; omega) fun t7 s₇ S₇ => ev_int S₇ fun t8 s₈ S₈ _ _ => P.eq_int (wpAny_truthy_bool ?_)))))))))
        have hil : ivs.length = init.length := hP.length.symm
        by_cases hi : init = []
        · have h0 : ivs = [] := by rw [hi] at hil; exact List.length_eq_zero_iff.mp hil
          rw [show (((ivs ++ [Value.str (mkS last) t]).length : Int) == 1) = true by rw [h0]; rfl, if_pos rfl, if_pos rfl]
          exact wpAny_execs_cons (wpAny_mono (addE _ S₈ (.inr hi)) (fun fl s' h => by obtain ⟨rfl, h⟩ := h; exact wpAny_execs_nil (wpAny_execs_nil (wpAny_execs_nil ⟨rfl, h⟩))) fun _ _ x => x)
        · have h0 : ivs.length ≠ 0 := by rw [hil]; exact fun h => hi (List.length_eq_zero_iff.mp h)
          rw [show (((ivs ++ [Value.str (mkS last) t]).length : Int) == 1) = false by rw [beq_eq_false_iff_ne]; simp; omega, if_neg (by decide)]
          refine wpAny_allTrue_Or_nil ?_
          rw [if_neg (by decide)]
          refine wpAny_execs_nil (wpAny_execs_nil (wpAny_execs_nil ⟨rfl, _, _, ⟨some .none, t, ivs, n, rfl, ?_, ?_⟩, S₈⟩))
          · simp only [rStep]; rw [if_neg (by simp [hne, hi])]
          · simp only [rStep]; rw [if_neg (by simp [hne, hi])]; exact hP
      · rw [show (last != []) = true by rw [bne_iff_ne]; exact hne, if_pos rfl, if_pos rfl]
        exact wpAny_execs_cons (wpAny_mono (addE _ S₆ (.inl hne)) (fun fl s' h => by obtain ⟨rfl, h⟩ := h; exact wpAny_execs_nil (wpAny_execs_nil (wpAny_execs_nil ⟨rfl, h⟩))) fun _ _ x => x)
  · rintro vs objs s' ⟨v1, t, ivs, n, rfl, rfl, hP⟩ S'
    have e : pts.take xs.length = pts := by rw [hp.length.symm]; exact List.take_length
    have htot := rFold_tot pts hsz
    have hmul : 1000 * pts.length ≤ 1000000 := by omega
    rw [e] at hP S'
    have hlaw : lawL pts = [40, 63, 115, 58] ++ textOf ((rFold pts).1 ++ [(rFold pts).2]) ++ [41, 92, 90] := rfl
    generalize rFold pts = st at hP S' hlaw htot
    obtain ⟨init, last⟩ := st
    have hs : sizeLine = 16777216 := rfl
    have htt : tot (init, last) = (init.map List.length).sum + last.length := rfl
    have hiv : ivs.length ≤ 1000 := by have := hP.length; omega
    have hil : ivs.length = init.length := hP.length.symm
    have hm := List.mem_cons_self (a := (r, lstO (ivs ++ [Value.str (mkS last) t]) n)) (l := [])
    have hlast : (ivs ++ [Value.str (mkS last) t]).getLast? = some (.str (mkS last) t) := by simp
    have hPa : Paired SV (init ++ [last]) (ivs ++ [Value.str (mkS last) t]) := hP.snoc ⟨t, rfl⟩
    obtain ⟨r0, mid, hr0⟩ : ∃ r0 mid, init ++ [last] = r0 :: mid := by cases init with | nil => exact ⟨_, _, rfl⟩ | cons a b => exact ⟨_, _, rfl⟩
    obtain ⟨v0, hv0, t0, rfl⟩ := paired_at hPa (i := 0) (a := r0) (by rw [hr0]; rfl)
    have hsum : r0.length + (mid.map List.length).sum ≤ 1000000 := by
      have h1 : ((init ++ [last]).map List.length).sum = (init.map List.length).sum + last.length := by simp
      rw [hr0] at h1
      simp only [List.map_cons, List.sum_cons] at h1
      omega
    have hmidl : mid.length ≤ 1000 := by
      have h1 := congrArg List.length hr0
      simp only [List.length_append, List.length_cons, List.length_nil] at h1
      omega
    have hmidd : (mid.dropLast.map List.length).sum ≤ (mid.map List.length).sum := by
      clear hr0 hsum hmidl
      induction mid with
      | nil => exact Nat.le_refl _
      | cons a b ih => cases b with | nil => simp | cons c d => simp only [List.dropLast_cons_cons, List.map_cons, List.sum_cons] at ih ⊢; omega
    refine wpAny_execs_cons (wpAny_Assign_Name (wpAny_BinOp ?_) (by rfl))
    refine Subscript_ (ev_loc V S' (k := 1) rfl rfl (ev_int S' fun t1 s₁ S₁ _ _ => subscriptTail_builtin (T := "list") ⟨_, S₁.get hm, rfl⟩ F.slot_list_getitem.lookup (item_l (k := 0) (S₁.get hm) hv0 (by simp; omega) ?_)))
    refine mcall1 (ev_str S₁ fun t2 s₂ S₂ _ _ pl => ?_) (by rfl) (by rfl) (by rfl)
    with_reducible refine gm_str F.slot_str_join F.type_str_join ?_
    refine cw_m (wpAny_items_cons (lcomp (vs := [some (.ref l), some (.ref r), v1, none]) (objs := [(r, lstO (ivs ++ [Value.str (mkS last) t]) n)]) (s₀ := s) (L := L) (ns := ns112) (F := fun v y => ∀ x, SV x v → x.length ≤ 1000000 → SV (wrapR x) y) ok'.hh S₂ (by decide) (by decide) (by rfl) (by decide) (by rfl) ?_ (fun _ => by rfl)))
    refine wpAny_Subscript_list_slice (ev_loc V S₂ (k := 1) rfl rfl ?_) (by intro _ _; rfl)
    show wpAny _ _ (eval (.Constant (.int 1) 0 ⟨149, 68, 149, 69⟩) env) _ _ _
    refine ev_int S₂ fun t3 s₃ S₃ _ _ => ?_
    show wpAny _ _ (eval (.UnaryOp .USub (.Constant (.int 1) 0 ⟨149, 71, 149, 72⟩) ⟨149, 70, 149, 72⟩) env) _ _ _
    refine ev_neg1 S₃ fun t4 s₄ S₄ => ?_
    refine ⟨r, (ivs ++ [Value.str (mkS last) t]).toArray, some 1, some (-1), rfl, ⟨_, S₄.get hm, rfl, _, rfl⟩, by rw [hs]; simp; omega, .int _ _, .int _ _, ?_⟩
    rw [slicePick_mid _ (by simp)]
    have S₅ := (S₄.push (o := { cls := .type "slice", data := .fields #[.int 1 t3, .int (-1) t4, .none] })).drop1
    have S₆ := S₅.push (o := lstO ((ivs ++ [Value.str (mkS last) t]).drop 1).dropLast 0)
    have hPm : Paired SV mid.dropLast ((ivs ++ [Value.str (mkS last) t]).drop 1).dropLast := by
      have := paired_dropLast (paired_drop hPa 1)
      rw [hr0] at this
      exact this
    refine ⟨s₄.heap.objs.size + 1, ((ivs ++ [Value.str (mkS last) t]).drop 1).dropLast, rfl, ?_, ?_, ?_, ?_, ?_⟩
    · have := S₆.drop1
      simpa [Heap.size_push] using this
    · have := S₆.get (List.mem_cons_self ..)
      rw [Heap.size_push] at this
      exact ⟨_, this, rfl, _, rfl⟩
    · have := hPm.length
      rw [← this, List.length_dropLast]; omega
    · intro C v s₂ m₂ E' hv hn hmx hk
      obtain ⟨i, hi⟩ := List.getElem?_of_mem hv
      obtain ⟨x, hxi, tx, rfl⟩ := paired_get hPm hi
      have hxl : x.length ≤ 1000000 := by
        have h1 : x.length ≤ (mid.dropLast.map List.length).sum := mem_le_sum (List.mem_of_getElem? hxi)
        omega
      refine wpAny_mono (wrap_elt (by rfl) (by rfl) (by decide) hn hmx mpre mpost (by omega)) (fun y s₃ h => ⟨?_, h.2⟩) fun _ _ e => e
      rintro x' ⟨t', e⟩ _
      have ex : x = x' := by
        have := (Value.str.inj e).1
        have := congrArg (fun y : Str => y.cps.toList) this
        simpa [mkS] using this
      rw [← ex]
      exact h.1
    · intro D ys o s' S₇ hD hF
      have hPw : Paired SV (mid.dropLast.map wrapR) ys := by
        have hlen : ∀ x ∈ mid.dropLast, x.length ≤ 1000000 := fun x hx => by
          have h1 : x.length ≤ (mid.dropLast.map List.length).sum := mem_le_sum hx
          omega
        exact paired_wrap hPm hlen hF
      have hfl : (mid.dropLast.map wrapR).flatten.length ≤ 2000000 := by
        rw [flat_wrap, List.length_dropLast]; omega
      refine wpAny_items_nil (join_s' S₇.drop1 hD (cat_of hPw) (by omega) (fun t5 s₈ S₈ => ?_) (by rw [em]; rfl))
      refine add_m S₈ (by omega) fun t6 s₉ S₉ => st_loc V S₉ (k := 3) rfl fun sa Sa _ => ?_
      simp only [List.set] at Sa
      have hin : (r0 ++ (mid.dropLast.map wrapR).flatten).length ≤ 3000000 := by rw [List.length_append]; omega
      generalize hinner : r0 ++ (mid.dropLast.map wrapR).flatten = inner at Sa hin
      refine wpAny_execs_cons (wpAny_Return_some (wpAny_BinOp (wpAny_BinOp (wpAny_BinOp (ev_str Sa fun tb sb Sb _ _ => ev_loc V Sb (k := 3) rfl rfl ?_)))))
      rw [mhd]
      refine add_m Sb (by simp; omega) fun tc sc Sc => ?_
      refine wpAny_IfExp (wpAny_isTrue_Compare1 (Call_ (ev_bi V Sc (k := 0) rfl gl_no_len bo_len (by decide) (cw_b (wpAny_items_cons (ev_loc V Sc (k := 1) rfl rfl (wpAny_items_nil (len_l Sc (Sc.get hm) (by simp; omega) fun t7 s₇ S₇ => ev_int S₇ fun t8 sd Sd _ _ => P.gt_int (wpAny_truthy_bool ?_)))))))))
      by_cases hi : init = []
      · have h0 : ivs = [] := by rw [hi] at hil; exact List.length_eq_zero_iff.mp hil
        rw [show decide (((ivs ++ [Value.str (mkS last) t]).length : Int) > 1) = false by rw [h0]; rfl]
        rw [if_neg (by decide)]
        refine ev_str Sd fun te se Se _ _ => ?_
        rw [em]
        refine add_m Se (by simp; omega) fun tf sf Sf => ev_str Sf fun tg sg Sg _ _ => ?_
        rw [mtl]
        refine add_m Sg (by simp; omega) fun th sh Sh => ?_
        have e1 : r0 = last ∧ mid = [] := by rw [hi] at hr0; simpa using hr0.symm
        have e2 : lawL pts = [40, 63, 115, 58] ++ inner ++ [] ++ [41, 92, 90] := by
          rw [hlaw, ← hinner, hi, e1.1, e1.2]; simp [textOf, tailR]
        rw [← e2]
        exact hQ th sh Sh.ext
      · have h0 : ivs.length ≠ 0 := by rw [hil]; exact fun h => hi (List.length_eq_zero_iff.mp h)
        rw [show decide (((ivs ++ [Value.str (mkS last) t]).length : Int) > 1) = true by rw [decide_eq_true_eq]; simp; omega]
        rw [if_pos rfl]
        refine wpAny_BinOp (ev_str Sd fun te se Se _ _ => ev_last V Se (a := 1) rfl rfl hm hlast (by simp; omega) fun sf Sf => ?_)
        rw [mds]
        refine add_m Sf (by simp; omega) fun tg sg Sg => ?_
        refine add_m Sg (by simp; omega) fun ti si Si => ev_str Si fun tj sj Sj _ _ => ?_
        rw [mtl]
        refine add_m Sj (by simp; omega) fun th sh Sh => ?_
        obtain ⟨i0, ir, hi0⟩ : ∃ a b, init = a :: b := by cases init with | nil => exact absurd rfl hi | cons a b => exact ⟨a, b, rfl⟩
        have e1 : r0 = i0 ∧ mid = ir ++ [last] := by rw [hi0, List.cons_append] at hr0; injection hr0 with h1 h2; exact ⟨h1.symm, h2.symm⟩
        have e2 : lawL pts = [40, 63, 115, 58] ++ inner ++ ([46, 42] ++ last) ++ [41, 92, 90] := by
          rw [hlaw, ← hinner, hi0, e1.1, e1.2, List.cons_append, List.dropLast_concat]
          have e3 : textOf ((i0 :: ir, last).1 ++ [(i0 :: ir, last).2]) = i0 ++ tailR (ir ++ [last]) := rfl
          rw [← List.cons_append, e3, tailR_snoc]; simp
        rw [← e2]
        exact hQ th sh Sh.ext
end
end Mine
open PySem PySem.W PyProof.Rows PySem.Calls
set_option linter.unusedVariables false
set_option maxRecDepth 100000
namespace Mine
/-! ## the pieces of a script -/
def bothL : List Nat := [92, 13, 92, 10]
def pairL : List Nat := [92, 13, 10]
def tblP : List Pc3 := [⟨[42], none, none⟩, ⟨[63], some [46], some [46]⟩, ⟨[10], some bothL, some pairL⟩, ⟨[13], some bothL, some pairL⟩, ⟨[13, 10], some bothL, some (pairL ++ pairL)⟩, ⟨[46], some [92, 46], some [92, 46]⟩,
  ⟨[91, 10, 46, 45, 97, 93], some [91, 13, 10, 46, 45, 97, 93], some [91, 13, 10, 46, 45, 97, 93]⟩, ⟨[91, 33, 13, 93], some [91, 94, 13, 10, 93], some [91, 94, 13, 10, 93]⟩, ⟨[91, 13, 45, 10, 93], some [91, 13, 10, 45, 13, 10, 93], some [40, 63, 33, 41]⟩,
  ⟨[91, 97, 45, 10, 93], some [91, 10, 93], some [40, 63, 33, 41]⟩, ⟨[91, 10, 45, 9, 93], some [91, 13, 93], some [40, 63, 33, 41]⟩, ⟨[91, 33, 10, 45, 9, 93], some [91, 94, 13, 93], some [46]⟩,
  ⟨[91, 9, 45, 10, 93], some [91, 9, 45, 13, 10, 93], some [91, 9, 45, 13, 10, 93]⟩, ⟨[91, 33, 98, 45, 97, 93], some [46], some [46]⟩, ⟨[91, 97, 45, 97, 93], some [91, 97, 45, 97, 93], some [91, 97, 45, 97, 93]⟩]
def codeN (v : Nat) : Nat := if v / 16 % 1112064 < 55296 then v / 16 % 1112064 else v / 16 % 1112064 + 2048
def signN (v : Nat) : Nat := if codeN v ∈ [42, 63, 91, 13, 10] then 97 else codeN v
def pcN (v : Nat) : Pc3 := if h : v % 16 < 15 then tblP[v % 16] else ⟨[signN v], some (escL (signN v)), some (escL (signN v))⟩
def pcOf (x : Int) : Pc3 := pcN (x.fmod 100000000).toNat
def tailPc (n : Nat) : List Int := if n % 3 = 0 then [2, 5, 0, 3, 1] else if n % 3 = 1 then [1, 3] else [5, 4, 0]
def piecesOf (nums : List Int) : List Pc3 := (nums.take 10 ++ tailPc nums.length).map pcOf

/-- a piece among the objects -/
def PcIn (objs : List (Addr × Obj)) (p : Pc3) (v : Value) : Prop := ∃ a t v2 v3, v = .ref a ∧ (a, tupO [.str (mkS p.pat) t, v2, v3]) ∈ objs ∧ OV p.part v2 ∧ OV p.behind v3
theorem PcIn.mono {o o' : List (Addr × Obj)} {p : Pc3} {v : Value} (h : ∀ x ∈ o, x ∈ o') (x : PcIn o p v) : PcIn o' p v := let ⟨a, t, v2, v3, e, m, r⟩ := x; ⟨a, t, v2, v3, e, h _ m, r⟩

def ns100 : List Str := [Str.ofString "script", Str.ofString "both", Str.ofString "pair", Str.ofString "table", Str.ofString "pieces", Str.ofString "x", Str.ofString "value", Str.ofString "code", Str.ofString "sign", Str.ofString "part"]
def gs100 : List Str := [Str.ofString "len", Str.ofString "chr"]
theorem V100 (L : Addr) : EnvOk (callEnv (fd 100) L 100) L ns100 gs100 := envOk_of (by kernel_rfl) (by kernel_rfl) (by kernel_rfl) (by kernel_rfl) (by kernel_rfl) (by kernel_rfl)
theorem gl_no_chr (P : Params) : nsIn (hd.heap_39 P) mainGlobals (Str.ofString "chr") = some none := by kernel_rfl
theorem bo_chr : bootBuiltins (Str.ofString "chr") = some (.builtin "chr") := by decide +kernel
theorem cbad : (Str.ofString "*?[\x0d\n").cps.toList = [42, 63, 91, 13, 10] := by decide +kernel
theorem cspec : (Str.ofString "()[]{}?*+-|^$\\.&~# \t\n\x0d\x0b\x0c").cps.toList = specialL := by decide +kernel

section
variable (w : World) (A : Around) (E : Value → Shared → Prop) (s₀ : Shared) (L : Addr) (ns : List Str) (vs : List (Option Value)) (env : Env)
def EvO (e : Expr) (p : Pt) : Prop := ∀ objs s (Q : Value → Shared → Prop), Mst w s₀ L ns vs objs s → (∀ v s', OV p v → Mst w s₀ L ns vs objs s' → Q v s') → wpAny (Md w) A (eval e env) Q E s
structure EvPc (e : Expr) (p : Pc3) : Prop where
  star : ∀ rest, starEach (e :: rest) env = (false, eval e env) :: starEach rest env
  ev : ∀ objs s (Q : Value → Shared → Prop), Mst w s₀ L ns vs objs s → (∀ a t v2 v3 s', OV p.part v2 → OV p.behind v3 → Mst w s₀ L ns vs ((a, tupO [.str (mkS p.pat) t, v2, v3]) :: objs) s' → Q (.ref a) s') → wpAny (Md w) A (eval e env) Q E s
end
section
variable {w : World} {A : Around} {E : Value → Shared → Prop} {s₀ s : Shared} {L : Addr} {ns gs : List Str} {vs : List (Option Value)} {objs : List (Addr × Obj)} {env : Env}
theorem evo_str {x : Str} {c : Nat} {pos : Pos} {p : List Nat} (hx : x = mkS p) : EvO w A E s₀ L ns vs env (.Constant (.str x) c pos) (some p) := fun objs s Q S h => by
  subst hx; exact ev_str S fun t s' S' _ _ => h _ _ ⟨t, rfl⟩ S'
theorem evo_none {c : Nat} {pos : Pos} : EvO w A E s₀ L ns vs env (.Constant .none c pos) none := fun objs s Q S h => wpAny_Constant_none (h _ _ rfl S)
theorem evo_name {x : Str} {pos : Pos} {k : Nat} {p : List Nat} {t : Tok} (V : EnvOk env L ns gs) (hx : ns[k]? = some x) (hv : vs[k]? = some (some (.str (mkS p) t))) : EvO w A E s₀ L ns vs env (.Name x pos) (some p) := fun objs s Q S h => ev_loc V S hx hv (h _ _ ⟨t, rfl⟩ S)
theorem evo_add {e1 e2 : Expr} {pos : Pos} {p q : List Nat} (h1 : EvO w A E s₀ L ns vs env e1 (some p)) (h2 : EvO w A E s₀ L ns vs env e2 (some q)) (hsz : p.length + q.length ≤ 1000) : EvO w A E s₀ L ns vs env (.BinOp e1 .Add e2 pos) (some (p ++ q)) := fun objs s Q S h => by
  refine wpAny_BinOp (h1 objs s _ S fun v s₁ hv S₁ => h2 objs s₁ _ S₁ fun v' s₂ hv' S₂ => ?_)
  obtain ⟨t, rfl⟩ := hv
  obtain ⟨t', rfl⟩ := hv'
  exact add_m S₂ (by omega) fun t2 s₃ S₃ => h _ _ ⟨t2, rfl⟩ S₃
theorem evpc {x : Str} {c k : Nat} {pp pos : Pos} {e2 e3 : Expr} {p : List Nat} {p2 p3 : Pt} (hx : x = mkS p) (h2 : EvO w A E s₀ L ns vs env e2 p2) (h3 : EvO w A E s₀ L ns vs env e3 p3)
    (he2 : starEach [e2, e3] env = (false, eval e2 env) :: starEach [e3] env := by rfl) (he3 : starEach [e3] env = (false, eval e3 env) :: starEach [] env := by rfl) :
    EvPc w A E s₀ L ns vs env (.Tuple [.Constant (.str x) c pp, e2, e3] k pos) ⟨p, p2, p3⟩ := by
  subst hx
  refine ⟨fun _ => rfl, fun objs s Q S h => ?_⟩
  refine ev_tup3 (s₀ := s₀) (L := L) (ns := ns) (vs := vs) (objs := objs) (ev_str S fun t s₁ S₁ _ _ => h2 objs s₁ _ S₁ fun v2 s₂ hv2 S₂ => h3 objs s₂ _ S₂ fun v3 s₃ hv3 S₃ => ⟨S₃, fun a s' S' => h a t v2 v3 s' hv2 hv3 S'⟩) (by rfl) he2 he3
theorem spl_pcs {pos : Pos} : ∀ {es : List Expr} {ps : List Pc3}, Paired (EvPc w A E s₀ L ns vs env) es ps → ∀ {objs : List (Addr × Obj)} {s : Shared} {Q : List Value → Shared → Prop}, Mst w s₀ L ns vs objs s →
    (∀ news vals s', Mst w s₀ L ns vs (news ++ objs) s' → Paired (PcIn (news ++ objs)) ps vals → Q vals s') → wpAny (Md w) A (spliced (backTo pos (starEach es env))) Q E s
  | _, _, .nil, objs, s, Q, S, h => wpAny_items_nil (h [] [] s S .nil)
  | _, _, .cons (a := e) (b := p) f r, objs, s, Q, S, h => wpAny_items_cons (f.ev objs s _ S fun a t v2 v3 s' hv2 hv3 S' => spl_pcs r S' fun news vals s₂ S₂ hP => by
      have e1 : news ++ (a, tupO [.str (mkS p.pat) t, v2, v3]) :: objs = (news ++ [(a, tupO [.str (mkS p.pat) t, v2, v3])]) ++ objs := by simp
      rw [e1] at S₂ hP
      exact h _ (.ref a :: vals) s₂ S₂ (.cons ⟨a, t, v2, v3, rfl, by simp, hv2, hv3⟩ hP)) (f.star _)

theorem in_str1 {p : List Nat} {c : Nat} {x : Str} {t u : Tok} {Q : Value → Shared → Prop} (hx : x.cps.toList = p) (h : Q (.bool (decide (c ∈ p))) s) : wpAny (Md w) A (compareOp .In (.str ⟨#[c]⟩ u) (.str x t)) Q E s := by
  refine P.in_str ?_
  rw [StrLaws.found_one, hx]
  exact h
/-- x.append(e), where e makes objects -/
theorem appy {x : Str} {px pa pos p1 : Pos} {pl : Sem Bool} {a kl : Nat} {e : Expr} {l : Addr} {xs : List Value} {n : Nat} {Q : Flow → Shared → Prop} (V : EnvOk env L ns gs) (S : Mst w s₀ L ns vs objs s) (hx : ns[a]? = some x) (hxv : vs[a]? = some (some (.ref l)))
    (hl : objs[kl]? = some (l, lstO xs n)) (hsz : xs.length ≤ 100000)
    (h : wpAny (Md w) A (eval e env) (fun v s₁ => ∃ objs₁ kl₁, Mst w s₀ L ns vs objs₁ s₁ ∧ objs₁[kl₁]? = some (l, lstO xs n) ∧ ∀ s', Mst w s₀ L ns vs (objs₁.set kl₁ (l, lstO (xs ++ [v]) (n + 1))) s' → Q .next s') E s)
    (hint : interactive env = false) (he : starEach [e] env = (false, eval e env) :: starEach [] env := by rfl)
    (hm : eval (.Call (.Attribute (.Name x px) (Str.ofString "append") pa) [e] [] p1) env = (do
      let ov ← eval (.Name x px) env
      standAt pa.atName
      let (f, first) ← holding [ov] (getMethod ov (Str.ofString "append") pl)
      callWith p1 f first (backTo p1 (starEach [e] env)) []) := by rfl) : wpAny (Md w) A (exec (.Expr (.Call (.Attribute (.Name x px) (Str.ofString "append") pa) [e] [] p1) pos) env) Q E s := by
  refine wpAny_Expr (hi := hint) (h := MethodCall_ (pl := pl) (ev_loc V S hx hxv ?_) hm)
  refine getMethod_list_append (S.get (List.mem_of_getElem? hl)) rfl rfl ?_
  refine cw_m (wpAny_items_cons (wpAny_mono h (fun v s₁ h₁ => wpAny_items_nil ?_) fun _ _ x => x) he) he
  obtain ⟨objs₁, kl₁, S₁, hl₁, hq⟩ := h₁
  exact app_m S₁ hl₁ hsz fun s₂ S₂ _ => hq s₂ S₂
end
end Mine
open PySem PySem.W PyProof.Rows PySem.Calls
set_option linter.unusedVariables false
set_option maxRecDepth 100000
namespace Mine
section
variable {w : World} {A : Around} {E : Value → Shared → Prop} {s₀ s : Shared} {L : Addr} {ns gs : List Str} {vs : List (Option Value)} {objs : List (Addr × Obj)} {env : Env}
theorem noswap2 {x y : Str} {i j : Nat} {px py tp vp : Pos} {k k' : Nat} {e1 e2 : Expr} (V : EnvOk env L ns gs) (hx : ns[i]? = some x) (hy : ns[j]? = some y) (hne : (x == y) = false) (hl : (py.line == px.line) = true)
    (h1 : ([e1, e2].any fun | .Starred .. => true | _ => false) = false) (h2 : [e1, e2].all (foldedForSure 8) = true) :
    swappedStores [.Tuple [.Name x px, .Name y py] k tp] (.Tuple [e1, e2] k' vp) env = pure none := by
  have hb : env.blockKind = .function := by unfold Env.blockKind; rw [V.kind]; rfl
  have kx := V.names x (List.mem_of_getElem? hx)
  have ky := V.names y (List.mem_of_getElem? hy)
  have hd : [x, y].eraseDups.length = 2 := by
    rw [List.eraseDups_cons, List.filter_cons]
    rw [if_pos (by rw [BEq.comm, hne]; rfl)]
    rfl
  unfold swappedStores
  simp only [List.length_cons, List.length_nil, hb, h1, h2, List.filterMap_cons, List.filterMap_nil, kx, ky, List.head?_cons, Option.map_some, Option.getD_some]
  have l1 : (Expr.Name x px).pos.line = px.line := rfl
  simp only [l1, hl]
  rw [if_neg (by decide), if_neg (by first | exact fun h => Bool.noConfusion (h1.symm.trans h) | (rw [h1]; decide))]
  have q1 : (px.line == px.line) = true := beq_self_eq_true _
  have q2 : (some NameKind.local == some NameKind.local) = true := rfl
  simp only [q1, q2, Bool.and_true, if_true, hd]
  rw [if_neg (by simp)]
theorem as2' {x y : Str} {i j : Nat} {px py tp : Pos} {ct : Nat} {v1 v2 : Value} {Q : Shared → Prop} (hh : A.handled = none) (V : EnvOk env L ns gs) (S : Mst w s₀ L ns vs objs s) (hx : ns[i]? = some x) (hy : ns[j]? = some y)
    (h : ∀ s', Mst w s₀ L ns ((vs.set i (some v1)).set j (some v2)) objs s' → Q s') :
    wpAny (Md w) A (newTuple [v1, v2]) (fun v s₁ => wpAny (Md w) A (assign (.Tuple [.Name x px, .Name y py] ct tp) env v) (fun _ => Q) E s₁) E s := as2 (Q := fun _ => Q) hh V S hx hy h
theorem ints_get : ∀ {xs : List Value} {ns : List Int}, IntsAre xs ns → ∀ {i : Nat} {v : Value}, xs[i]? = some v → ∃ n t, v = .int n t ∧ ns[i]? = some n
  | _, _, .nil, i, v, h => by simp at h
  | _, _, .cons n t _, 0, v, h => ⟨n, t, by simpa using h.symm, rfl⟩
  | _, _, .cons n t r, i + 1, v, h => by simpa using ints_get r (i := i) (by simpa using h)

/-- a for loop over a list: what holds between its turns, of the names and of the objects -/
theorem forl2 {target iter : Expr} {body : List Stmt} {pos : Pos} {Q : Flow → Shared → Prop} (hh : A.handled = none)
    (h : wpAny (Md w) A (eval iter env) (fun x s₁ => ∃ (l : Addr) (xs : List Value) (J : Nat → List (Option Value) → List (Addr × Obj) → Prop), x = .ref l ∧ s₁.heap.IsList l xs.toArray ∧ (∃ vs objs, J 0 vs objs ∧ Mst w s₀ L ns vs objs s₁) ∧
      (∀ i vs objs it o s, J i vs objs → Mst w s₀ L ns vs ((it, o) :: objs) s → s.heap.IsList l xs.toArray) ∧
      (∀ i vs objs it o s v, J i vs objs → xs[i]? = some v → Mst w s₀ L ns vs ((it, o) :: objs) s → wpAny (Md w) A (assign target env v) (fun _ s₂ => wpAny (Md w) A (execs body env) (fun f s₃ => f = .next ∧ ∃ vs' objs', J (i + 1) vs' objs' ∧ Mst w s₀ L ns vs' ((it, o) :: objs') s₃) (fun _ _ => False) s₂) (fun _ _ => False) s) ∧
      (∀ vs objs s, J xs.length vs objs → Mst w s₀ L ns vs objs s → Q .next s)) (fun _ _ => False) s)
    (ht : ∀ it v, letOwnedTupleGo target it v = pure ())
    (hs : ∀ x, foldedSetIterable iter env x = pure x := by intro _; rfl) :
    wpAny (Md w) A (exec (.For target iter body [] pos) env) Q (fun _ _ => False) s := by
  refine wpAny_For (wpAny_mono h (fun x s₁ h₁ => ?_) fun _ _ e => e.elim) hs
  obtain ⟨l, xs, J, rfl, hl₁, ⟨vs₁, objs₁, hJ, S₁⟩, hl, turn, fin⟩ := h₁
  refine iter_l S₁ hl₁ fun it o s₂ ho S₂ => ?_
  refine codeAny_forLoop_any (fun n s => ∃ i vs objs o, n + i = xs.length ∧ J i vs objs ∧ ItO o l i ∧ Mst w s₀ L ns vs ((it, o) :: objs) s) (fun n s hn => ?_) xs.length ⟨0, vs₁, objs₁, o, rfl, hJ, ho, S₂⟩
  obtain ⟨i, vs, objs, o, hi, hJ, ho, S⟩ := hn
  have hL := hl i vs objs it o s hJ S
  rcases Nat.lt_or_ge i xs.length with hlt | hge
  · refine next_l S ho hL (List.getElem?_eq_getElem hlt) fun o' s' ho' hit S' => ?_
    have fin' : wpAny (Md w) A (assign target env xs[i]) (fun _ s₂ => wpAny (Md w) A (execs body env) (fun f s₃ => match f with
            | .next | .cont => ∃ m, m < n ∧ ∃ i vs objs o, m + i = xs.length ∧ J i vs objs ∧ ItO o l i ∧ Mst w s₀ L ns vs ((it, o) :: objs) s₃
            | .brk => Q .next s₃
            | .ret v => Q (.ret v) s₃) (fun _ _ => False) s₂) (fun _ _ => False) s' := by
      refine wpAny_mono (turn i vs objs it o' s' xs[i] hJ (List.getElem?_eq_getElem hlt) S') (fun _ s₂ h₂ => wpAny_mono h₂ (fun f s₃ h₃ => ?_) fun _ _ e => e) fun _ _ e => e
      obtain ⟨rfl, vs', objs', hJ', S₃⟩ := h₃
      exact ⟨n - 1, by omega, i + 1, vs', objs', o', by omega, hJ', ho', S₃⟩
    refine wpAny_of_eq (ht _ _) ?_
    refine wpAny_mono fin' (fun _ s₂ h₂ => wpAny_mono h₂ (fun f s₃ h₃ => by cases f <;> exact h₃) fun _ _ e => e.elim) fun _ _ e => e.elim
  · obtain rfl : n = 0 := by omega
    obtain rfl : i = xs.length := by omega
    exact end_l hh S ho hL hge fun s' S' => wpAny_execs_nil (fin vs objs s' hJ S')

def IsIntC (e : Expr) (n : Int) : Prop := ∃ c p, e = .Constant (.int n) c p
theorem spl_ints {pos : Pos} : ∀ {es : List Expr} {ms : List Int}, Paired IsIntC es ms → ∀ {s : Shared} {Q : List Value → Shared → Prop}, Mst w s₀ L ns vs objs s → (∀ vals s', Mst w s₀ L ns vs objs s' → IntsAre vals ms → Q vals s') →
    wpAny (Md w) A (spliced (backTo pos (starEach es env))) Q E s
  | _, _, .nil, s, Q, S, h => wpAny_items_nil (h [] s S .nil)
  | _, _, .cons (b := n) ⟨c, p, e⟩ r, s, Q, S, h => by
    subst e
    exact wpAny_items_cons (ev_int S fun t s' S' _ _ => spl_ints r S' fun vals s₂ S₂ hI => h _ s₂ S₂ (.cons n t hI))
/-- a list of written numbers -/
theorem ev_ints {es : List Expr} {ms : List Int} {pos : Pos} {Q : Value → Shared → Prop} (S : Mst w s₀ L ns vs objs s) (hp : Paired IsIntC es ms) (hsz : ms.length ≤ 1000) (h : ∀ a vals s', Mst w s₀ L ns vs ((a, lstO vals 0) :: objs) s' → IntsAre vals ms → Q (.ref a) s') :
    wpAny (Md w) A (eval (.List es pos) env) Q E s :=
  List_ (spl_ints hp S fun vals s' S' hI => wpAny_newList (h _ vals _ (S'.push (o := lstO vals 0)) hI) (by rw [hI.length]; have : sizeLine = 16777216 := rfl; omega))
theorem Mst.below {objs' : List (Addr × Obj)} (S : Mst w s₀ L ns vs objs s) (h : objs'.Sublist objs) : Mst w s₀ L ns vs objs' s :=
  S.sub (fun p hp => h.subset hp) ((h.map _).nodup S.ond)
theorem len_L {l : Addr} {xs : List Value} {Q : Value → Shared → Prop} (S : Mst w s₀ L ns vs objs s) (hl : s.heap.IsList l xs.toArray) (hsz : xs.length ≤ 100000)
    (h : ∀ t s', Mst w s₀ L ns vs objs s' → Q (.int xs.length t) s') : wpAny (Md w) A (call (.builtin "len") [.ref l]) Q E s := by
  refine call_len_list (items := xs.toArray) hl (by rw [List.size_toArray]; omega) ?_
  rw [List.size_toArray]
  exact h _ _ (S.tok (by omega))
/-- the list that the loop goes over -/
theorem ev_script {px p1 p2 p3 p4 p5 p6 p7 p8 p9 p10 p11 p12 p13 p14 : Pos} {n1 n2 : Nat} {sc : Addr} {es1 es2 es3 : List Expr} {xs : List Value} {nums : List Int} {x y : Str} {Q : Value → Shared → Prop} (V : EnvOk env L ns gs) (S : Mst w s₀ L ns vs objs s)
    (hx : ns[0]? = some x) (hxv : vs[0]? = some (some (.ref sc))) (hy : gs[0]? = some (Str.ofString "len")) (hl : ∀ {vs objs s'}, Mst w s₀ L ns vs objs s' → s'.heap.IsList sc xs.toArray) (hi : IntsAre xs nums) (hn : nums.length ≤ 63)
    (h1 : Paired IsIntC es1 [2, 5, 0, 3, 1]) (h2 : Paired IsIntC es2 [1, 3]) (h3 : Paired IsIntC es3 [5, 4, 0])
    (h : ∀ a vals s', Mst w s₀ L ns vs ((a, lstO vals 0) :: objs) s' → IntsAre vals (nums.take 10 ++ tailPc nums.length) → Q (.ref a) s') :
    wpAny (Md w) A (eval (.BinOp (.Subscript (.Name x px) (.Slice none (some (.Constant (.int 10) n1 p1)) none p2) p3) .Add
      (.Subscript (.List [.List es1 p4, .List es2 p5, .List es3 p6] p7) (.BinOp (.Call (.Name (Str.ofString "len") p8) [.Name x p9] [] p10) .Mod (.Constant (.int 3) n2 p11) p12) p13) p14) env) Q E s := by
  have hs : sizeLine = 16777216 := rfl
  have hxl : xs.length = nums.length := hi.length
  refine wpAny_BinOp (wpAny_Subscript_list_slice (ev_loc V S hx hxv (evalPart_none_step ?_)) (by intro _ _; rfl))
  show wpAny _ _ (eval (.Constant (.int 10) n1 p1) env) _ _ _
  refine ev_int S fun t1 s₁ S₁ _ _ => ?_
  refine ⟨sc, xs.toArray, none, some 10, rfl, hl S₁, by rw [List.size_toArray, hs]; omega, .none, .int _ _, ?_⟩
  have S₂ := (S₁.push (o := { cls := .type "slice", data := .fields #[.none, .int 10 t1, .none] })).drop1
  have S₃ := S₂.push (o := lstO (slicePick xs.toArray none (some 10) none).toList 0)
  simp only [Heap.size_push] at S₃
  have hI1 := slice_ints_uptoW hi (y := 10) (by decide)
  generalize s₁.heap.objs.size + 1 = a0 at S₃ ⊢
  have hlen1 : (slicePick xs.toArray none (some 10) none).toList.length ≤ 10 := by rw [hI1.length, List.length_take]; exact Nat.min_le_left _ _
  generalize slicePick xs.toArray none (some 10) none = ar at S₃ hI1 hlen1 ⊢
  obtain ⟨sl⟩ := ar
  dsimp only at hI1 hlen1
  refine Subscript_ ?_
  refine List_ (wpAny_items_cons (ev_ints S₃ h1 (by decide) fun a1 v1 s₄ S₄ i1 => wpAny_items_cons (ev_ints S₄ h2 (by decide) fun a2 v2 s₅ S₅ i2 => wpAny_items_cons (ev_ints S₅ h3 (by decide) fun a3 v3 s₆ S₆ i3 => wpAny_items_nil (wpAny_newList ?_ (by show 3 ≤ sizeLine; decide))))))
  have S₇ := S₆.push (o := lstO [.ref a1, .ref a2, .ref a3] 0)
  generalize s₆.heap.objs.size = a4 at S₇ ⊢
  refine wpAny_BinOp (Call_ (ev_bi V S₇ hy gl_no_len bo_len (by decide) (cw_b (wpAny_items_cons (ev_loc V S₇ hx hxv (wpAny_items_nil ?_))))))
  refine len_L S₇ (hl S₇) (by omega) fun t7 s₇ S₇ => ev_int S₇ fun t3 s₈ S₈ _ _ => mod_int' (by decide) ?_
  have S₉ := S₈.tok (tk := s₈.toks + 1) (Nat.le_succ _)
  rw [hxl]
  rw [show ((nums.length : Nat) : Int).fmod 3 = ((nums.length % 3 : Nat) : Int) from by rw [PyProof.Rows.fmod_eq _ (by decide)]; omega]
  have m4 := List.mem_cons_self (a := (a4, lstO [.ref a1, .ref a2, .ref a3] 0)) (l := (a3, lstO v3 0) :: (a2, lstO v2 0) :: (a1, lstO v1 0) :: (a0, lstO sl 0) :: objs)
  have g0 := S₉.get (a := a0) (o := lstO sl 0) (by simp)
  have fin : ∀ (ai : Addr) (vi : List Value) (ms : List Int), [Value.ref a1, .ref a2, .ref a3][nums.length % 3]? = some (.ref ai) → (ai, lstO vi 0) ∈ (a4, lstO [.ref a1, .ref a2, .ref a3] 0) :: (a3, lstO v3 0) :: (a2, lstO v2 0) :: (a1, lstO v1 0) :: (a0, lstO sl 0) :: objs →
      IntsAre vi ms → ms.length ≤ 10 → tailPc nums.length = ms →
      wpAny (Md w) A (subscriptTail (.List [.List es1 p4, .List es2 p5, .List es3 p6] p7) (.BinOp (.Call (.Name (Str.ofString "len") p8) [.Name x p9] [] p10) .Mod (.Constant (.int 3) n2 p11) p12) (.ref a4) (.int ((nums.length % 3 : Nat) : Int) s₈.toks)) (fun b s₂ => wpAny (Md w) A (binaryOp .Add (.ref a0) b) Q E s₂) E { s₈ with toks := s₈.toks + 1 } := by
    intro ai vi ms hk hm hI hml ht
    refine tail_any (T := "list") ⟨_, S₉.get m4, rfl⟩ F.slot_list_getitem.lookup (item_l (S₉.get m4) hk (by simp) ?_) (by with_unfolding_all rfl)
    have gi := S₉.get hm
    refine P.add_list (items := sl.toArray) (items2 := vi.toArray) (n := 0) (n2 := 0) g0 gi ?_ (by rw [List.size_toArray, List.size_toArray, hI.length, hs]; omega)
    have Sa := S₉.push (o := lstO (sl ++ vi) 0)
    have Sb := Sa.below (objs' := (_, lstO (sl ++ vi) 0) :: objs) (List.Sublist.cons_cons _ (.cons _ (.cons _ (.cons _ (.cons _ (.cons _ (List.Sublist.refl _)))))))
    refine h _ (sl ++ vi) _ ?_ ?_
    · rw [show (sl.toArray ++ vi.toArray) = (sl ++ vi).toArray from by simp]
      exact Sb
    · rw [ht]
      exact hI1.append hI
  by_cases c0 : nums.length % 3 = 0
  · exact fin a1 v1 [2, 5, 0, 3, 1] (by rw [c0]; rfl) (by simp) i1 (by decide) (by unfold tailPc; rw [if_pos c0])
  · by_cases c1 : nums.length % 3 = 1
    · exact fin a2 v2 [1, 3] (by rw [c1]; rfl) (by simp) i2 (by decide) (by unfold tailPc; rw [if_neg c0, if_pos c1])
    · have c2 : nums.length % 3 = 2 := by omega
      exact fin a3 v3 [5, 4, 0] (by rw [c2]; rfl) (by simp) i3 (by decide) (by unfold tailPc; rw [if_neg c0, if_neg c1])
theorem mod_m {a b : Int} {t u : Tok} {Q : Value → Shared → Prop} (S : Mst w s₀ L ns vs objs s) (hb : b ≠ 0) (h : ∀ t' s', Mst w s₀ L ns vs objs s' → Q (.int (a.fmod b) t') s') : wpAny (Md w) A (binaryOp .Mod (.int a t) (.int b u)) Q E s :=
  mod_int' hb (h _ _ (S.tok (Nat.le_succ _)))
theorem pow_m {a n : Int} {t u : Tok} {Q : Value → Shared → Prop} (S : Mst w s₀ L ns vs objs s) (hn : 0 ≤ n) (hn2 : n ≤ 1000000) (ha : a.natAbs < 2 ^ 64) (h : ∀ t' s', Mst w s₀ L ns vs objs s' → Q (.int (a ^ n.toNat) t') s') : wpAny (Md w) A (binaryOp .Pow (.int a t) (.int n u)) Q E s :=
  pow_int_small hn hn2 ha (h _ _ (S.tok (Nat.le_succ _)))
theorem fdiv_m {a b : Int} {t u : Tok} {Q : Value → Shared → Prop} (S : Mst w s₀ L ns vs objs s) (hb : b ≠ 0) (hs : b.natAbs < 1073741824) (h : ∀ t' s', Mst w s₀ L ns vs objs s' → Q (.int (a.fdiv b) t') s') : wpAny (Md w) A (binaryOp .FloorDiv (.int a t) (.int b u)) Q E s :=
  floordiv_int hb (h _ _ (S.tok (Nat.le_succ _))) (Or.inl (PyProof.noPylong_small hs))
theorem addi_m {a b : Int} {t u : Tok} {Q : Value → Shared → Prop} (S : Mst w s₀ L ns vs objs s) (h : ∀ t' s', Mst w s₀ L ns vs objs s' → Q (.int (a + b) t') s') : wpAny (Md w) A (binaryOp .Add (.int a t) (.int b u)) Q E s :=
  P.add_int (h _ _ (S.tok (Nat.le_succ _)))
theorem chr_m {c : Nat} {t : Tok} {Q : Value → Shared → Prop} (S : Mst w s₀ L ns vs objs s) (hc : c ≤ 1114111) (h : ∀ t' s', Mst w s₀ L ns vs objs s' → Q (.str ⟨#[c]⟩ t') s') : wpAny (Md w) A (call (.builtin "chr") [.int (c : Nat) t]) Q E s :=
  chr_of_range (by omega) (by omega) (by rw [Int.toNat_natCast]; exact h _ _ (S.tok (Nat.le_succ _)))
theorem codeN_cases (u : Nat) : ∃ b : Bool, decide (((u / 16 % 1112064 : Nat) : Int) < 55296) = b ∧ (b = true → codeN u = u / 16 % 1112064) ∧ (b = false → ((u / 16 % 1112064 : Nat) : Int) + 2048 = ((codeN u : Nat) : Int)) := by
  unfold codeN
  generalize u / 16 % 1112064 = m
  refine ⟨_, rfl, fun h => ?_, fun h => ?_⟩
  · have := of_decide_eq_true h
    rw [if_pos (by omega)]
  · have := of_decide_eq_false h
    rw [if_neg (by omega)]
    omega
theorem ev_codeN {x : Str} {p1 p2 p3 p4 p5 p6 p7 px : Pos} {c1 c2 k u : Nat} {t : Tok} {Q : Value → Shared → Prop} (V : EnvOk env L ns gs) (S : Mst w s₀ L ns vs objs s) (hx : ns[k]? = some x) (hxv : vs[k]? = some (some (.int ((u / 16 % 1112064 : Nat) : Int) t)))
    (h : ∀ t' s', Mst w s₀ L ns vs objs s' → Q (.int ((codeN u : Nat) : Int) t') s') :
    wpAny (Md w) A (eval (.IfExp (.Compare (.Name x px) [.Lt] [.Constant (.int 55296) c1 p1] p2) (.Name x p3) (.BinOp (.Name x p4) .Add (.Constant (.int 2048) c2 p5) p6) p7) env) Q E s := by
  obtain ⟨b, hb, h1, h2⟩ := codeN_cases u
  refine wpAny_IfExp (wpAny_isTrue_Compare1 (ev_loc V S hx hxv (ev_int S fun ta s₂ S₂ _ _ => P.lt_int (wpAny_truthy_bool ?_))))
  rw [hb]
  cases b with
  | true =>
    rw [if_pos rfl]
    refine ev_loc V S₂ hx hxv ?_
    have := h t s₂ S₂
    rw [h1 rfl] at this
    exact this
  | false =>
    rw [if_neg (by decide)]
    refine wpAny_BinOp (ev_loc V S₂ hx hxv (ev_int S₂ fun tb s₃ S₃ _ _ => addi_m S₃ fun tc s₄ S₄ => ?_))
    rw [h2 rfl]
    exact h _ _ S₄
theorem codeN_le (u : Nat) : codeN u ≤ 1114111 := by unfold codeN; split <;> omega
theorem mboth : Str.ofString "\\\x0d\\\n" = mkS bothL := by decide +kernel
theorem mpair : Str.ofString "\\\x0d\n" = mkS pairL := by decide +kernel

set_option maxHeartbeats 4000000 in
theorem call_pieces {sc : Addr} {xs : List Value} {nums : List Int} {Q : Value → Shared → Prop} (ok : OkA A 3 20) (g : Good w s) (h57 : sc ≠ 57) (hl : s.heap.IsList sc xs.toArray) (hi : IntsAre xs nums) (hn : nums.length ≤ 63)
    (hQ : ∀ l ys n news s', Ext s s' → (news.map (·.1)).Nodup → (∀ p ∈ news, s.heap.get? p.1 = none ∧ s'.heap.get? p.1 = some p.2) → (l, lstO ys n) ∈ news → Paired (PcIn news) (piecesOf nums) ys → Q (.ref l) s') :
    wpAny (Md w) A (call (.ref 100) [.ref sc]) Q E s := by
  refine enter (fd := fd 100) (d := 2) (u := 17) (ns := ns100) (gs := gs100) (body := bodyOf 100) (binds := [(Str.ofString "script", .ref sc)]) ok.mono g K100 ck100 body100 rfl (by decide) (locs rfl) (fm_one _ _ _) (by decide) rfl (V100 _) ?_ (by kernel_rfl) (by kernel_rfl) (by kernel_rfl)
  intro env L s₁ A' ok' V hc hq _ S
  have keepL : ∀ {vs objs s'}, Mst w s L ns100 vs objs s' → s'.heap.IsList sc xs.toArray := fun S' => by
    obtain ⟨o, e, r⟩ := hl
    exact ⟨o, S'.ext.keep _ _ h57 e, r⟩
  have hxl : xs.length = nums.length := hi.length
  refine wpAny_execs_cons (Assign_Tuple (Tuple_ (wpAny_items_cons (ev_str S fun t1 s₂ S₂ _ _ => wpAny_items_cons (ev_str S₂ fun t2 s₃ S₃ _ _ => wpAny_items_nil (as2' ok'.hh V S₃ (i := 1) (j := 2) rfl rfl fun s₄ S₄ => ?_))))) (by rfl) (noswap2 V (i := 1) (j := 2) rfl rfl (by decide) (by decide) (by rfl) (by rfl)))
  rw [mboth, mpair] at S₄
  refine wpAny_execs_cons ?_
  with_reducible refine wpAny_Assign_Name ?_ ?_
  rotate_left
  · rfl
  with_reducible refine List_ ?_
  refine spl_pcs (w := w) (A := A') (s₀ := s) (L := L) (ns := ns100) (ps := tblP) ?_ S₄ fun tups tv s₅ S₅ hT => wpAny_newList (st_loc V (S₅.push (o := lstO tv 0)) (k := 3) rfl fun s₆ S₆ _ => ?_) (by have := hT.length; rw [← this]; show 15 ≤ sizeLine; decide)
  · have eb := fun (pos : Pos) => evo_name (pos := pos) (w := w) (A := A') (E := fun _ _ => False) (s₀ := s) (vs := [some (.ref sc), some (.str (mkS bothL) t1), some (.str (mkS pairL) t2), none, none, none, none, none, none, none]) (x := Str.ofString "both") (k := 1) V rfl rfl
    have ep := fun (pos : Pos) => evo_name (pos := pos) (w := w) (A := A') (E := fun _ _ => False) (s₀ := s) (vs := [some (.ref sc), some (.str (mkS bothL) t1), some (.str (mkS pairL) t2), none, none, none, none, none, none, none]) (x := Str.ofString "pair") (k := 2) V rfl rfl
    refine .cons (evpc (by decide +kernel) evo_none evo_none) (.cons (evpc (by decide +kernel) (evo_str (by decide +kernel)) (evo_str (by decide +kernel))) ?_)
    refine .cons (evpc (by decide +kernel) (eb _) (ep _)) (.cons (evpc (by decide +kernel) (eb _) (ep _)) (.cons (evpc (by decide +kernel) (eb _) (evo_add (ep _) (ep _) (by decide))) ?_))
    refine .cons (evpc (by decide +kernel) (evo_str (by decide +kernel)) (evo_str (by decide +kernel))) (.cons (evpc (by decide +kernel) (evo_str (by decide +kernel)) (evo_str (by decide +kernel))) (.cons (evpc (by decide +kernel) (evo_str (by decide +kernel)) (evo_str (by decide +kernel))) ?_))
    refine .cons (evpc (by decide +kernel) (evo_str (by decide +kernel)) (evo_str (by decide +kernel))) (.cons (evpc (by decide +kernel) (evo_str (by decide +kernel)) (evo_str (by decide +kernel))) (.cons (evpc (by decide +kernel) (evo_str (by decide +kernel)) (evo_str (by decide +kernel))) ?_))
    refine .cons (evpc (by decide +kernel) (evo_str (by decide +kernel)) (evo_str (by decide +kernel))) (.cons (evpc (by decide +kernel) (evo_str (by decide +kernel)) (evo_str (by decide +kernel))) (.cons (evpc (by decide +kernel) (evo_str (by decide +kernel)) (evo_str (by decide +kernel))) ?_))
    exact .cons (evpc (by decide +kernel) (evo_str (by decide +kernel)) (evo_str (by decide +kernel))) .nil
  rw [List.append_nil] at S₅ hT S₆
  refine wpAny_execs_cons (wpAny_Assign_Name (List_ (wpAny_items_nil (wpAny_newList (st_loc V (S₆.push (o := lstO [] 0)) (k := 4) rfl fun s₇ S₇ _ => ?_) (by decide)))) (by rfl))
  generalize s₅.heap.objs.size = tl at S₇ 
  generalize s₆.heap.objs.size = pl at S₇
  simp only [List.set] at S₇
  refine wpAny_execs_cons (forl2 (s₀ := s) (L := L) (ns := ns100) ok'.hh ?_ (fun _ _ => by rfl) (fun _ => by rfl))
  refine ev_script V S₇ (x := Str.ofString "script") (y := Str.ofString "len") rfl rfl rfl keepL hi hn (.cons ⟨_, _, rfl⟩ (.cons ⟨_, _, rfl⟩ (.cons ⟨_, _, rfl⟩ (.cons ⟨_, _, rfl⟩ (.cons ⟨_, _, rfl⟩ .nil))))) (.cons ⟨_, _, rfl⟩ (.cons ⟨_, _, rfl⟩ .nil)) (.cons ⟨_, _, rfl⟩ (.cons ⟨_, _, rfl⟩ (.cons ⟨_, _, rfl⟩ .nil))) fun xl xv s₈ S₈ hX => ?_
  generalize hitems : nums.take 10 ++ tailPc nums.length = items at hX
  have hil : items.length ≤ 15 := by
    rw [← hitems, List.length_append, List.length_take]
    have : (tailPc nums.length).length ≤ 5 := by
      unfold tailPc
      split
      · decide
      · split <;> decide
    omega
  refine ⟨xl, xv, fun i vs objs => ∃ v5 v6 v7 v8 v9 ys n tups, vs = [some (.ref sc), some (.str (mkS bothL) t1), some (.str (mkS pairL) t2), some (.ref tl), some (.ref pl), v5, v6, v7, v8, v9] ∧ objs = (pl, lstO ys n) :: (xl, lstO xv 0) :: (tl, lstO tv 0) :: tups ∧
    Paired (PcIn tups) tblP tv ∧ Paired (PcIn tups) ((items.take i).map pcOf) ys, rfl, ⟨_, S₈.get (List.mem_cons_self ..), rfl, _, rfl⟩, ⟨_, _, ⟨none, none, none, none, none, [], 0, tups, rfl, rfl, hT, .nil⟩, S₈.flip⟩, ?_, ?_, ?_⟩
  · rintro i vs objs it o s' ⟨v5, v6, v7, v8, v9, ys, n, tups, rfl, rfl, hT, hP⟩ S'
    exact ⟨_, S'.get (o := lstO xv 0) (by simp), rfl, _, rfl⟩
  · rintro i vs objs it o s' v ⟨v5, v6, v7, v8, v9, ys, n, tups, rfl, rfl, hT, hP⟩ hv S'
    obtain ⟨x, tx, rfl, hxi⟩ := ints_get hX hv
    have hyl : ys.length ≤ 15 := by
      have := hP.length
      rw [List.length_map, List.length_take] at this
      omega
    have hts := take_snoc hxi
    refine wpAny_assign_Name (st_loc V S' (k := 5) rfl fun s₁ S₁ _ => ?_)
    simp only [List.set] at S₁
    clear S'
    -- the numbers
    obtain ⟨u, hu, hulo⟩ : ∃ u : Nat, x.fmod 100000000 = (u : Int) ∧ u < 100000000 := by
      have h0 : x.fmod 100000000 = x % 100000000 := PyProof.Rows.fmod_eq _ (by decide)
      exact ⟨(x % 100000000).toNat, by omega, by omega⟩
    have hpc : pcOf x = pcN u := by unfold pcOf; rw [hu]; rfl
    refine wpAny_execs_cons (wpAny_Assign_Name (wpAny_BinOp (ev_loc V S₁ (k := 5) rfl rfl (wpAny_BinOp (ev_int S₁ fun ta s₂ S₂ _ _ => ev_int S₂ fun tb s₃ S₃ _ _ => pow_m S₃ (by decide) (by decide) (by decide) fun tc s₄ S₄ => mod_m S₄ (by decide) fun t6 s₅ S₅ => ?_)))) (by rfl))
    rw [show ((10 : Int) ^ ((8 : Int).toNat)) = 100000000 from by decide, hu]
    refine st_loc V S₅ (k := 6) rfl fun s₆ S₆ _ => ?_
    simp only [List.set] at S₆
    clear S₅ S₄ S₃ S₂ S₁
    refine wpAny_execs_cons (wpAny_Assign_Name (wpAny_BinOp (wpAny_BinOp (ev_loc V S₆ (k := 6) rfl rfl (ev_int S₆ fun ta s₂ S₂ _ _ => fdiv_m S₂ (by decide) (by decide) fun tb s₃ S₃ => ev_int S₃ fun tc s₄ S₄ _ _ => mod_m S₄ (by decide) fun t7 s₅ S₅ => ?_)))) (by rfl))
    rw [show (((u : Nat) : Int).fdiv 16).fmod 1112064 = ((u / 16 % 1112064 : Nat) : Int) from by rw [PyProof.Rows.fdiv_eq _ (by decide), PyProof.Rows.fmod_eq _ (by decide)]; omega]
    refine st_loc V S₅ (k := 7) rfl fun s₇ S₇ _ => ?_
    simp only [List.set] at S₇
    clear S₅ S₄ S₃ S₂ S₆
    -- the sign
    have hcode := codeN_le u
    refine wpAny_execs_cons (wpAny_Assign_Name (Call_ (ev_bi V S₇ (k := 1) rfl gl_no_chr bo_chr (by decide) (cw_b (wpAny_items_cons (ev_codeN V S₇ (k := 7) rfl rfl fun t s₈ S₈ => wpAny_items_nil (chr_m S₈ hcode fun t8 s₉ S₉ => ?_)))))) (by rfl))
    · refine st_loc V S₉ (k := 8) rfl fun s₆ S₆ _ => ?_
      simp only [List.set] at S₆
      clear S₇ S₈ S₉
      refine wpAny_execs_cons (wpAny_mono (Q := fun fl s' => fl = .next ∧ ∃ t, Mst w s L ns100 [some (.ref sc), some (.str (mkS bothL) t1), some (.str (mkS pairL) t2), some (.ref tl), some (.ref pl), some (.int x tx), some (.int (u : Nat) t6), some (.int ((u / 16 % 1112064 : Nat) : Int) t7), some (.str (mkS [signN u]) t), v9] ((it, o) :: (pl, lstO ys n) :: (xl, lstO xv 0) :: (tl, lstO tv 0) :: tups) s') ?_ ?_ fun _ _ x => x)
      · refine wpAny_If (wpAny_isTrue_Compare1 (ev_loc V S₆ (k := 8) rfl rfl (ev_str S₆ fun ta s₂ S₂ _ _ => in_str1 cbad (wpAny_truthy_bool ?_))))
        by_cases hbad : codeN u ∈ [42, 63, 91, 13, 10]
        · rw [decide_eq_true hbad, if_pos rfl]
          refine wpAny_execs_cons (wpAny_Assign_Name (ev_str S₂ fun tb s₃ S₃ _ _ => st_loc V S₃ (k := 8) rfl fun s₄ S₄ _ => wpAny_execs_nil ⟨rfl, tb, ?_⟩) (by rfl))
          have e : Str.ofString "a" = mkS [signN u] := by unfold signN; rw [if_pos hbad]; decide +kernel
          rw [← e]
          exact S₄
        · rw [decide_eq_false hbad, if_neg (by decide)]
          have e : signN u = codeN u := by unfold signN; rw [if_neg hbad]
          exact wpAny_execs_nil ⟨rfl, t8, by rw [e]; exact S₂⟩
      clear S₆
      rintro fl s₆ ⟨rfl, t8, S₆⟩
      -- the part
      refine wpAny_execs_cons (wpAny_Assign_Name (wpAny_mono (Q := fun v s' => ∃ t, v = .str (mkS (escL (signN u))) t ∧ Mst w s L ns100 [some (.ref sc), some (.str (mkS bothL) t1), some (.str (mkS pairL) t2), some (.ref tl), some (.ref pl), some (.int x tx), some (.int (u : Nat) t6), some (.int ((u / 16 % 1112064 : Nat) : Int) t7), some (.str (mkS [signN u]) t8), v9] ((it, o) :: (pl, lstO ys n) :: (xl, lstO xv 0) :: (tl, lstO tv 0) :: tups) s') ?_ ?_ fun _ _ x => x) (by rfl))
      · refine wpAny_IfExp (wpAny_isTrue_Compare1 (ev_loc V S₆ (k := 8) rfl rfl (ev_str S₆ fun ta s₂ S₂ _ _ => in_str1 cspec (wpAny_truthy_bool ?_))))
        by_cases hsp : signN u ∈ specialL
        · rw [decide_eq_true hsp, if_pos rfl]
          refine wpAny_BinOp (ev_str S₂ fun tb s₃ S₃ _ _ => ev_loc V S₃ (k := 8) rfl rfl ?_)
          rw [show Str.ofString "\\" = mkS [92] from by decide +kernel]
          refine add_m S₃ (by simp) fun tc s₄ S₄ => ⟨tc, ?_, S₄⟩
          unfold escL; rw [if_pos hsp]; rfl
        · rw [decide_eq_false hsp, if_neg (by decide)]
          exact ev_loc V S₂ (k := 8) rfl rfl ⟨t8, by unfold escL; rw [if_neg hsp], S₂⟩
      rintro v s₇ ⟨t9, rfl, S₇⟩
      refine st_loc V S₇ (k := 9) rfl fun s₈ S₈ _ => ?_
      simp only [List.set] at S₈
      clear S₆ S₇
      -- it is added
      refine wpAny_execs_cons (wpAny_mono (Q := fun fl s' => fl = .next ∧ ∃ tups' w', (∀ y ∈ tups, y ∈ tups') ∧ PcIn tups' (pcN u) w' ∧ Mst w s L ns100 [some (.ref sc), some (.str (mkS bothL) t1), some (.str (mkS pairL) t2), some (.ref tl), some (.ref pl), some (.int x tx), some (.int (u : Nat) t6), some (.int ((u / 16 % 1112064 : Nat) : Int) t7), some (.str (mkS [signN u]) t8), some (.str (mkS (escL (signN u))) t9)] ((it, o) :: (pl, lstO (ys ++ [w']) (n + 1)) :: (xl, lstO xv 0) :: (tl, lstO tv 0) :: tups') s') ?_ ?_ fun _ _ x => x)
      · refine appy V S₈ (a := 4) (kl := 1) rfl rfl rfl (by omega) ?_ V.inter
        refine wpAny_IfExp (wpAny_isTrue_Compare1 (wpAny_BinOp (ev_loc V S₈ (k := 6) rfl rfl (ev_int S₈ fun ta s₂ S₂ _ _ => mod_m S₂ (by decide) fun tb s₃ S₃ => ev_int S₃ fun tc s₄ S₄ _ _ => P.lt_int (wpAny_truthy_bool ?_)))))
        have e16 : ((u : Nat) : Int).fmod 16 = ((u % 16 : Nat) : Int) := by rw [PyProof.Rows.fmod_eq _ (by decide)]; omega
        rw [e16]
        by_cases h15 : u % 16 < 15
        · rw [decide_eq_true (by omega), if_pos rfl]
          have htp : tblP[u % 16]? = some (pcN u) := by unfold pcN; rw [dif_pos h15]; exact List.getElem?_eq_getElem h15
          obtain ⟨w', hw, hpw⟩ := paired_at hT htp
          have htb : ∀ {s'}, Mst w s L ns100 [some (.ref sc), some (.str (mkS bothL) t1), some (.str (mkS pairL) t2), some (.ref tl), some (.ref pl), some (.int x tx), some (.int (u : Nat) t6), some (.int ((u / 16 % 1112064 : Nat) : Int) t7), some (.str (mkS [signN u]) t8), some (.str (mkS (escL (signN u))) t9)] ((it, o) :: (pl, lstO ys n) :: (xl, lstO xv 0) :: (tl, lstO tv 0) :: tups) s' → s'.heap.get? tl = some (lstO tv 0) := fun S' => S'.get (by simp)
          refine Subscript_ (ev_loc V S₄ (k := 3) rfl rfl (wpAny_BinOp (ev_loc V S₄ (k := 6) rfl rfl (ev_int S₄ fun td s₅ S₅ _ _ => mod_m S₅ (by decide) fun te s₆ S₆ => ?_))))
          rw [e16]
          refine subscriptTail_builtin (T := "list") ⟨_, htb S₆, rfl⟩ F.slot_list_getitem.lookup (item_l (htb S₆) hw (by rw [← hT.length]; decide) ?_)
          exact ⟨_, 1, S₆, rfl, fun s' S' => ⟨rfl, tups, w', fun y hy => hy, hpw, S'⟩⟩
        · rw [decide_eq_false (by omega), if_neg (by decide)]
          refine ev_tup3 (s₀ := s) (L := L) (ns := ns100) (ev_loc V S₄ (k := 8) rfl rfl (ev_loc V S₄ (k := 9) rfl rfl (ev_loc V S₄ (k := 9) rfl rfl ⟨S₄, fun a s₅ S₅ => ?_⟩)))
          refine ⟨_, 2, S₅, rfl, fun s' S' => ⟨rfl, (a, tupO [.str (mkS [signN u]) t8, .str (mkS (escL (signN u))) t9, .str (mkS (escL (signN u))) t9]) :: tups, .ref a, fun y hy => List.mem_cons_of_mem _ hy, ?_, S'.perm ?_⟩⟩
          · have e : pcN u = ⟨[signN u], some (escL (signN u)), some (escL (signN u))⟩ := by unfold pcN; rw [dif_neg h15]
            rw [e]
            exact ⟨a, t8, _, _, rfl, List.mem_cons_self .., ⟨t9, rfl⟩, ⟨t9, rfl⟩⟩
          · exact List.perm_middle (l₁ := [(it, o), (pl, lstO (ys ++ [.ref a]) (n + 1)), (xl, lstO xv 0), (tl, lstO tv 0)])
      rintro fl s₉ ⟨rfl, tups', w', hsub, hpw, S₉⟩
      refine wpAny_execs_nil ⟨rfl, _, _, ⟨_, _, _, _, _, ys ++ [w'], n + 1, tups', rfl, rfl, paired_mono (fun _ _ z => z.mono hsub) hT, ?_⟩, S₉⟩
      rw [hts, List.map_append]
      exact (paired_mono (fun _ _ z => z.mono hsub) hP).snoc (by rw [hpc]; exact hpw)
  · rintro vs objs s' ⟨v5, v6, v7, v8, v9, ys, n, tups, rfl, rfl, hT, hP⟩ S'
    refine wpAny_execs_cons (wpAny_Return_some (ev_loc V S' (k := 4) rfl rfl ?_))
    refine hQ pl ys n _ s' S'.ext S'.ond (fun p hp => ⟨(S'.obj p hp).2.2.1, (S'.obj p hp).1⟩) (List.mem_cons_self ..) ?_
    rw [hX.length, List.take_length, ← hitems] at hP
    exact paired_mono (fun _ _ x => x.mono fun y hy => by simp [hy]) hP
end
end Mine
open PySem PySem.W PyProof.Rows PySem.Calls
set_option linter.unusedVariables false
set_option maxRecDepth 100000
namespace Mine
/-- what the law asks, of its pieces -/
structure PlainOk (pcs : List Pc3) : Prop where
  len : pcs.length ≤ 15
  pat : ∀ p ∈ pcs, p.pat.length ≤ 100
  part : ∀ p ∈ pcs, ∀ x, p.part = some x → x.length ≤ 100
  behind : ∀ p ∈ pcs, ∀ x, p.behind = some x → x.length ≤ 100
  ex : ∃ ts0 ts1 ts2 : List Tk, (∀ t ∈ ts0, t.ok = true) ∧ (∀ t ∈ ts1, t.ok = true) ∧ (∀ t ∈ ts2, t.ok = true) ∧ (pcs.map (·.pat)).flatten = textAll ts0 ∧ fixL (textAll ts0) = textAll ts1 ∧ dqL true (textAll ts1) = textAll ts2 ∧
    trL ts1 = lawL (foldA false pcs).2 ∧ trL ts2 = lawL (foldA true pcs).2 ∧ fixL (trL ts0) = lawL (pcs.map (·.behind)) ∧ dqL true (fixL (trL ts0)) = dqL false (lawL (pcs.map (·.behind)))

theorem K117 (P : Params) : (hd.heap_39 P).lookup 117 = some ⟨.type "function", none, .func (fd 117), #[]⟩ := by kernel_rfl
theorem ck117 (P : Params) : codeIn (hd.heap_39 P) (fd 117).code (fd 117).qualname = true := by kernel_rfl
theorem body117 : (fd 117).body = .stmts (bodyOf 117) := by kernel_rfl
def ns117 : List Str := [Str.ofString "script", Str.ofString "pieces", Str.ofString "pattern", Str.ofString "plain", Str.ofString "ahead"]
def gs117 : List Str := [Str.ofString "_law_pieces", Str.ofString "_law_text", Str.ofString "_law_ahead", Str.ofString "translate", Str.ofString "_fix_eols", Str.ofString "quotedata"]
theorem V117 (L : Addr) : EnvOk (callEnv (fd 117) L 117) L ns117 gs117 := envOk_of (by kernel_rfl) (by kernel_rfl) (by kernel_rfl) (by kernel_rfl) (by kernel_rfl) (by kernel_rfl)
theorem gl_pieces (P : Params) : nsIn (hd.heap_39 P) mainGlobals (Str.ofString "_law_pieces") = some (some (.ref 100)) := by kernel_rfl
theorem gl_ahead (P : Params) : nsIn (hd.heap_39 P) mainGlobals (Str.ofString "_law_ahead") = some (some (.ref 107)) := by kernel_rfl
theorem gl_text (P : Params) : nsIn (hd.heap_39 P) mainGlobals (Str.ofString "_law_text") = some (some (.ref 112)) := by kernel_rfl
theorem gl_trans (P : Params) : nsIn (hd.heap_39 P) mainGlobals (Str.ofString "translate") = some (some (.ref 43)) := by kernel_rfl
theorem gl_fix (P : Params) : nsIn (hd.heap_39 P) mainGlobals (Str.ofString "_fix_eols") = some (some (.ref 93)) := by kernel_rfl
theorem gl_quote (P : Params) : nsIn (hd.heap_39 P) mainGlobals (Str.ofString "quotedata") = some (some (.ref 86)) := by kernel_rfl

section
variable {w : World} {A : Around} {E : Value → Shared → Prop} {s₀ s : Shared} {L : Addr} {ns gs : List Str} {vs : List (Option Value)} {objs : List (Addr × Obj)} {env : Env}
/-- a def is entered, the counter's rise kept -/
theorem enterT {f : Addr} {fd : FuncData} {oc : Value} {od : Option Addr} {osl : Array (Option Value)} {args : List Value} {binds : List (Str × Value)} {body : List Stmt} {d u : Nat} {Q : Value → Shared → Prop}
    (ok : OkA A (d + 1) (u + 3)) (g : Good w s) (hK : ∀ P, (hd.heap_39 P).lookup f = some ⟨oc, od, .func fd, osl⟩) (hcd : ∀ P, codeIn (hd.heap_39 P) fd.code fd.qualname = true)
    (hbody : fd.body = .stmts body) (hbind : bindArgs fd ⟨args, []⟩ = pure binds) (hcell : ∀ x ∈ fd.scope.names, x.2 ≠ .cell) (hloc : ∀ x ∈ binds, fd.scope.names.lookup x.1 = some .local)
    (hfm : (fun x => binds.reverse.lookup x) = fm ns vs) (nd : ns.Nodup) (len : ns.length = vs.length) (hE : EnvOk (callEnv fd s.heap.objs.size f) s.heap.objs.size ns gs)
    (h : ∀ env L s₁ A', OkA A' d u → EnvOk env L ns gs → env.code = fd.code → Mst w { s with toks := s.toks + binds.length } L ns vs [] s₁ →
      wpAny (Md w) A' (execs body env) (fun fl s' => Q (match fl with | .ret v => v | _ => .none) s') (fun _ _ => False) s₁)
    (hco : fd.scope.isCoroutine = false := by rfl) (hgen : fd.scope.isGenerator = false := by rfl) (hk : fd.scope.kind = .function := by rfl) :
    wpAny (Md w) A (call (.ref f) args) Q E s := by
  refine wpAny_call (codeAny_call_def (fd := fd) (body := body) (binds := binds) ok.room (g.bs.K _ _ (hK w.params)) rfl g.bs.lim (codeRec_of g.bs.K (hcd w.params)) hbody (BindsTo.of_eq hbind) hcell hloc (fun h₀ hns hkp => ?_) hco hgen hk)
  refine gainQ ?_
  obtain ⟨ps, t⟩ := g.tab
  rw [hfm] at hns
  have hz : s.heap.objs.size ≤ h₀.objs.size := Nat.le_of_lt hns.lt
  have g2 : Good w { s with toks := s.toks + binds.length } := g.ext (Ext.of_keep (fun _ _ e => e) (Nat.le_add_right _ _) (Nat.le_refl _))
  have S : Mst w { s with toks := s.toks + binds.length } s.heap.objs.size ns vs [] { s with heap := h₀, toks := s.toks + binds.length } :=
    ⟨⟨fun b o _ e => hkp b o e, fun ps h => ⟨#[], by simpa [Tab] using ⟨hkp _ _ h.1, h.2⟩⟩, fun h => h, rfl, Nat.le_refl _, hz⟩, g2, hns, nd, len, get_none_size _, fun e => Nat.lt_irrefl _ (e ▸ tab_lt t), fun _ hp => (nomatch hp), List.nodup_nil⟩
  refine wpAny_mono (h _ _ _ _ (ok.deeper _) hE rfl S) (fun fl s' hq _ => hq) fun _ _ x => x.elim

/-- two lists of two texts, the same -/
theorem eq2 {l b : Addr} {x y : List Nat} {t1 t2 t3 t4 : Tok} {n m : Nat} {Q : Value → Shared → Prop} (hu : A.units < cLine) (hl : s.heap.get? l = some (lstO [.str (mkS x) t1, .str (mkS y) t2] n)) (hb : s.heap.get? b = some (lstO [.str (mkS x) t3, .str (mkS y) t4] m)) (h : Q (.bool true) s) :
    wpAny (Md w) A (compareOp .Eq (.ref l) (.ref b)) Q E s := by
  refine P.eq_list (items := #[.str (mkS x) t1, .str (mkS y) t2]) (items2 := #[.str (mkS x) t3, .str (mkS y) t4]) (n := n) (n2 := m) (e := fun _ => true) hl hb rfl (fun j h1 h2 => ?_) hu h
  have hj : j < 2 := h1
  match j, hj with
  | 0, _ => have := SeqRoads2.EqGives.str (mkS x) (mkS x) t1 t3; rw [beq_self_eq_true] at this; exact this
  | 1, _ => have := SeqRoads2.EqGives.str (mkS y) (mkS y) t2 t4; rw [beq_self_eq_true] at this; exact this
theorem ne2 {l b : Addr} {x y : List Nat} {t1 t2 t3 t4 : Tok} {n m : Nat} {Q : Value → Shared → Prop} (hu : A.units < cLine) (hl : s.heap.get? l = some (lstO [.str (mkS x) t1, .str (mkS y) t2] n)) (hb : s.heap.get? b = some (lstO [.str (mkS x) t3, .str (mkS y) t4] m)) (h : Q (.bool false) s) :
    wpAny (Md w) A (compareOp .NotEq (.ref l) (.ref b)) Q E s := by
  refine (SeqAt.RcNeAt.lists (items := #[.str (mkS x) t1, .str (mkS y) t2]) (items2 := #[.str (mkS x) t3, .str (mkS y) t4]) (e := fun _ => true) ⟨_, hl, rfl, _, rfl⟩ ⟨_, hb, rfl, _, rfl⟩ rfl hu (fun j h1 h2 => ?_)) _ w E Q h
  refine MeetsSeq.EqGives.at ?_ _ _
  have hj : j < 2 := h1
  match j, hj with
  | 0, _ => have := SeqRoads2.EqGives.str (mkS x) (mkS x) t1 t3; rw [beq_self_eq_true] at this; exact this
  | 1, _ => have := SeqRoads2.EqGives.str (mkS y) (mkS y) t2 t4; rw [beq_self_eq_true] at this; exact this

/-- piece[k], in a comprehension -/
theorem piece_elt {x : Str} {px p1 pos : Pos} {n1 k : Nat} {C a : Addr} {scope : Scope} {m : Str → Option Value} {v1 v2 v3 v : Value} (hk : scope.kind = .function) (hx : scope.names.lookup x = some .local) (hd : (x == ("__debug__" : Str)) = false)
    (hn : s.heap.Ns C m) (hm : m x = some (.ref a)) (ha : s.heap.get? a = some (tupO [v1, v2, v3])) (hk3 : k < 3) (hv : [v1, v2, v3][k]? = some v) :
    wpAny (Md w) A (eval (.Subscript (.Name x px) (.Constant (.int (k : Nat)) n1 p1) pos) (compEnv scope C env)) (fun y s₃ => y = v ∧ Keeps s s₃) E s := by
  refine Subscript_ (wpAny_Name (wpAny_loadName_local hk hx hn hm (wpAny_Constant_int ?_)) hd)
  refine item_tupleT (l := [v1, v2, v3]) (j := k) ⟨_, ha, rfl, _, rfl⟩ (by omega) (by omega) ?_ hv ⟨rfl, Keeps.tok' s _⟩
  unfold seqIndex?
  simp; omega

theorem flat_le : ∀ {pcs : List Pc3}, (∀ p ∈ pcs, p.pat.length ≤ 100) → ((pcs.map (·.pat)).flatten).length ≤ 100 * pcs.length
  | [], _ => by simp
  | p :: r, h => by
    have h1 := h p (List.mem_cons_self ..)
    have h2 := flat_le (pcs := r) fun q hq => h q (List.mem_cons_of_mem _ hq)
    simp only [List.map_cons, List.flatten_cons, List.length_append, List.length_cons]
    omega
theorem moreOf_len {d : Bool} {la : List Nat} {p : Pc3} (h : ∀ x, p.part = some x → x.length ≤ 100) : ∀ x, moreOf d la p = some x → x.length ≤ 1000 := by
  intro x e
  unfold moreOf at e
  split at e
  · cases e
  · rename_i y hy
    have := h y hy
    split at e
    · cases e; omega
    · split at e
      · cases e; simp
      · cases e; have := dqL_len false y; omega
theorem foldA_small (d : Bool) : ∀ (pcs : List Pc3) (st : List Nat × List Pt), (∀ p ∈ pcs, ∀ x, p.part = some x → x.length ≤ 100) → (∀ q ∈ st.2, ∀ x, q = some x → x.length ≤ 1000) → ∀ q ∈ (pcs.foldl (stepA d) st).2, ∀ x, q = some x → x.length ≤ 1000
  | [], st, _, h => h
  | p :: r, st, hp, h => by
    rw [List.foldl_cons]
    refine foldA_small d r (stepA d st p) (fun q hq => hp q (List.mem_cons_of_mem _ hq)) ?_
    unfold stepA
    dsimp only
    split
    · exact h
    · intro q hq x e
      rcases List.mem_append.mp hq with hq | hq
      · exact h q hq x e
      · rw [List.mem_singleton] at hq
        subst hq
        exact moreOf_len (hp p (List.mem_cons_self ..)) x e
end
end Mine
open PySem PySem.W PyProof.Rows PySem.Calls
set_option linter.unusedVariables false
set_option maxRecDepth 100000
namespace Mine
def FK (news : List (Addr × Obj)) (k : Nat) (v y : Value) : Prop := ∃ a v1 v2 v3, v = .ref a ∧ (a, tupO [v1, v2, v3]) ∈ news ∧ [v1, v2, v3][k]? = some y
theorem nodup_one {news : List (Addr × Obj)} (hn : (news.map (·.1)).Nodup) {a : Addr} {o o' : Obj} (h : (a, o) ∈ news) (h' : (a, o') ∈ news) : o = o' := by
  obtain ⟨i, hi⟩ := List.getElem?_of_mem h
  obtain ⟨j, hj⟩ := List.getElem?_of_mem h'
  have h1 : (news.map (·.1))[i]? = some a := by rw [List.getElem?_map, hi]; rfl
  have h2 : (news.map (·.1))[j]? = some a := by rw [List.getElem?_map, hj]; rfl
  obtain ⟨l1, g1⟩ := List.getElem?_eq_some_iff.mp h1
  obtain ⟨l2, g2⟩ := List.getElem?_eq_some_iff.mp h2
  have hij : i = j := by
    rcases Nat.lt_trichotomy i j with q | q | q
    · exact absurd (g1.trans g2.symm) ((List.pairwise_iff_getElem.mp hn) i j l1 l2 q)
    · exact q
    · exact absurd (g2.trans g1.symm) ((List.pairwise_iff_getElem.mp hn) j i l2 l1 q)
  subst hij
  rw [hi] at hj
  cases hj
  rfl
theorem tup_inj {a b c a' b' c' : Value} (h : tupO [a, b, c] = tupO [a', b', c']) : a = a' ∧ b = b' ∧ c = c' := by
  have h1 : (tupO [a, b, c]).data = (tupO [a', b', c']).data := by rw [h]
  simp only [tupO, Data.seq.injEq] at h1
  have := congrArg Array.toList h1.1
  simpa using this
theorem pick0 {news : List (Addr × Obj)} (hn : (news.map (·.1)).Nodup) : ∀ {pcs : List Pc3} {ys zs : List Value}, Paired (PcIn news) pcs ys → Paired (FK news 0) ys zs → Paired SV (pcs.map (·.pat)) zs
  | _, _, _, .nil, .nil => .nil
  | _, _, _, .cons f r, .cons f' r' => by
    refine .cons ?_ (pick0 hn r r')
    obtain ⟨a, t, v2, v3, e, hm, _, _⟩ := f
    obtain ⟨a', w1, w2, w3, e', hm', hy⟩ := f'
    rw [e] at e'
    cases e'
    obtain ⟨rfl, _, _⟩ := tup_inj (nodup_one hn hm' hm)
    exact ⟨t, by simpa using hy.symm⟩
theorem pick2 {news : List (Addr × Obj)} (hn : (news.map (·.1)).Nodup) : ∀ {pcs : List Pc3} {ys zs : List Value}, Paired (PcIn news) pcs ys → Paired (FK news 2) ys zs → Paired OV (pcs.map (·.behind)) zs
  | _, _, _, .nil, .nil => .nil
  | _, _, _, .cons f r, .cons f' r' => by
    refine .cons ?_ (pick2 hn r r')
    obtain ⟨a, t, v2, v3, e, hm, _, hb⟩ := f
    obtain ⟨a', w1, w2, w3, e', hm', hy⟩ := f'
    rw [e] at e'
    cases e'
    obtain ⟨_, _, rfl⟩ := tup_inj (nodup_one hn hm' hm)
    simp at hy
    subst hy
    exact hb
section
variable {w : World} {A : Around} {E : Value → Shared → Prop} {s : Shared}
set_option maxHeartbeats 4000000 in
theorem call_law {sc : Addr} {xs : List Value} {nums : List Int} {Q : Value → Shared → Prop} (ok : OkA A 12 60) (g : Good w s) (h57 : sc ≠ 57) (hl : s.heap.IsList sc xs.toArray) (hi : IntsAre xs nums) (hn : nums.length ≤ 63) (HP : PlainOk (piecesOf nums))
    (hQ : ∀ s', Ext s s' → Q (.bool true) s') : wpAny (Md w) A (call (.ref 117) [.ref sc]) Q E s := by
  refine enterT (fd := fd 117) (d := 11) (u := 57) (ns := ns117) (gs := gs117) (body := bodyOf 117) (binds := [(Str.ofString "script", .ref sc)]) ok.mono g K117 ck117 body117 rfl (by decide) (locs rfl) (fm_one _ _ _) (by decide) rfl (V117 _) ?_ (by kernel_rfl) (by kernel_rfl) (by kernel_rfl)
  intro env L s₁ A' ok' V hc S
  obtain ⟨ts0, ts1, ts2, ok0, ok1, ok2, hpat, hfix, hquo, hr1, hr2, hr0, hr3⟩ := HP.ex
  have hlen := HP.len
  have hPl := flat_le HP.pat
  have X0 : Ext s { s with toks := s.toks + [(Str.ofString "script", Value.ref sc)].length } := Ext.of_keep (fun _ _ e => e) (Nat.le_add_right _ _) (Nat.le_refl _)
  have T0 : 0 < ({ s with toks := s.toks + [(Str.ofString "script", Value.ref sc)].length } : Shared).toks := by show 0 < s.toks + 1; omega
  generalize ({ s with toks := s.toks + [(Str.ofString "script", Value.ref sc)].length } : Shared) = s₀ at S X0 T0
  have keepL : ∀ {vs objs s'}, Mst w s₀ L ns117 vs objs s' → s'.heap.IsList sc xs.toArray := fun S' => by
    obtain ⟨o, e, r⟩ := hl
    exact ⟨o, (X0.trans S'.ext).keep _ _ h57 e, r⟩
  have tk : ∀ {vs objs s'}, Mst w s₀ L ns117 vs objs s' → 0 < s'.toks := fun S' => Nat.lt_of_lt_of_le T0 S'.ext.toks
  refine wpAny_execs_cons (wpAny_Assign_Name (Call_ (ev_glob V S (k := 0) rfl gl_pieces ?_)) (by rfl))
  refine cw_fn kp100 (wpAny_items_cons (ev_loc V S (k := 0) rfl rfl (wpAny_items_nil ⟨S.good', ?_⟩)))
  with_reducible refine call_pieces ok'.mono S.good' h57 (keepL S) hi hn ?_
  intro l ys n news s₂ x₂ hnd hnew hln hP
  generalize piecesOf nums = pcs at *
  refine st_loc V (S.adoptAll x₂ hnd hnew) (k := 1) rfl fun s₃ S₃ _ => ?_
  rw [List.append_nil] at S₃
  simp only [List.set] at S₃
  clear S
  have yl : ys.length ≤ 15 := by rw [← hP.length]; exact hlen
  have elt : ∀ (k : Nat) {vs' : List (Option Value)} {s₁ : Shared}, k < 3 → Mst w s₀ L ns117 vs' news s₁ → ∀ {x : Str} {px p1 pos : Pos} {n1 : Nat} {scope : Scope} (C : Addr) (v : Value) (s₂ : Shared) (m₂ : Str → Option Value) (E' : Value → Shared → Prop), scope.kind = .function → scope.names.lookup x = some .local → (x == ("__debug__" : Str)) = false →
      v ∈ ys → s₂.heap.Ns C m₂ → m₂ x = some v → (∀ b o, s₁.heap.get? b = some o → s₂.heap.get? b = some o) →
      wpAny (Md w) A' (eval (.Subscript (.Name x px) (.Constant (.int (k : Nat)) n1 p1) pos) (compEnv scope C env)) (fun y s₃ => FK news k v y ∧ Keeps s₂ s₃) E' s₂ := by
    intro k vs' s₁ hk3 S' x px p1 pos n1 scope C v s₂ m₂ E' hk hx hd hv hns hm hkeep
    obtain ⟨i, hi⟩ := List.getElem?_of_mem hv
    obtain ⟨p, _, a, t, v2, v3, rfl, hmem, _, _⟩ := paired_get hP hi
    have hlt : k < [Value.str (mkS p.pat) t, v2, v3].length := hk3
    refine wpAny_mono (piece_elt hk hx hd hns hm (hkeep _ _ (S'.get hmem)) hk3 (List.getElem?_eq_getElem hlt)) (fun y s₃ h => ⟨?_, h.2⟩) fun _ _ e => e
    rw [h.1]
    exact ⟨a, _, _, _, rfl, hmem, List.getElem?_eq_getElem hlt⟩
  have hL : ∀ {vs' s'}, Mst w s₀ L ns117 vs' news s' → s'.heap.IsList l ys.toArray := fun S' => ⟨_, S'.get hln, rfl, _, rfl⟩
  -- the pattern
  refine wpAny_execs_cons (wpAny_Assign_Name (mcall1 (ev_str S₃ fun te s₄ S₄ _ _ pl => ?_) (by rfl) (by rfl) (by rfl)) (by rfl))
  with_reducible refine gm_str F.slot_str_join F.type_str_join ?_
  refine cw_m (wpAny_items_cons (lcomp (vs := [some (.ref sc), some (.ref l), none, none, none]) (objs := news) (s₀ := s₀) (L := L) (ns := ns117) (F := FK news 0) ok'.hh S₄ (by decide) (by decide) (by rfl) (by decide) (by rfl) ?_ (fun _ => by rfl)))
  refine ev_loc V S₄ (k := 1) rfl rfl ⟨l, ys, rfl, S₄, hL S₄, by omega, fun C v s₂ m₂ E' hv hns hm hk => elt 0 (by decide) S₄ C v s₂ m₂ E' (by rfl) (by rfl) (by decide) hv hns hm hk, fun D zs o s₅ S₅ hD hF => ?_⟩
  refine wpAny_items_nil (join_s' S₅.drop1 hD (cat_of (pick0 hnd hP hF)) (by omega) (fun t6 s₆ S₆ => ?_) (by rw [em]; rfl))
  rw [hpat]
  refine st_loc V S₆ (k := 2) rfl fun s₇ S₇ _ => ?_
  simp only [List.set] at S₇
  clear S₆ S₅ S₄ S₃ hD hF
  -- the plain text
  refine wpAny_execs_cons (wpAny_Assign_Name (Call_ (ev_glob V S₇ (k := 1) rfl gl_text ?_)) (by rfl))
  refine cw_fn kp112 (wpAny_items_cons (lcomp (vs := [some (.ref sc), some (.ref l), some (.str (mkS (textAll ts0)) t6), none, none]) (objs := news) (s₀ := s₀) (L := L) (ns := ns117) (F := FK news 2) ok'.hh S₇ (by decide) (by decide) (by rfl) (by decide) (by rfl) ?_ (fun _ => by rfl)))
  refine ev_loc V S₇ (k := 1) rfl rfl ⟨l, ys, rfl, S₇, hL S₇, by omega, fun C v s₂ m₂ E' hv hns hm hk => elt 2 (by decide) S₇ C v s₂ m₂ E' (by rfl) (by rfl) (by decide) hv hns hm hk, fun D zs o s₅ S₅ hD hF => ?_⟩
  refine wpAny_items_nil ⟨S₅.good', ?_⟩
  have hbe := pick2 hnd hP hF
  with_reducible refine call_text ok'.mono S₅.good' (S₅.obj _ (List.mem_cons_self ..)).2.2.2 hD hbe ?_ ?_ ?_
  · rw [List.length_map]; omega
  · intro q hq x e
    obtain ⟨p, hp, rfl⟩ := List.mem_map.mp hq
    have := HP.behind p hp x e
    omega
  intro t7 s₈ x₈
  refine st_loc V (S₅.step x₈).drop1 (k := 3) rfl fun s₉ S₉ _ => ?_
  simp only [List.set] at S₉
  clear S₇ S₅ hD hF hbe x₈
  -- ahead
  have small : ∀ d, (foldA d pcs).2.length ≤ 1000 ∧ ∀ q ∈ (foldA d pcs).2, ∀ x, q = some x → x.length ≤ 1000 := fun d => by
    refine ⟨?_, foldA_small d pcs ([10], []) HP.part (fun q hq => nomatch hq)⟩
    have := foldA_len d pcs ([10], [])
    have e : ([] : List Pt).length = 0 := rfl
    have e2 : (foldA d pcs).2.length = (pcs.foldl (stepA d) ([10], [])).2.length := rfl
    rw [e2]
    simp only [e] at this
    omega
  have one : ∀ (d : Bool) (c1 : Nat) (p1 p2 p3 p4 p5 p6 : Pos) {vs' : List (Option Value)} {s' : Shared} {Q' : Value → Shared → Prop}, vs'[1]? = some (some (.ref l)) → Mst w s₀ L ns117 vs' news s' → (∀ t s'', Mst w s₀ L ns117 vs' news s'' → Q' (.str (mkS (lawL (foldA d pcs).2)) t) s'') →
      wpAny (Md w) A' (eval (.Call (.Name (Str.ofString "_law_text") p1) [.Call (.Name (Str.ofString "_law_ahead") p2) [.Name (Str.ofString "pieces") p3, .Constant (.bool d) c1 p4] [] p5] [] p6) env) Q' (fun _ _ => False) s' := by
    intro d c1 p1 p2 p3 p4 p5 p6 vs' s' Q' hv S' hq
    refine Call_ (ev_glob V S' (k := 1) rfl gl_text (cw_fn kp112 (wpAny_items_cons (Call_ (ev_glob V S' (k := 2) rfl gl_ahead (cw_fn kp107 (wpAny_items_cons (ev_loc V S' (k := 1) rfl hv (wpAny_items_cons (wpAny_Constant_bool (wpAny_items_nil ⟨S'.good', ?_⟩)))))))))))
    have hPa : Paired (PcAt s'.heap) pcs ys := paired_mono (fun p v x => by
      obtain ⟨a, t, v2, v3, e, hm, r⟩ := x
      exact ⟨a, t, v2, v3, e, (S'.obj _ hm).2.2.2, S'.get hm, r⟩) hP
    with_reducible refine call_ahead ok'.mono S'.good' (tk S') (S'.obj _ hln).2.2.2 (hL S') hPa ?_ ?_ ?_
    · omega
    · intro p hp
      refine ⟨?_, fun x e => ?_⟩
      · have := HP.pat p hp; omega
      · have := HP.part p hp x e; omega
    intro l' zs n' s₂ x₂ hnone hl' hO
    have S₂ := S'.step x₂
    have h57' : l' ≠ 57 := fun q => by
      obtain ⟨ps, t⟩ := S'.good'.tab
      rw [q, t.1] at hnone; cases hnone
    refine wpAny_items_nil ⟨S₂.good', ?_⟩
    have hL' : s₂.heap.IsList l' zs.toArray := ⟨_, hl', rfl, _, rfl⟩
    with_reducible refine call_text ok'.mono S₂.good' h57' hL' hO (small d).1 (small d).2 ?_
    intro t3 s₃ x₃
    exact hq t3 s₃ (S₂.step x₃)
  refine wpAny_execs_cons (wpAny_Assign_Name (List_ (wpAny_items_cons (one false _ _ _ _ _ _ _ (by rfl) S₉ fun ta sa Sa => wpAny_items_cons (one true _ _ _ _ _ _ _ (by rfl) Sa fun tb sb Sb => wpAny_items_nil (wpAny_newList ?_ (by show 2 ≤ sizeLine; decide)))))) (by rfl))
  rw [← hr1, ← hr2, ← hr0] at *
  have Sc := Sb.push (o := lstO [.str (mkS (trL ts1)) ta, .str (mkS (trL ts2)) tb] 0)
  generalize sb.heap.objs.size = la at Sc ⊢
  refine st_loc V Sc (k := 4) rfl fun sd Sd _ => ?_
  simp only [List.set] at Sd
  clear Sc Sb Sa S₉
  -- the sizes
  have z0 : (textAll ts0).length ≤ 1500 := by rw [← hpat]; omega
  have z1 : (textAll ts1).length ≤ 3000 := by rw [← hfix]; have := fixL_len (textAll ts0); omega
  have z2 : (textAll ts2).length ≤ 6000 := by rw [← hquo]; have := dqL_len true (textAll ts1); omega
  have z3 : (trL ts0).length ≤ 20000 := by have := trL_len ts0; omega
  have z4 : (fixL (trL ts0)).length ≤ 40000 := by have := fixL_len (trL ts0); omega
  have cz : ∀ p : List Nat, (mkS p).cps.size = p.length := fun p => by simp [mkS]
  have kt : ∀ {vs' : List (Option Value)} {objs' : List (Addr × Obj)} {s' : Shared} {Q' : Value → Shared → Prop} (p1 p2 p3 p4 p5 : Pos), vs'[2]? = some (some (.str (mkS (textAll ts0)) t6)) → Mst w s₀ L ns117 vs' objs' s' → (∀ t s'', Mst w s₀ L ns117 vs' objs' s'' → Q' (.str (mkS (trL ts1)) t) s'') →
      wpAny (Md w) A' (eval (.Call (.Name (Str.ofString "translate") p1) [.Call (.Name (Str.ofString "_fix_eols") p2) [.Name (Str.ofString "pattern") p3] [] p4] [] p5) env) Q' (fun _ _ => False) s' := by
    intro vs' objs' s' Q' p1 p2 p3 p4 p5 hv S' hq
    refine Call_ (ev_glob V S' (k := 3) rfl gl_trans (cw_fn kp43 (wpAny_items_cons (Call_ (ev_glob V S' (k := 4) rfl gl_fix (cw_fn kp93 (wpAny_items_cons (ev_loc V S' (k := 2) rfl hv (wpAny_items_nil ⟨S'.good', ?_⟩)))))))))
    with_reducible refine call_fix ok'.mono S'.good' (by rw [cz]; omega) ?_
    intro t1 s₂ x₂
    have S₂ := S'.step x₂
    rw [mkS_toList, hfix]
    refine wpAny_items_nil ⟨S₂.good', ?_⟩
    with_reducible refine call_trans ok'.mono S₂.good' ok1 (by omega) ?_
    exact fun t2 s₃ x₃ => hq t2 s₃ (S₂.step x₃)
  have qt : ∀ {vs' : List (Option Value)} {objs' : List (Addr × Obj)} {s' : Shared} {Q' : Value → Shared → Prop} (p1 p2 p3 p4 p5 : Pos), vs'[2]? = some (some (.str (mkS (textAll ts0)) t6)) → Mst w s₀ L ns117 vs' objs' s' → (∀ t s'', Mst w s₀ L ns117 vs' objs' s'' → Q' (.str (mkS (trL ts2)) t) s'') →
      wpAny (Md w) A' (eval (.Call (.Name (Str.ofString "translate") p1) [.Call (.Name (Str.ofString "quotedata") p2) [.Name (Str.ofString "pattern") p3] [] p4] [] p5) env) Q' (fun _ _ => False) s' := by
    intro vs' objs' s' Q' p1 p2 p3 p4 p5 hv S' hq
    refine Call_ (ev_glob V S' (k := 3) rfl gl_trans (cw_fn kp43 (wpAny_items_cons (Call_ (ev_glob V S' (k := 5) rfl gl_quote (cw_fn kp86 (wpAny_items_cons (ev_loc V S' (k := 2) rfl hv (wpAny_items_nil ⟨S'.good', ?_⟩)))))))))
    with_reducible refine call_quote ok'.mono S'.good' (by rw [cz]; omega) ?_
    intro t1 s₂ x₂
    have S₂ := S'.step x₂
    rw [mkS_toList, hfix, hquo]
    refine wpAny_items_nil ⟨S₂.good', ?_⟩
    with_reducible refine call_trans ok'.mono S₂.good' ok2 (by omega) ?_
    exact fun t2 s₃ x₃ => hq t2 s₃ (S₂.step x₃)
  have tf : ∀ {vs' : List (Option Value)} {objs' : List (Addr × Obj)} {s' : Shared} {Q' : Value → Shared → Prop} (p1 p2 p3 p4 p5 : Pos), vs'[2]? = some (some (.str (mkS (textAll ts0)) t6)) → Mst w s₀ L ns117 vs' objs' s' → (∀ t s'', Mst w s₀ L ns117 vs' objs' s'' → Q' (.str (mkS (fixL (trL ts0))) t) s'') →
      wpAny (Md w) A' (eval (.Call (.Name (Str.ofString "_fix_eols") p1) [.Call (.Name (Str.ofString "translate") p2) [.Name (Str.ofString "pattern") p3] [] p4] [] p5) env) Q' (fun _ _ => False) s' := by
    intro vs' objs' s' Q' p1 p2 p3 p4 p5 hv S' hq
    refine Call_ (ev_glob V S' (k := 4) rfl gl_fix (cw_fn kp93 (wpAny_items_cons (Call_ (ev_glob V S' (k := 3) rfl gl_trans (cw_fn kp43 (wpAny_items_cons (ev_loc V S' (k := 2) rfl hv (wpAny_items_nil ⟨S'.good', ?_⟩)))))))))
    with_reducible refine call_trans ok'.mono S'.good' ok0 (by omega) ?_
    intro t1 s₂ x₂
    have S₂ := S'.step x₂
    refine wpAny_items_nil ⟨S₂.good', ?_⟩
    with_reducible refine call_fix ok'.mono S₂.good' (by rw [cz]; omega) ?_
    rw [mkS_toList]
    exact fun t2 s₃ x₃ => hq t2 s₃ (S₂.step x₃)
  have tq : ∀ {vs' : List (Option Value)} {objs' : List (Addr × Obj)} {s' : Shared} {Q' : Value → Shared → Prop} (p1 p2 p3 p4 p5 : Pos), vs'[2]? = some (some (.str (mkS (textAll ts0)) t6)) → Mst w s₀ L ns117 vs' objs' s' → (∀ t s'', Mst w s₀ L ns117 vs' objs' s'' → Q' (.str (mkS (dqL true (fixL (trL ts0)))) t) s'') →
      wpAny (Md w) A' (eval (.Call (.Name (Str.ofString "quotedata") p1) [.Call (.Name (Str.ofString "translate") p2) [.Name (Str.ofString "pattern") p3] [] p4] [] p5) env) Q' (fun _ _ => False) s' := by
    intro vs' objs' s' Q' p1 p2 p3 p4 p5 hv S' hq
    refine Call_ (ev_glob V S' (k := 5) rfl gl_quote (cw_fn kp86 (wpAny_items_cons (Call_ (ev_glob V S' (k := 3) rfl gl_trans (cw_fn kp43 (wpAny_items_cons (ev_loc V S' (k := 2) rfl hv (wpAny_items_nil ⟨S'.good', ?_⟩)))))))))
    with_reducible refine call_trans ok'.mono S'.good' ok0 (by omega) ?_
    intro t1 s₂ x₂
    have S₂ := S'.step x₂
    refine wpAny_items_nil ⟨S₂.good', ?_⟩
    with_reducible refine call_quote ok'.mono S₂.good' (by rw [cz]; omega) ?_
    rw [mkS_toList]
    exact fun t2 s₃ x₃ => hq t2 s₃ (S₂.step x₃)
  have hun := ok'.units
  -- fixed first
  refine wpAny_execs_cons (wpAny_If (wpAny_isTrue_Compare1 (List_ (wpAny_items_cons (kt _ _ _ _ _ rfl Sd fun tc se Se => wpAny_items_cons (qt _ _ _ _ _ rfl Se fun td sf Sf => wpAny_items_nil (wpAny_newList ?_ (by show 2 ≤ sizeLine; decide))))))))
  have Sg := Sf.push (o := lstO [.str (mkS (trL ts1)) tc, .str (mkS (trL ts2)) td] 0)
  generalize sf.heap.objs.size = lb at Sg ⊢
  refine ev_loc V Sg (k := 4) rfl rfl ?_
  refine ne2 hun (Sg.get (List.mem_cons_self ..)) (Sg.get (List.mem_cons_of_mem _ (List.mem_cons_self ..))) (wpAny_truthy_bool ?_)
  rw [if_neg (by decide)]
  refine wpAny_execs_nil ?_
  -- translated first
  refine wpAny_execs_cons (wpAny_Return_some (wpAny_Compare1 (List_ (wpAny_items_cons (tf _ _ _ _ _ rfl Sg fun te2 sh Sh => wpAny_items_cons (tq _ _ _ _ _ rfl Sh fun tg si Si => wpAny_items_nil (wpAny_newList ?_ (by show 2 ≤ sizeLine; decide))))))))
  have Sj := Si.push (o := lstO [.str (mkS (fixL (trL ts0))) te2, .str (mkS (dqL true (fixL (trL ts0)))) tg] 0)
  generalize si.heap.objs.size = lc at Sj ⊢
  refine List_ (wpAny_items_cons (ev_loc V Sj (k := 3) rfl rfl (wpAny_items_cons (mcall2 (ev_loc V Sj (k := 3) rfl rfl fun pl => ?_) (by rfl) (by rfl) (by rfl)))))
  with_reducible refine gm_str F.slot_str_replace F.type_str_replace ?_
  refine cw_m (wpAny_items_cons (ev_str Sj fun th sk Sk h5 h5' => wpAny_items_cons (ev_str Sk fun tl sl Sl h6 h6' => wpAny_items_nil ?_)))
  refine call_rep Sl y1046 y104646 (Nat.ne_of_gt (Nat.lt_of_lt_of_le (tk Sj) h5)) (Nat.ne_of_gt (Nat.lt_of_lt_of_le (tk Sk) h6)) (Nat.ne_of_lt (Nat.lt_of_lt_of_le h5' h6)) (by omega) fun tm sm Sm => ?_
  refine wpAny_items_nil (wpAny_newList ?_ (by show 2 ≤ sizeLine; decide))
  rw [← hr3]
  have Sn := Sm.push (o := lstO [.str (mkS (fixL (trL ts0))) t7, .str (mkS (dqL true (fixL (trL ts0)))) tm] 0)
  generalize sm.heap.objs.size = ld at Sn ⊢
  refine eq2 hun (Sn.get (List.mem_cons_of_mem _ (List.mem_cons_self ..))) (Sn.get (List.mem_cons_self ..)) ?_
  exact hQ _ (X0.trans Sn.ext)
end
end Mine
open PySem PySem.W PyProof.Rows PySem.Calls
set_option linter.unusedVariables false
set_option maxRecDepth 100000
namespace Mine
/-! ## line ends and dots, of texts set together -/
theorem fixL_cons (c : Nat) (r : List Nat) : fixL (c :: r) = if c = 13 ∧ r.head? = some 10 then 13 :: 10 :: fixL (r.drop 1) else if c = 10 ∨ c = 13 then 13 :: 10 :: fixL r else c :: fixL r := by
  cases r with
  | nil => simp [fixL]
  | cons d r => simp [fixL]
theorem fixL_app : ∀ (n : Nat) (p q : List Nat), p.length ≤ n → (p.getLast? ≠ some 13 ∨ q.head? ≠ some 10) → fixL (p ++ q) = fixL p ++ fixL q
  | _, [], q, _, _ => by simp [fixL]
  | 0, c :: p, q, h, _ => by simp at h
  | n + 1, [c], q, hn, h => by
    have e1 : fixL [c] = if c = 10 ∨ c = 13 then [13, 10] else [c] := rfl
    have h' : c ≠ 13 ∨ q.head? ≠ some 10 := by simpa using h
    have h13 : ¬ (c = 13 ∧ q.head? = some 10) := fun q' => by
      rcases h' with h' | h'
      · exact h' q'.1
      · exact h' q'.2
    rw [List.singleton_append, fixL_cons, e1, if_neg h13]
    by_cases h2 : c = 10 ∨ c = 13
    · rw [if_pos h2, if_pos h2]; rfl
    · rw [if_neg h2, if_neg h2]; rfl
  | n + 1, c :: d :: p, q, hn, h => by
    have h' : (d :: p).getLast? ≠ some 13 ∨ q.head? ≠ some 10 := by simpa [List.getLast?_cons_cons] using h
    have ih := fixL_app n (d :: p) q (by simp at hn ⊢; omega) h'
    rw [List.cons_append, fixL_cons, fixL_cons]
    simp only [List.cons_append, List.head?_cons, List.drop_succ_cons, List.drop_zero] at ih ⊢
    by_cases h13 : c = 13 ∧ some d = some 10
    · rw [if_pos h13, if_pos h13]
      have h'' : p.getLast? ≠ some 13 ∨ q.head? ≠ some 10 := by
        cases p with
        | nil => exact .inl (by simp)
        | cons e r => simpa [List.getLast?_cons_cons] using h'
      rw [fixL_app n p q (by simp at hn; omega) h'']
      rfl
    · rw [if_neg h13, if_neg h13]
      by_cases h2 : c = 10 ∨ c = 13
      · rw [if_pos h2, if_pos h2, ih]; rfl
      · rw [if_neg h2, if_neg h2, ih]; rfl
theorem fixL_last {p q : List Nat} (h : p.getLast? ≠ some 13) : fixL (p ++ q) = fixL p ++ fixL q := fixL_app _ p q (Nat.le_refl _) (.inl h)
theorem fixL_head {p q : List Nat} (h : q.head? ≠ some 10) : fixL (p ++ q) = fixL p ++ fixL q := fixL_app _ p q (Nat.le_refl _) (.inr h)
theorem fixL_ne {p : List Nat} (h : fixL p = []) : p = [] := by
  cases p with
  | nil => rfl
  | cons c r =>
    rw [fixL_cons] at h
    split at h
    · cases h
    · split at h <;> cases h
def endB (b : Bool) : List Nat → Bool
  | [] => b
  | c :: r => endB (c == 10) r
theorem dqL_app : ∀ (b : Bool) (p q : List Nat), dqL b (p ++ q) = dqL b p ++ dqL (endB b p) q
  | b, [], q => rfl
  | b, c :: r, q => by
    rw [List.cons_append]
    simp only [dqL, endB]
    by_cases h : b = true ∧ c = 46
    · rw [if_pos h, if_pos h, h.2]
      have := dqL_app false r q
      simp [this]
    · rw [if_neg h, if_neg h, dqL_app (c == 10) r q]; rfl
theorem endB_app : ∀ (b : Bool) (p q : List Nat), endB b (p ++ q) = endB (endB b p) q
  | b, [], q => rfl
  | b, c :: r, q => endB_app (c == 10) r q

/-! ## the parts, in groups -/
def rl (st : List (List Nat) × List Nat) : List (List Nat) := st.1 ++ [st.2]
theorem runs_none (ps : List Pt) : runs (ps ++ [none]) = runs ps ++ [[]] := by
  induction ps with
  | nil => rfl
  | cons p r ih =>
    cases p with
    | none => simp [runs, ih]
    | some x =>
      obtain ⟨a, l, e⟩ := runs_ne r
      simp only [List.cons_append, runs, ih, e]
      rfl
theorem runs_some (x : List Nat) : ∀ (ps : List Pt) (l : List (List Nat)) (r : List Nat), runs ps = l ++ [r] → runs (ps ++ [some x]) = l ++ [r ++ x]
  | [], l, r, h => by
    have h' : ([[]] : List (List Nat)) = l ++ [r] := h
    cases l with
    | nil => simp at h'; subst h'; simp [runs, addHead]
    | cons a b => cases b <;> simp at h'
  | none :: ps, l, r, h => by
    have h' : [] :: runs ps = l ++ [r] := h
    obtain ⟨a, b, e⟩ := runs_ne ps
    cases l with
    | nil => rw [e] at h'; simp at h'
    | cons c l =>
      simp only [List.cons_append, List.cons.injEq] at h'
      have ih := runs_some x ps l r h'.2
      show [] :: runs (ps ++ [some x]) = _
      rw [ih, ← h'.1]; rfl
  | some y :: ps, l, r, h => by
    have h' : addHead y (runs ps) = l ++ [r] := h
    show addHead y (runs (ps ++ [some x])) = _
    obtain ⟨a, b, e⟩ := runs_ne ps
    rw [e] at h'
    cases l with
    | nil =>
      have h2 : (y ++ a) :: b = [r] := h'
      simp only [List.cons.injEq] at h2
      rw [h2.2] at e
      have ih := runs_some x ps [] a e
      rw [ih, ← h2.1]
      simp [addHead]
    | cons c l =>
      have h2 : (y ++ a) :: b = c :: (l ++ [r]) := h'
      simp only [List.cons.injEq] at h2
      rw [h2.2] at e
      have ih := runs_some x ps (a :: l) r e
      rw [ih, ← h2.1]
      simp [addHead]
theorem parts_runs : ∀ (os : List Pt) (acc : List Pt) (st : List (List Nat) × List Nat), (∀ x, some x ∈ os → x ≠ []) → runs acc = rl st → (acc.getLast? = some none ↔ (st.2 = [] ∧ st.1 ≠ [])) →
    runs (os.foldl pushPt acc) = rl (os.foldl rStep st)
  | [], acc, st, _, h, _ => h
  | o :: os, acc, st, hn, h, hl => by
    rw [List.foldl_cons, List.foldl_cons]
    refine parts_runs os _ _ (fun x hx => hn x (List.mem_cons_of_mem _ hx)) ?_ ?_
    · cases o with
      | some x =>
        rw [pushPt_some]
        exact runs_some x acc st.1 st.2 h
      | none =>
        unfold pushPt
        by_cases hc : acc.getLast? = some none
        · rw [if_pos ⟨rfl, hc⟩]
          have := hl.mp hc
          have e : rStep st none = st := by unfold rStep; rw [if_neg (by simp [this.1, this.2])]
          rw [e, h]
        · rw [if_neg (fun q => hc q.2), runs_none, h]
          have : st.2 ≠ [] ∨ st.1 = [] := by
            by_cases h2 : st.2 = []
            · by_cases h1 : st.1 = []
              · exact .inr h1
              · exact absurd (hl.mpr ⟨h2, h1⟩) hc
            · exact .inl h2
          have e : rStep st none = (st.1 ++ [st.2], []) := by unfold rStep; rw [if_pos this]
          rw [e]; rfl
    · cases o with
      | some x =>
        have hx := hn x (List.mem_cons_self ..)
        rw [pushPt_some]
        simp [rStep, hx]
      | none =>
        unfold pushPt
        by_cases hc : acc.getLast? = some none
        · rw [if_pos ⟨rfl, hc⟩]
          have := hl.mp hc
          have e : rStep st none = st := by unfold rStep; rw [if_neg (by simp [this.1, this.2])]
          rw [e]; exact hl
        · rw [if_neg (fun q => hc q.2)]
          have : st.2 ≠ [] ∨ st.1 = [] := by
            by_cases h2 : st.2 = []
            · by_cases h1 : st.1 = []
              · exact .inr h1
              · exact absurd (hl.mpr ⟨h2, h1⟩) hc
            · exact .inl h2
          have e : rStep st none = (st.1 ++ [st.2], []) := by unfold rStep; rw [if_pos this]
          rw [e]; simp
theorem runs_parts (ts : List Tk) (hn : ∀ t ∈ ts, t.out ≠ some []) : runs (partsOf ts) = rl (rFold (ts.map Tk.out)) := by
  have h := parts_runs (ts.map Tk.out) [] ([], []) (fun x hx e => by
    obtain ⟨t, ht, e'⟩ := List.mem_map.mp hx
    exact hn t ht (by rw [e', e])) rfl (by simp)
  rw [List.foldl_map] at h
  exact h
theorem trL_law (ts : List Tk) (hn : ∀ t ∈ ts, t.out ≠ some []) : trL ts = lawL (ts.map Tk.out) := by
  unfold trL resL lawL
  rw [runs_parts ts hn]
  rfl
/-- is a group of parts one part -/
def grp (os : List Pt) (p : Pt) : Bool := (decide (os = [none]) && decide (p = none)) || (os.all Option.isSome && decide (p = some ((os.map fun o => o.getD []).flatten)))
theorem grp_some : ∀ (os : List Pt) (st : List (List Nat) × List Nat), os.all Option.isSome = true → os.foldl rStep st = (st.1, st.2 ++ (os.map fun o => o.getD []).flatten)
  | [], st, _ => by simp
  | none :: r, st, h => by simp at h
  | some x :: r, st, h => by
    have ih := grp_some r (rStep st (some x)) (by simpa using h)
    rw [List.foldl_cons, ih]
    simp [rStep]
theorem grp_step {os : List Pt} {p : Pt} (h : grp os p = true) (st : List (List Nat) × List Nat) : os.foldl rStep st = rStep st p := by
  unfold grp at h
  rcases Bool.or_eq_true_iff.mp h with h | h
  · simp only [Bool.and_eq_true, decide_eq_true_eq] at h
    rw [h.1, h.2]; rfl
  · rw [Bool.and_eq_true, decide_eq_true_eq] at h
    rw [h.2, grp_some os st h.1]; rfl
end Mine
open PySem PySem.W PyProof.Rows PySem.Calls
set_option linter.unusedVariables false
set_option maxRecDepth 100000
namespace Mine
def isEol (l : List Nat) : Bool := decide (l = [10] ∨ l = [13] ∨ l = [13, 10])
def more2 (b : Bool) (p : Pc3) : Pt := match p.part with
  | none => none
  | some x => if p.pat = [46] ∧ b = true then some [92, 46, 92, 46] else some (dqL false x)
theorem moreOf_true (la : List Nat) (p : Pc3) : moreOf true la p = more2 (isEol la) p := by
  unfold moreOf more2 isEol
  cases p.part with
  | none => rfl
  | some x =>
    dsimp only
    rw [if_neg (by decide)]
    by_cases h : la = [10] ∨ la = [13] ∨ la = [13, 10]
    · rw [decide_eq_true h]
      by_cases h2 : p.pat = [46]
      · rw [if_pos ⟨h2, h⟩, if_pos ⟨h2, rfl⟩]
      · rw [if_neg (fun q => h2 q.1), if_neg (fun q => h2 q.1)]
    · rw [decide_eq_false h, if_neg (fun q => h q.2), if_neg (by simp)]
theorem moreOf_false (la : List Nat) (p : Pc3) : moreOf false la p = p.part := by
  unfold moreOf
  cases p.part with
  | none => rfl
  | some x => rfl

/-- a piece with the signs that it is, as it stands, fixed, and quoted -/
structure PG (p : Pc3) (t0 f1 : List Tk) (q2 : Bool → List Tk) : Prop where
  ok0 : ∀ t ∈ t0, t.ok = true
  ok1 : ∀ t ∈ f1, t.ok = true
  ok2 : ∀ b, ∀ t ∈ q2 b, t.ok = true
  ne0 : ∀ t ∈ t0, t.out ≠ some []
  ne1 : ∀ t ∈ f1, t.out ≠ some []
  ne2 : ∀ b, ∀ t ∈ q2 b, t.out ≠ some []
  hd0 : ∀ t ∈ t0, ∀ x, t.out = some x → x.head? ≠ some 10
  x0 : textAll t0 = p.pat
  x1 : textAll f1 = fixL p.pat
  x2 : ∀ b, textAll (q2 b) = dqL b (fixL p.pat)
  g1 : grp (f1.map Tk.out) p.part = true
  g2 : ∀ b, grp ((q2 b).map Tk.out) (more2 b p) = true
  g0 : grp (t0.map fun t => t.out.map fixL) p.behind = true
  pne : p.pat ≠ []
  p10 : p.pat.head? = some 10 → p.pat = [10]
  p13 : p.pat.getLast? = some 13 → p.pat = [13]
  pe : ∀ b, endB b (fixL p.pat) = isEol p.pat
  l1 : p.pat.length ≤ 100
  l2 : ∀ x, p.part = some x → x.length ≤ 100
  l3 : ∀ x, p.behind = some x → x.length ≤ 100
structure Pz where
  p : Pc3
  t0 : List Tk
  f1 : List Tk
  q2 : Bool → List Tk
  h : PG p t0 f1 q2

def patAll (zs : List Pz) : List Nat := (zs.map fun z => z.p.pat).flatten
theorem patAll_cons (z : Pz) (zs : List Pz) : patAll (z :: zs) = z.p.pat ++ patAll zs := by simp [patAll]
def T0 (zs : List Pz) : List Tk := (zs.map Pz.t0).flatten
def T1 : List Nat → List Pz → List Tk
  | _, [] => []
  | la, z :: r => (if la = [13] ∧ z.p.pat = [10] then [] else z.f1) ++ T1 z.p.pat r
def T2 : List Nat → List Pz → List Tk
  | _, [] => []
  | la, z :: r => (if la = [13] ∧ z.p.pat = [10] then [] else z.q2 (isEol la)) ++ T2 z.p.pat r
def aheadR (d : Bool) : List Nat → List Pz → List Pt
  | _, [] => []
  | la, z :: r => (if la = [13] ∧ z.p.pat = [10] then [] else [moreOf d la z.p]) ++ aheadR d z.p.pat r
theorem ahead_eq (d : Bool) : ∀ (zs : List Pz) (la : List Nat) (acc : List Pt), ((zs.map Pz.p).foldl (stepA d) (la, acc)).2 = acc ++ aheadR d la zs
  | [], la, acc => by simp [aheadR]
  | z :: r, la, acc => by
    rw [List.map_cons, List.foldl_cons]
    show ((r.map Pz.p).foldl (stepA d) (z.p.pat, if la = [13] ∧ z.p.pat = [10] then acc else acc ++ [moreOf d la z.p])).2 = _
    rw [ahead_eq d r]
    simp only [aheadR]
    split <;> simp
theorem text_T0 : ∀ zs : List Pz, textAll (T0 zs) = patAll zs
  | [] => rfl
  | z :: r => by
    have ih := text_T0 r
    rw [patAll_cons, ← ih, ← z.h.x0, ← textAll_append]
    simp [T0]
/-- the fixed text -/
theorem fix_T1 : ∀ zs : List Pz, (∀ la, la ≠ [13] → fixL (patAll zs) = textAll (T1 la zs)) ∧ fixL (13 :: patAll zs) = 13 :: 10 :: textAll (T1 [13] zs)
  | [] => ⟨fun _ _ => rfl, rfl⟩
  | z :: r => by
    obtain ⟨ih1, ih2⟩ := fix_T1 r
    rw [patAll_cons]
    have step : fixL (z.p.pat ++ patAll r) = textAll (z.f1 ++ T1 z.p.pat r) := by
      rw [textAll_append, z.h.x1]
      by_cases h13 : z.p.pat = [13]
      · rw [h13]
        show fixL (13 :: patAll r) = _
        rw [ih2]; rfl
      · rw [fixL_last (fun q => h13 (z.h.p13 q)), ih1 _ h13]
    refine ⟨fun la hla => ?_, ?_⟩
    · rw [step, T1, if_neg (fun q => hla q.1)]
    · by_cases h10 : z.p.pat = [10]
      · rw [T1, if_pos ⟨rfl, h10⟩, h10, List.nil_append]
        show fixL (13 :: 10 :: patAll r) = _
        rw [fixL_pair, ih1 [10] (by decide)]
      · rw [T1, if_neg (fun q => h10 q.2), ← step]
        refine fixL_one (.inr rfl) _ fun q => h10 (z.h.p10 ?_)
        have := q.2
        rw [List.head?_append] at this
        cases hh : z.p.pat.head? with
        | none => exact absurd (List.head?_eq_none_iff.mp hh) z.h.pne
        | some c => rw [hh] at this; simpa using this
/-- the quoted text -/
theorem quote_T2 : ∀ (zs : List Pz) (la : List Nat), dqL (isEol la) (textAll (T1 la zs)) = textAll (T2 la zs)
  | [], la => rfl
  | z :: r, la => by
    rw [T1, T2]
    by_cases hs : la = [13] ∧ z.p.pat = [10]
    · rw [if_pos hs, if_pos hs, List.nil_append, List.nil_append, ← quote_T2 r z.p.pat, hs.1, hs.2]
      rfl
    · rw [if_neg hs, if_neg hs, textAll_append, textAll_append, dqL_app, z.h.x1, z.h.x2, z.h.pe, quote_T2 r z.p.pat]
theorem outs_T1 : ∀ (zs : List Pz) (la : List Nat) (st : List (List Nat) × List Nat), ((T1 la zs).map Tk.out).foldl rStep st = (aheadR false la zs).foldl rStep st
  | [], _, _ => rfl
  | z :: r, la, st => by
    rw [T1, aheadR, List.map_append, List.foldl_append, List.foldl_append, outs_T1 r]
    congr 1
    by_cases hs : la = [13] ∧ z.p.pat = [10]
    · rw [if_pos hs, if_pos hs]; rfl
    · rw [if_neg hs, if_neg hs, grp_step z.h.g1, moreOf_false]; rfl
theorem outs_T2 : ∀ (zs : List Pz) (la : List Nat) (st : List (List Nat) × List Nat), ((T2 la zs).map Tk.out).foldl rStep st = (aheadR true la zs).foldl rStep st
  | [], _, _ => rfl
  | z :: r, la, st => by
    rw [T2, aheadR, List.map_append, List.foldl_append, List.foldl_append, outs_T2 r]
    congr 1
    by_cases hs : la = [13] ∧ z.p.pat = [10]
    · rw [if_pos hs, if_pos hs]; rfl
    · rw [if_neg hs, if_neg hs, grp_step (z.h.g2 (isEol la)), moreOf_true]; rfl
theorem outs_T0 : ∀ (zs : List Pz) (st : List (List Nat) × List Nat), ((T0 zs).map fun t => t.out.map fixL).foldl rStep st = (zs.map fun z => z.p.behind).foldl rStep st
  | [], _ => rfl
  | z :: r, st => by
    have e : T0 (z :: r) = z.t0 ++ T0 r := by simp [T0]
    rw [e, List.map_append, List.foldl_append, outs_T0 r, grp_step z.h.g0]
    rfl
theorem lawL_congr {a b : List Pt} (h : a.foldl rStep ([], []) = b.foldl rStep ([], [])) : lawL a = lawL b := by
  unfold lawL rFold
  rw [h]

/-! ## line ends of a translated text -/
def fixSt (st : List (List Nat) × List Nat) : List (List Nat) × List Nat := (st.1.map fixL, fixL st.2)
def H10 (x : List Nat) : Prop := x.head? ≠ some 10
theorem H10_app {x y : List Nat} (hx : H10 x) (hy : H10 y) : H10 (x ++ y) := by
  unfold H10 at *
  cases x with
  | nil => simpa using hy
  | cons a r => simpa using hx
theorem fix_step {st : List (List Nat) × List Nat} {o : Pt} (h : ∀ x, o = some x → H10 x) : rStep (fixSt st) (o.map fixL) = fixSt (rStep st o) := by
  cases o with
  | some x =>
    show (st.1.map fixL, fixL st.2 ++ fixL x) = (st.1.map fixL, fixL (st.2 ++ x))
    rw [fixL_head (h x rfl)]
  | none =>
    show (if fixL st.2 ≠ [] ∨ st.1.map fixL = [] then (st.1.map fixL ++ [fixL st.2], []) else fixSt st) = fixSt (if st.2 ≠ [] ∨ st.1 = [] then (st.1 ++ [st.2], []) else st)
    have e : (fixL st.2 ≠ [] ∨ st.1.map fixL = []) ↔ (st.2 ≠ [] ∨ st.1 = []) := by
      rw [List.map_eq_nil_iff]
      constructor
      · rintro (h | h)
        · exact .inl fun q => h (by rw [q]; rfl)
        · exact .inr h
      · rintro (h | h)
        · exact .inl fun q => h (fixL_ne q)
        · exact .inr h
    by_cases hc : st.2 ≠ [] ∨ st.1 = []
    · rw [if_pos hc, if_pos (e.mpr hc)]
      simp [fixSt, fixL]
    · rw [if_neg hc, if_neg (fun q => hc (e.mp q))]
theorem fix_fold : ∀ (os : List Pt) (st : List (List Nat) × List Nat), (∀ x, some x ∈ os → H10 x) → (os.map (Option.map fixL)).foldl rStep (fixSt st) = fixSt (os.foldl rStep st)
  | [], st, _ => rfl
  | o :: r, st, h => by
    rw [List.map_cons, List.foldl_cons, List.foldl_cons, fix_step (fun x e => h x (by rw [e]; exact List.mem_cons_self ..)), fix_fold r _ fun x hx => h x (List.mem_cons_of_mem _ hx)]
theorem H10_fold : ∀ (os : List Pt) (st : List (List Nat) × List Nat), (∀ x, some x ∈ os → H10 x) → (∀ r ∈ rl st, H10 r) → ∀ r ∈ rl (os.foldl rStep st), H10 r
  | [], st, _, h => h
  | o :: os, st, ho, h => by
    rw [List.foldl_cons]
    refine H10_fold os _ (fun x hx => ho x (List.mem_cons_of_mem _ hx)) ?_
    intro r hr
    cases o with
    | some x =>
      have hr' : r ∈ st.1 ++ [st.2 ++ x] := hr
      rcases List.mem_append.mp hr' with q | q
      · exact h r (List.mem_append_left _ q)
      · rw [List.mem_singleton.mp q]
        exact H10_app (h _ (List.mem_append_right _ (List.mem_singleton.mpr rfl))) (ho x (List.mem_cons_self ..))
    | none =>
      have hr' : r ∈ rl (if st.2 ≠ [] ∨ st.1 = [] then (st.1 ++ [st.2], []) else st) := hr
      split at hr'
      · rcases List.mem_append.mp hr' with q | q
        · exact h r q
        · rw [List.mem_singleton.mp q]; simp [H10]
      · exact h r hr'
theorem tailR_head : ∀ rs : List (List Nat), H10 (tailR rs)
  | [] => by simp [tailR, H10]
  | [r] => by simp [tailR, H10]
  | r :: a :: b => by simp [tailR, H10]
theorem fix_tailR : ∀ rs : List (List Nat), (∀ r ∈ rs, H10 r) → fixL (tailR rs) = tailR (rs.map fixL)
  | [], _ => rfl
  | [r], h => by
    show fixL ([46, 42] ++ r) = [46, 42] ++ fixL r
    rw [fixL_head (h r (List.mem_singleton.mpr rfl))]; rfl
  | r :: a :: b, h => by
    have ih := fix_tailR (a :: b) fun x hx => h x (List.mem_cons_of_mem _ hx)
    show fixL ([40, 63, 62, 46, 42, 63] ++ r ++ [41] ++ tailR (a :: b)) = [40, 63, 62, 46, 42, 63] ++ fixL r ++ [41] ++ tailR ((a :: b).map fixL)
    rw [fixL_head (tailR_head _), fixL_head (q := [41]) (by simp), fixL_head (h r (List.mem_cons_self ..)), ih]
    rfl
theorem fix_textOf {rs : List (List Nat)} (h : ∀ r ∈ rs, H10 r) : fixL (textOf rs) = textOf (rs.map fixL) := by
  cases rs with
  | nil => rfl
  | cons r rs =>
    show fixL (r ++ tailR rs) = fixL r ++ tailR (rs.map fixL)
    rw [fixL_head (tailR_head _), fix_tailR rs fun x hx => h x (List.mem_cons_of_mem _ hx)]
theorem textOf_head {rs : List (List Nat)} (h : ∀ r ∈ rs, H10 r) : H10 (textOf rs) := by
  cases rs with
  | nil => simp [textOf, H10]
  | cons r rs => exact H10_app (h r (List.mem_cons_self ..)) (tailR_head rs)
theorem fix_lawL {os : List Pt} (h : ∀ x, some x ∈ os → H10 x) : fixL (lawL os) = lawL (os.map (Option.map fixL)) := by
  have hr : ∀ r ∈ rl (rFold os), H10 r := H10_fold os ([], []) h (by simp [rl, H10])
  have e : rFold (os.map (Option.map fixL)) = fixSt (rFold os) := fix_fold os ([], []) h
  unfold lawL
  rw [e]
  have e2 : (fixSt (rFold os)).1 ++ [(fixSt (rFold os)).2] = (rl (rFold os)).map fixL := by simp [fixSt, rl]
  rw [e2, ← fix_textOf hr]
  show fixL ([40, 63, 115, 58] ++ textOf (rl (rFold os)) ++ [41, 92, 90]) = _
  rw [fixL_head (q := [41, 92, 90]) (by simp), fixL_head (textOf_head hr)]
  rfl
theorem lawL_head (os : List Pt) : (lawL os).head? ≠ some 46 := by simp [lawL]

theorem mem_T0 {zs : List Pz} {t : Tk} (h : t ∈ T0 zs) : ∃ z : Pz, t ∈ z.t0 := by
  unfold T0 at h
  obtain ⟨l, hl, ht⟩ := List.mem_flatten.mp h
  obtain ⟨z, _, rfl⟩ := List.mem_map.mp hl
  exact ⟨z, ht⟩
theorem mem_T1 {t : Tk} : ∀ {zs : List Pz} {la : List Nat}, t ∈ T1 la zs → ∃ z : Pz, t ∈ z.f1
  | [], _, h => by cases h
  | z :: r, la, h => by
    rw [T1] at h
    rcases List.mem_append.mp h with h | h
    · split at h
      · cases h
      · exact ⟨z, h⟩
    · exact mem_T1 h
theorem mem_T2 {t : Tk} : ∀ {zs : List Pz} {la : List Nat}, t ∈ T2 la zs → ∃ (z : Pz) (b : Bool), t ∈ z.q2 b
  | [], _, h => by cases h
  | z :: r, la, h => by
    rw [T2] at h
    rcases List.mem_append.mp h with h | h
    · split at h
      · cases h
      · exact ⟨z, _, h⟩
    · exact mem_T2 h
theorem plain_of (zs : List Pz) (hl : zs.length ≤ 15) : PlainOk (zs.map Pz.p) := by
  have fin : fixL (trL (T0 zs)) = lawL ((zs.map Pz.p).map (·.behind)) := by
    rw [trL_law _ fun t ht => by obtain ⟨z, hz⟩ := mem_T0 ht; exact z.h.ne0 t hz, fix_lawL]
    · refine lawL_congr ?_
      rw [List.map_map, List.map_map]
      exact outs_T0 zs _
    · intro x hx
      obtain ⟨t, ht, e⟩ := List.mem_map.mp hx
      obtain ⟨z, hz⟩ := mem_T0 ht
      exact z.h.hd0 t hz x e
  refine ⟨by rw [List.length_map]; exact hl, ?_, ?_, ?_, T0 zs, T1 [10] zs, T2 [10] zs, ?_, ?_, ?_, ?_, ?_, ?_, ?_, ?_, ?_⟩
  · intro p hp; obtain ⟨z, _, rfl⟩ := List.mem_map.mp hp; exact z.h.l1
  · intro p hp; obtain ⟨z, _, rfl⟩ := List.mem_map.mp hp; exact z.h.l2
  · intro p hp; obtain ⟨z, _, rfl⟩ := List.mem_map.mp hp; exact z.h.l3
  · intro t ht; obtain ⟨z, hz⟩ := mem_T0 ht; exact z.h.ok0 t hz
  · intro t ht; obtain ⟨z, hz⟩ := mem_T1 ht; exact z.h.ok1 t hz
  · intro t ht; obtain ⟨z, b, hz⟩ := mem_T2 ht; exact z.h.ok2 b t hz
  · rw [text_T0, List.map_map]; rfl
  · rw [text_T0]; exact (fix_T1 zs).1 [10] (by decide)
  · exact quote_T2 zs [10]
  · rw [trL_law _ fun t ht => by obtain ⟨z, hz⟩ := mem_T1 ht; exact z.h.ne1 t hz]
    refine lawL_congr ?_
    have e : (foldA false (zs.map Pz.p)).2 = aheadR false [10] zs := ahead_eq false zs [10] []
    rw [e]
    exact outs_T1 zs [10] _
  · rw [trL_law _ fun t ht => by obtain ⟨z, b, hz⟩ := mem_T2 ht; exact z.h.ne2 b t hz]
    refine lawL_congr ?_
    have e : (foldA true (zs.map Pz.p)).2 = aheadR true [10] zs := ahead_eq true zs [10] []
    rw [e]
    exact outs_T2 zs [10] _
  · exact ⟨fin, by rw [fin, dq_true (lawL_head _)]⟩
end Mine
open PySem PySem.W PyProof.Rows PySem.Calls
set_option linter.unusedVariables false
set_option maxRecDepth 100000
namespace Mine
def smallB (p : Pt) : Bool := match p with
  | none => true
  | some x => decide (x.length ≤ 100)
def hdB (p : Pt) : Bool := match p with
  | none => true
  | some x => decide (x.head? ≠ some 10)
def sel (q : List Tk × List Tk) (b : Bool) : List Tk := if b then q.1 else q.2
def pgB (p : Pc3) (t0 f1 : List Tk) (q : List Tk × List Tk) : Bool :=
  t0.all Tk.ok && f1.all Tk.ok && q.1.all Tk.ok && q.2.all Tk.ok && t0.all (fun t => decide (t.out ≠ some [])) && f1.all (fun t => decide (t.out ≠ some [])) && q.1.all (fun t => decide (t.out ≠ some [])) && q.2.all (fun t => decide (t.out ≠ some [])) &&
  t0.all (fun t => hdB t.out) && decide (textAll t0 = p.pat) && decide (textAll f1 = fixL p.pat) && decide (textAll q.1 = dqL true (fixL p.pat)) && decide (textAll q.2 = dqL false (fixL p.pat)) &&
  grp (f1.map Tk.out) p.part && grp (q.1.map Tk.out) (more2 true p) && grp (q.2.map Tk.out) (more2 false p) && grp (t0.map fun t => t.out.map fixL) p.behind && decide (p.pat ≠ []) && decide (p.pat.head? = some 10 → p.pat = [10]) &&
  decide (p.pat.getLast? = some 13 → p.pat = [13]) && decide (endB true (fixL p.pat) = isEol p.pat) && decide (endB false (fixL p.pat) = isEol p.pat) && decide (p.pat.length ≤ 100) && smallB p.part && smallB p.behind
theorem small_of {p : Pt} (h : smallB p = true) : ∀ x, p = some x → x.length ≤ 100 := by
  rintro x rfl
  exact of_decide_eq_true h
theorem hd_of {p : Pt} (h : hdB p = true) : ∀ x, p = some x → x.head? ≠ some 10 := by
  rintro x rfl
  exact of_decide_eq_true h
theorem pg_of {p : Pc3} {t0 f1 : List Tk} {q : List Tk × List Tk} (h : pgB p t0 f1 q = true) : PG p t0 f1 (sel q) := by
  unfold pgB at h
  simp only [Bool.and_eq_true, List.all_eq_true, decide_eq_true_eq] at h
  obtain ⟨⟨⟨⟨⟨⟨⟨⟨⟨⟨⟨⟨⟨⟨⟨⟨⟨⟨⟨⟨⟨⟨⟨⟨h1, h2⟩, h3⟩, h4⟩, h5⟩, h6⟩, h7⟩, h8⟩, h9⟩, h10⟩, h11⟩, h12⟩, h13⟩, h14⟩, h15⟩, h16⟩, h17⟩, h18⟩, h19⟩, h20⟩, h21⟩, h22⟩, h23⟩, h24⟩, h25⟩ := h
  exact ⟨h1, h2, fun b => by cases b <;> assumption, h5, h6, fun b => by cases b <;> assumption, fun t ht => hd_of (h9 t ht), h10, h11, fun b => by cases b <;> assumption, h14, fun b => by cases b <;> assumption, h17, h18, h19, h20,
    fun b => by cases b <;> assumption, h23, small_of h24, small_of h25⟩

def tokT : List (List Tk × List Tk × List Tk × List Tk) := [
  ([.star], [.star], [.star], [.star]), ([.q], [.q], [.q], [.q]), ([.ch 10], [.ch 13, .ch 10], [.ch 13, .ch 10], [.ch 13, .ch 10]), ([.ch 13], [.ch 13, .ch 10], [.ch 13, .ch 10], [.ch 13, .ch 10]),
  ([.ch 13, .ch 10], [.ch 13, .ch 10], [.ch 13, .ch 10], [.ch 13, .ch 10]), ([.ch 46], [.ch 46], [.ch 46, .ch 46], [.ch 46]),
  ([.br [10, 46] (some [97])], [.br [13, 10, 46] (some [97])], [.br [13, 10, 46, 46] (some [97])], [.br [13, 10, 46, 46] (some [97])]),
  ([.br [33, 13] none], [.br [33, 13, 10] none], [.br [33, 13, 10] none], [.br [33, 13, 10] none]),
  ([.br [13] (some [10])], [.br [13, 10] (some [13, 10])], [.br [13, 10] (some [13, 10])], [.br [13, 10] (some [13, 10])]),
  ([.br [97] (some [10])], [.br [97] (some [13, 10])], [.br [97] (some [13, 10])], [.br [97] (some [13, 10])]),
  ([.br [10] (some [9])], [.br [13, 10] (some [9])], [.br [13, 10] (some [9])], [.br [13, 10] (some [9])]),
  ([.br [33, 10] (some [9])], [.br [33, 13, 10] (some [9])], [.br [33, 13, 10] (some [9])], [.br [33, 13, 10] (some [9])]),
  ([.br [9] (some [10])], [.br [9] (some [13, 10])], [.br [9] (some [13, 10])], [.br [9] (some [13, 10])]),
  ([.br [33, 98] (some [97])], [.br [33, 98] (some [97])], [.br [33, 98] (some [97])], [.br [33, 98] (some [97])]),
  ([.br [97] (some [97])], [.br [97] (some [97])], [.br [97] (some [97])], [.br [97] (some [97])])]
theorem tab_ok : ∀ i : Fin 15, pgB (tblP[i.1]'(by have := i.2; exact this)) (tokT[i.1]'(by have := i.2; exact this)).1 (tokT[i.1]'(by have := i.2; exact this)).2.1 (tokT[i.1]'(by have := i.2; exact this)).2.2 = true := by decide +kernel

theorem sign_ok (c : Nat) (hc : c ∉ [42, 63, 91, 13, 10]) : PG ⟨[c], some (escL c), some (escL c)⟩ [.ch c] [.ch c] (fun b => if b = true ∧ c = 46 then [.ch 46, .ch 46] else [.ch c]) := by
  simp only [List.mem_cons, List.not_mem_nil, or_false, not_or] at hc
  obtain ⟨h42, h63, h91, h13, h10⟩ := hc
  have hf : fixL [c] = [c] := by show (if c = 10 ∨ c = 13 then [13, 10] else [c]) = [c]; rw [if_neg (by simp [h10, h13])]
  have hok : (Tk.ch c).ok = true := by simp [Tk.ok, h42, h63, h91]
  have hne : escL c ≠ [] := by unfold escL; split <;> simp
  have hel := escL_len c
  have hh : (escL c).head? ≠ some 10 := by unfold escL; split <;> simp [h10]
  have hfe : fixL (escL c) = escL c := by
    unfold escL
    split
    · show fixL (92 :: [c]) = _
      rw [fixL_plain (by decide), hf]
    · exact hf
  have hde : dqL false (escL c) = escL c := by
    unfold escL
    split
    · simp [dqL]
    · simp [dqL]
  have hbr : ∀ {b : Bool} {t : Tk}, t ∈ (if b = true ∧ c = 46 then [Tk.ch 46, Tk.ch 46] else [Tk.ch c]) → t = .ch 46 ∨ t = .ch c := by
    intro b t ht
    split at ht
    · exact .inl (by simpa using ht)
    · exact .inr (by simpa using ht)
  refine ⟨?_, ?_, ?_, ?_, ?_, ?_, ?_, rfl, ?_, ?_, ?_, ?_, ?_, by simp, ?_, ?_, ?_, by simp, ?_, ?_⟩
  · intro t ht; rw [List.mem_singleton.mp ht]; exact hok
  · intro t ht; rw [List.mem_singleton.mp ht]; exact hok
  · intro b t ht; rcases hbr ht with rfl | rfl; · decide
    · exact hok
  · intro t ht; rw [List.mem_singleton.mp ht]; exact fun e => hne (Option.some.inj e)
  · intro t ht; rw [List.mem_singleton.mp ht]; exact fun e => hne (Option.some.inj e)
  · intro b t ht; rcases hbr ht with rfl | rfl; · decide
    · exact fun e => hne (Option.some.inj e)
  · intro t ht x e; rw [List.mem_singleton.mp ht] at e; cases e; exact hh
  · show textAll [Tk.ch c] = fixL [c]; rw [hf]; rfl
  · intro b
    show textAll (if b = true ∧ c = 46 then [Tk.ch 46, Tk.ch 46] else [Tk.ch c]) = dqL b (fixL [c])
    rw [hf]
    by_cases h : b = true ∧ c = 46
    · rw [if_pos h, h.1, h.2]; decide
    · rw [if_neg h]; simp only [dqL, if_neg h]; rfl
  · show grp [some (escL c)] (some (escL c)) = true; simp [grp]
  · intro b
    show grp ((if b = true ∧ c = 46 then [Tk.ch 46, Tk.ch 46] else [Tk.ch c]).map Tk.out) (if [c] = [46] ∧ b = true then some [92, 46, 92, 46] else some (dqL false (escL c))) = true
    by_cases h : b = true ∧ c = 46
    · rw [if_pos h, if_pos ⟨by rw [h.2], h.1⟩]; decide
    · rw [if_neg h, if_neg (fun q => h ⟨q.2, by simpa using q.1⟩), hde]
      show grp [some (escL c)] (some (escL c)) = true; simp [grp]
  · show grp [some (fixL (escL c))] (some (escL c)) = true; rw [hfe]; simp [grp]
  · intro h; simp at h; exact absurd h h10
  · intro h; simp at h; exact absurd h h13
  · intro b
    show endB b (fixL [c]) = isEol [c]
    rw [hf]
    simp [endB, isEol, h10, h13]
  · rintro x e; cases e; omega
  · rintro x e; cases e; omega
theorem signN_ok (u : Nat) : signN u ∉ [42, 63, 91, 13, 10] := by
  unfold signN
  split
  · decide
  · assumption
theorem piece_ok (u : Nat) : ∃ z : Pz, z.p = pcN u := by
  unfold pcN
  by_cases h : u % 16 < 15
  · rw [dif_pos h]
    exact ⟨⟨_, _, _, _, pg_of (tab_ok ⟨u % 16, h⟩)⟩, rfl⟩
  · rw [dif_neg h]
    exact ⟨⟨_, _, _, _, sign_ok _ (signN_ok u)⟩, rfl⟩
theorem pieces_ok : ∀ xs : List Int, ∃ zs : List Pz, zs.map Pz.p = xs.map pcOf
  | [] => ⟨[], rfl⟩
  | x :: r => by
    obtain ⟨zs, e⟩ := pieces_ok r
    obtain ⟨z, ez⟩ := piece_ok (x.fmod 100000000).toNat
    exact ⟨z :: zs, by rw [List.map_cons, List.map_cons, e, ez]; rfl⟩
theorem plainOk (nums : List Int) : PlainOk (piecesOf nums) := by
  obtain ⟨zs, e⟩ := pieces_ok (nums.take 10 ++ tailPc nums.length)
  unfold piecesOf
  rw [← e]
  refine plain_of zs ?_
  have h := congrArg List.length e
  rw [List.length_map, List.length_map, List.length_append, List.length_take] at h
  have : (tailPc nums.length).length ≤ 5 := by
    unfold tailPc
    split
    · decide
    · split <;> decide
  omega
end Mine
open PySem PySem.W PyProof.Rows
set_option maxRecDepth 100000
namespace Mine
/-- the run of the top in one world, and what is seen of its end -/
def hd.ends (w : World) : Prop :=
  Option.map (fun s => (openSeen hd.view_39 hd.loose (importedModules PySem.Challenge.rw_il0108_01.row.prog.main.body) hd.xt true s, hd.hook.obs s)) (openEnds treeTable PySem.Challenge.rw_il0108_01.row.prog w 3828) = some (openGood hd.view_39 hd.loose, hd.hook.val w)
theorem hd.ends_ff (w : World) : hd.ends ((w.withFollow "special-get-raises" false).withFollow "comprehension-iter-twice" false) := by
  unfold hd.ends
  kernel_rfl
theorem hd.ends_ft (w : World) : hd.ends ((w.withFollow "special-get-raises" true).withFollow "comprehension-iter-twice" false) := by
  unfold hd.ends
  kernel_rfl
theorem hd.ends_tf (w : World) : hd.ends ((w.withFollow "special-get-raises" false).withFollow "comprehension-iter-twice" true) := by
  unfold hd.ends
  kernel_rfl
theorem hd.ends_tt (w : World) : hd.ends ((w.withFollow "special-get-raises" true).withFollow "comprehension-iter-twice" true) := by
  unfold hd.ends
  kernel_rfl
theorem hd.left : LeftO PySem.Challenge.rw_il0108_01.row.prog hd.view_39 hd.loose hd.xt hd.hook.obs hd.hook.val 3828 := fun w =>
  byRow2 "comprehension-iter-twice" (P := hd.ends) (fun w => byRow2 "special-get-raises" (P := fun w => hd.ends (w.withFollow "comprehension-iter-twice" false)) hd.ends_ff hd.ends_ft w)
    (fun w => byRow2 "special-get-raises" (P := fun w => hd.ends (w.withFollow "comprehension-iter-twice" true)) hd.ends_tf hd.ends_tt w) w
end Mine
open PySem PySem.W PyProof.Rows PySem.Calls
set_option linter.unusedVariables false
set_option maxRecDepth 100000
namespace Mine
theorem K117n (P : Params) : nsIn (hd.heap_39 P) mainGlobals (Str.ofString "law") = some (some (.ref 117)) := by kernel_rfl
theorem okCaller : OkA callerA 12 60 := ⟨by rfl, by decide +kernel, by decide +kernel⟩
theorem cdK (P : Params) : codeHdIn (hd.heap_39 P) 61 57 = true := by kernel_rfl
theorem oldK_of {w : World} {s s' : Shared} (g : Good w s) (hT : Tab s.heap #[]) (x : Ext s s') : OldK s.heap s'.heap := by
  obtain ⟨more, t⟩ := x.tab #[] hT
  have hc := (tabAt g.bs.cd hT).isCodeTable
  refine ⟨fun b o e => ?_, fun b o e => ?_⟩
  · by_cases hb : b = 57
    · subst hb
      rw [hT.1] at e
      cases e
      exact .inr (.inl ⟨hc, rfl, #[], more, rfl, t.1⟩)
    · exact .inl (x.keep b o hb e)
  · by_cases hb : b = 57
    · subst hb; exact ⟨_, t.1⟩
    · exact ⟨o, x.keep b o hb e⟩
end Mine
set_option maxHeartbeats 8000000 in
theorem PySem.Challenge.cw_il0108_01_holds : PySem.Challenge.rw_il0108_01.Holds := by
  w_on
  o_law
  refine PySem.W.holds_open (q := Mine.hd.view_39) (loose := Mine.hd.loose) (Xt := Mine.hd.xt) (XP := XL Mine.hd.view_39 []) (Yf := Hook.obs Mine.hd.hook) (Ya := Hook.val Mine.hd.hook) (YP := Hook.says Mine.hd.hook) (N := 3828) Mine.hd.left (Hook.of Mine.hd.hook) (Hook.keeps Mine.hd.hook)
    (fun s e => xl_of s (Bool.and_eq_true_iff.mp e).1) XL.keeps (by rfl) (by rfl) (by rfl) (fun s e => recFacts_of (Bool.and_eq_true_iff.mp e).2) (by rfl) (by first | assumption | decide +kernel) (by decide +kernel) ⟨rfl, rfl, rfl, rfl, rfl, by decide +kernel⟩ ?hw ?hc
  case hw => exact ⟨[WData.list []], by decide +kernel, by decide +kernel⟩
  intro w s₀ s₁ mg mb G Y fa o pm cd doc dV kV ho hd' hcd hD hmg hg args vals as hpre hlay hrd hwl hlo
  have KX := km_in_of Y
  have hT8 := km_tabs_of Y
  have X := (Ground.X G).1
  refine Ground.open G ?_
  intro T B D TE TW
  clear hcd hd' Y hD
  have hfa : fa = 117 := by
    have h := mg_of KX T.g (Mine.K117n w.params)
    have h' : mg (Str.ofString "law") = some (.ref fa) := hmg
    rw [h] at h'
    cases h'
    rfl
  subst hfa
  clear hmg
  wrow_args hpre hlay hrd hwl hlo
  rename_i nums _ _ _ _ _ _ _ sc xs _ hL _ _ _ hI _ hcond _
  have t57 : Mine.Tab s₁.heap #[] := ⟨hT8 57 (List.mem_singleton.mpr rfl), trivial⟩
  have g : Mine.Good w s₁ := ⟨⟨KX, ⟨mg, T.g, T.bmain⟩, ⟨mb, T.b, T.builtins⟩, T.nolimit, codeHd_of_K KX (Mine.cdK w.params)⟩, ⟨#[], t57⟩, by rw [hg]; intro y hy; simp at hy⟩
  refine Mine.call_law Mine.okCaller g ?_ hL hI (by omega) (Mine.plainOk nums) fun s' x => ?_
  · rintro rfl
    obtain ⟨o, e, hc, _⟩ := hL
    rw [t57.1] at e
    cases e
    cases hc
  · refine ⟨.inl ⟨_, .bool true, [], rfl, ?_, ?_, ?_, ?_⟩, Mine.oldK_of g t57 x, x.os, x.bare g.bare⟩
    · intro cls; rfl
    · exact .bool true
    · first | kernel_rfl | with_unfolding_all rfl | (simp [OpenLaw.row, RowW.claim])
    · intro _; exact ⟨List.nodup_nil, by simp⟩
