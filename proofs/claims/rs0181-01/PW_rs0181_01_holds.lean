import PyProof.Rows.All
import Wide.All
import OpenK.AllK
import Wide.FinOn
import PySem.Challenge.RW_rs0181_01
open PySem PySem.W PyProof.Rows
set_option Elab.async false
set_option maxRecDepth 100000
set_option maxHeartbeats 8000000
set_option linter.unusedVariables false
set_option compiler.extract_closed false
namespace Mine
local macro_rules | `(tactic| omega) => `(tactic| lia)
noncomputable def nthS : List Stmt → Nat → Stmt
  | [], _ => .Pass ⟨0, 0, 0, 0⟩
  | s :: _, 0 => s
  | _ :: r, n + 1 => nthS r n
noncomputable def fstmt (n : Nat) : Stmt := nthS PySem.Challenge.pw_rs0181_01.main.body n
noncomputable def bodyOf : Stmt → List Stmt
  | .FunctionDef _ _ body _ _ _ _ _ _ _ => body
  | _ => []
noncomputable def scopeOf : Stmt → Scope
  | .FunctionDef _ _ _ _ _ _ sc _ _ _ => sc
  | _ => { kind := .function, names := [], isGenerator := false, isCoroutine := false, more := [] }
noncomputable def argsOf : Stmt → Arguments
  | .FunctionDef _ a _ _ _ _ _ _ _ _ => a
  | _ => { posonlyargs := [], args := [], vararg := none, kwonlyargs := [], kw_defaults := [], kwarg := none, defaults := [] }
noncomputable def kEn (P : Params) (x : String) (t : Nat) (v : Value) : DictEntry := { hash := PyData.keyHash P (Str.ofString x), key := .str (Str.ofString x) t, val := v }
noncomputable def kFn (x : String) (n : Nat) (d k : Value) (m : String) (t c : Nat) : Obj := { cls := .type "function", data := .func { name := Str.ofString x, qualname := Str.ofString x, params := argsOf (fstmt n), body := .stmts (bodyOf (fstmt n)), scope := scopeOf (fstmt n), globals := 3, closure := [], defaults := d, kwdefaults := k, pyModule := .str (Str.ofString m) t, code := .ref c } }
noncomputable def kCd (x : String) (t0 t1 t2 : Nat) (a b c d e : Int) (p q r s u : Value) (f g : Int) (tg : Nat) (h : Int) (t18 : Nat) : Obj := { cls := .type "code", data := .fields #[.str (Str.ofString x) t0, .str (Str.ofString x) t1, .str (Str.ofString "/claim/cut.py") t2, .int a 0, .int b 0, .int c 0, .int d 0, .int e 0, p, .bool true, .int f 0, q, .none, r, s, u, .int g tg, .int h 0, .str (Str.ofString "/claim/cut.py") t18] }
noncomputable def K0 (P : Params) : Frag := [(3, { cls := .type "dict", data := .dict #[kEn P "__name__" 165 (.str (Str.ofString "law_rs0181_01") 346), kEn P "__doc__" 166 (.none), kEn P "__package__" 167 (.none), kEn P "__loader__" 168 (.builtin "__main__.__loader__#opaque"), kEn P "__spec__" 169 (.none), kEn P "__annotations__" 170 (.ref 6), kEn P "__builtins__" 171 (.ref 4), kEn P "__file__" 173 (.str (Str.ofString "/claim/cut.py") 172), kEn P "__cached__" 174 (.none), kEn P "_iter_escaped_chars" 198 (.ref 21), kEn P "_strip_quoted_realnames" 210 (.ref 28), kEn P "_check_parenthesis" 220 (.ref 35), kEn P "_DIV_LIMIT" 224 (.int 4000 223), kEn P "_div2n1n" 241 (.ref 42), kEn P "_div3n2n" 255 (.ref 49), kEn P "_int2digits" 266 (.ref 56), kEn P "_digits2int" 277 (.ref 63), kEn P "_divmod_pos" 292 (.ref 70), kEn P "int_divmod" 302 (.ref 77), kEn P "insort_right" 317 (.ref 86), kEn P "bisect_right" 331 (.ref 95), kEn P "bisect_left" 345 (.ref 104), kEn P "_law_first" 354 (.ref 111), kEn P "_law_rows" 360 (.ref 116), kEn P "_law_spans" 366 (.ref 121), kEn P "_law_plain" 376 (.ref 128), kEn P "_law_answers" 382 (.ref 133), kEn P "_law_ups" 393 (.ref 140), kEn P "_law_above" 405 (.ref 147), kEn P "law" 411 (.ref 152)] 30 }),
  (20, kCd "_iter_escaped_chars" 189 190 191 2 1 0 0 35 (.ref 15) (.ref 16) (.ref 17) (.ref 18) (.ref 19) 181 196 0 2 197),
  (21, kFn "_iter_escaped_chars" 1 .none .none "cpy313.email.utils" 187 20),
  (27, kCd "_strip_quoted_realnames" 199 200 201 15 1 0 0 3 (.ref 22) (.ref 23) (.ref 24) (.ref 25) (.ref 26) 181 208 0 15 209),
  (28, kFn "_strip_quoted_realnames" 2 .none .none "cpy313.email.utils" 187 27),
  (34, kCd "_check_parenthesis" 211 212 213 33 1 0 0 3 (.ref 29) (.ref 30) (.ref 31) (.ref 32) (.ref 33) 181 218 0 33 219),
  (35, kFn "_check_parenthesis" 3 .none .none "cpy313.email.utils" 187 34),
  (41, kCd "_div2n1n" 225 226 227 46 3 0 0 3 (.ref 36) (.ref 37) (.ref 38) (.ref 39) (.ref 40) 181 239 0 46 240),
  (42, kFn "_div2n1n" 6 .none .none "cpy313._pylong" 221 41),
  (48, kCd "_div3n2n" 242 243 244 62 6 0 0 3 (.ref 43) (.ref 44) (.ref 45) (.ref 46) (.ref 47) 181 253 0 62 254),
  (49, kFn "_div3n2n" 7 .none .none "cpy313._pylong" 221 48),
  (55, kCd "_int2digits" 256 257 258 72 2 0 0 3 (.ref 50) (.ref 51) (.ref 52) (.ref 53) (.ref 54) 181 264 0 72 265),
  (56, kFn "_int2digits" 8 .none .none "cpy313._pylong" 221 55),
  (62, kCd "_digits2int" 267 268 269 88 2 0 0 3 (.ref 57) (.ref 58) (.ref 59) (.ref 60) (.ref 61) 181 275 0 88 276),
  (63, kFn "_digits2int" 9 .none .none "cpy313._pylong" 221 62),
  (69, kCd "_divmod_pos" 278 279 280 97 2 0 0 3 (.ref 64) (.ref 65) (.ref 66) (.ref 67) (.ref 68) 181 290 0 97 291),
  (70, kFn "_divmod_pos" 10 .none .none "cpy313._pylong" 221 69),
  (76, kCd "int_divmod" 293 294 295 108 2 0 0 3 (.ref 71) (.ref 72) (.ref 73) (.ref 74) (.ref 75) 181 300 0 108 301),
  (77, kFn "int_divmod" 11 .none .none "cpy313._pylong" 221 76),
  (78, { cls := .type "tuple", data := .seq #[.int 0 305, .none] }),
  (79, { cls := .type "dict", data := .dict #[{ hash := PyData.keyHash P (Str.ofString "key"), key := .str (Str.ofString "key") 306, val := .none }] 1 }),
  (85, kCd "insort_right" 307 308 309 120 4 0 1 3 (.ref 80) (.ref 81) (.ref 82) (.ref 83) (.ref 84) 181 315 0 120 316),
  (86, kFn "insort_right" 13 (.ref 78) (.ref 79) "cpy313.bisect" 303 85),
  (87, { cls := .type "tuple", data := .seq #[.int 0 318, .none] }),
  (88, { cls := .type "dict", data := .dict #[{ hash := PyData.keyHash P (Str.ofString "key"), key := .str (Str.ofString "key") 319, val := .none }] 1 }),
  (94, kCd "bisect_right" 320 321 322 126 4 0 1 3 (.ref 89) (.ref 90) (.ref 91) (.ref 92) (.ref 93) 181 329 0 126 330),
  (95, kFn "bisect_right" 14 (.ref 87) (.ref 88) "cpy313.bisect" 303 94),
  (96, { cls := .type "tuple", data := .seq #[.int 0 332, .none] }),
  (97, { cls := .type "dict", data := .dict #[{ hash := PyData.keyHash P (Str.ofString "key"), key := .str (Str.ofString "key") 333, val := .none }] 1 }),
  (103, kCd "bisect_left" 334 335 336 146 4 0 1 3 (.ref 98) (.ref 99) (.ref 100) (.ref 101) (.ref 102) 181 343 0 146 344),
  (104, kFn "bisect_left" 15 (.ref 96) (.ref 97) "cpy313.bisect" 303 103),
  (110, kCd "_law_first" 348 349 350 167 1 0 0 3 (.ref 105) (.ref 106) (.ref 107) (.ref 108) (.ref 109) 181 352 0 167 353),
  (111, kFn "_law_first" 17 .none .none "law_rs0181_01" 346 110),
  (115, kCd "_law_rows" 355 356 357 169 1 0 0 3 (.ref 112) (.ref 113) (.none) (.none) (.ref 114) 181 358 0 169 359),
  (116, kFn "_law_rows" 18 .none .none "law_rs0181_01" 346 115),
  (120, kCd "_law_spans" 361 362 363 174 2 0 0 3 (.ref 117) (.ref 118) (.none) (.none) (.ref 119) 181 364 0 174 365),
  (121, kFn "_law_spans" 19 .none .none "law_rs0181_01" 346 120),
  (127, kCd "_law_plain" 367 368 369 183 1 0 0 3 (.ref 122) (.ref 123) (.ref 124) (.ref 125) (.ref 126) 181 374 0 183 375),
  (128, kFn "_law_plain" 20 .none .none "law_rs0181_01" 346 127),
  (132, kCd "_law_answers" 377 378 379 192 2 0 0 3 (.ref 129) (.ref 130) (.none) (.none) (.ref 131) 181 380 0 192 381),
  (133, kFn "_law_answers" 21 .none .none "law_rs0181_01" 346 132),
  (139, kCd "_law_ups" 383 384 385 197 2 0 0 3 (.ref 134) (.ref 135) (.ref 136) (.ref 137) (.ref 138) 181 391 0 197 392),
  (140, kFn "_law_ups" 22 .none .none "law_rs0181_01" 346 139),
  (146, kCd "_law_above" 394 395 396 204 1 0 0 3 (.ref 141) (.ref 142) (.ref 143) (.ref 144) (.ref 145) 181 403 0 204 404),
  (147, kFn "_law_above" 23 .none .none "law_rs0181_01" 346 146),
  (151, kCd "law" 406 407 408 213 1 0 0 3 (.ref 148) (.ref 149) (.none) (.none) (.ref 150) 181 409 0 213 410),
  (152, kFn "law" 24 .none .none "law_rs0181_01" 346 151)]
inductive PV where
  | undef | none | bool (b : Bool) | int (i : Int) | str (s : List Nat)
  | list (xs : List PV) | tup (xs : List PV) | fn (a : Nat) | own (xs : List PV)
  deriving Inhabited
noncomputable abbrev HP := Addr → Option Obj
mutual
noncomputable def VRel (H : HP) : PV → Value → Prop
  | .none, v => v = .none
  | .bool b, v => v = .bool b
  | .int i, v => ∃ t, v = .int i t
  | .str x, v => ∃ t, v = .str ⟨x.toArray⟩ t
  | .list xs, v => ∃ a o its n, v = .ref a ∧ H a = some o ∧ o.cls = .type "list" ∧ o.data = .seq its n ∧ VRelL H xs its.toList
  | .tup xs, v => ∃ a o its n, v = .ref a ∧ H a = some o ∧ o.cls = .type "tuple" ∧ o.data = .seq its n ∧ VRelL H xs its.toList
  | .fn a, v => v = .ref a
  | .undef, _ => False
  | .own _, _ => False
noncomputable def VRelL (H : HP) : List PV → List Value → Prop
  | [], vs => vs = []
  | p :: ps, vs => ∃ v r, vs = v :: r ∧ VRel H p v ∧ VRelL H ps r
end
noncomputable def HLe (H H' : HP) : Prop := ∀ a o, H a = some o → H' a = some o
theorem HLe.refl (H : HP) : HLe H H := fun _ _ e => e
theorem HLe.trans {H H' H'' : HP} (a : HLe H H') (b : HLe H' H'') : HLe H H'' := fun x o e => b x o (a x o e)
mutual
theorem VRel.mono {H H' : HP} (le : HLe H H') : ∀ (p : PV) (v : Value), VRel H p v → VRel H' p v
  | .none, _, h => h
  | .bool _, _, h => h
  | .int _, _, h => h
  | .str _, _, h => h
  | .list xs, _, ⟨a, o, its, n, e, ho, hc, hd, hl⟩ => ⟨a, o, its, n, e, le _ _ ho, hc, hd, VRelL.mono le xs _ hl⟩
  | .tup xs, _, ⟨a, o, its, n, e, ho, hc, hd, hl⟩ => ⟨a, o, its, n, e, le _ _ ho, hc, hd, VRelL.mono le xs _ hl⟩
  | .fn _, _, h => h
  | .undef, _, h => h
  | .own _, _, h => h
theorem VRelL.mono {H H' : HP} (le : HLe H H') : ∀ (ps : List PV) (vs : List Value), VRelL H ps vs → VRelL H' ps vs
  | [], _, h => h
  | p :: ps, _, ⟨v, r, e, hv, hr⟩ => ⟨v, r, e, VRel.mono le p v hv, VRelL.mono le ps r hr⟩
end
theorem VRelL.nil (H : HP) : VRelL H [] [] := rfl
theorem VRelL.cons {H : HP} {p : PV} {ps : List PV} {v : Value} {vs : List Value} (h : VRel H p v) (hs : VRelL H ps vs) : VRelL H (p :: ps) (v :: vs) := ⟨v, vs, rfl, h, hs⟩
theorem VRelL.length {H : HP} : ∀ {ps : List PV} {vs : List Value}, VRelL H ps vs → vs.length = ps.length
  | [], _, h => by rw [show _ = [] from h]; rfl
  | p :: ps, _, ⟨v, r, e, _, hr⟩ => by rw [e, List.length_cons, List.length_cons, VRelL.length hr]
theorem VRelL.append {H : HP} : ∀ {ps qs : List PV} {vs ws : List Value}, VRelL H ps vs → VRelL H qs ws → VRelL H (ps ++ qs) (vs ++ ws)
  | [], _, _, _, h, k => by rw [show _ = [] from h]; exact k
  | p :: ps, _, _, _, ⟨v, r, e, hv, hr⟩, k => by rw [e]; exact VRelL.cons hv (VRelL.append hr k)
theorem VRelL.get {H : HP} : ∀ {ps : List PV} {vs : List Value}, VRelL H ps vs → ∀ {i : Nat} {p : PV}, ps[i]? = some p → ∃ v, vs[i]? = some v ∧ VRel H p v
  | [], _, _, i, p, e => by simp at e
  | q :: ps, _, ⟨v, r, e, hv, hr⟩, i, p, he => by
    subst e
    cases i with
    | zero => simp at he; subst he; exact ⟨v, by simp, hv⟩
    | succ i => simp at he ⊢; exact VRelL.get hr he
theorem VRelL.take {H : HP} : ∀ (n : Nat) {ps : List PV} {vs : List Value}, VRelL H ps vs → VRelL H (ps.take n) (vs.take n)
  | 0, _, _, _ => by simp [VRelL]
  | n + 1, [], _, h => by rw [show _ = [] from h]; simp [VRelL]
  | n + 1, p :: ps, _, ⟨v, r, e, hv, hr⟩ => by subst e; simp only [List.take_succ_cons]; exact VRelL.cons hv (VRelL.take n hr)
theorem VRelL.drop {H : HP} : ∀ (n : Nat) {ps : List PV} {vs : List Value}, VRelL H ps vs → VRelL H (ps.drop n) (vs.drop n)
  | 0, _, _, h => by simpa using h
  | n + 1, [], _, h => by rw [show _ = [] from h]; simp [VRelL]
  | n + 1, p :: ps, _, ⟨v, r, e, hv, hr⟩ => by subst e; simp only [List.drop_succ_cons]; exact VRelL.drop n hr
theorem VRelL.reverse {H : HP} : ∀ {ps : List PV} {vs : List Value}, VRelL H ps vs → VRelL H ps.reverse vs.reverse
  | [], _, h => by rw [show _ = [] from h]; exact rfl
  | p :: ps, _, ⟨v, r, e, hv, hr⟩ => by subst e; simp only [List.reverse_cons]; exact VRelL.append (VRelL.reverse hr) (VRelL.cons hv (VRelL.nil _))
noncomputable def isTab (a : Addr) : Prop := a = 51 ∨ a = 58
noncomputable def tabObj' (ps : Array Value) : Obj := { cls := .none, data := .fields ps }
noncomputable def TabOk (H : HP) (h : Heap) (P : Addr) (qual : Str) (line : Nat) : Prop :=
  ∃ ps, h.get? P = some (tabObj ps) ∧ (ps = #[] ∨ ∃ c' o vs t, ps = #[rawInt line, rawInt 4, .ref c'] ∧ H c' = some o ∧ o.data = .fields vs ∧ vs[1]? = some (.str qual t))
noncomputable def TabInv (H : HP) (h : Heap) : Prop := TabOk H h 51 (Str.ofString "_int2digits.<locals>.inner") 75 ∧ TabOk H h 58 (Str.ofString "_digits2int.<locals>.inner") 90
theorem TabOk.moves {H H' : HP} {h h' : Heap} {P : Addr} {qual : Str} {line : Nat} (x : TabOk H h P qual line) (le : HLe H H') (k : ∀ o, h.get? P = some o → h'.get? P = some o) : TabOk H' h' P qual line := by
  obtain ⟨ps, hp, hr⟩ := x
  refine ⟨ps, k _ hp, ?_⟩
  rcases hr with e | ⟨c', o, vs, t, e, h1, h2, h3⟩
  · exact .inl e
  · exact .inr ⟨c', o, vs, t, e, le _ _ h1, h2, h3⟩
theorem TabInv.moves {H H' : HP} {h h' : Heap} (x : TabInv H h) (le : HLe H H') (k : ∀ a o, isTab a → h.get? a = some o → h'.get? a = some o) : TabInv H' h' :=
  ⟨x.1.moves le fun o => k 51 o (.inl rfl), x.2.moves le fun o => k 58 o (.inr rfl)⟩
structure GC where
  prog : Program
  w : World
  h0 : Heap
  mg : Str → Option Value
  mb : Str → Option Value
  hg : h0.Ns mainGlobals mg
  hb : h0.Ns builtinsNs mb
  nolimit : h0.NoLimit
  bmain : ∃ bm ob, mg "__builtins__" = some (.ref bm) ∧ bm ≠ builtinsNs ∧ h0.get? bm = some ob ∧ ob.cls = .type "module" ∧ ob.dict = some builtinsNs ∧ ob.data = .plain
  blt : ∀ x : Str, x ≠ Str.ofString "__name__" → mb x = bootBuiltins x
  kin : (K0 w.params).In h0
  tab0 : ∀ a, isTab a → ∃ ps, h0.get? a = some (tabObj ps)
structure St (g : GC) (s : Shared) (H : HP) : Prop where
  keep : ∀ a o, H a = some o → s.heap.get? a = some o
  base : ∀ a o, ¬ isTab a → g.h0.get? a = some o → H a = some o
  tab : TabInv H s.heap
  notab : ∀ a, isTab a → H a = none
  bare : AllBare s.gens
theorem tab_some {H : HP} {h : Heap} (x : TabInv H h) {a : Addr} (t : isTab a) : ∃ o, h.get? a = some o ∧ o.cls = .none ∧ ∃ ps, o.data = .fields ps := by
  rcases t with rfl | rfl
  · obtain ⟨⟨ps, hp, _⟩, _⟩ := x; exact ⟨_, hp, rfl, ps, rfl⟩
  · obtain ⟨_, ⟨ps, hp, _⟩⟩ := x; exact ⟨_, hp, rfl, ps, rfl⟩
structure Ext (g : GC) (s : Shared) (H : HP) (s' : Shared) (H' : HP) : Prop where
  st : St g s' H'
  le : HLe H H'
  old : ∀ a o, ¬ isTab a → s.heap.get? a = some o → s'.heap.get? a = some o
  fresh : ∀ a o, H' a = some o → H a = some o ∨ s.heap.get? a = none
  same : ∃ h' g' tk, s' = { s with heap := h', gens := g', toks := tk }
  gens : ∀ (i : Nat) (x : GenState), s.gens[i]? = some x → s'.gens[i]? = some x
theorem Ext.refl {g : GC} {s : Shared} {H : HP} (x : St g s H) : Ext g s H s H := ⟨x, .refl _, fun _ _ _ e => e, fun _ _ e => .inl e, ⟨_, _, _, rfl⟩, fun _ _ e => e⟩
theorem Ext.trans {g : GC} {s s' s'' : Shared} {H H' H'' : HP} (x : Ext g s H s' H') (y : Ext g s' H' s'' H'') : Ext g s H s'' H'' := by
  refine ⟨y.st, x.le.trans y.le, fun a o ht e => y.old a o ht (x.old a o ht e), fun a o e => ?_, ?_, fun i z e => y.gens i z (x.gens i z e)⟩
  · rcases y.fresh a o e with h | h
    · exact x.fresh a o h
    · right
      cases q : s.heap.get? a with
      | none => rfl
      | some o' =>
        by_cases ht : isTab a
        · rw [y.st.notab a ht] at e; cases e
        · rw [x.old a o' ht q] at h; cases h
  · obtain ⟨h1, g1, t1, rfl⟩ := x.same
    obtain ⟨h2, g2, t2, rfl⟩ := y.same
    exact ⟨h2, g2, t2, rfl⟩
theorem Ext.kept {g : GC} {s : Shared} {H : HP} {h' : Heap} {tk : Nat} (x : St g s H) (k : ∀ b o, s.heap.get? b = some o → h'.get? b = some o) : Ext g s H { s with heap := h', toks := tk } H :=
  ⟨⟨fun a o e => k a o (x.keep a o e), x.base, x.tab.moves (.refl _) (fun a o _ e => k a o e), x.notab, x.bare⟩, .refl _, fun a o _ e => k a o e, fun _ _ e => .inl e, ⟨h', s.gens, tk, rfl⟩, fun _ _ e => e⟩
theorem Ext.toks {g : GC} {s : Shared} {H : HP} {tk : Nat} (x : St g s H) : Ext g s H { s with toks := tk } H := Ext.kept (h' := s.heap) x fun _ _ e => e
noncomputable def hput (H : HP) (a : Addr) (o : Obj) : HP := fun b => if b = a then some o else H b
theorem hput_self (H : HP) (a : Addr) (o : Obj) : hput H a o a = some o := if_pos rfl
theorem hput_le {H : HP} {a : Addr} {o : Obj} (h : H a = none) : HLe H (hput H a o) := fun b o' e => by
  unfold hput; rw [if_neg (fun q => by rw [q, h] at e; cases e)]; exact e
theorem Ext.freeze {g : GC} {s : Shared} {H : HP} {a : Addr} {o : Obj} {h' : Heap} {tk : Nat} (x : St g s H) (k : ∀ b o, s.heap.get? b = some o → h'.get? b = some o)
    (hn : s.heap.get? a = none) (ha : h'.get? a = some o) : Ext g s H { s with heap := h', toks := tk } (hput H a o) := by
  have hH : H a = none := by
    cases q : H a with
    | none => rfl
    | some o' => rw [x.keep a o' q] at hn; cases hn
  have y := Ext.kept (tk := tk) x k
  have hnt : ¬ isTab a := fun t => by obtain ⟨o', e, _⟩ := tab_some x.tab t; rw [e] at hn; cases hn
  refine ⟨⟨fun b o' e => ?_, fun b o' ht e => hput_le hH b o' (x.base b o' ht e), y.st.tab.moves (hput_le hH) (fun _ _ _ e => e), fun b t => ?_, x.bare⟩, hput_le hH, y.old, fun b o' e => ?_, y.same, y.gens⟩
  · unfold hput at e
    split at e
    · rename_i q; subst q; cases e; exact ha
    · exact k b o' (x.keep b o' e)
  · show (if b = a then some o else H b) = none
    rw [if_neg (fun q : b = a => hnt (q ▸ t))]; exact x.notab b t
  · unfold hput at e
    split at e
    · rename_i q; subst q; exact .inr hn
    · exact .inl e
structure Room (A : Around) (n : Nat) : Prop where
  hh : A.handled = none
  depth : A.depth + n ≤ 900
  units : A.units + 10 * n ≤ 9000
theorem Room.le {A : Around} {n m : Nat} (x : Room A n) (h : m ≤ n) : Room A m := ⟨x.hh, by have := x.depth; omega, by have := x.units; omega⟩
theorem Room.in1 {A : Around} {n : Nat} (x : Room A (n + 1)) : Room A.in1 n := ⟨x.hh, by show A.depth + n ≤ 900; have := x.depth; omega, by show A.units + 1 + 10 * n ≤ 9000; have := x.units; omega⟩
theorem Room.deeper {A : Around} {n : Nat} {env : Env} (x : Room A (n + 1)) : Room (A.deeper env) n := ⟨x.hh, by show A.depth + 1 + n ≤ 900; have := x.depth; omega, by show A.units + 3 + 10 * n ≤ 9000; have := x.units; omega⟩
theorem cLine_is : cLine = 9900 := rfl
theorem Room.c {A : Around} {n : Nat} (x : Room A n) : A.units + 800 < cLine := by rw [cLine_is]; have := x.units; omega
theorem Room.lim {A : Around} {n : Nat} (x : Room A n) : A.depth < recursionLimit := by show A.depth < 1000; have := x.depth; omega
inductive VK where | loc | cel | fre
  deriving DecidableEq, Inhabited
structure Cx where
  sc : Scope
  ns : List (Str × VK)
  mu : Nat
  lv : Nat
noncomputable def kindFits : VK → Option NameKind → Bool
  | .loc, some .local => true
  | .cel, some .cell => true
  | .fre, some .free => true
  | .fre, some .cell => true
  | _, _ => false
noncomputable def Cx.ok (C : Cx) : Bool :=
  C.sc.kind == .function && C.ns.all (fun x => !(x.1 == Str.ofString "__debug__") && !(x.1 == Str.ofString "__classdict__") && kindFits x.2 (C.sc.names.lookup x.1)) && decide ((C.ns.map (·.1)).Nodup)
structure EnvOk (C : Cx) (env : Env) : Prop where
  scope : env.scope = C.sc
  globals : env.globals = mainGlobals
  builtins : env.builtins = builtinsNs
  cel : ∀ x k, (x, k) ∈ C.ns → k ≠ .loc → ∃ c, env.cells.lookup x = some c
  apart : ∀ x y c, env.cells.lookup x = some c → env.cells.lookup y = some c → x = y
theorem Cx.kind {C : Cx} (h : C.ok = true) : C.sc.kind = .function := by
  unfold Cx.ok at h; simp only [Bool.and_eq_true] at h; exact eq_of_beq h.1.1
theorem Cx.nodup {C : Cx} (h : C.ok = true) : (C.ns.map (·.1)).Nodup := by
  unfold Cx.ok at h; simp only [Bool.and_eq_true] at h; exact of_decide_eq_true h.2
theorem Cx.at {C : Cx} (h : C.ok = true) {x : Str} {k : VK} (hm : (x, k) ∈ C.ns) : (x == Str.ofString "__debug__") = false ∧ (x == Str.ofString "__classdict__") = false ∧ kindFits k (C.sc.names.lookup x) = true := by
  unfold Cx.ok at h; simp only [Bool.and_eq_true] at h
  have := List.all_eq_true.mp h.1.2 _ hm
  simp only [Bool.and_eq_true, Bool.not_eq_true'] at this
  exact ⟨this.1.1, this.1.2, this.2⟩
theorem kindFits_loc {o : Option NameKind} (h : kindFits .loc o = true) : o = some .local := by
  cases o with
  | none => cases h
  | some k => cases k <;> first | rfl | cases h
theorem kindFits_cel {o : Option NameKind} (h : kindFits .cel o = true) : o = some .cell := by
  cases o with
  | none => cases h
  | some k => cases k <;> first | rfl | cases h
theorem kindFits_fre {o : Option NameKind} (h : kindFits .fre o = true) : o = some .free ∨ o = some .cell := by
  cases o with
  | none => cases h
  | some k => cases k <;> first | exact .inl rfl | exact .inr rfl | cases h
noncomputable def SlotV (H : HP) (h : Heap) (oa : Option Addr) (pv : PV) (vo : Option Value) : Prop := match pv with
  | .undef => True
  | .own xs => ∃ a its, vo = some (.ref a) ∧ oa = some a ∧ H a = none ∧ h.PlainList a its ∧ VRelL H xs its.toList
  | p => ∃ v, vo = some v ∧ VRel H p v
noncomputable def Own (C : Cx) (env : Env) (oa : Option Addr) (a : Addr) : Prop := a = env.locals ∨ (∃ x, (x, VK.cel) ∈ C.ns ∧ env.cells.lookup x = some a) ∨ oa = some a
structure Rel (g : GC) (C : Cx) (env : Env) (s : Shared) (H : HP) (ρ : List PV) (oa : Option Addr) : Prop where
  st : St g s H
  len : ρ.length = C.ns.length
  fz : H env.locals = none
  ns : ∃ m, s.heap.Ns env.locals m ∧ ∀ i x, C.ns[i]? = some (x, VK.loc) → SlotV H s.heap oa (ρ.getD i .undef) (m x)
  ce : ∀ i x k c, C.ns[i]? = some (x, k) → k ≠ VK.loc → env.cells.lookup x = some c →
    (k = .cel → H c = none) ∧ ∃ vo, s.heap.IsCell c vo ∧ SlotV H s.heap none (ρ.getD i .undef) vo
  mu : ∀ i xs, ρ.getD i .undef = .own xs → i = C.mu
  oall : ∀ a, oa = some a → H a = none ∧ ∃ its, s.heap.PlainList a its
theorem SlotV.ext {g : GC} {s s' : Shared} {H H' : HP} {oa : Option Addr} {pv : PV} {vo : Option Value} (st : St g s H) (x : SlotV H s.heap oa pv vo) (e : Ext g s H s' H') : SlotV H' s'.heap oa pv vo := by
  cases pv with
  | undef => trivial
  | own xs =>
    obtain ⟨a, its, h1, h2, h3, h4, h5⟩ := x
    obtain ⟨n, ho⟩ := h4
    have hnt : ¬ isTab a := fun t => by
      obtain ⟨o', e', hc', _⟩ := tab_some st.tab t
      rw [ho] at e'; cases e'; cases hc'
    refine ⟨a, its, h1, h2, ?_, ⟨n, e.old _ _ hnt ho⟩, VRelL.mono e.le _ _ h5⟩
    cases q : H' a with
    | none => rfl
    | some o' =>
      rcases e.fresh a o' q with r | r
      · rw [h3] at r; cases r
      · rw [ho] at r; cases r
  | none => obtain ⟨v, h1, h2⟩ := x; exact ⟨v, h1, VRel.mono e.le _ _ h2⟩
  | bool b => obtain ⟨v, h1, h2⟩ := x; exact ⟨v, h1, VRel.mono e.le _ _ h2⟩
  | int b => obtain ⟨v, h1, h2⟩ := x; exact ⟨v, h1, VRel.mono e.le _ _ h2⟩
  | str b => obtain ⟨v, h1, h2⟩ := x; exact ⟨v, h1, VRel.mono e.le _ _ h2⟩
  | list b => obtain ⟨v, h1, h2⟩ := x; exact ⟨v, h1, VRel.mono e.le _ _ h2⟩
  | tup b => obtain ⟨v, h1, h2⟩ := x; exact ⟨v, h1, VRel.mono e.le _ _ h2⟩
  | fn b => obtain ⟨v, h1, h2⟩ := x; exact ⟨v, h1, VRel.mono e.le _ _ h2⟩
theorem not_tab_of_cls {g : GC} {s : Shared} {H : HP} (st : St g s H) {a : Addr} {o : Obj} (ho : s.heap.get? a = some o) (hc : (∃ n xs, o.data = .seq xs n) ∨ (∃ es n, o.data = .dict es n) ∨ (∃ v, o.data = .cell v)) : ¬ isTab a := fun t => by
  obtain ⟨o', e', _, ps, hd'⟩ := tab_some st.tab t
  rw [ho] at e'; cases e'
  rcases hc with ⟨n, xs, h⟩ | ⟨es, n, h⟩ | ⟨v, h⟩ <;> · rw [hd'] at h; cases h
theorem Heap.Ns.notTab {g : GC} {s : Shared} {H : HP} (st : St g s H) {a : Addr} {m : Str → Option Value} (x : s.heap.Ns a m) : ¬ isTab a := by
  obtain ⟨o, es, ep, ho, hd, _⟩ := x; exact not_tab_of_cls st ho (.inr (.inl ⟨es, ep, hd⟩))
theorem Heap.IsCell.notTab {g : GC} {s : Shared} {H : HP} (st : St g s H) {a : Addr} {v : Option Value} (x : s.heap.IsCell a v) : ¬ isTab a := by
  obtain ⟨o, ho, hd⟩ := x; exact not_tab_of_cls st ho (.inr (.inr ⟨v, hd⟩))
theorem Heap.PlainList.notTab {g : GC} {s : Shared} {H : HP} (st : St g s H) {a : Addr} {its : Array Value} (x : s.heap.PlainList a its) : ¬ isTab a := by
  obtain ⟨n, ho⟩ := x; exact not_tab_of_cls st ho (.inl ⟨n, its, rfl⟩)
theorem Ext.stays_none {g : GC} {s s' : Shared} {H H' : HP} (e : Ext g s H s' H') {a : Addr} {o : Obj} (ho : s.heap.get? a = some o) (hH : H a = none) : H' a = none := by
  cases q : H' a with
  | none => rfl
  | some o' =>
    rcases e.fresh a o' q with r | r
    · rw [hH] at r; cases r
    · rw [ho] at r; cases r
theorem Rel.ext {g : GC} {C : Cx} {env : Env} {s s' : Shared} {H H' : HP} {ρ : List PV} {oa : Option Addr} (x : Rel g C env s H ρ oa) (e : Ext g s H s' H') : Rel g C env s' H' ρ oa := by
  obtain ⟨m, hn, hs⟩ := x.ns
  refine ⟨e.st, x.len, ?_, ⟨m, hn.at' fun o ho => e.old _ o (Heap.Ns.notTab x.st hn) ho, fun i y hy => (hs i y hy).ext x.st e⟩, fun i y k c hi hk hc => ?_, x.mu, fun a ha => ?_⟩
  · obtain ⟨o, es, ep, ho, _⟩ := hn; exact e.stays_none ho x.fz
  · obtain ⟨h1, vo, h2, h3⟩ := x.ce i y k c hi hk hc
    have hnt := Heap.IsCell.notTab x.st h2
    obtain ⟨o, ho, hd⟩ := h2
    exact ⟨fun q => e.stays_none ho (h1 q), vo, ⟨o, e.old _ _ hnt ho, hd⟩, h3.ext x.st e⟩
  · obtain ⟨h1, its, h2⟩ := x.oall a ha
    have hnt := Heap.PlainList.notTab x.st h2
    obtain ⟨n, ho⟩ := h2
    exact ⟨e.stays_none ho h1, its, n, e.old _ _ hnt ho⟩
noncomputable abbrev DE := List PV → Option PV
noncomputable def Den (g : GC) (C : Cx) (e : Expr) (f : DE) : Prop :=
  ∀ env A s H ρ oa Q E pv, EnvOk C env → Room A C.lv → Rel g C env s H ρ oa → f ρ = some pv →
    (∀ v s' H', Ext g s H s' H' → VRel H' pv v → Q v s') → wpAny (model g.prog g.w) A (eval e env) Q E s
theorem Den.bind {g : GC} {C : Cx} {e : Expr} {f : DE} {env : Env} {A : Around} {s : Shared} {H : HP} {ρ : List PV} {oa : Option Addr} {Q : Value → Shared → Prop} {E : Value → Shared → Prop} {pv : PV}
    (D : Den g C e f) (he : EnvOk C env) (hr : Room A C.lv) (x : Rel g C env s H ρ oa) (hf : f ρ = some pv)
    (h : ∀ v s' H', Ext g s H s' H' → Rel g C env s' H' ρ oa → VRel H' pv v → Q v s') : wpAny (model g.prog g.w) A (eval e env) Q E s :=
  D env A s H ρ oa Q E pv he hr x hf fun v s' H' e hv => h v s' H' e (x.ext e) hv
section
variable {g : GC} {C : Cx}
theorem Den.kNone {k : Nat} {pos : Pos} : Den g C (.Constant .none k pos) (fun _ => some .none) := by
  intro env A s H ρ oa Q E pv he hr x hf h
  cases hf
  exact wpAny_Constant_none (h _ _ _ (.refl x.st) rfl)
theorem Den.bool {b : Bool} {k : Nat} {pos : Pos} : Den g C (.Constant (.bool b) k pos) (fun _ => some (.bool b)) := by
  intro env A s H ρ oa Q E pv he hr x hf h
  cases hf
  exact wpAny_Constant_bool (h _ _ _ (.refl x.st) rfl)
theorem Den.int {i : Int} {k : Nat} {pos : Pos} : Den g C (.Constant (.int i) k pos) (fun _ => some (.int i)) := by
  intro env A s H ρ oa Q E pv he hr x hf h
  cases hf
  exact wpAny_Constant_int (h _ _ _ (.toks x.st) ⟨_, rfl⟩)
theorem Den.str {x : Str} {l : List Nat} {k : Nat} {pos : Pos} (hx : x = ⟨l.toArray⟩) : Den g C (.Constant (.str x) k pos) (fun _ => some (.str l)) := by
  intro env A s H ρ oa Q E pv he hr y hf h
  cases hf
  exact wpAny_Constant_str (h _ _ _ (.toks y.st) ⟨_, by rw [hx]⟩)
noncomputable def dVar (i : Nat) : DE := fun ρ => match ρ.getD i .undef with
  | .undef => Option.none
  | .own _ => Option.none
  | p => some p
theorem dVar_some {i : Nat} {ρ : List PV} {pv : PV} (h : dVar i ρ = some pv) : ρ.getD i .undef = pv ∧ ∀ H h' oa vo, SlotV H h' oa pv vo → ∃ v, vo = some v ∧ VRel H pv v := by
  unfold dVar at h
  split at h
  · cases h
  · cases h
  · rename_i p h1 h2
    have e : ρ.getD i .undef = pv := Option.some.inj h
    refine ⟨e, fun H h' oa vo hs => ?_⟩
    cases pv with
    | undef => exact absurd e h1
    | own xs => exact absurd e (h2 xs)
    | none => exact hs
    | bool _ => exact hs
    | int _ => exact hs
    | str _ => exact hs
    | list _ => exact hs
    | tup _ => exact hs
    | fn _ => exact hs
theorem kindOf_of {env : Env} (he : EnvOk C env) (x : Str) : env.kindOf x = C.sc.names.lookup x := by unfold Env.kindOf; rw [he.scope]
theorem loadName_rel {env : Env} {A : Around} {s : Shared} {H : HP} {ρ : List PV} {oa : Option Addr} {Q : Value → Shared → Prop} {E : Value → Shared → Prop} {i : Nat} {x : Str} {k : VK} {pv : PV}
    (hC : C.ok = true) (he : EnvOk C env) (y : Rel g C env s H ρ oa) (hi : C.ns[i]? = some (x, k)) (hv : dVar i ρ = some pv)
    (h : ∀ v, VRel H pv v → Q v s) : wpAny (model g.prog g.w) A (loadName env x) Q E s := by
  obtain ⟨e, hs⟩ := dVar_some hv
  have hm : (x, k) ∈ C.ns := List.mem_of_getElem? hi
  obtain ⟨h1, h2, h3⟩ := Cx.at hC hm
  have hk : env.scope.kind = .function := by rw [he.scope]; exact Cx.kind hC
  cases k with
  | loc =>
    obtain ⟨m, hn, hsl⟩ := y.ns
    have h4 := hsl i x hi
    rw [e] at h4
    obtain ⟨v, h5, h6⟩ := hs _ _ _ _ h4
    exact wpAny_loadName_local hk (by rw [kindOf_of he]; exact kindFits_loc h3) hn h5 (h v h6)
  | cel =>
    obtain ⟨c, hc⟩ := he.cel x .cel hm (by decide)
    obtain ⟨_, vo, h4, h5⟩ := y.ce i x .cel c hi (by decide) hc
    rw [e] at h5
    obtain ⟨v, h6, h7⟩ := hs _ _ _ _ h5
    subst h6
    exact wpAny_loadName_cell hk (by rw [kindOf_of he]; exact kindFits_cel h3) hc h4 (h v h7)
  | fre =>
    obtain ⟨c, hc⟩ := he.cel x .fre hm (by decide)
    obtain ⟨_, vo, h4, h5⟩ := y.ce i x .fre c hi (by decide) hc
    rw [e] at h5
    obtain ⟨v, h6, h7⟩ := hs _ _ _ _ h5
    subst h6
    rcases kindFits_fre h3 with q | q
    · exact wpAny_loadName_free hk (by rw [kindOf_of he]; exact q) hc h4 (h v h7) h2
    · exact wpAny_loadName_cell hk (by rw [kindOf_of he]; exact q) hc h4 (h v h7)
theorem Den.var {i : Nat} {x : Str} {k : VK} {pos : Pos} (hC : C.ok = true) (hi : C.ns[i]? = some (x, k)) : Den g C (.Name x pos) (dVar i) := by
  intro env A s H ρ oa Q E pv he hr y hf h
  exact wpAny_Name (loadName_rel hC he y hi hf fun v hv => h v s H (.refl y.st) hv) (Cx.at hC (List.mem_of_getElem? hi)).1
end
noncomputable def Op1 (g : GC) (t : Value → Sem Value) (F : PV → Option PV) : Prop :=
  ∀ A s H va a Q E r, Room A 8 → St g s H → VRel H a va → F a = some r →
    (∀ v s' H', Ext g s H s' H' → VRel H' r v → Q v s') → wpAny (model g.prog g.w) A (t va) Q E s
noncomputable def Op2 (g : GC) (t : Value → Value → Sem Value) (F : PV → PV → Option PV) : Prop :=
  ∀ A s H va vb a b Q E r, Room A 8 → St g s H → VRel H a va → VRel H b vb → F a b = some r →
    (∀ v s' H', Ext g s H s' H' → VRel H' r v → Q v s') → wpAny (model g.prog g.w) A (t va vb) Q E s
noncomputable def OpT (g : GC) (F : PV → Option Bool) : Prop :=
  ∀ A s H va a Q E r, Room A 8 → St g s H → VRel H a va → F a = some r → Q r s → wpAny (model g.prog g.w) A (truthy va) Q E s
noncomputable def pTruth : PV → Option Bool
  | .bool b => some b
  | .int i => some (i != 0)
  | _ => none
theorem truth_op (g : GC) : OpT g pTruth := by
  intro A s H va a Q E r hr hs hv hf hq
  cases a with
  | bool b => obtain rfl := hv; cases hf; exact wpAny_truthy_bool hq
  | int i => obtain ⟨t, rfl⟩ := hv; cases hf; exact PySem.P.truthy_int hq
  | _ => cases hf
section
variable {g : GC} {C : Cx}
noncomputable def DenB (g : GC) (C : Cx) (e : Expr) (f : List PV → Option Bool) : Prop :=
  ∀ env A s H ρ oa Q E b, EnvOk C env → Room A C.lv → Rel g C env s H ρ oa → f ρ = some b →
    (∀ s' H', Ext g s H s' H' → Q b s') → wpAny (model g.prog g.w) A (isTrue e env (eval e env)) Q E s
theorem Den.bin {l r : Expr} {op : Operator} {pos : Pos} {f1 f2 : DE} {F : PV → PV → Option PV} (hl : 8 ≤ C.lv) (h1 : Den g C l f1) (h2 : Den g C r f2) (ho : Op2 g (binaryOp op) F) :
    Den g C (.BinOp l op r pos) (fun ρ => (f1 ρ).bind fun a => (f2 ρ).bind fun b => F a b) := by
  intro env A s H ρ oa Q E pv he hr x hf h
  obtain ⟨a, ha, hf⟩ := Option.bind_eq_some_iff.mp hf
  obtain ⟨b, hb, hf⟩ := Option.bind_eq_some_iff.mp hf
  refine wpAny_BinOp (h1.bind he hr x ha fun va s1 H1 e1 x1 va1 => h2.bind he hr x1 hb fun vb s2 H2 e2 x2 vb2 => ?_)
  exact ho A s2 H2 va vb a b Q E pv (hr.le hl) x2.st (VRel.mono e2.le _ _ va1) vb2 hf fun v s' H' e hv => h v s' H' (e1.trans (e2.trans e)) hv
theorem Den.un {x : Expr} {op : UnaryOp} {pos : Pos} {f1 : DE} {F : PV → Option PV} (hl : 8 ≤ C.lv) (h1 : Den g C x f1) (ho : Op1 g (unaryOp op) F) :
    Den g C (.UnaryOp op x pos) (fun ρ => (f1 ρ).bind F) := by
  intro env A s H ρ oa Q E pv he hr x hf h
  obtain ⟨a, ha, hf⟩ := Option.bind_eq_some_iff.mp hf
  refine wpAny_UnaryOp (h1.bind he hr x ha fun va s1 H1 e1 x1 va1 => ?_)
  exact ho A s1 H1 va a Q E pv (hr.le hl) x1.st va1 hf fun v s' H' e hv => h v s' H' (e1.trans e) hv
theorem Den.cmp {l r : Expr} {op : CmpOp} {pos : Pos} {f1 f2 : DE} {F : PV → PV → Option PV} (hl : 8 ≤ C.lv) (h1 : Den g C l f1) (h2 : Den g C r f2) (ho : Op2 g (compareOp op) F)
    (hm : behindInMarks op r = false := by rfl) :
    Den g C (.Compare l [op] [r] pos) (fun ρ => (f1 ρ).bind fun a => (f2 ρ).bind fun b => F a b) := by
  intro env A s H ρ oa Q E pv he hr x hf h
  obtain ⟨a, ha, hf⟩ := Option.bind_eq_some_iff.mp hf
  obtain ⟨b, hb, hf⟩ := Option.bind_eq_some_iff.mp hf
  refine wpAny_Compare1 (h1.bind he hr x ha fun va s1 H1 e1 x1 va1 => h2.bind he hr x1 hb fun vb s2 H2 e2 x2 vb2 => ?_) hm
  exact ho A s2 H2 va vb a b Q E pv (hr.le hl) x2.st (VRel.mono e2.le _ _ va1) vb2 hf fun v s' H' e hv => h v s' H' (e1.trans (e2.trans e)) hv
theorem DenB.cmp {l r : Expr} {op : CmpOp} {pos : Pos} {f1 f2 : DE} {F : PV → PV → Option PV} (hl : 8 ≤ C.lv) (h1 : Den g C l f1) (h2 : Den g C r f2) (ho : Op2 g (compareOp op) F)
    (hm : behindInMarks op r = false := by rfl) :
    DenB g C (.Compare l [op] [r] pos) (fun ρ => (f1 ρ).bind fun a => (f2 ρ).bind fun b => (F a b).bind pTruth) := by
  intro env A s H ρ oa Q E pv he hr x hf h
  obtain ⟨a, ha, hf⟩ := Option.bind_eq_some_iff.mp hf
  obtain ⟨b, hb, hf⟩ := Option.bind_eq_some_iff.mp hf
  obtain ⟨c, hc, hf⟩ := Option.bind_eq_some_iff.mp hf
  refine wpAny_isTrue_Compare1 (h1.bind he hr x ha fun va s1 H1 e1 x1 va1 => h2.bind he hr x1 hb fun vb s2 H2 e2 x2 vb2 => ?_) hm
  refine ho A s2 H2 va vb a b _ E c (hr.le hl) x2.st (VRel.mono e2.le _ _ va1) vb2 hc fun v s' H' e hv => ?_
  exact truth_op g A s' H' v c Q E pv (hr.le hl) e.st hv hf (h s' H' (e1.trans (e2.trans e)))
theorem DenB.val {e : Expr} {f : DE} (hl : 8 ≤ C.lv) (h1 : Den g C e f) (hi : ∀ env whole, isTrue e env whole = (do let v ← whole; standAt e.pos; holding [v] (truthy v))) :
    DenB g C e (fun ρ => (f ρ).bind pTruth) := by
  intro env A s H ρ oa Q E pv he hr x hf h
  obtain ⟨a, ha, hf⟩ := Option.bind_eq_some_iff.mp hf
  refine wpAny_isTrue_value (h1.bind he hr x ha fun va s1 H1 e1 x1 va1 => ?_) (hi env _)
  exact truth_op g A s1 H1 va a Q E pv (hr.le hl) x1.st va1 hf (h s1 H1 e1)
noncomputable def DenAll (g : GC) (C : Cx) (op : BoolOp) (es : List Expr) (f : List PV → Option Bool) : Prop :=
  ∀ env A s H ρ oa Q E b, EnvOk C env → Room A C.lv → Rel g C env s H ρ oa → f ρ = some b →
    (∀ s' H', Ext g s H s' H' → Q b s') → wpAny (model g.prog g.w) A (allTrue op es env) Q E s
theorem DenAll.and_nil : DenAll g C .And [] (fun _ => some true) := by
  intro env A s H ρ oa Q E b he hr x hf h
  cases hf
  exact wpAny_allTrue_And_nil (h s H (.refl x.st))
theorem DenAll.or_nil : DenAll g C .Or [] (fun _ => some false) := by
  intro env A s H ρ oa Q E b he hr x hf h
  cases hf
  exact wpAny_allTrue_Or_nil (h s H (.refl x.st))
theorem DenAll.and_cons {e : Expr} {es : List Expr} {f1 f2 : List PV → Option Bool} (h1 : DenB g C e f1) (h2 : DenAll g C .And es f2) :
    DenAll g C .And (e :: es) (fun ρ => (f1 ρ).bind fun b => if b then f2 ρ else some false) := by
  intro env A s H ρ oa Q E b he hr x hf h
  obtain ⟨c, hc, hf⟩ := Option.bind_eq_some_iff.mp hf
  refine wpAny_allTrue_And_cons (h1 env A s H ρ oa _ E c he hr x hc fun s' H' e' => ?_)
  cases c with
  | true => exact h2 env A s' H' ρ oa Q E b he hr (x.ext e') hf fun s'' H'' e'' => h s'' H'' (e'.trans e'')
  | false => cases hf; exact h s' H' e'
theorem DenAll.or_cons {e : Expr} {es : List Expr} {f1 f2 : List PV → Option Bool} (h1 : DenB g C e f1) (h2 : DenAll g C .Or es f2) :
    DenAll g C .Or (e :: es) (fun ρ => (f1 ρ).bind fun b => if b then some true else f2 ρ) := by
  intro env A s H ρ oa Q E b he hr x hf h
  obtain ⟨c, hc, hf⟩ := Option.bind_eq_some_iff.mp hf
  refine wpAny_allTrue_Or_cons (h1 env A s H ρ oa _ E c he hr x hc fun s' H' e' => ?_)
  cases c with
  | true => cases hf; exact h s' H' e'
  | false => exact h2 env A s' H' ρ oa Q E b he hr (x.ext e') hf fun s'' H'' e'' => h s'' H'' (e'.trans e'')
theorem DenB.boolop {op : BoolOp} {es : List Expr} {pos : Pos} {f : List PV → Option Bool} (h : DenAll g C op es f) : DenB g C (.BoolOp op es pos) f :=
  fun env A s H ρ oa Q E b he hr x hf hq => wpAny_isTrue_BoolOp (h env A s H ρ oa Q E b he hr x hf hq)
theorem Den.and2 {x y : Expr} {pos : Pos} {f1 f2 : DE} (hl : 8 ≤ C.lv) (h1 : Den g C x f1) (h2 : Den g C y f2) :
    Den g C (.BoolOp .And [x, y] pos) (fun ρ => (f1 ρ).bind fun a => (pTruth a).bind fun b => if b then f2 ρ else some a) := by
  intro env A s H ρ oa Q E pv he hr x hf h
  obtain ⟨a, ha, hf⟩ := Option.bind_eq_some_iff.mp hf
  obtain ⟨b, hb, hf⟩ := Option.bind_eq_some_iff.mp hf
  refine wpAny_And2 (h1.bind he hr x ha fun va s1 H1 e1 x1 va1 => ?_)
  refine truth_op g A s1 H1 va a _ E b (hr.le hl) x1.st va1 hb ?_
  cases b with
  | true => exact h2 env A s1 H1 ρ oa Q E pv he hr x1 hf fun v s' H' e hv => h v s' H' (e1.trans e) hv
  | false => cases hf; exact h va s1 H1 e1 va1
theorem Den.ifexp {t a b : Expr} {pos : Pos} {ft : List PV → Option Bool} {fa fb : DE} (ht : DenB g C t ft) (h1 : Den g C a fa) (h2 : Den g C b fb) :
    Den g C (.IfExp t a b pos) (fun ρ => (ft ρ).bind fun c => if c then fa ρ else fb ρ) := by
  intro env A s H ρ oa Q E pv he hr x hf h
  obtain ⟨c, hc, hf⟩ := Option.bind_eq_some_iff.mp hf
  refine wpAny_IfExp (ht env A s H ρ oa _ E c he hr x hc fun s' H' e' => ?_)
  cases c with
  | true => exact h1 env A s' H' ρ oa Q E pv he hr (x.ext e') hf fun v s'' H'' e hv => h v s'' H'' (e'.trans e) hv
  | false => exact h2 env A s' H' ρ oa Q E pv he hr (x.ext e') hf fun v s'' H'' e hv => h v s'' H'' (e'.trans e) hv
noncomputable def DenL (g : GC) (C : Cx) (es : List Expr) (f : List PV → Option (List PV)) : Prop :=
  ∀ env A s H ρ oa Q E pvs pos, EnvOk C env → Room A C.lv → Rel g C env s H ρ oa → f ρ = some pvs →
    (∀ vs s' H', Ext g s H s' H' → VRelL H' pvs vs → Q vs s') → wpAny (model g.prog g.w) A (spliced (backTo pos (starEach es env))) Q E s
theorem DenL.nil : DenL g C [] (fun _ => some []) := by
  intro env A s H ρ oa Q E pvs pos he hr x hf h
  cases hf
  exact wpAny_items_nil (h [] s H (.refl x.st) rfl)
theorem DenL.cons {e : Expr} {es : List Expr} {f1 : DE} {f2 : List PV → Option (List PV)} (h1 : Den g C e f1) (h2 : DenL g C es f2)
    (hs : ∀ env, starEach (e :: es) env = (false, eval e env) :: starEach es env := by intro _; rfl) :
    DenL g C (e :: es) (fun ρ => (f1 ρ).bind fun a => (f2 ρ).bind fun r => some (a :: r)) := by
  intro env A s H ρ oa Q E pvs pos he hr x hf h
  obtain ⟨a, ha, hf⟩ := Option.bind_eq_some_iff.mp hf
  obtain ⟨r, hr2, hf⟩ := Option.bind_eq_some_iff.mp hf
  cases hf
  refine wpAny_items_cons (h1.bind he hr x ha fun va s1 H1 e1 x1 va1 => ?_) (hs env)
  exact h2 env A s1 H1 ρ oa _ E r pos he hr x1 hr2 fun vs s' H' e' hv => h _ s' H' (e1.trans e') (VRelL.cons (VRel.mono e'.le _ _ va1) hv)
theorem freshAt {h : Heap} {a : Addr} (ha : h.objs.size ≤ a) : h.get? a = none := by
  cases q : h.get? a with
  | none => rfl
  | some o => exact absurd (Heap.lt_size q) (Nat.not_lt.mpr ha)
theorem Den.tuple {es : List Expr} {k : Nat} {pos : Pos} {f : List PV → Option (List PV)} (h1 : DenL g C es f) (hz : es.length ≤ 1000 := by decide)
    (hlen : ∀ ρ l, f ρ = some l → l.length = es.length) :
    Den g C (.Tuple es k pos) (fun ρ => (f ρ).map .tup) := by
  intro env A s H ρ oa Q E pv he hr x hf h
  obtain ⟨l, hl, hf⟩ := Option.map_eq_some_iff.mp hf
  subst hf
  refine wpAny_Tuple (h1 env A s H ρ oa _ E l pos he hr x hl fun vs s' H' e hv => ⟨?_, ?_⟩)
  · rw [hv.length, hlen ρ l hl]; exact Nat.le_trans hz (by decide)
  · have hf := Ext.freeze (tk := s'.toks) (h' := s'.heap.push { cls := .type "tuple", data := .seq vs.toArray }) e.st (fun b o e => Heap.get?_push_of_some _ e) (freshAt (Nat.le_refl _)) (Heap.get?_push_size _ rfl)
    exact h _ _ _ (e.trans hf) ⟨_, _, _, 0, rfl, hput_self .., rfl, rfl, by simpa using VRelL.mono hf.le _ _ hv⟩
noncomputable def DenNew (g : GC) (C : Cx) (e : Expr) (f : List PV → Option (List PV)) : Prop :=
  ∀ env A s H ρ oa Q E l, EnvOk C env → Room A C.lv → Rel g C env s H ρ oa → f ρ = some l →
    (∀ a its s' H', Ext g s H s' H' → VRelL H' l its.toList → s'.heap.PlainList a its → s.heap.get? a = none → H' a = none → Q (.ref a) s') → wpAny (model g.prog g.w) A (eval e env) Q E s
theorem DenNew.den {e : Expr} {f : List PV → Option (List PV)} (h1 : DenNew g C e f) : Den g C e (fun ρ => (f ρ).map .list) := by
  intro env A s H ρ oa Q E pv he hr x hf h
  obtain ⟨l, hl, hf⟩ := Option.map_eq_some_iff.mp hf
  subst hf
  refine h1 env A s H ρ oa Q E l he hr x hl fun a its s' H' e hv hli hn hH => ?_
  obtain ⟨n, ho⟩ := hli
  have hle := hput_le (o := { cls := .type "list", data := .seq its n }) hH
  have hnt : ¬ isTab a := fun t => by obtain ⟨o', e', _⟩ := tab_some x.st.tab t; rw [hn] at e'; cases e'
  have e2 : Ext g s H s' (hput H' a { cls := .type "list", data := .seq its n }) := by
    refine ⟨⟨fun b o' q => ?_, fun b o' ht q => hle b o' (e.st.base b o' ht q), e.st.tab.moves hle (fun _ _ _ q => q), fun b t => ?_, e.st.bare⟩, e.le.trans hle, e.old, fun b o' q => ?_, e.same, e.gens⟩
    · unfold hput at q
      split at q
      · rename_i r; subst r; cases q; exact ho
      · exact e.st.keep b o' q
    · show (if b = a then _ else H' b) = Option.none
      rw [if_neg (fun q : b = a => hnt (q ▸ t))]; exact e.st.notab b t
    · unfold hput at q
      split at q
      · rename_i r; subst r; exact .inr hn
      · exact e.fresh b o' q
  exact h _ s' _ e2 ⟨a, _, its, n, rfl, hput_self .., rfl, rfl, VRelL.mono hle _ _ hv⟩
theorem DenNew.list {es : List Expr} {pos : Pos} {f : List PV → Option (List PV)} (h1 : DenL g C es f) (hz : es.length ≤ 1000 := by decide)
    (hlen : ∀ ρ l, f ρ = some l → l.length = es.length) : DenNew g C (.List es pos) f := by
  intro env A s H ρ oa Q E l he hr x hl h
  refine wpAny_List (h1 env A s H ρ oa _ E l pos he hr x hl fun vs s' H' e hv => ⟨?_, ?_⟩)
  · rw [hv.length, hlen ρ l hl]; exact Nat.le_trans hz (by decide)
  · have hk := Ext.kept (tk := s'.toks) (h' := s'.heap.push { cls := .type "list", data := .seq vs.toArray }) e.st (fun b o e => Heap.get?_push_of_some _ e)
    have hn : s.heap.get? s'.heap.objs.size = none := by
      cases q : s.heap.get? s'.heap.objs.size with
      | none => rfl
      | some o =>
        by_cases t : isTab s'.heap.objs.size
        · obtain ⟨o', e', _⟩ := tab_some e.st.tab t; rw [freshAt (Nat.le_refl _)] at e'; cases e'
        · have := e.old _ o t q; rw [freshAt (Nat.le_refl _)] at this; cases this
    refine h s'.heap.objs.size vs.toArray _ H' (e.trans hk) (by simpa using hv) ⟨0, Heap.get?_push_size _ rfl⟩ hn ?_
    cases q : H' s'.heap.objs.size with
    | none => rfl
    | some o => have := e.st.keep _ o q; rw [freshAt (Nat.le_refl _)] at this; cases this
end
theorem lenL_nil : ∀ (ρ l : List PV), (fun _ : List PV => some ([] : List PV)) ρ = some l → l.length = 0 := by intro _ _ h; cases h; rfl
theorem lenL_cons {f1 : DE} {f2 : List PV → Option (List PV)} {n : Nat} (h : ∀ ρ l, f2 ρ = some l → l.length = n) :
    ∀ ρ l, (fun ρ => (f1 ρ).bind fun a => (f2 ρ).bind fun r => some (a :: r)) ρ = some l → l.length = n + 1 := by
  intro ρ l e
  obtain ⟨a, _, e⟩ := Option.bind_eq_some_iff.mp e
  obtain ⟨r, hr, e⟩ := Option.bind_eq_some_iff.mp e
  cases e
  rw [List.length_cons, h ρ r hr]
theorem push_seq {g : GC} {s : Shared} {H : HP} (st : St g s H) {T : String} {vs : Array Value} {n : Nat} {tk : Nat} :
    Ext g s H { s with heap := s.heap.push { cls := .type T, data := .seq vs n }, toks := tk } (hput H s.heap.objs.size { cls := .type T, data := .seq vs n }) :=
  Ext.freeze st (fun b o e => Heap.get?_push_of_some _ e) (freshAt (Nat.le_refl _)) (Heap.get?_push_size _ rfl)
theorem push_list {g : GC} {s : Shared} {H : HP} (st : St g s H) {ps : List PV} {vs : Array Value} {n : Nat} (hv : VRelL H ps vs.toList) :
    VRel (hput H s.heap.objs.size { cls := .type "list", data := .seq vs n }) (.list ps) (.ref s.heap.objs.size) :=
  ⟨_, _, vs, n, rfl, hput_self .., rfl, rfl, VRelL.mono (push_seq (tk := s.toks) st).le _ _ hv⟩
theorem push_tup {g : GC} {s : Shared} {H : HP} (st : St g s H) {ps : List PV} {vs : Array Value} {n : Nat} (hv : VRelL H ps vs.toList) :
    VRel (hput H s.heap.objs.size { cls := .type "tuple", data := .seq vs n }) (.tup ps) (.ref s.heap.objs.size) :=
  ⟨_, _, vs, n, rfl, hput_self .., rfl, rfl, VRelL.mono (push_seq (tk := s.toks) st).le _ _ hv⟩
theorem seq_at {g : GC} {s : Shared} {H : HP} (st : St g s H) {xs : List PV} {T : String} {va : Value} (h : ∃ a o its n, va = .ref a ∧ H a = some o ∧ o.cls = .type T ∧ o.data = .seq its n ∧ VRelL H xs its.toList) :
    ∃ a n its d sl, va = .ref a ∧ s.heap.get? a = some ⟨.type T, d, .seq its n, sl⟩ ∧ VRelL H xs its.toList := by
  obtain ⟨a, ⟨c, d, dt, sl⟩, its, n, e, ho, hc, hd, hl⟩ := h
  simp only at hc hd
  subst hc hd
  exact ⟨a, n, its, d, sl, e, st.keep _ _ ho, hl⟩
noncomputable def isMid (a : Int) : Bool := decide (a.natAbs < 2 ^ 30000)
noncomputable def pAdd : PV → PV → Option PV
  | .int a, .int b => some (.int (a + b))
  | .str a, .str b => if a.length + b.length ≤ 100000 then some (.str (a ++ b)) else none
  | .list a, .list b => if a.length + b.length ≤ 100000 then some (.list (a ++ b)) else none
  | _, _ => none
noncomputable def pSub : PV → PV → Option PV
  | .int a, .int b => some (.int (a - b))
  | _, _ => none
noncomputable def pMul : PV → PV → Option PV
  | .int a, .int b => if isMid a && isMid b then some (.int (a * b)) else none
  | .list a, .int b => if 0 ≤ b ∧ b ≤ 1000 ∧ a.length ≤ 1000 then some (.list (List.replicate b.toNat a).flatten) else none
  | _, _ => none
noncomputable def pFloorDiv : PV → PV → Option PV
  | .int a, .int b => if b ≠ 0 ∧ b.natAbs < 1073741824 then some (.int (a.fdiv b)) else none
  | _, _ => none
noncomputable def pFloorDivBig : PV → PV → Option PV
  | .int a, .int b => if b ≠ 0 ∧ b.natAbs < 2 ^ 1000 then some (.int (a.fdiv b)) else none
  | _, _ => none
noncomputable def pMod : PV → PV → Option PV
  | .int a, .int b => if b ≠ 0 then some (.int (a.fmod b)) else none
  | _, _ => none
noncomputable def pPow : PV → PV → Option PV
  | .int a, .int n => if 0 ≤ n ∧ n ≤ 1000000 ∧ a.natAbs < 2 ^ 64 then some (.int (a ^ n.toNat)) else none
  | _, _ => none
noncomputable def pShl : PV → PV → Option PV
  | .int a, .int n => if 0 ≤ n ∧ n ≤ 1000000 ∧ isMid a then some (.int (a * 2 ^ n.toNat)) else none
  | _, _ => none
noncomputable def pShr : PV → PV → Option PV
  | .int a, .int n => if 0 ≤ n then some (.int (a.fdiv (2 ^ n.toNat))) else none
  | _, _ => none
noncomputable def pXor : PV → PV → Option PV
  | .int a, .int b => some (.int (Builtin.bitXor a b))
  | _, _ => none
noncomputable def pNeg : PV → Option PV
  | .int a => some (.int (-a))
  | _ => none
theorem bits_mid {a : Int} (h : isMid a = true) : Builtin.Int.intBits a ≤ 30000 := by
  have h' : a.natAbs < 2 ^ 30000 := of_decide_eq_true h
  unfold Builtin.Int.intBits
  split
  · omega
  · rename_i hne
    have hn : a.natAbs ≠ 0 := by
      intro q
      have : a = 0 := Int.natAbs_eq_zero.mp q
      subst this
      simp at hne
    have := (Nat.log2_lt hn).mpr h'
    omega
section
variable (g : GC)
theorem add_op : Op2 g (binaryOp .Add) pAdd := by
  intro A s H va vb a b Q E r hr st ha hb hf hq
  unfold pAdd at hf
  split at hf
  · obtain ⟨t, rfl⟩ := ha; obtain ⟨u, rfl⟩ := hb; cases hf
    exact PySem.P.add_int (hq _ _ _ (.toks st) ⟨_, rfl⟩)
  · rename_i x y
    obtain ⟨t, rfl⟩ := ha; obtain ⟨u, rfl⟩ := hb
    split at hf
    · rename_i hle
      cases hf
      refine PySem.P.add_str ?_
      split
      · rename_i h0
        have e : x = [] := by simpa [PySem.Str.length] using h0
        subst e
        exact hq _ _ _ (.refl st) ⟨u, rfl⟩
      · split
        · rename_i _ h0
          have e : y = [] := by simpa [PySem.Str.length] using h0
          subst e
          exact hq _ _ _ (.refl st) ⟨t, by simp⟩
        · refine ⟨?_, hq _ _ _ (.toks st) ⟨s.toks, ?_⟩⟩
          · show (x.toArray ++ y.toArray).size ≤ sizeLine
            have : sizeLine = 16777216 := rfl
            simp; omega
          · show Value.str ⟨x.toArray ++ y.toArray⟩ _ = _
            simp
    · cases hf
  · rename_i x y
    split at hf
    · rename_i hle
      cases hf
      obtain ⟨l, n, its, d, sl, rfl, hl, hv⟩ := seq_at st ha
      obtain ⟨l2, n2, its2, d2, sl2, rfl, hl2, hv2⟩ := seq_at st hb
      have hz : its.size + its2.size ≤ sizeLine := by
        have h1 : its.toList.length = x.length := hv.length
        have h2 : its2.toList.length = y.length := hv2.length
        have : sizeLine = 16777216 := rfl
        rw [Array.length_toList] at h1 h2
        omega
      refine concat_meets ⟨_, hl, rfl⟩ ⟨_, hl2, rfl⟩ noFill_list_add seq_list_add PySem.F.slot_list_add PySem.F.entry_list_add (PySem.F.args_list_add_2 _ _) (list_addW l l2 its its2 n n2 d d2 sl sl2 hz) ⟨hl, hl2, ?_⟩
      exact hq _ _ _ (push_seq st) (push_list st (by rw [Array.toList_append]; exact hv.append hv2))
    · cases hf
  · cases hf
theorem sub_op : Op2 g (binaryOp .Sub) pSub := by
  intro A s H va vb a b Q E r hr st ha hb hf hq
  unfold pSub at hf
  split at hf
  · obtain ⟨t, rfl⟩ := ha; obtain ⟨u, rfl⟩ := hb; cases hf
    exact PySem.P.sub_int (hq _ _ _ (.toks st) ⟨_, rfl⟩)
  · cases hf
theorem VRelL.repFlat {H : HP} {ps : List PV} {vs : List Value} (h : VRelL H ps vs) : ∀ k : Nat, VRelL H (List.replicate k ps).flatten (List.replicate k vs).flatten
  | 0 => rfl
  | k + 1 => by simp only [List.replicate_succ, List.flatten_cons]; exact h.append (VRelL.repFlat h k)
theorem mul_list_new {A : Around} {s : Shared} {H : HP} {l : Addr} {its : Array Value} {n : Nat} {d : Option Addr} {sl : Array (Option Value)} {x : Int} {u : Tok} {ps : List PV} {Q : Value → Shared → Prop} {E : Value → Shared → Prop}
    (hl : s.heap.get? l = some ⟨.type "list", d, .seq its n, sl⟩) (hv : VRelL H ps its.toList) (h0 : 0 ≤ x) (h1 : x ≤ 1000) (h2 : ps.length ≤ 1000)
    (hq : ∀ ws : Array Value, VRelL H (List.replicate x.toNat ps).flatten ws.toList → Q (.ref s.heap.objs.size) { s with heap := s.heap.push { cls := .type "list", data := .seq ws } }) :
    wpAny (model g.prog g.w) A (binaryOp .Mult (.ref l) (.int x u)) Q E s := by
  have hsz : its.size ≤ 1000 := by have h1 : its.toList.length = ps.length := hv.length; rw [Array.length_toList] at h1; omega
  have hsz' : its.size * x.toNat ≤ 1000000 := Nat.mul_le_mul hsz (by omega : x.toNat ≤ 1000)
  refine wpAny_binaryOp_repeat_ref (T := "list") (U := "int") (by decide) ⟨_, hl, rfl⟩ (fun s' => typeIs_int s' x u) noFill_list_mul F.fills_int_mul F.slot_int_rmul repeat_list F.slot_int_index.lookup
    (call_meets F.slot_int_rmul (typeIs_int s x u) F.entry_int_rmul (F.args_int_rmul_2 _ _) (lm_int_rmul_list_any x u l its n d sl)
      ⟨hl, rfl, ⟨_, hl, rfl⟩, call_meets F.slot_list_mul ⟨_, hl, rfl⟩ F.entry_list_mul (F.args_list_mul_2 _ _)
        (lm_list_mul_any l its n d sl x u (by simp [Builtin.List.listFitsIndex]; omega) (by omega) (by simp [Builtin.List.listTooLong, sizeLine]; omega))
        ⟨hl, ?_⟩⟩)
  rw [listMul_foldl_if]
  exact hq _ (by simpa using hv.repFlat x.toNat)
theorem mul_op : Op2 g (binaryOp .Mult) pMul := by
  intro A s H va vb a b Q E r hr st ha hb hf hq
  unfold pMul at hf
  split at hf
  · rename_i x y
    obtain ⟨t, rfl⟩ := ha; obtain ⟨u, rfl⟩ := hb
    split at hf
    · rename_i hm
      cases hf
      rw [Bool.and_eq_true] at hm
      refine PySem.P.mul_int (hq _ _ _ (.toks st) ⟨_, rfl⟩) ?_
      have h1 := bits_mid hm.1
      have h2 := bits_mid hm.2
      unfold IntMulOk Builtin.Int.intTooBig
      have : ¬ ((Builtin.Int.intBits x + Builtin.Int.intBits y : Int) > bitsLine) := by
        show ¬ ((Builtin.Int.intBits x + Builtin.Int.intBits y : Int) > ((2 ^ 27 : Nat) : Int))
        have : ((2 ^ 27 : Nat) : Int) = 134217728 := by decide
        omega
      rw [decide_eq_false this]
      simp
    · cases hf
  · split at hf
    · rename_i hm
      cases hf
      obtain ⟨u, rfl⟩ := hb
      obtain ⟨l, n, its, d, sl, rfl, hl, hv⟩ := seq_at st ha
      exact mul_list_new g hl hv hm.1 hm.2.1 hm.2.2 fun ws hw => hq _ _ _ (push_seq st) (push_list st hw)
    · cases hf
  · cases hf
theorem floordiv_op : Op2 g (binaryOp .FloorDiv) pFloorDiv := by
  intro A s H va vb a b Q E r hr st ha hb hf hq
  unfold pFloorDiv at hf
  split at hf
  · obtain ⟨t, rfl⟩ := ha; obtain ⟨u, rfl⟩ := hb
    split at hf
    · rename_i hm
      cases hf
      exact floordiv_int hm.1 (hq _ _ _ (.toks st) ⟨_, rfl⟩) (.inl (PyProof.noPylong_small hm.2))
    · cases hf
  · cases hf
theorem floordiv_big_op : Op2 g (binaryOp .FloorDiv) pFloorDivBig := by
  intro A s H va vb a b Q E r hr st ha hb hf hq
  unfold pFloorDivBig at hf
  split at hf
  · obtain ⟨t, rfl⟩ := ha; obtain ⟨u, rfl⟩ := hb
    split at hf
    · rename_i hm
      cases hf
      refine floordiv_int hm.1 (hq _ _ _ (.toks st) ⟨_, rfl⟩) (.inl (PyProof.noPylong_of_log2 ?_))
      have := (Nat.log2_lt (by omega)).mpr hm.2
      omega
    · cases hf
  · cases hf
theorem mod_op : Op2 g (binaryOp .Mod) pMod := by
  intro A s H va vb a b Q E r hr st ha hb hf hq
  unfold pMod at hf
  split at hf
  · obtain ⟨t, rfl⟩ := ha; obtain ⟨u, rfl⟩ := hb
    split at hf
    · rename_i hm
      cases hf
      exact mod_int' hm (hq _ _ _ (.toks st) ⟨_, rfl⟩)
    · cases hf
  · cases hf
theorem pow_op : Op2 g (binaryOp .Pow) pPow := by
  intro A s H va vb a b Q E r hr st ha hb hf hq
  unfold pPow at hf
  split at hf
  · obtain ⟨t, rfl⟩ := ha; obtain ⟨u, rfl⟩ := hb
    split at hf
    · rename_i hm
      cases hf
      exact pow_int_small hm.1 hm.2.1 hm.2.2 (hq _ _ _ (.toks st) ⟨_, rfl⟩)
    · cases hf
  · cases hf
theorem shl_op : Op2 g (binaryOp .LShift) pShl := by
  intro A s H va vb a b Q E r hr st ha hb hf hq
  unfold pShl at hf
  split at hf
  · obtain ⟨t, rfl⟩ := ha; obtain ⟨u, rfl⟩ := hb
    split at hf
    · rename_i hm
      cases hf
      refine lshift_int hm.1 ?_ (hq _ _ _ (.toks st) ⟨_, rfl⟩)
      have := bits_mid hm.2.2
      omega
    · cases hf
  · cases hf
theorem shr_op : Op2 g (binaryOp .RShift) pShr := by
  intro A s H va vb a b Q E r hr st ha hb hf hq
  unfold pShr at hf
  split at hf
  · obtain ⟨t, rfl⟩ := ha; obtain ⟨u, rfl⟩ := hb
    split at hf
    · rename_i hm
      cases hf
      exact rshift_int hm (hq _ _ _ (.toks st) ⟨_, rfl⟩)
    · cases hf
  · cases hf
theorem xor_op : Op2 g (binaryOp .BitXor) pXor := by
  intro A s H va vb a b Q E r hr st ha hb hf hq
  unfold pXor at hf
  split at hf
  · obtain ⟨t, rfl⟩ := ha; obtain ⟨u, rfl⟩ := hb
    cases hf
    exact xor_int (hq _ _ _ (.toks st) ⟨_, rfl⟩)
  · cases hf
theorem neg_op : Op1 g (unaryOp .USub) pNeg := by
  intro A s H va a Q E r hr st ha hf hq
  unfold pNeg at hf
  split at hf
  · obtain ⟨t, rfl⟩ := ha
    cases hf
    exact PySem.P.neg_int (hq _ _ _ (.toks st) ⟨_, rfl⟩)
  · cases hf
end
open PySem.SeqAt
open AutoSeq1 (wpAny_loadPart')
open MeetsSeq MeetsSeq2 MeetsSeq3
noncomputable def PV.toPyN : Nat → PV → PyData
  | _, .bool b => .bool b
  | _, .int i => .int i
  | _, .str x => .str ⟨x.toArray⟩
  | n + 1, .list xs => .list (xs.map (PV.toPyN n))
  | n + 1, .tup xs => .tuple (xs.map (PV.toPyN n))
  | _, _ => .none
noncomputable def pOk : Nat → PV → Bool
  | _, .none => true
  | _, .bool _ => true
  | _, .int _ => true
  | _, .str x => x.all (· < 128)
  | n + 1, .list xs => xs.all (pOk n)
  | n + 1, .tup xs => xs.all (pOk n)
  | _, _ => false
noncomputable def all2 {α : Type} (f : α → α → Bool) : List α → List α → Bool
  | [], [] => true
  | x :: xs, y :: ys => f x y && all2 f xs ys
  | _, _ => false
noncomputable def pEqN : Nat → PV → PV → Bool
  | _, .none, .none => true
  | _, .bool a, .bool b => a == b
  | _, .bool a, .int j => (if a then 1 else 0) == j
  | _, .int i, .bool b => i == (if b then 1 else 0)
  | _, .int a, .int b => a == b
  | _, .str a, .str b => a == b
  | n + 1, .list xs, .list ys => all2 (pEqN n) xs ys
  | n + 1, .tup xs, .tup ys => all2 (pEqN n) xs ys
  | _, _, _ => false
theorem strOk_of {x : List Nat} (h : x.all (· < 128) = true) : PySem.PyData.strOk ⟨x.toArray⟩ = true := by
  have h2 := List.all_eq_true.mp h
  unfold PySem.PyData.strOk
  rw [← Array.all_toList]
  refine List.all_eq_true.mpr fun c hc => ?_
  have h1 : c < 128 := by simpa using h2 c hc
  simp
  omega
mutual
theorem reads_of {H : HP} {h : Heap} (k : ∀ a o, H a = some o → h.get? a = some o) : ∀ (n : Nat) (p : PV) (v : Value), pOk n p = true → VRel H p v → ∃ as, Reads h v (p.toPyN n) as
  | n, .none, v, _, e => by obtain rfl := e; cases n <;> exact ⟨_, .none⟩
  | n, .bool b, v, _, e => by obtain rfl := e; cases n <;> exact ⟨_, .bool b⟩
  | n, .int i, v, _, e => by obtain ⟨t, rfl⟩ := e; cases n <;> exact ⟨_, .int i t⟩
  | n, .str x, v, _, e => by obtain ⟨t, rfl⟩ := e; cases n <;> exact ⟨_, .str _ t⟩
  | 0, .list xs, v, ho, _ => by cases ho
  | 0, .tup xs, v, ho, _ => by cases ho
  | n + 1, .list xs, v, ho, ⟨a, o, its, m, e, ha, hc, hd, hl⟩ => by
    subst e
    obtain ⟨as, r⟩ := readsAll_of k n xs its.toList ho hl
    exact ⟨_, .list (k _ _ ha) hc hd r⟩
  | n + 1, .tup xs, v, ho, ⟨a, o, its, m, e, ha, hc, hd, hl⟩ => by
    subst e
    obtain ⟨as, r⟩ := readsAll_of k n xs its.toList ho hl
    exact ⟨_, .tuple (k _ _ ha) hc hd r⟩
  | n, .undef, v, ho, e => e.elim
  | n, .own _, v, ho, e => e.elim
  | n, .fn _, v, ho, _ => by cases n <;> cases ho
theorem readsAll_of {H : HP} {h : Heap} (k : ∀ a o, H a = some o → h.get? a = some o) : ∀ (n : Nat) (ps : List PV) (vs : List Value), ps.all (pOk n) = true → VRelL H ps vs → ∃ as, ReadsAll h vs (ps.map (PV.toPyN n)) as
  | n, [], vs, _, e => by obtain rfl := e; exact ⟨_, .nil⟩
  | n, p :: ps, vs, ho, ⟨v, r, e, hv, hr⟩ => by
    subst e
    rw [List.all_cons, Bool.and_eq_true] at ho
    obtain ⟨as, h1⟩ := reads_of k n p v ho.1 hv
    obtain ⟨bs, h2⟩ := readsAll_of k n ps r ho.2 hr
    exact ⟨_, .cons h1 h2⟩
end
theorem lay_of : ∀ (n : Nat) (p : PV), pOk n p = true → (p.toPyN n).canLay0 = true ∧ (p.toPyN n).depth ≤ n := by
  intro n
  induction n with
  | zero =>
    intro p h
    cases p with
    | none => exact ⟨rfl, Nat.le_refl _⟩
    | bool b => exact ⟨rfl, Nat.le_refl _⟩
    | int b => exact ⟨rfl, Nat.le_refl _⟩
    | str x => exact ⟨by show PySem.PyData.strOk _ = true; exact strOk_of h, Nat.le_refl _⟩
    | _ => cases h
  | succ n ih =>
    intro p h
    have hl : ∀ xs : List PV, xs.all (pOk n) = true → PyData.canLayAll0 (xs.map (PV.toPyN n)) = true ∧ PyData.depthAll (xs.map (PV.toPyN n)) ≤ n := by
      intro xs
      induction xs with
      | nil => intro _; exact ⟨rfl, Nat.zero_le _⟩
      | cons x xs ihx =>
        intro hx
        rw [List.all_cons, Bool.and_eq_true] at hx
        have h1 := ih x hx.1
        have h2 := ihx hx.2
        refine ⟨?_, ?_⟩
        · simp only [List.map_cons, PyData.canLayAll0, h1.1, h2.1, Bool.and_self]
        · simp only [List.map_cons, PyData.depthAll]; have := h1.2; have := h2.2; omega
    cases p with
    | none => exact ⟨rfl, Nat.zero_le _⟩
    | bool b => exact ⟨rfl, Nat.zero_le _⟩
    | int b => exact ⟨rfl, Nat.zero_le _⟩
    | str x => exact ⟨by show PySem.PyData.strOk _ = true; exact strOk_of h, Nat.zero_le _⟩
    | list xs => have := hl xs h; exact ⟨this.1, by show PyData.depthAll _ + 1 ≤ n + 1; have := this.2; omega⟩
    | tup xs => have := hl xs h; exact ⟨this.1, by show PyData.depthAll _ + 1 ≤ n + 1; have := this.2; omega⟩
    | _ => cases h
theorem eqv_of : ∀ (n : Nat) (p q : PV), pOk n p = true → pOk n q = true → PyData.eqv (p.toPyN n) (q.toPyN n) = pEqN n p q := by
  have hstr : ∀ x y : List Nat, (({ cps := x.toArray } : PySem.Str) == { cps := y.toArray }) = (x == y) := fun x y => by
    rw [Bool.eq_iff_iff]; simp
  intro n
  induction n with
  | zero =>
    intro p q hp hq
    cases p <;> cases q <;> first | rfl | exact hstr _ _ | exact absurd hp Bool.false_ne_true | exact absurd hq Bool.false_ne_true
  | succ n ih =>
    intro p q hp hq
    have hl : ∀ xs ys : List PV, xs.all (pOk n) = true → ys.all (pOk n) = true → PyData.eqvAll (xs.map (PV.toPyN n)) (ys.map (PV.toPyN n)) = all2 (pEqN n) xs ys := by
      intro xs
      induction xs with
      | nil => intro ys _ _; cases ys <;> rfl
      | cons x xs ihx =>
        intro ys hx hy
        cases ys with
        | nil => rfl
        | cons y ys =>
          rw [List.all_cons, Bool.and_eq_true] at hx hy
          simp only [List.map_cons, PyData.eqvAll, all2, ih x y hx.1 hy.1, ihx ys hx.2 hy.2]
    cases p <;> cases q <;> first | rfl | exact hstr _ _ | exact hl _ _ hp hq | exact absurd hp Bool.false_ne_true | exact absurd hq Bool.false_ne_true
theorem any_map_congr {α β : Type} {f : β → Bool} {m : α → β} {k : α → Bool} : ∀ xs : List α, (∀ y ∈ xs, f (m y) = k y) → (xs.map m).any f = xs.any k
  | [], _ => rfl
  | x :: xs, h => by rw [List.map_cons, List.any_cons, List.any_cons, h x List.mem_cons_self, any_map_congr xs fun y hy => h y (List.mem_cons_of_mem _ hy)]
noncomputable def pEq (a b : PV) : Option PV := if pOk 6 a && pOk 6 b then some (.bool (pEqN 6 a b)) else none
noncomputable def pNe (a b : PV) : Option PV := if pOk 6 a && pOk 6 b then some (.bool (!pEqN 6 a b)) else none
noncomputable def ltInts : List Int → List Int → Bool
  | [], [] => false
  | [], _ :: _ => true
  | _ :: _, [] => false
  | x :: xs, y :: ys => if x == y then ltInts xs ys else decide (x < y)
noncomputable def ints? : List PV → Option (List Int)
  | [] => some []
  | .int i :: r => (ints? r).map (i :: ·)
  | _ => none
noncomputable def ltNats : List Nat → List Nat → Bool
  | [], [] => false
  | [], _ :: _ => true
  | _ :: _, [] => false
  | x :: xs, y :: ys => if x == y then ltNats xs ys else decide (x < y)
theorem ltNats_eq : ∀ x y : List Nat, decide (x < y) = ltNats x y
  | [], [] => by decide
  | [], _ :: _ => by simp [ltNats]
  | _ :: _, [] => by simp [ltNats]
  | x :: xs, y :: ys => by
    rw [ltNats, ← ltNats_eq xs ys]
    by_cases h : x = y
    · subst h; simp
    · simp [h, List.cons_lt_cons_iff]
noncomputable def pLt : PV → PV → Option PV
  | .int a, .int b => some (.bool (decide (a < b)))
  | .str a, .str b => some (.bool (ltNats a b))
  | .list a, .list b => (ints? a).bind fun x => (ints? b).map fun y => .bool (ltInts x y)
  | _, _ => none
noncomputable def pLe : PV → PV → Option PV
  | .int a, .int b => some (.bool (decide (a ≤ b)))
  | _, _ => none
noncomputable def pGt : PV → PV → Option PV
  | .int a, .int b => some (.bool (decide (a > b)))
  | _, _ => none
noncomputable def pGe : PV → PV → Option PV
  | .int a, .int b => some (.bool (decide (a ≥ b)))
  | _, _ => none
noncomputable def pIs : PV → PV → Option PV
  | .none, .none => some (.bool true)
  | .bool _, .none => some (.bool false)
  | .int _, .none => some (.bool false)
  | .str _, .none => some (.bool false)
  | .fn _, .none => some (.bool false)
  | .list _, .none => some (.bool false)
  | .tup _, .none => some (.bool false)
  | .bool a, .bool b => some (.bool (a == b))
  | _, _ => none
noncomputable def pIn : PV → PV → Option PV
  | a, .list xs => if pOk 6 a && xs.all (pOk 6) then some (.bool (xs.any fun y => pEqN 6 y a)) else none
  | _, _ => none
noncomputable def pNotIn : PV → PV → Option PV
  | a, .list xs => if pOk 6 a && xs.all (pOk 6) then some (.bool (!xs.any fun y => pEqN 6 y a)) else none
  | _, _ => none
section
variable (g : GC)
theorem min_room {A : Around} {n m : Nat} (hr : Room A 8) (h : n ≤ 6) : A.units + min n m < cLine := by have := hr.c; omega
theorem eq_op : Op2 g (compareOp .Eq) pEq := by
  intro A s H va vb a b Q E r hr st ha hb hf hq
  unfold pEq at hf
  split at hf
  · rename_i h
    rw [Bool.and_eq_true] at h
    cases hf
    obtain ⟨as, ra⟩ := reads_of st.keep 6 a va h.1 ha
    obtain ⟨bs, rb⟩ := reads_of st.keep 6 b vb h.2 hb
    have la := lay_of 6 a h.1
    have lb := lay_of 6 b h.2
    refine compareEq_reads ra rb la.1 lb.1 (min_room hr la.2) ?_
    rw [eqv_of 6 a b h.1 h.2]
    exact hq _ _ _ (.refl st) rfl
  · cases hf
theorem ne_op : Op2 g (compareOp .NotEq) pNe := by
  intro A s H va vb a b Q E r hr st ha hb hf hq
  unfold pNe at hf
  split at hf
  · rename_i h
    rw [Bool.and_eq_true] at h
    cases hf
    obtain ⟨as, ra⟩ := reads_of st.keep 6 a va h.1 ha
    obtain ⟨bs, rb⟩ := reads_of st.keep 6 b vb h.2 hb
    have la := lay_of 6 a h.1
    have lb := lay_of 6 b h.2
    refine compareNe_reads ra rb la.1 lb.1 (min_room hr la.2) ?_
    rw [eqv_of 6 a b h.1 h.2]
    exact hq _ _ _ (.refl st) rfl
  · cases hf
theorem in_op : Op2 g (compareOp .In) pIn := by
  intro A s H va vb a b Q E r hr st ha hb hf hq
  unfold pIn at hf
  split at hf
  · rename_i xs
    split at hf
    · rename_i h
      rw [Bool.and_eq_true] at h
      cases hf
      obtain ⟨as, ra⟩ := reads_of st.keep 6 a va h.1 ha
      obtain ⟨bs, rb⟩ := reads_of st.keep 7 (.list xs) vb h.2 hb
      have la := lay_of 6 a h.1
      have lb := lay_of 7 (.list xs) h.2
      refine in_list_reads rb ra lb.1 la.1 (by have := la.2; have := hr.c; omega) ?_
      have e : ((xs.map (PV.toPyN 6)).any fun y => PyData.eqv y (a.toPyN 6)) = xs.any fun y => pEqN 6 y a := by
        have hx := List.all_eq_true.mp h.2
        exact any_map_congr xs fun y hy => eqv_of 6 y a (hx y hy) h.1
      rw [e]
      exact hq _ _ _ (.refl st) rfl
    · cases hf
  · cases hf
theorem notIn_op : Op2 g (compareOp .NotIn) pNotIn := by
  intro A s H va vb a b Q E r hr st ha hb hf hq
  unfold pNotIn at hf
  split at hf
  · rename_i xs
    split at hf
    · rename_i h
      rw [Bool.and_eq_true] at h
      cases hf
      obtain ⟨as, ra⟩ := reads_of st.keep 6 a va h.1 ha
      obtain ⟨bs, rb⟩ := reads_of st.keep 7 (.list xs) vb h.2 hb
      have la := lay_of 6 a h.1
      have lb := lay_of 7 (.list xs) h.2
      refine notIn_list_reads rb ra lb.1 la.1 (by have := la.2; have := hr.c; omega) ?_
      have e : ((xs.map (PV.toPyN 6)).any fun y => PyData.eqv y (a.toPyN 6)) = xs.any fun y => pEqN 6 y a := by
        have hx := List.all_eq_true.mp h.2
        exact any_map_congr xs fun y hy => eqv_of 6 y a (hx y hy) h.1
      rw [e]
      exact hq _ _ _ (.refl st) rfl
    · cases hf
  · cases hf
end
theorem areNil {vs : List Value} (h : IntsAre vs []) : vs = [] := by cases h; rfl
theorem areCons {vs : List Value} {n : Int} {ns : List Int} (h : IntsAre vs (n :: ns)) : ∃ t r, vs = .int n t :: r ∧ IntsAre r ns := by cases h with | cons n t r => exact ⟨_, _, rfl, r⟩
theorem drop_at {vs : Array Value} {i : Nat} {v : Value} {r : List Value} (h : vs.toList.drop i = v :: r) : vs[i]? = some v ∧ vs.toList.drop (i + 1) = r := by
  have h1 : (vs.toList.drop i)[0]? = some v := by rw [h]; rfl
  refine ⟨by simpa using h1, ?_⟩
  have : vs.toList.drop (i + 1) = (vs.toList.drop i).drop 1 := by simp [List.drop_drop]
  rw [this, h]; rfl
theorem drop_end {vs : Array Value} {i : Nat} (h : vs.toList.drop i = []) : vs.size ≤ i ∧ vs[i]? = none := by
  have := List.drop_eq_nil_iff.mp h
  simp at this
  exact ⟨this, by simp [this]⟩
theorem ltInts_loop (l b : Addr) (n n2 : Nat) (dd dd2 : Option Addr) (sl sl2 : Array (Option Value)) (items items2 : Array Value) :
    ∀ (xs ys : List Int) (i : Nat), IntsAre (items.toList.drop i) xs → IntsAre (items2.toList.drop i) ys → i ≤ items.size → i ≤ items2.size →
      Meets (Builtin.«list.__eq__.loop» ⟨[.ref l, .ref b, rawInt i, rawInt 0], []⟩)
      (fun A R s => s.heap.get? l = some { cls := .type "list", dict := dd, data := .seq items n, slots := sl } ∧ s.heap.get? b = some { cls := .type "list", dict := dd2, data := .seq items2 n2, slots := sl2 } ∧
        R (.ok (.ret (.bool (ltInts xs ys)))) s) := by
  intro xs
  induction xs with
  | nil =>
    intro ys i hi hj hle hle2 prog w A R s h
    obtain ⟨hp, g, d, tk, os⟩ := s; obtain ⟨hl, hb, h⟩ := h
    obtain ⟨e1, e2⟩ := drop_end (areNil hi)
    have hn1 : items[((i : Nat) : Int).toNat]? = none := by simpa using e2
    cases ys with
    | nil =>
      obtain ⟨e3, e4⟩ := drop_end (areNil hj)
      have hn2 : items2[((i : Nat) : Int).toNat]? = none := by simpa using e4
      wp_walk using wpAny_loadPart' hl, wpAny_loadPart' hb
      rw [hn1, hn2]
      wp_walk using wpAny_loadPart' hl, wpAny_loadPart' hb
      show R (.ok (.ret (.bool (decide (items.size < items2.size))))) _
      rw [decide_eq_false (by omega)]
      exact h
    | cons y ys =>
      obtain ⟨t, r, e3, _⟩ := areCons hj
      obtain ⟨e4, _⟩ := drop_at e3
      have hn2 : items2[((i : Nat) : Int).toNat]? = some (.int y t) := by simpa using e4
      have hlt : i < items2.size := by
        cases Nat.lt_or_ge i items2.size with
        | inl q => exact q
        | inr q => rw [Array.getElem?_eq_none q] at e4; cases e4
      wp_walk using wpAny_loadPart' hl, wpAny_loadPart' hb
      rw [hn1, hn2]
      wp_walk using wpAny_loadPart' hl, wpAny_loadPart' hb
      show R (.ok (.ret (.bool (decide (items.size < items2.size))))) _
      rw [decide_eq_true (by omega)]
      exact h
  | cons x xs ih =>
    intro ys i hi hj hle hle2 prog w A R s h
    obtain ⟨hp, g, d, tk, os⟩ := s; obtain ⟨hl, hb, h⟩ := h
    obtain ⟨t, r, e1, hi'⟩ := areCons hi
    obtain ⟨e2, e2'⟩ := drop_at e1
    have hn1 : items[((i : Nat) : Int).toNat]? = some (.int x t) := by simpa using e2
    have hlt : i < items.size := by
      cases Nat.lt_or_ge i items.size with
      | inl q => exact q
      | inr q => rw [Array.getElem?_eq_none q] at e2; cases e2
    cases ys with
    | nil =>
      obtain ⟨e3, e4⟩ := drop_end (areNil hj)
      have hn2 : items2[((i : Nat) : Int).toNat]? = none := by simpa using e4
      wp_walk using wpAny_loadPart' hl, wpAny_loadPart' hb
      rw [hn1, hn2]
      wp_walk using wpAny_loadPart' hl, wpAny_loadPart' hb
      show R (.ok (.ret (.bool (decide (items.size < items2.size))))) _
      rw [decide_eq_false (by omega)]
      exact h
    | cons y ys =>
      obtain ⟨t2, r2, e3, hj'⟩ := areCons hj
      obtain ⟨e4, e4'⟩ := drop_at e3
      have hn2 : items2[((i : Nat) : Int).toNat]? = some (.int y t2) := by simpa using e4
      have hlt2 : i < items2.size := by
        cases Nat.lt_or_ge i items2.size with
        | inl q => exact q
        | inr q => rw [Array.getElem?_eq_none q] at e4; cases e4
      have hc : ((i : Int) + 1) = ((i + 1 : Nat) : Int) := by push_cast; rfl
      wp_walk using wpAny_loadPart' hl, wpAny_loadPart' hb
      rw [hn1, hn2]
      refine wpAny_bind (EqAt.int_int x t y t2 prog w _ _ ?_)
      unfold ltInts at h
      cases hb' : (x == y) with
      | true =>
        rw [hb'] at h
        wp_walk
        rw [hc]
        exact ⟨plainId_quiet plain_eq_loop _, codeAny_builtin entry_eq_loop (by
          rw [Around.under_plainId plain_eq_loop _]
          exact ih ys (i + 1) (by rw [e2']; exact hi') (by rw [e4']; exact hj') (by omega) (by omega) prog w A R _ ⟨hl, hb, by simpa using h⟩)⟩
      | false =>
        rw [hb'] at h
        wp_walk using wpAny_loadPart' hl, wpAny_loadPart' hb
        rw [hn1, hn2]
        refine wpAny_bind (PySem.P.lt_int (a := x) (b := y) ?_)
        wp_walk
        simpa using h
theorem list_ltAt (l b : Addr) (items items2 : Array Value) (n n2 : Nat) (dd dd2 : Option Addr) (sl sl2 : Array (Option Value)) (xs ys : List Int) (hi : IntsAre items.toList xs) (hj : IntsAre items2.toList ys) :
    Meets (Builtin.«list.__lt__» ⟨[.ref l, .ref b], []⟩)
      (fun A R s => s.heap.get? l = some { cls := .type "list", dict := dd, data := .seq items n, slots := sl } ∧ s.heap.get? b = some { cls := .type "list", dict := dd2, data := .seq items2 n2, slots := sl2 } ∧
        R (.ok (.ret (.bool (ltInts xs ys)))) s) := by
  intro prog w A R s h
  obtain ⟨hp, g, d, tk, os⟩ := s; obtain ⟨hl, hb, h⟩ := h
  have f3 := AutoSeq1.sub_list_list
  wp_walk using wpAny_loadPart' hl, wpAny_loadPart' hb
  exact ⟨plainId_quiet plain_eq_loop _, codeAny_builtin entry_eq_loop (by
    rw [Around.under_plainId plain_eq_loop _]
    exact ltInts_loop l b n n2 dd dd2 sl sl2 items items2 xs ys 0 (by simpa using hi) (by simpa using hj) (Nat.zero_le _) (Nat.zero_le _) prog w A R _ ⟨hl, hb, h⟩)⟩
theorem intsAre_of {H : HP} : ∀ {ps : List PV} {vs : List Value} {ns : List Int}, ints? ps = some ns → VRelL H ps vs → IntsAre vs ns
  | [], vs, ns, e, h => by cases e; rw [show vs = [] from h]; exact .nil
  | p :: ps, vs, ns, e, ⟨v, r, e2, hv, hr⟩ => by
    subst e2
    cases p with
    | int i =>
      obtain ⟨t, rfl⟩ := hv
      obtain ⟨m, hm, rfl⟩ := Option.map_eq_some_iff.mp e
      exact .cons i t (intsAre_of hm hr)
    | _ => cases e
section
variable (g : GC)
theorem lt_op : Op2 g (compareOp .Lt) pLt := by
  intro A s H va vb a b Q E r hr st ha hb hf hq
  unfold pLt at hf
  split at hf
  · obtain ⟨t, rfl⟩ := ha; obtain ⟨u, rfl⟩ := hb; cases hf
    exact PySem.P.lt_int (hq _ _ _ (.refl st) rfl)
  · obtain ⟨t, rfl⟩ := ha; obtain ⟨u, rfl⟩ := hb; cases hf
    refine PySem.P.lt_str ?_
    refine hq _ _ _ (.refl st) ?_
    show Value.bool _ = Value.bool _
    rw [← ltNats_eq]
  · obtain ⟨x, hx, hf⟩ := Option.bind_eq_some_iff.mp hf
    obtain ⟨y, hy, hf⟩ := Option.map_eq_some_iff.mp hf
    subst hf
    obtain ⟨l, n, its, d, sl, rfl, hl, hv⟩ := seq_at st ha
    obtain ⟨l2, n2, its2, d2, sl2, rfl, hl2, hv2⟩ := seq_at st hb
    exact richCompare_meets_room (op := .Lt) ⟨_, hl, rfl⟩ ⟨_, hl2, rfl⟩ F.slot_list_lt F.entry_list_lt (F.args_list_lt_2 _ _)
      (list_ltAt l l2 its its2 n n2 d d2 sl sl2 x y (intsAre_of hx hv) (intsAre_of hy hv2))
      ⟨hl, hl2, show Value.bool (ltInts x y) ≠ Value.notImplemented ∧ Q (.bool (ltInts x y)) s from ⟨(fun x => nomatch x), hq _ _ _ (.refl st) rfl⟩⟩ (by have := hr.c; omega)
  · cases hf
theorem le_op : Op2 g (compareOp .LtE) pLe := by
  intro A s H va vb a b Q E r hr st ha hb hf hq
  unfold pLe at hf
  split at hf
  · obtain ⟨t, rfl⟩ := ha; obtain ⟨u, rfl⟩ := hb; cases hf
    exact PySem.P.le_int (hq _ _ _ (.refl st) rfl)
  · cases hf
theorem gt_op : Op2 g (compareOp .Gt) pGt := by
  intro A s H va vb a b Q E r hr st ha hb hf hq
  unfold pGt at hf
  split at hf
  · obtain ⟨t, rfl⟩ := ha; obtain ⟨u, rfl⟩ := hb; cases hf
    exact PySem.P.gt_int (hq _ _ _ (.refl st) rfl)
  · cases hf
theorem ge_op : Op2 g (compareOp .GtE) pGe := by
  intro A s H va vb a b Q E r hr st ha hb hf hq
  unfold pGe at hf
  split at hf
  · obtain ⟨t, rfl⟩ := ha; obtain ⟨u, rfl⟩ := hb; cases hf
    exact PySem.P.ge_int (hq _ _ _ (.refl st) rfl)
  · cases hf
theorem is_op : Op2 g (compareOp .Is) pIs := by
  intro A s H va vb a b Q E r hr st ha hb hf hq
  unfold pIs at hf
  split at hf
  · obtain rfl := ha; obtain rfl := hb; cases hf; exact is_none (hq _ _ _ (.refl st) rfl)
  · obtain rfl := ha; obtain rfl := hb; cases hf; exact is_none (hq _ _ _ (.refl st) rfl)
  · obtain ⟨t, rfl⟩ := ha; obtain rfl := hb; cases hf; exact is_none (hq _ _ _ (.refl st) rfl)
  · obtain ⟨t, rfl⟩ := ha; obtain rfl := hb; cases hf; exact is_none (hq _ _ _ (.refl st) rfl)
  · obtain rfl := ha; obtain rfl := hb; cases hf; exact is_none (hq _ _ _ (.refl st) rfl)
  · obtain ⟨l, o, its, n, rfl, _⟩ := ha; obtain rfl := hb; cases hf; exact is_none (hq _ _ _ (.refl st) rfl)
  · obtain ⟨l, o, its, n, rfl, _⟩ := ha; obtain rfl := hb; cases hf; exact is_none (hq _ _ _ (.refl st) rfl)
  · rename_i x y
    obtain rfl := ha; obtain rfl := hb; cases hf
    refine wpAny_is_plain rfl ?_
    refine hq _ _ _ (.refl st) ?_
    show Value.bool _ = Value.bool _
    cases x <;> cases y <;> rfl
  · cases hf
end
structure ExtS (g : GC) (C : Cx) (env : Env) (s : Shared) (H : HP) (oa : Option Addr) (s' : Shared) (H' : HP) (oa' : Option Addr) : Prop where
  st : St g s' H'
  le : HLe H H'
  old : ∀ a o, ¬ isTab a → s.heap.get? a = some o → ¬ Own C env oa a → s'.heap.get? a = some o
  there : ∀ a o, s.heap.get? a = some o → ∃ o', s'.heap.get? a = some o'
  fresh : ∀ a o, H' a = some o → H a = some o ∨ s.heap.get? a = none ∨ oa = some a
  oa : ∀ a, oa' = some a → oa = some a ∨ s.heap.get? a = none
  same : ∃ h' g' tk, s' = { s with heap := h', gens := g', toks := tk }
  gens : ∀ (i : Nat) (x : GenState), s.gens[i]? = some x → s'.gens[i]? = some x
theorem ExtS.refl {g : GC} {C : Cx} {env : Env} {s : Shared} {H : HP} {oa : Option Addr} (x : St g s H) : ExtS g C env s H oa s H oa :=
  ⟨x, .refl _, fun _ _ _ e _ => e, fun _ o e => ⟨o, e⟩, fun _ _ e => .inl e, fun _ e => .inl e, ⟨_, _, _, rfl⟩, fun _ _ e => e⟩
theorem ExtS.of {g : GC} {C : Cx} {env : Env} {s s' : Shared} {H H' : HP} {oa : Option Addr} (e : Ext g s H s' H') : ExtS g C env s H oa s' H' oa :=
  ⟨e.st, e.le, fun a o ht h _ => e.old a o ht h, fun a o h => by
    by_cases t : isTab a
    · obtain ⟨o', h', _⟩ := tab_some e.st.tab t; exact ⟨o', h'⟩
    · exact ⟨o, e.old a o t h⟩, fun a o h => (e.fresh a o h).imp id .inl, fun _ h => .inl h, e.same, e.gens⟩
theorem ExtS.trans {g : GC} {C : Cx} {env : Env} {s s' s'' : Shared} {H H' H'' : HP} {oa oa' oa'' : Option Addr} (hL : ∃ o, s.heap.get? env.locals = some o) (hc : ∀ x c, (x, VK.cel) ∈ C.ns → env.cells.lookup x = some c → ∃ o, s.heap.get? c = some o)
    (x : ExtS g C env s H oa s' H' oa') (y : ExtS g C env s' H' oa' s'' H'' oa'') : ExtS g C env s H oa s'' H'' oa'' := by
  refine ⟨y.st, x.le.trans y.le, fun a o ht e hn => ?_, fun a o e => ?_, fun a o e => ?_, fun a e => ?_, ?_, fun i z e => y.gens i z (x.gens i z e)⟩
  · refine y.old a o ht (x.old a o ht e hn) fun q => hn ?_
    rcases q with q | q | q
    · exact .inl q
    · exact .inr (.inl q)
    · rcases x.oa a q with r | r
      · exact .inr (.inr r)
      · rw [e] at r; cases r
  · obtain ⟨o', e'⟩ := x.there a o e; exact y.there a o' e'
  · rcases y.fresh a o e with h | h | h
    · exact x.fresh a o h
    · right
      cases q : s.heap.get? a with
      | none => exact .inl rfl
      | some o' => obtain ⟨o2, e2⟩ := x.there a o' q; rw [e2] at h; cases h
    · rcases x.oa a h with r | r
      · exact .inr (.inr r)
      · exact .inr (.inl r)
  · rcases y.oa a e with h | h
    · exact x.oa a h
    · right
      cases q : s.heap.get? a with
      | none => rfl
      | some o' => obtain ⟨o2, e2⟩ := x.there a o' q; rw [e2] at h; cases h
  · obtain ⟨h1, g1, t1, rfl⟩ := x.same
    obtain ⟨h2, g2, t2, rfl⟩ := y.same
    exact ⟨h2, g2, t2, rfl⟩
inductive Fl where | next | ret (p : PV)
noncomputable def FlRel (H : HP) : Fl → Flow → Prop
  | .next, f => f = .next
  | .ret p, f => ∃ v, f = .ret v ∧ VRel H p v
noncomputable abbrev DS := List PV → Option (Fl × List PV)
noncomputable def PostS (g : GC) (C : Cx) (env : Env) (s : Shared) (H : HP) (oa : Option Addr) (fl : Fl) (ρ' : List PV) (Q : Flow → Shared → Prop) : Prop :=
  ∀ f s' H' oa', ExtS g C env s H oa s' H' oa' → Rel g C env s' H' ρ' oa' → FlRel H' fl f → Q f s'
noncomputable def DenS (g : GC) (C : Cx) (st : Stmt) (f : DS) : Prop :=
  ∀ env A s H ρ oa Q E fl ρ', EnvOk C env → Room A C.lv → Rel g C env s H ρ oa → f ρ = some (fl, ρ') → PostS g C env s H oa fl ρ' Q → wpAny (model g.prog g.w) A (exec st env) Q E s
noncomputable def DenSs (g : GC) (C : Cx) (sts : List Stmt) (f : DS) : Prop :=
  ∀ env A s H ρ oa Q E fl ρ', EnvOk C env → Room A C.lv → Rel g C env s H ρ oa → f ρ = some (fl, ρ') → PostS g C env s H oa fl ρ' Q → wpAny (model g.prog g.w) A (execs sts env) Q E s
theorem Rel.there {g : GC} {C : Cx} {env : Env} {s : Shared} {H : HP} {ρ : List PV} {oa : Option Addr} (he : EnvOk C env) (x : Rel g C env s H ρ oa) :
    (∃ o, s.heap.get? env.locals = some o) ∧ (∀ y c, (y, VK.cel) ∈ C.ns → env.cells.lookup y = some c → ∃ o, s.heap.get? c = some o) := by
  obtain ⟨m, ⟨o, _, _, ho, _⟩, _⟩ := x.ns
  refine ⟨⟨o, ho⟩, fun y c hy hc => ?_⟩
  obtain ⟨i, hi⟩ := List.getElem?_of_mem hy
  obtain ⟨_, vo, ⟨o, ho, _⟩, _⟩ := x.ce i y .cel c hi (by decide) hc
  exact ⟨o, ho⟩
section
variable {g : GC} {C : Cx}
theorem PostS.next {env : Env} {s : Shared} {H : HP} {oa : Option Addr} {ρ ρ' : List PV} {Q : Flow → Shared → Prop} (p : PostS g C env s H oa .next ρ' Q) {s' : Shared} {H' : HP} {oa' : Option Addr}
    (e : ExtS g C env s H oa s' H' oa') (x : Rel g C env s' H' ρ' oa') : Q .next s' := p _ _ _ _ e x rfl
theorem PostS.after {env : Env} {s s' : Shared} {H H' : HP} {oa oa' : Option Addr} {ρ ρ' : List PV} {fl : Fl} {Q : Flow → Shared → Prop} (he : EnvOk C env) (x : Rel g C env s H ρ oa) (e : ExtS g C env s H oa s' H' oa')
    (p : PostS g C env s H oa fl ρ' Q) : PostS g C env s' H' oa' fl ρ' Q := fun f s'' H'' oa'' e' x' hf =>
  let ⟨a, b⟩ := x.there he; p f s'' H'' oa'' (ExtS.trans a b e e') x' hf
theorem DenSs.nil : DenSs g C [] (fun ρ => some (.next, ρ)) := by
  intro env A s H ρ oa Q E fl ρ' he hr x hf p
  cases hf
  exact wpAny_execs_nil (p _ _ _ _ (.refl x.st) x rfl)
noncomputable def dSeq (f1 f2 : DS) : DS := fun ρ => (f1 ρ).bind fun r => match r with
  | (.next, ρ1) => f2 ρ1
  | (.ret p, ρ1) => some (.ret p, ρ1)
theorem DenSs.cons {st : Stmt} {sts : List Stmt} {f1 f2 : DS} (h1 : DenS g C st f1) (h2 : DenSs g C sts f2) : DenSs g C (st :: sts) (dSeq f1 f2) := by
  intro env A s H ρ oa Q E fl ρ' he hr x hf p
  obtain ⟨⟨fl1, ρ1⟩, h, hf⟩ := Option.bind_eq_some_iff.mp hf
  refine wpAny_execs_cons (h1 env A s H ρ oa _ E fl1 ρ1 he hr x h fun f s1 H1 oa1 e1 x1 hfl => ?_)
  cases fl1 with
  | next =>
    obtain rfl := hfl
    exact h2 env A s1 H1 ρ1 oa1 Q E fl ρ' he hr x1 hf (p.after he x e1)
  | ret v =>
    obtain ⟨w, rfl, hw⟩ := hfl
    cases hf
    exact p _ _ _ _ e1 x1 ⟨w, rfl, hw⟩
theorem DenS.ret {e : Expr} {pos : Pos} {f : DE} (h : Den g C e f) : DenS g C (.Return (some e) pos) (fun ρ => (f ρ).map fun v => (.ret v, ρ)) := by
  intro env A s H ρ oa Q E fl ρ' he hr x hf p
  obtain ⟨v, hv, hf⟩ := Option.map_eq_some_iff.mp hf
  cases hf
  exact wpAny_Return_some (h.bind he hr x hv fun w s1 H1 e1 x1 hw => p _ _ _ _ (.of e1) x1 ⟨w, rfl, hw⟩)
theorem DenS.ret0 {pos : Pos} : DenS g C (.Return none pos) (fun ρ => some (.ret .none, ρ)) := by
  intro env A s H ρ oa Q E fl ρ' he hr x hf p
  cases hf
  exact wpAny_Return_none (p _ _ _ _ (.refl x.st) x ⟨_, rfl, rfl⟩)
theorem DenS.ite {t : Expr} {b1 b2 : List Stmt} {pos : Pos} {ft : List PV → Option Bool} {f1 f2 : DS} (ht : DenB g C t ft) (h1 : DenSs g C b1 f1) (h2 : DenSs g C b2 f2) :
    DenS g C (.If t b1 b2 pos) (fun ρ => (ft ρ).bind fun c => if c then f1 ρ else f2 ρ) := by
  intro env A s H ρ oa Q E fl ρ' he hr x hf p
  obtain ⟨c, hc, hf⟩ := Option.bind_eq_some_iff.mp hf
  refine wpAny_If (ht env A s H ρ oa _ E c he hr x hc fun s1 H1 e1 => ?_)
  cases c with
  | true => exact h1 env A s1 H1 ρ oa Q E fl ρ' he hr (x.ext e1) hf (p.after he x (.of e1))
  | false => exact h2 env A s1 H1 ρ oa Q E fl ρ' he hr (x.ext e1) hf (p.after he x (.of e1))
noncomputable def PV.val : PV → Bool
  | .undef => false
  | .own _ => false
  | _ => true
theorem VRel.val {H : HP} {p : PV} {v : Value} (h : VRel H p v) : p.val = true := by cases p <;> first | rfl | exact h.elim
theorem slot_val {H : HP} {h : Heap} {oa : Option Addr} {p : PV} {v : Value} (hv : VRel H p v) : SlotV H h oa p (some v) := by
  cases p <;> first | exact ⟨v, rfl, hv⟩ | exact hv.elim
theorem SlotV.keep {H : HP} {h h' : Heap} {oa : Option Addr} {p : PV} {vo : Option Value} (x : SlotV H h oa p vo) (k : ∀ a its, oa = some a → h.PlainList a its → h'.PlainList a its) : SlotV H h' oa p vo := by
  cases p with
  | undef => trivial
  | own xs => obtain ⟨a, its, h1, h2, h3, h4, h5⟩ := x; exact ⟨a, its, h1, h2, h3, k a its h2 h4, h5⟩
  | none => exact x
  | bool _ => exact x
  | int _ => exact x
  | str _ => exact x
  | list _ => exact x
  | tup _ => exact x
  | fn _ => exact x
theorem getD_set {ρ : List PV} {i j : Nat} {p : PV} (hi : i < ρ.length) : (ρ.set i p).getD j .undef = if i = j then p else ρ.getD j .undef := by
  by_cases h : i = j
  · subst h; rw [if_pos rfl]; simp [List.getD, hi]
  · rw [if_neg h]; simp [List.getD, List.getElem?_set_ne h]
theorem names_inj (hC : C.ok = true) {i j : Nat} {x : Str} {k k' : VK} (hi : C.ns[i]? = some (x, k)) (hj : C.ns[j]? = some (x, k')) : i = j := by
  have hn := Cx.nodup hC
  have h1 : (C.ns.map (·.1))[i]? = some x := by simp [hi]
  have h2 : (C.ns.map (·.1))[j]? = some x := by simp [hj]
  obtain ⟨l1, e1⟩ := List.getElem?_eq_some_iff.mp h1
  obtain ⟨l2, e2⟩ := List.getElem?_eq_some_iff.mp h2
  exact (List.getElem_inj hn).mp (e1.trans e2.symm)
theorem store_rel {env : Env} {A : Around} {s : Shared} {H : HP} {ρ : List PV} {oa oa' : Option Addr} {Q : Unit → Shared → Prop} {E : Value → Shared → Prop} {i : Nat} {x : Str} {k : VK} {p : PV} {v : Value}
    (hC : C.ok = true) (he : EnvOk C env) (y : Rel g C env s H ρ oa) (hi : C.ns[i]? = some (x, k))
    (hs : ∀ h' : Heap, (∀ a its, s.heap.PlainList a its → h'.PlainList a its) → SlotV H h' oa' p (some v))
    (hkf2 : k ≠ .fre) (hkv : k ≠ .loc → p.val = true) (hmu : ∀ xs, p = .own xs → i = C.mu)
    (hoa : oa' = oa ∨ ((∀ j xs, j ≠ i → ρ.getD j .undef ≠ .own xs) ∧ ∀ a, oa' = some a → H a = none ∧ ∃ its, s.heap.PlainList a its))
    (h : ∀ s', (∃ h' tk, s' = { s with heap := h', toks := tk }) → (∀ a o, s.heap.get? a = some o → ¬ Own C env none a → s'.heap.get? a = some o) → (∀ a o, s.heap.get? a = some o → ∃ o', s'.heap.get? a = some o') → Rel g C env s' H (ρ.set i p) oa' → Q () s') :
    wpAny (model g.prog g.w) A (storeName env x v) Q E s := by
  have hm : (x, k) ∈ C.ns := List.mem_of_getElem? hi
  obtain ⟨q1, q2, q3⟩ := Cx.at hC hm
  have hkf : env.scope.kind = .function := by rw [he.scope]; exact Cx.kind hC
  obtain ⟨m, hn, hsl⟩ := y.ns
  have hlt : i < ρ.length := by rw [y.len]; exact (List.getElem?_eq_some_iff.mp hi).1
  have listAt : ∀ {h' : Heap} {a0 : Addr}, (∀ o, s.heap.get? a0 = some o → (∃ es n, o.data = .dict es n) ∨ (∃ v, o.data = .cell v)) → Heap.SameBut a0 s.heap h' → ∀ a its, s.heap.PlainList a its → h'.PlainList a its := by
    intro h' a0 hd hsb a its ⟨n, ho⟩
    have hne : a ≠ a0 := fun q => by rcases hd _ (q ▸ ho) with ⟨es, n', e⟩ | ⟨v', e⟩ <;> cases e
    exact ⟨n, (hsb.2 a hne).trans ho⟩
  have finish : ∀ (h' : Heap) (tk : Tok) (a0 : Addr), Heap.SameBut a0 s.heap h' → (∀ o, s.heap.get? a0 = some o → (∃ es n, o.data = .dict es n) ∨ (∃ v, o.data = .cell v)) → H a0 = none → Own C env none a0 → (∃ o', h'.get? a0 = some o') →
      (∃ m', h'.Ns env.locals m' ∧ ∀ j z, C.ns[j]? = some (z, VK.loc) → SlotV H h' oa' ((ρ.set i p).getD j .undef) (m' z)) →
      (∀ j z k' c, C.ns[j]? = some (z, k') → k' ≠ VK.loc → env.cells.lookup z = some c → (k' = .cel → H c = none) ∧ ∃ vo, h'.IsCell c vo ∧ SlotV H h' none ((ρ.set i p).getD j .undef) vo) →
      ¬ isTab a0 → Q () { s with heap := h', toks := tk } := by
    intro h' tk a0 hsb hd hH hown hthere hns hce hnt
    have hla := listAt hd hsb
    have hk : ∀ a o, s.heap.get? a = some o → ¬ Own C env none a → h'.get? a = some o := fun a o e hno => (hsb.2 a fun q => hno (q ▸ hown)).trans e
    refine h _ ⟨h', tk, rfl⟩ hk (fun a o e => ?_) ⟨⟨fun a o e => ?_, y.st.base, ?_, y.st.notab, y.st.bare⟩, by rw [List.length_set]; exact y.len, y.fz, hns, hce, fun j xs e => ?_, fun a e => ?_⟩
    · by_cases q : a = a0
      · subst q; exact hthere
      · exact ⟨o, (hsb.2 a q).trans e⟩
    · refine (hsb.2 a fun q => ?_).trans (y.st.keep a o e)
      rw [q, hH] at e; cases e
    · exact y.st.tab.moves (.refl _) fun b o t e => (hsb.2 b fun q => hnt (q ▸ t)).trans e
    · rw [getD_set hlt] at e
      split at e
      · rename_i q; subst q; exact hmu xs e
      · exact y.mu j xs e
    · rcases hoa with q | q
      · subst q; obtain ⟨b1, its, b2⟩ := y.oall a e; exact ⟨b1, its, hla a its b2⟩
      · obtain ⟨b1, its, b2⟩ := q.2 a e; exact ⟨b1, its, hla a its b2⟩
  have slotOther : ∀ {h' : Heap} (j : Nat) (vo : Option Value), (∀ a its, s.heap.PlainList a its → h'.PlainList a its) → i ≠ j → SlotV H s.heap oa (ρ.getD j .undef) vo → SlotV H h' oa' ((ρ.set i p).getD j .undef) vo := by
    intro h' j vo hla hij hj
    rw [getD_set hlt, if_neg hij]
    rcases hoa with q | q
    · subst q; exact hj.keep fun a its _ hl => hla a its hl
    · have hno := q.1 j
      revert hj
      cases hq : ρ.getD j .undef with
      | own xs => exact absurd hq (hno xs (Ne.symm hij))
      | undef => exact fun _ => trivial
      | none => exact id
      | bool _ => exact id
      | int _ => exact id
      | str _ => exact id
      | list _ => exact id
      | tup _ => exact id
      | fn _ => exact id
  have slotOther0 : ∀ {h' : Heap} (j : Nat) (vo : Option Value), i ≠ j → SlotV H s.heap none (ρ.getD j .undef) vo → SlotV H h' none ((ρ.set i p).getD j .undef) vo := by
    intro h' j vo hij hj
    rw [getD_set hlt, if_neg hij]
    revert hj
    cases hq : ρ.getD j .undef with
    | own xs => intro ⟨a, its, _, e, _⟩; cases e
    | undef => exact fun _ => trivial
    | none => exact id
    | bool _ => exact id
    | int _ => exact id
    | str _ => exact id
    | list _ => exact id
    | tup _ => exact id
    | fn _ => exact id
  cases k with
  | loc =>
    refine wpAny_storeName_local (by rw [kindOf_of he]; exact kindFits_loc q3) hn (fun h' hn' hsb => ?_) (by rw [hkf]; rfl)
    have hd0 : ∀ o, s.heap.get? env.locals = some o → (∃ es n, o.data = .dict es n) ∨ (∃ v, o.data = .cell v) := by
      obtain ⟨o', es, ep, ho', hd', _⟩ := hn
      intro o ho
      rw [ho'] at ho; cases ho; exact .inl ⟨es, ep, hd'⟩
    have hla := listAt hd0 hsb
    refine finish h' _ env.locals hsb hd0 y.fz (.inl rfl) (by obtain ⟨o', _, _, ho', _⟩ := hn'; exact ⟨o', ho'⟩) ⟨_, hn', fun j z hj => ?_⟩ (fun j z k' c hj hk' hc => ?_) (Heap.Ns.notTab y.st hn)
    · by_cases hij : i = j
      · subst hij
        rw [getD_set hlt, if_pos rfl]
        rw [hi] at hj; cases hj
        simp only [if_true]
        exact hs h' hla
      · have hzx : z ≠ x := fun q => hij (names_inj hC hi (q ▸ hj))
        simp only [hzx, if_false]
        exact slotOther j _ hla hij (hsl j z hj)
    · obtain ⟨b1, vo, b2, b3⟩ := y.ce j z k' c hj hk' hc
      have hcl : c ≠ env.locals := fun q => by
        obtain ⟨o', es, ep, ho', hd', _⟩ := hn
        obtain ⟨o2, ho2, hd2⟩ := b2
        rw [q, ho'] at ho2; cases ho2; rw [hd'] at hd2; cases hd2
      refine ⟨b1, vo, b2.sameBut hsb hcl, slotOther0 j vo (fun q => ?_) b3⟩
      subst q; rw [hi] at hj; cases hj; exact hk' rfl
  | cel =>
    obtain ⟨c, hc⟩ := he.cel x .cel hm (by decide)
    obtain ⟨b1, vo, b2, b3⟩ := y.ce i x .cel c hi (by decide) hc
    refine wpAny_storeName_cell hkf (by rw [kindOf_of he]; exact kindFits_cel q3) hc b2 fun h' hc' hsb => ?_
    have hd0 : ∀ o, s.heap.get? c = some o → (∃ es n, o.data = .dict es n) ∨ (∃ v, o.data = .cell v) := by
      obtain ⟨o', ho', hd'⟩ := b2
      intro o ho
      rw [ho'] at ho; cases ho; exact .inr ⟨_, hd'⟩
    have hla := listAt hd0 hsb
    have hcl : c ≠ env.locals := fun q => by
      obtain ⟨o', es, ep, ho', hd', _⟩ := hn
      obtain ⟨o2, ho2, hd2⟩ := b2
      rw [q, ho'] at ho2; cases ho2; rw [hd'] at hd2; cases hd2
    refine finish h' s.toks c hsb hd0 (b1 rfl) (.inr (.inl ⟨x, hm, hc⟩)) (by obtain ⟨o', ho', _⟩ := hc'; exact ⟨o', ho'⟩) ⟨m, hn.sameBut hsb hcl.symm, fun j z hj => ?_⟩ (fun j z k' c' hj hk' hc2 => ?_) (Heap.IsCell.notTab y.st b2)
    · refine slotOther j _ hla (fun q => ?_) (hsl j z hj)
      subst q; rw [hi] at hj; cases hj
    · obtain ⟨d1, vo', d2, d3⟩ := y.ce j z k' c' hj hk' hc2
      by_cases hij : i = j
      · subst hij
        rw [hi] at hj; cases hj
        rw [hc] at hc2; cases hc2
        refine ⟨b1, some v, hc', ?_⟩
        rw [getD_set hlt, if_pos rfl]
        have h5 := hs h' hla
        have h6 := hkv (by decide)
        revert h5 h6
        cases p with
        | own xs => intro _ q; cases q
        | undef => exact fun _ _ => trivial
        | none => exact fun q _ => q
        | bool _ => exact fun q _ => q
        | int _ => exact fun q _ => q
        | str _ => exact fun q _ => q
        | list _ => exact fun q _ => q
        | tup _ => exact fun q _ => q
        | fn _ => exact fun q _ => q
      · have hcc : c' ≠ c := fun q => hij (by
          subst q
          have := he.apart x z c' hc hc2
          subst this
          exact names_inj hC hi hj)
        exact ⟨d1, vo', d2.sameBut hsb hcc, slotOther0 j vo' hij d3⟩
  | fre => exact absurd rfl hkf2
end
noncomputable def FnS (g : GC) (a : Addr) (lv : Nat) (F : List PV → List (Str × PV) → Option PV) : Prop :=
  ∀ A s H ps vs ks kvs Q E r, Room A lv → St g s H → VRelL H ps vs → kvs.map (·.1) = ks.map (·.1) → VRelL H (ks.map (·.2)) (kvs.map (·.2)) → F ps ks = some r →
    (∀ v s' H', Ext g s H s' H' → VRel H' r v → Q v s') → wpAny (model g.prog g.w) A (call (.ref a) vs kvs) Q E s
theorem bindL_not {kindOf : Str → Option NameKind} {x : Str} : ∀ (bs : List (Str × Value)) (m : Str → Option Value), x ∉ bs.map (·.1) → bindL kindOf bs m x = m x
  | [], _, _ => rfl
  | (n, v) :: r, m, h => by
    rw [List.map_cons, List.mem_cons, not_or] at h
    unfold bindL
    rw [bindL_not r _ h.2]
    split
    · show (if x = n then some v else m x) = m x
      rw [if_neg h.1]
    · rfl
theorem bindC_not {kindOf : Str → Option NameKind} {x : Str} : ∀ (bs : List (Str × Value)) (m : Str → Option Value), x ∉ bs.map (·.1) → bindC kindOf bs m x = m x
  | [], _, _ => rfl
  | (n, v) :: r, m, h => by
    rw [List.map_cons, List.mem_cons, not_or] at h
    unfold bindC
    rw [bindC_not r _ h.2]
    split
    · rfl
    · show (if x = n then some v else m x) = m x
      rw [if_neg h.1]
theorem bindL_mem {kindOf : Str → Option NameKind} {x : Str} {v : Value} (hk : kindOf x = some .local) : ∀ (bs : List (Str × Value)) (m : Str → Option Value), (bs.map (·.1)).Nodup → bs.lookup x = some v → bindL kindOf bs m x = some v
  | [], _, _, h => by cases h
  | (n, w) :: r, m, hn, h => by
    rw [List.map_cons, List.nodup_cons] at hn
    unfold bindL
    rw [List.lookup_cons] at h
    cases hb : x == n with
    | true =>
      rw [hb] at h; cases h
      have e := eq_of_beq hb; subst e
      rw [bindL_not r _ hn.1, if_pos hk]
      simp
    | false =>
      rw [hb] at h
      exact bindL_mem hk r _ hn.2 h
theorem bindC_mem {kindOf : Str → Option NameKind} {x : Str} {v : Value} (hk : kindOf x = some .cell) : ∀ (bs : List (Str × Value)) (m : Str → Option Value), (bs.map (·.1)).Nodup → bs.lookup x = some v → bindC kindOf bs m x = some v
  | [], _, _, h => by cases h
  | (n, w) :: r, m, hn, h => by
    rw [List.map_cons, List.nodup_cons] at hn
    unfold bindC
    rw [List.lookup_cons] at h
    cases hb : x == n with
    | true =>
      rw [hb] at h; cases h
      have e := eq_of_beq hb; subst e
      rw [bindC_not r _ hn.1, if_neg (by rw [hk]; decide)]
      simp
    | false =>
      rw [hb] at h
      exact bindC_mem hk r _ hn.2 h
theorem lookup_rel {H : HP} {x : Str} : ∀ {bs : List (Str × PV)} {vs : List (Str × Value)} {p : PV}, vs.map (·.1) = bs.map (·.1) → VRelL H (bs.map (·.2)) (vs.map (·.2)) → bs.lookup x = some p → ∃ v, vs.lookup x = some v ∧ VRel H p v
  | [], _, _, _, _, h => by cases h
  | (n, q) :: r, [], _, e, _, _ => by cases e
  | (n, q) :: r, (n', w) :: vs, p, e, hv, h => by
    rw [List.map_cons, List.map_cons, List.cons.injEq] at e
    obtain ⟨v0, r0, e0, h1, h2⟩ := hv
    rw [List.map_cons, List.cons.injEq] at e0
    have e1 : n' = n := e.1
    have e2 : w = v0 := e0.1
    subst e1 e2
    rw [List.lookup_cons] at h ⊢
    cases hb : x == n' with
    | true => rw [hb] at h; cases h; exact ⟨w, rfl, h1⟩
    | false => rw [hb] at h; exact lookup_rel e.2 (e0.2 ▸ h2) h
noncomputable def initR (C : Cx) (bs : List (Str × PV)) : List PV := C.ns.map fun x => (bs.lookup x.1).getD .undef
theorem cells_some {scope : Scope} {x : Str} (n : Nat) (h : scope.names.lookup x = some .cell) : ∃ c, (cellsFrom n scope.names []).lookup x = some c :=
  Option.isSome_iff_exists.mp (cellsFrom_some scope.names n [] (.inl h))
theorem cellsFrom_keys : ∀ (names : List (Str × NameKind)) (n m : Nat) (acc acc' : List (Str × Addr)), acc.map (·.1) = acc'.map (·.1) → (cellsFrom n names acc).map (·.1) = (cellsFrom m names acc').map (·.1)
  | [], _, _, _, _, h => h
  | (x, k) :: r, n, m, acc, acc', h => by
    unfold cellsFrom
    split
    · exact cellsFrom_keys r _ _ _ _ (by rw [List.map_cons, List.map_cons, h])
    · exact cellsFrom_keys r _ _ _ _ h
theorem apart_of {cs : List (Str × Addr)} (ha : cs.Pairwise fun x y => x.2 ≠ y.2) : ∀ x y c, cs.lookup x = some c → cs.lookup y = some c → x = y := fun x y c h1 h2 =>
  name_of_addr ha (mem_of_lookup h1) (mem_of_lookup h2)
theorem enter_rel {g : GC} {C : Cx} {s s' : Shared} {H : HP} {env : Env} {scope : Scope} {qual : Str} {func : Option Addr} {code : Value} {bs : List (Str × PV)} {binds : List (Str × Value)}
    (st : St g s H) (hC : C.ok = true) (hfre : ∀ x, (x, VK.fre) ∉ C.ns) (hsc : scope = C.sc)
    (henv : env = newEnv scope s.heap.objs.size mainGlobals (cellsFrom (s.heap.objs.size + 1) scope.names []) qual func code none builtinsNs)
    (X : InCallC s env.locals (bindL env.kindOf binds fun _ => none) env.cells (bindC env.kindOf binds fun _ => none) s')
    (hn : binds.map (·.1) = bs.map (·.1)) (hv : VRelL H (bs.map (·.2)) (binds.map (·.2))) (hd : (bs.map (·.1)).Nodup) (hu : ∀ x p, bs.lookup x = some p → p.val = true) :
    EnvOk C env ∧ Ext g s H s' H ∧ Rel g C env s' H (initR C bs) none := by
  subst hsc
  have hec : env.cells = cellsFrom (s.heap.objs.size + 1) C.sc.names [] := by rw [henv]; rfl
  have hes : env.scope = C.sc := by rw [henv]; rfl
  have hel : env.locals = s.heap.objs.size := by rw [henv]; rfl
  have he : EnvOk C env := ⟨hes, by rw [henv]; rfl, by rw [henv]; rfl, fun x k hm hk => by
      cases k with
      | loc => exact absurd rfl hk
      | fre => exact absurd hm (hfre x)
      | cel => rw [hec]; exact cells_some _ (kindFits_cel (Cx.at hC hm).2.2), apart_of X.apart⟩
  obtain ⟨h1, tk, rfl⟩ := X.toInCall.same
  have e : Ext g s H { s with heap := h1, toks := tk } H := Ext.kept st X.toInCall.keep
  have hnone : ∀ a, s.heap.objs.size ≤ a → H a = none := fun a ha => by
    cases q : H a with
    | none => rfl
    | some o => have := st.keep a o q; rw [freshAt ha] at this; cases this
  have hko : ∀ x, env.kindOf x = C.sc.names.lookup x := fun x => by unfold Env.kindOf; rw [hes]
  have slot : ∀ i x k, C.ns[i]? = some (x, k) → (initR C bs).getD i .undef = (bs.lookup x).getD .undef := fun i x k hi => by
    unfold initR; simp [List.getD, hi]
  have hd' : (binds.map (·.1)).Nodup := by rw [hn]; exact hd
  refine ⟨he, e, e.st, by unfold initR; simp, hnone _ (by rw [hel]; exact Nat.le_refl _), ⟨_, X.toInCall.ns, fun i x hi => ?_⟩, fun i x k c hi hk hc => ?_, fun i xs hx => ?_, fun a ha => by cases ha⟩
  · rw [slot i x _ hi]
    cases hb : bs.lookup x with
    | none => trivial
    | some p =>
      obtain ⟨v, h3, h4⟩ := lookup_rel hn hv hb
      rw [bindL_mem (by rw [hko]; exact kindFits_loc (Cx.at hC (List.mem_of_getElem? hi)).2.2) _ _ hd' h3]
      exact slot_val h4
  · cases k with
    | loc => exact absurd rfl hk
    | fre => exact absurd (List.mem_of_getElem? hi) (hfre x)
    | cel =>
      refine ⟨fun _ => hnone _ (by have := X.above x c (mem_of_lookup hc); rw [hel] at this; exact Nat.le_of_lt this), _, X.cell x c hc, ?_⟩
      rw [slot i x _ hi]
      cases hb : bs.lookup x with
      | none => trivial
      | some p =>
        obtain ⟨v, h3, h4⟩ := lookup_rel hn hv hb
        rw [bindC_mem (by rw [hko]; exact kindFits_cel (Cx.at hC (List.mem_of_getElem? hi)).2.2) _ _ hd' h3]
        exact slot_val h4
  · exfalso
    cases hq : C.ns[i]? with
    | none => unfold initR at hx; simp [List.getD, hq] at hx
    | some y =>
      rw [slot i y.1 y.2 hq] at hx
      cases hb : bs.lookup y.1 with
      | none => rw [hb] at hx; cases hx
      | some p => rw [hb] at hx; have := hu _ _ hb; simp only [Option.getD_some] at hx; rw [hx] at this; cases this
theorem leave_ext {g : GC} {C : Cx} {s s1 s2 : Shared} {H H2 : HP} {env : Env} {oa2 : Option Addr} (e1 : Ext g s H s1 H) (hL : s.heap.get? env.locals = none) (hc : ∀ x c, env.cells.lookup x = some c → s.heap.get? c = none)
    (e2 : ExtS g C env s1 H none s2 H2 oa2) : Ext g s H s2 H2 := by
  refine ⟨e2.st, e2.le, fun a o ht h => e2.old a o ht (e1.old a o ht h) fun q => ?_, fun a o h => ?_, ?_, fun i x h => e2.gens i x (e1.gens i x h)⟩
  · rcases q with q | ⟨x, _, q⟩ | q
    · rw [q, hL] at h; cases h
    · rw [hc x a q] at h; cases h
    · cases q
  · rcases e2.fresh a o h with q | q | q
    · exact .inl q
    · right
      cases r : s.heap.get? a with
      | none => rfl
      | some o' =>
        by_cases t : isTab a
        · obtain ⟨o2, h2, _⟩ := tab_some e1.st.tab t; rw [h2] at q; cases q
        · rw [e1.old a o' t r] at q; cases q
    · cases q
  · obtain ⟨h1, g1, t1, rfl⟩ := e1.same
    obtain ⟨h2, g2, t2, rfl⟩ := e2.same
    exact ⟨h2, g2, t2, rfl⟩
theorem St.ns {g : GC} {s : Shared} {H : HP} (st : St g s H) {a : Addr} {m : Str → Option Value} (h : g.h0.Ns a m) (ht : ¬ isTab a) : s.heap.Ns a m :=
  h.at' fun o e => st.keep a o (st.base a o ht e)
theorem St.nolimit {g : GC} {s : Shared} {H : HP} (st : St g s H) : s.heap.NoLimit := by
  obtain ⟨mc, h1, h2⟩ := g.nolimit
  exact ⟨mc, st.ns h1 (by unfold isTab; decide), h2⟩
noncomputable def flOut (r : Fl × List PV) : PV := match r.1 with
  | .ret v => v
  | .next => .none
theorem FnS.intro {g : GC} {a : Addr} {oc : Value} {od : Option Addr} {fd : FuncData} {osl : Array (Option Value)} {body : List Stmt} {C : Cx} {fb : DS} {bind : List PV → List (Str × PV) → Option (List (Str × PV))}
    (hK : ∀ P, (K0 P).lookup a = some ⟨oc, od, .func fd, osl⟩) (hcode : ∀ P, codeIn (K0 P) fd.code fd.qualname = true)
    (hg : fd.globals = mainGlobals) (hcl : fd.closure = []) (hb : fd.builtins = builtinsNs) (hgen : fd.scope.isGenerator = false) (hco : fd.scope.isCoroutine = false) (hbody : fd.body = .stmts body) (hsc : fd.scope = C.sc)
    (hC : C.ok = true) (hfre : C.ns.all (fun x => x.2 != .fre) = true) (hta : ¬ isTab a)
    (hbind : ∀ s H ps vs ks kvs bs, St g s H → VRelL H ps vs → kvs.map (·.1) = ks.map (·.1) → VRelL H (ks.map (·.2)) (kvs.map (·.2)) → bind ps ks = some bs →
      ∃ binds, BindsTo s fd ⟨vs, kvs⟩ binds ∧ binds.map (·.1) = bs.map (·.1) ∧ VRelL H (bs.map (·.2)) (binds.map (·.2)))
    (hnd : ∀ ps ks bs, bind ps ks = some bs → (bs.map (·.1)).Nodup ∧ ∀ x ∈ bs.map (·.1), C.sc.names.lookup x = some .local ∨ C.sc.names.lookup x = some .cell)
    (D : DenSs g C body fb) : FnS g a (C.lv + 1) (fun ps ks => (bind ps ks).bind fun bs => (fb (initR C bs)).map flOut) := by
  intro A s H ps vs ks kvs Q E r hr st hps hkn hks hF hq
  obtain ⟨bs, hbs, hF⟩ := Option.bind_eq_some_iff.mp hF
  obtain ⟨⟨fl, ρ'⟩, hfb, hF⟩ := Option.map_eq_some_iff.mp hF
  obtain ⟨binds, hB, hn, hv⟩ := hbind s H ps vs ks kvs bs st hps hkn hks hbs
  obtain ⟨hd1, hd2⟩ := hnd ps ks bs hbs
  have hX0 : ∀ b o, (K0 g.w.params).lookup b = some o → g.h0.get? b = some o := g.kin
  have ho0 := hX0 a _ (hK _)
  have ho : s.heap.get? a = some ⟨oc, od, .func fd, osl⟩ := st.keep _ _ (st.base _ _ hta ho0)
  have hcr : s.heap.CodeRec fd.code fd.qualname := by
    obtain ⟨c, oc', vs', t, e1, e2, e3, e4⟩ := codeRec_of g.kin (hcode g.w.params)
    refine ⟨c, oc', vs', t, e1, ?_, e3, e4⟩
    by_cases ht : isTab c
    · exfalso
      have : (K0 g.w.params).lookup 51 = none ∧ (K0 g.w.params).lookup 58 = none := ⟨by kernel_rfl, by kernel_rfl⟩
      have hci := hcode g.w.params
      rw [e1] at hci
      unfold codeIn at hci
      rcases ht with q | q
      · rw [q] at hci; simp only [this.1] at hci; cases hci
      · rw [q] at hci; simp only [this.2] at hci; cases hci
    · exact st.keep _ _ (st.base _ _ ht e2)
  have hfre' : ∀ x, (x, VK.fre) ∉ C.ns := fun x hm => by have := List.all_eq_true.mp hfre _ hm; simp at this
  refine wpAny_call (codeAny_call_function hr.lim ho rfl hco hgen hbody hcr (hB _ _ _ _ ?_))
  rw [hcl, hg, hb]
  refine wpAny_newFunctionEnv_cells (by rw [hsc]; exact Cx.kind hC) (fun x hx => ?_) fun env henv s' X => ⟨?_, ?_⟩
  · have hm : x.1 ∈ bs.map (·.1) := by rw [← hn]; exact List.mem_map_of_mem hx
    rw [hsc]
    rcases hd2 x.1 hm with q | q
    · exact .inl q
    · obtain ⟨c, hc⟩ := cells_some (scope := C.sc) (s.heap.objs.size + 1) q
      exact .inr ⟨q, by rw [hc]; rfl⟩
  · exact (St.nolimit st).keeps X.toInCall.keep
  · have hval : ∀ x p, bs.lookup x = some p → p.val = true := fun x p hx => by
      obtain ⟨v, _, h2⟩ := lookup_rel hn hv hx; exact h2.val
    obtain ⟨he, e1, x1⟩ := enter_rel st hC hfre' hsc henv X hn hv hd1 hval
    have hel : env.locals = s.heap.objs.size := by rw [henv]; rfl
    refine codeAny_func (D env _ s' H (initR C bs) none _ _ fl ρ' he hr.deeper x1 hfb fun f s2 H2 oa2 e2 x2 hfl => ?_)
    have e3 := leave_ext e1 (freshAt (by rw [hel]; exact Nat.le_refl _)) (fun x c hc => freshAt (by have := X.above x c (mem_of_lookup hc); rw [hel] at this; exact Nat.le_of_lt this)) e2
    cases fl with
    | ret p => obtain ⟨v, rfl, hv2⟩ := hfl; cases hF; exact hq v s2 H2 e3 hv2
    | next => obtain rfl := hfl; cases hF; exact hq .none s2 H2 e3 rfl
section
variable {g : GC} {C : Cx}
theorem glob_load {env : Env} {A : Around} {s : Shared} {H : HP} {Q : Value → Shared → Prop} {E : Value → Shared → Prop} {x : Str} {v : Value} {pos : Pos}
    (hC : C.ok = true) (he : EnvOk C env) (st : St g s H) (hk : C.sc.names.lookup x = some .globalImplicit) (hn : ∀ P, nsIn (K0 P) mainGlobals x = some (some v))
    (h : Q v s) (hd : (x == ("__debug__" : Str)) = false) : wpAny (model g.prog g.w) A (eval (.Name x pos) env) Q E s :=
  Calls.Name_function_global (by rw [he.scope]; exact Cx.kind hC) (by rw [kindOf_of he]; exact hk)
    (Calls.loadGlobal_global (mg := g.mg) (by rw [he.globals]; exact st.ns g.hg (by unfold isTab; decide)) (mg_of g.kin g.hg (hn _)) h) hd
theorem blt_load {env : Env} {A : Around} {s : Shared} {H : HP} {Q : Value → Shared → Prop} {E : Value → Shared → Prop} {x : Str} {v : Value} {pos : Pos}
    (hC : C.ok = true) (he : EnvOk C env) (st : St g s H) (hk : C.sc.names.lookup x = some .globalImplicit) (hn : ∀ P, nsIn (K0 P) mainGlobals x = some none) (hb : bootBuiltins x = some v) (hx : x ≠ Str.ofString "__name__")
    (h : Q v s) (hd : (x == ("__debug__" : Str)) = false) : wpAny (model g.prog g.w) A (eval (.Name x pos) env) Q E s :=
  Calls.Name_function_global (by rw [he.scope]; exact Cx.kind hC) (by rw [kindOf_of he]; exact hk)
    (Calls.loadGlobal_builtin (mg := g.mg) (mb := g.mb) (by rw [he.globals]; exact st.ns g.hg (by unfold isTab; decide)) (mg_none_of g.kin g.hg (hn _))
      (by rw [he.builtins]; exact st.ns g.hb (by unfold isTab; decide)) ((g.blt x hx).trans hb) h) hd
theorem Den.gfn {x : Str} {a : Addr} {pos : Pos} (hC : C.ok = true) (hk : C.sc.names.lookup x = some .globalImplicit) (hn : ∀ P, nsIn (K0 P) mainGlobals x = some (some (.ref a)))
    (hd : (x == ("__debug__" : Str)) = false := by decide) : Den g C (.Name x pos) (fun _ => some (.fn a)) := by
  intro env A s H ρ oa Q E pv he hr y hf h
  cases hf
  exact glob_load hC he y.st hk hn (h _ s H (.refl y.st) rfl) hd
theorem Den.gint {x : Str} {i : Int} {t : Tok} {pos : Pos} (hC : C.ok = true) (hk : C.sc.names.lookup x = some .globalImplicit) (hn : ∀ P, nsIn (K0 P) mainGlobals x = some (some (.int i t)))
    (hd : (x == ("__debug__" : Str)) = false := by decide) : Den g C (.Name x pos) (fun _ => some (.int i)) := by
  intro env A s H ρ oa Q E pv he hr y hf h
  cases hf
  exact glob_load hC he y.st hk hn (h _ s H (.refl y.st) ⟨t, rfl⟩) hd
noncomputable def DenK (g : GC) (C : Cx) (kws : List Keyword) (ns : List Str) (f : List PV → Option (List PV)) : Prop :=
  ∀ env A s H ρ oa Q E pvs pos, EnvOk C env → Room A C.lv → Rel g C env s H ρ oa → f ρ = some pvs →
    (backToKw pos (keywordEach kws env)).filterMap (·.1) = ns ∧ (backToKw pos (keywordEach kws env)).all (·.1.isSome) = true ∧
    ((∀ vs s' H', Ext g s H s' H' → VRelL H' pvs vs → Q vs s') → wpAny (model g.prog g.w) A (evalAll ((backToKw pos (keywordEach kws env)).map (·.2))) Q E s)
theorem DenK.nil : DenK g C [] [] (fun _ => some []) := by
  intro env A s H ρ oa Q E pvs pos he hr x hf
  cases hf
  exact ⟨rfl, rfl, fun h => wpAny_evalAll_nil (h [] s H (.refl x.st) rfl)⟩
theorem DenK.one {n : Str} {e : Expr} {kp : Pos} {f : DE} (h1 : Den g C e f) : DenK g C [⟨some n, e, kp⟩] [n] (fun ρ => (f ρ).map fun a => [a]) := by
  intro env A s H ρ oa Q E pvs pos he hr x hf
  obtain ⟨a, ha, hf⟩ := Option.map_eq_some_iff.mp hf
  subst hf
  refine ⟨rfl, rfl, fun h => ?_⟩
  refine wpAny_evalAll_cons ?_
  show wpAny _ A (do let v ← eval e env; standAt pos; pure v) _ E s
  refine wpAny_bind (h1.bind he hr x ha fun va s1 H1 e1 x1 va1 => wpAny_bind (wpAny_standAt (wpAny_pure (wpAny_evalAll_nil ?_))))
  exact h _ s1 H1 e1 (VRelL.cons va1 (VRelL.nil _))
theorem callFn {env : Env} {A : Around} {s : Shared} {H : HP} {ρ : List PV} {oa : Option Addr} {Q : Value → Shared → Prop} {E : Value → Shared → Prop} {a : Addr} {lv : Nat} {F : List PV → List (Str × PV) → Option PV}
    {e : Expr} {es : List Expr} {kws : List Keyword} {ns : List Str} {f fk : List PV → Option (List PV)} {pvs kvs : List PV} {r : PV} {pos : Pos}
    (he : EnvOk C env) (hr : Room A C.lv) (x : Rel g C env s H ρ oa) (ha : ∀ P, ∃ oc od fd osl, (K0 P).lookup a = some ⟨oc, od, .func fd, osl⟩) (hta : ¬ isTab a) (hF : FnS g a lv F) (hlv : lv ≤ C.lv)
    (h1 : DenL g C (e :: es) f) (hs : ∀ env, starEach (e :: es) env = (false, eval e env) :: starEach es env) (h2 : DenK g C kws ns fk) (hlen : ns.length = kvs.length)
    (hf : f ρ = some pvs) (hk : fk ρ = some kvs) (hFr : F pvs (ns.zip kvs) = some r)
    (h : ∀ v s' H', Ext g s H s' H' → VRel H' r v → Q v s') : wpAny (model g.prog g.w) A (callWith pos (.ref a) [] (backTo pos (starEach (e :: es) env)) (backToKw pos (keywordEach kws env))) Q E s := by
  obtain ⟨oc, od, fd, osl, hK⟩ := ha g.w.params
  have hb : backTo pos (starEach (e :: es) env) = (false, eval e env) :: backTo pos (starEach es env) := by rw [hs]; rfl
  have h0 := h1 env A s H ρ oa (fun vs s1 => wpAny (model g.prog g.w) A (evalAll ((backToKw pos (keywordEach kws env)).map (·.2))) (fun ks s₂ => (s₂.heap.get? a = some ⟨oc, od, .func fd, osl⟩ ∧ Data.func fd = .func fd) ∧ wpAny (model g.prog g.w) A (call (.ref a) ([] ++ vs) (((backToKw pos (keywordEach kws env)).filterMap (·.1)).zip ks)) Q E s₂) E s1) E pvs pos he hr x hf (fun vs s1 H1 e1 hv1 => by
    obtain ⟨k1, k2, k3⟩ := h2 env A s1 H1 ρ oa (fun ks s₂ => (s₂.heap.get? a = some ⟨oc, od, .func fd, osl⟩ ∧ Data.func fd = .func fd) ∧ wpAny (model g.prog g.w) A (call (.ref a) ([] ++ vs) (((backToKw pos (keywordEach kws env)).filterMap (·.1)).zip ks)) Q E s₂) E kvs pos he hr (x.ext e1) hk
    refine k3 fun ks s2 H2 e2 hv2 => ⟨⟨e2.st.keep _ _ (e2.st.base _ _ hta (g.kin _ _ hK)), rfl⟩, ?_⟩
    rw [k1]
    have hl2 : ks.length = kvs.length := hv2.length
    refine hF A s2 H2 pvs vs (ns.zip kvs) (ns.zip ks) Q E r (hr.le hlv) e2.st (VRelL.mono e2.le _ _ hv1) ?_ ?_ hFr fun v s' H' e3 hv => h v s' H' (e1.trans (e2.trans e3)) hv
    · rw [List.map_fst_zip (by omega), List.map_fst_zip (by omega)]
    · rw [List.map_snd_zip (by omega), List.map_snd_zip (by omega)]; exact hv2)
  have hall := (h2 env A s H ρ oa (fun _ _ => True) (fun _ _ => True) kvs pos he hr x hk).2.1
  rw [hb] at h0 ⊢
  exact callWith_function_kw (o := ⟨oc, od, .func fd, osl⟩) (fd := fd) (evalArgs_kw hall h0)
theorem Den.call {x : Str} {a : Addr} {lv : Nat} {F : List PV → List (Str × PV) → Option PV} {e : Expr} {es : List Expr} {kws : List Keyword} {ns : List Str} {f fk : List PV → Option (List PV)} {p pos : Pos}
    (hC : C.ok = true) (hk : C.sc.names.lookup x = some .globalImplicit) (hn : ∀ P, nsIn (K0 P) mainGlobals x = some (some (.ref a)))
    (ha : ∀ P, ∃ oc od fd osl, (K0 P).lookup a = some ⟨oc, od, .func fd, osl⟩) (hF : FnS g a lv F) (h1 : DenL g C (e :: es) f) (h2 : DenK g C kws ns fk) (hlen : ∀ ρ l, fk ρ = some l → ns.length = l.length)
    (hlv : lv ≤ C.lv := by decide) (hta : ¬ isTab a := by unfold isTab; decide)
    (hs : ∀ env, starEach (e :: es) env = (false, eval e env) :: starEach es env := by intro _; rfl) (hd : (x == ("__debug__" : Str)) = false := by decide) :
    Den g C (.Call (.Name x p) (e :: es) kws pos) (fun ρ => (f ρ).bind fun l => (fk ρ).bind fun k => F l (ns.zip k)) := by
  intro env A s H ρ oa Q E pv he hr y hf h
  obtain ⟨l, hl, hf⟩ := Option.bind_eq_some_iff.mp hf
  obtain ⟨k, hkk, hf⟩ := Option.bind_eq_some_iff.mp hf
  refine wpAny_Call_Name_kw (glob_load hC he y.st hk hn ?_ hd)
  exact callFn he hr y ha hta hF hlv h1 hs h2 (hlen ρ k hkk) hl hkk hf h
theorem Den.callVar {x : Str} {a : Addr} {lv : Nat} {f0 : DE} {F : List PV → List (Str × PV) → Option PV} {e : Expr} {es : List Expr} {f : List PV → Option (List PV)} {p pos : Pos}
    (h0 : Den g C (.Name x p) f0) (ha : ∀ P, ∃ oc od fd osl, (K0 P).lookup a = some ⟨oc, od, .func fd, osl⟩) (hF : FnS g a lv F) (h1 : DenL g C (e :: es) f)
    (hlv : lv ≤ C.lv := by decide) (hta : ¬ isTab a := by unfold isTab; decide)
    (hs : ∀ env, starEach (e :: es) env = (false, eval e env) :: starEach es env := by intro _; rfl) :
    Den g C (.Call (.Name x p) (e :: es) [] pos) (fun ρ => (f0 ρ).bind fun c => match c with | .fn b => if b == a then (f ρ).bind fun l => F l [] else none | _ => none) := by
  intro env A s H ρ oa Q E pv he hr y hf h
  obtain ⟨c, hc, hf1⟩ := Option.bind_eq_some_iff.mp hf
  clear hf
  cases c with
  | fn b =>
    dsimp only at hf1
    split at hf1
    · rename_i hba
      have := eq_of_beq hba; subst this
      obtain ⟨l, hl, hf2⟩ := Option.bind_eq_some_iff.mp hf1
      refine wpAny_Call_Name_kw (h0.bind he hr y hc fun v s1 H1 e1 x1 hv => ?_)
      obtain rfl := hv
      exact callFn he hr x1 ha hta hF hlv h1 hs DenK.nil rfl hl rfl hf2 fun v s' H' e2 hv => h v s' H' (e1.trans e2) hv
    · cases hf1
  | _ => cases hf1
noncomputable def OpL (g : GC) (f : Value) (F : List PV → Option PV) : Prop :=
  ∀ A s H ps vs Q E r, Room A 20 → St g s H → VRelL H ps vs → F ps = some r → (∀ v s' H', Ext g s H s' H' → VRel H' r v → Q v s') → wpAny (model g.prog g.w) A (call f vs []) Q E s
theorem Den.callB {x : Str} {b : String} {F : List PV → Option PV} {e : Expr} {es : List Expr} {f : List PV → Option (List PV)} {p pos : Pos}
    (hC : C.ok = true) (hk : C.sc.names.lookup x = some .globalImplicit) (hn : ∀ P, nsIn (K0 P) mainGlobals x = some none) (hb : bootBuiltins x = some (.builtin b)) (hF : OpL g (.builtin b) F)
    (h1 : DenL g C (e :: es) f) (hlv : 20 ≤ C.lv := by decide) (hx : x ≠ Str.ofString "__name__" := by decide +kernel)
    (hs : ∀ env, starEach (e :: es) env = (false, eval e env) :: starEach es env := by intro _; rfl) (hpl : ∀ env, (backTo pos (starEach es env)).any (·.1) = false := by intro _; rfl) (hd : (x == ("__debug__" : Str)) = false := by decide) :
    Den g C (.Call (.Name x p) (e :: es) [] pos) (fun ρ => (f ρ).bind F) := by
  intro env A s H ρ oa Q E pv he hr y hf h
  obtain ⟨l, hl, hf⟩ := Option.bind_eq_some_iff.mp hf
  refine wpAny_Call_Name_kw (blt_load hC he y.st hk hn hb hx ?_ hd)
  refine PyProof.Rows.callWith_builtin1 (h1 env A s H ρ oa _ E l pos he hr y hl fun vs s1 H1 e1 hv => ?_) (hs env) (hpl env)
  exact hF A s1 H1 l vs Q E pv (hr.le hlv) e1.st hv hf fun v s' H' e2 hv => h v s' H' (e1.trans e2) hv
end
theorem lenK_nil : ∀ (ρ l : List PV), (fun _ : List PV => some ([] : List PV)) ρ = some l → ([] : List Str).length = l.length := by intro _ _ h; cases h; rfl
theorem lenK_one {f : DE} {n : Str} : ∀ (ρ l : List PV), (fun ρ => (f ρ).map fun a => [a]) ρ = some l → [n].length = l.length := by
  intro ρ l h
  obtain ⟨a, _, h⟩ := Option.map_eq_some_iff.mp h
  subst h; rfl
noncomputable def atI (ns : List Int) (i : Nat) : Int := ns.getD i 0
theorem atI_of {vs : Array Value} {ns : List Int} (h : IntsAre vs.toList ns) {i : Nat} {v : Value} (e : vs[i]? = some v) : ∃ t, v = Value.int (atI ns i) t := by
  have aux : ∀ {l : List Value} {ns : List Int}, IntsAre l ns → ∀ i v, l[i]? = some v → ∃ t, v = Value.int (atI ns i) t := by
    intro l ns h
    induction h with
    | nil => intro i v e; simp at e
    | cons n t r ih =>
      intro i v e
      cases i with
      | zero => simp at e; subst e; exact ⟨t, rfl⟩
      | succ i => simp at e; exact ih i v e
  exact aux h i v (by simpa using e)
theorem iter_list' {prog : Program} {w : World} {A : Around} {E : Value → Shared → Prop} {s : Shared} {l : Addr} {items : Array Value} {Q : Value → Shared → Prop} (hl : s.heap.IsList l items)
    (h : ∀ s₂ : Shared, s₂ = { s with heap := s.heap.push { cls := .type "list_iterator", data := .fields #[.ref l, .int 0 0] } } →
      (s₂.heap.IsListIter s.heap.objs.size l 0 ∧ s₂.heap.IsList l items) → (∀ b ∈ [s.heap.objs.size, l], b < s₂.heap.objs.size) → l ≠ s.heap.objs.size → Q (.ref s.heap.objs.size) s₂) :
    wpAny (model prog w) A (pyIter (.ref l)) Q E s := by
  have hlt : l < s.heap.objs.size := by obtain ⟨_, e, _⟩ := hl; exact Heap.lt_size e
  refine wpAny_pyIter_list hl (h _ rfl ⟨⟨_, Heap.get?_push_size _ rfl, rfl, rfl⟩, hl.push _⟩ (fun b hb => ?_) (Nat.ne_of_lt hlt))
  show b < (s.heap.push _).objs.size
  rw [Heap.size_push]
  rcases List.mem_cons.mp hb with rfl | hb
  · exact Nat.lt_succ_self _
  · rcases List.mem_cons.mp hb with rfl | hb
    · exact Nat.lt_succ_of_lt hlt
    · cases hb
noncomputable def pLen : List PV → Option PV
  | [.list xs] => if xs.length < 2 ^ 60 then some (.int xs.length) else none
  | [.str x] => if x.length < 2 ^ 60 then some (.int x.length) else none
  | _ => none
noncomputable def pSum : List PV → Option PV
  | [.list xs] => (ints? xs).map fun ns => .int (preSum (atI ns) ns.length)
  | _ => none
noncomputable def minTo (val : Nat → Int) : Nat → Int
  | 0 => val 0
  | k + 1 => if val (k + 1) < minTo val k then val (k + 1) else minTo val k
noncomputable def pMin : List PV → Option PV
  | [.list xs] => (ints? xs).bind fun ns => if 0 < ns.length then some (.int (minTo (atI ns) (ns.length - 1))) else none
  | [.int a, .int b] => some (.int (if b < a then b else a))
  | _ => none
noncomputable def pDivmod : List PV → Option PV
  | [.int a, .int b] => if b ≠ 0 ∧ b.natAbs < 2 ^ 8000 then some (.tup [.int (a.fdiv b), .int (a.fmod b)]) else none
  | _ => none
noncomputable def insI (x : Int) : List Int → List Int
  | [] => [x]
  | y :: r => if x ≤ y then x :: y :: r else y :: insI x r
noncomputable def isort : List Int → List Int
  | [] => []
  | x :: r => insI x (isort r)
noncomputable def pSortI : List PV → Option PV
  | [.list xs] => (ints? xs).bind fun ns => if ns.length < 64 then some (.list ((isort ns).map .int)) else none
  | _ => none
theorem insI_perm (x : Int) : ∀ l, (insI x l).Perm (x :: l)
  | [] => .refl _
  | y :: r => by
    unfold insI
    split
    · exact .refl _
    · exact ((insI_perm x r).cons y).trans (.swap x y r)
theorem isort_perm : ∀ l, (isort l).Perm l
  | [] => .refl _
  | x :: r => (insI_perm x _).trans ((isort_perm r).cons x)
theorem insI_sorted (x : Int) : ∀ l, l.Pairwise (· ≤ ·) → (insI x l).Pairwise (· ≤ ·)
  | [], _ => by simp [insI]
  | y :: r, h => by
    unfold insI
    have ⟨h1, h2⟩ := List.pairwise_cons.mp h
    split
    · rename_i hxy
      exact List.pairwise_cons.mpr ⟨fun z hz => by
        rcases List.mem_cons.mp hz with rfl | hz
        · exact hxy
        · exact Int.le_trans hxy (h1 z hz), h⟩
    · rename_i hxy
      refine List.pairwise_cons.mpr ⟨fun z hz => ?_, insI_sorted x r h2⟩
      rcases List.mem_cons.mp ((insI_perm x r).mem_iff.mp hz) with rfl | hz
      · omega
      · exact h1 z hz
theorem isort_sorted : ∀ l, (isort l).Pairwise (· ≤ ·)
  | [] => .nil
  | x :: r => insI_sorted x _ (isort_sorted r)
theorem minTo_arg (val : Nat → Int) : ∀ k, val (argBest (fun i j => decide (val i < val j)) k) = minTo val k
  | 0 => rfl
  | k + 1 => by
    unfold argBest minTo
    rw [← minTo_arg val k]
    by_cases h : val (k + 1) < val (argBest (fun i j => decide (val i < val j)) k)
    · rw [if_pos h, if_pos (by simpa using h)]
    · rw [if_neg h, if_neg (by simpa using h)]
theorem VRelL.two {H : HP} {p q : PV} {vs : List Value} (h : VRelL H [p, q] vs) : ∃ v w, vs = [v, w] ∧ VRel H p v ∧ VRel H q w := by
  obtain ⟨v, r, rfl, h1, w, r2, rfl, h2, e⟩ := h
  exact ⟨v, w, by rw [show r2 = [] from e], h1, h2⟩
theorem VRelL.one {H : HP} {p : PV} {vs : List Value} (h : VRelL H [p] vs) : ∃ v, vs = [v] ∧ VRel H p v := by
  obtain ⟨v, r, rfl, h1, e⟩ := h
  exact ⟨v, by rw [show r = [] from e], h1⟩
theorem intsAre_rel {H : HP} : ∀ {vs : List Value} {ns : List Int}, IntsAre vs ns → VRelL H (ns.map .int) vs
  | _, _, .nil => rfl
  | _, _, .cons n t r => VRelL.cons ⟨t, rfl⟩ (intsAre_rel r)
section
variable (g : GC)
theorem len_op : OpL g (.builtin "len") pLen := by
  intro A s H ps vs Q E r hr st hv hf hq
  unfold pLen at hf
  split at hf
  · split at hf
    · rename_i xs hlt
      cases hf
      obtain ⟨v, rfl, h1⟩ := hv.one
      obtain ⟨l, n, its, d, sl, rfl, hl, hv2⟩ := seq_at st h1
      have hsz : its.size = xs.length := by have := hv2.length; rw [Array.length_toList] at this; exact this
      refine Calls.call_len_list ⟨_, hl, rfl, n, rfl⟩ (by rw [hsz]; omega) ?_
      rw [hsz]
      exact hq _ _ _ (.toks st) ⟨_, rfl⟩
    · cases hf
  · split at hf
    · rename_i x hlt
      cases hf
      obtain ⟨v, rfl, t, rfl⟩ := hv.one
      refine PySem.P.len_str (by show ¬ ((x.toArray.size : Nat) : Int) ≥ 2 ^ 63; simp; omega) ?_
      exact hq _ _ _ (.toks st) ⟨s.toks + 1, by simp [PySem.Str.length]⟩
    · cases hf
  · cases hf
theorem sum_op : OpL g (.builtin "sum") pSum := by
  intro A s H ps vs Q E r hr st hv hf hq
  unfold pSum at hf
  split at hf
  · obtain ⟨ns, hns, hf⟩ := Option.map_eq_some_iff.mp hf
    subst hf
    obtain ⟨v, rfl, h1⟩ := hv.one
    obtain ⟨l, n, its, d, sl, rfl, hl, hv2⟩ := seq_at st h1
    have hI := intsAre_of hns hv2
    have hsz : its.size = ns.length := by have := hI.length; rw [Array.length_toList] at this; exact this
    refine call_sum_walkG (iter_list' ⟨_, hl, rfl, n, rfl⟩ fun s₂ e st2 hfp hlI => ?_)
    subst e
    refine ⟨_, _, _, _, _, _, atI ns, rfl, Walks.list (A := A.in1) hr.hh _ l hlI its, st2, hfp, (fun i v e => atI_of hI e), fun h' tk t' hk => ?_⟩
    rw [hsz]
    exact hq _ _ _ (.kept st (old_kept hk)) ⟨t', rfl⟩
  · cases hf
theorem min_op : OpL g (.builtin "min") pMin := by
  intro A s H ps vs Q E r hr st hv hf hq
  unfold pMin at hf
  split at hf
  · obtain ⟨ns, hns, hf⟩ := Option.bind_eq_some_iff.mp hf
    split at hf
    · rename_i hpos
      cases hf
      obtain ⟨v, rfl, h1⟩ := hv.one
      obtain ⟨l, n, its, d, sl, rfl, hl, hv2⟩ := seq_at st h1
      have hI := intsAre_of hns hv2
      have hsz : its.size = ns.length := by have := hI.length; rw [Array.length_toList] at this; exact this
      refine call_min_walk (iter_list' ⟨_, hl, rfl, n, rfl⟩ fun s₂ e st2 hfp hlI => ?_)
      subst e
      refine ⟨_, _, _, _, _, _, _, rfl, Walks.list (A := A.in1) hr.hh _ l hlI its, st2, hfp, by rw [hsz]; exact hpos, CmpOf.ints_lt (atI ns) (fun i v e => atI_of hI e), fun v h' tk hP hk => ?_⟩
      obtain ⟨t, rfl⟩ := atI_of hI hP
      rw [hsz, minTo_arg (atI ns)]
      exact hq _ _ _ (.kept st (old_kept hk)) ⟨t, rfl⟩
    · cases hf
  · cases hf
    obtain ⟨v, w, rfl, ⟨t, rfl⟩, u, rfl⟩ := hv.two
    refine min_two_ints hr.hh fun h' tk hk => ?_
    refine hq _ _ _ (.kept st hk) ?_
    rename_i a b
    by_cases c : b < a
    · rw [if_pos c, if_pos c]; exact ⟨u, rfl⟩
    · rw [if_neg c, if_neg c]; exact ⟨t, rfl⟩
  · cases hf
theorem divmod_op : OpL g (.builtin "divmod") pDivmod := by
  intro A s H ps vs Q E r hr st hv hf hq
  unfold pDivmod at hf
  split at hf
  · split at hf
    · rename_i hm
      cases hf
      obtain ⟨v, w, rfl, ⟨t, rfl⟩, u, rfl⟩ := hv.two
      refine divmod_int hm.1 ?_ (.inl (PyProof.noPylong_of_log2 ?_))
      · exact hq _ _ _ (push_seq st) (push_tup st (VRelL.cons ⟨_, rfl⟩ (VRelL.cons ⟨_, rfl⟩ rfl)))
      · have := (Nat.log2_lt (by have := hm.1; omega)).mpr hm.2
        omega
    · cases hf
  · cases hf
theorem sortI_op : OpL g (.builtin "sorted") pSortI := by
  intro A s H ps vs Q E r hr st hv hf hq
  unfold pSortI at hf
  split at hf
  · obtain ⟨ns, hns, hf⟩ := Option.bind_eq_some_iff.mp hf
    split at hf
    · rename_i h64
      cases hf
      obtain ⟨v, rfl, h1⟩ := hv.one
      obtain ⟨l, n, its, d, sl, rfl, hl, hv2⟩ := seq_at st h1
      have hI := intsAre_of hns hv2
      have hsz : its.toList.length = ns.length := hI.length
      refine sorted_ints (vs := its.toList) ⟨_, hl, rfl, n, by simp⟩ hI (by rw [hsz]; exact h64) fun out ns' a1 a2 a3 => ?_
      obtain ⟨e, he⟩ := sortedAll_at s.heap its.toList out
      have hns' : ns' = isort ns := List.Perm.eq_of_pairwise (fun a b _ _ h1 h2 => Int.le_antisymm h1 h2) a3 (isort_sorted ns) (a2.trans (isort_perm ns).symm)
      subst hns'
      have hf := Ext.freeze (tk := s.toks) st (fun b o => sortedAll_old) (freshAt (Nat.le_succ _)) he
      exact hq _ _ _ hf ⟨_, _, out, e, rfl, hput_self .., rfl, rfl, intsAre_rel a1⟩
    · cases hf
  · cases hf
end
noncomputable def pItem : PV → PV → Option PV
  | .list xs, .int i => if -(2 ^ 63) ≤ i ∧ i < 2 ^ 63 then (seqIndex? i xs.length).bind (xs[·]?) else none
  | .tup xs, .int i => if -(2 ^ 63) ≤ i ∧ i < 2 ^ 63 then (seqIndex? i xs.length).bind (xs[·]?) else none
  | .str x, .int i => if -(2 ^ 63) ≤ i ∧ i < 2 ^ 63 then ((seqIndex? i x.length).bind (x[·]?)).map fun c => .str [c] else none
  | _, _ => none
noncomputable def cut {α : Type} (xs : List α) (lo hi : Option Int) : List α :=
  (xs.drop (lo.elim 0 (clipAt xs.length))).take (hi.elim xs.length (clipAt xs.length) - lo.elim 0 (clipAt xs.length))
noncomputable def pickL {α : Type} (xs : List α) (l : List Nat) : List α := l.filterMap (xs[·]?)
noncomputable def pPart : PV → Option (Option Int)
  | .none => some none
  | .int i => some (some i)
  | _ => none
noncomputable def pSlice : PV → PV → PV → Option PV
  | .list xs, l, u => (pPart l).bind fun lo => (pPart u).bind fun hi => if xs.length ≤ 1000000 then some (.list (cut xs lo hi)) else none
  | .str x, l, u => (pPart l).bind fun lo => (pPart u).bind fun hi => if x.length ≤ 1000000 then some (.str (cut x lo hi)) else none
  | _, _, _ => none
noncomputable def pSliceSt : PV → PV → PV → Int → Option PV
  | .list xs, l, u, st => (pPart l).bind fun lo => (pPart u).bind fun hi => if xs.length ≤ 1000000 ∧ st ≠ 0 then
      some (.list (pickL xs (sliceRange (sliceBounds lo hi (some st) xs.length).1 (sliceBounds lo hi (some st) xs.length).2.1 (sliceBounds lo hi (some st) xs.length).2.2))) else none
  | _, _, _, _ => none
theorem pickL_rel {H : HP} {xs : List PV} {vs : List Value} (h : VRelL H xs vs) : ∀ l : List Nat, VRelL H (pickL xs l) (pickL vs l)
  | [] => rfl
  | i :: r => by
    unfold pickL
    rw [List.filterMap_cons, List.filterMap_cons]
    cases e : xs[i]? with
    | none =>
      have : vs[i]? = none := by rw [List.getElem?_eq_none_iff] at e ⊢; rw [h.length]; exact e
      rw [this]; exact pickL_rel h r
    | some p =>
      obtain ⟨v, e2, hv⟩ := h.get e
      rw [e2]; exact VRelL.cons hv (pickL_rel h r)
theorem cut_rel {H : HP} {xs : List PV} {vs : List Value} (h : VRelL H xs vs) (lo hi : Option Int) : VRelL H (cut xs lo hi) (cut vs lo hi) := by
  unfold cut
  rw [h.length]
  exact (h.drop _).take _
theorem isPart_of {H : HP} {p : PV} {v : Value} {o : Option Int} (hv : VRel H p v) (h : pPart p = some o) : IsPart v o := by
  unfold pPart at h
  split at h
  · cases h; obtain rfl := hv; exact .none
  · cases h; obtain ⟨t, rfl⟩ := hv; exact .int _ t
  · cases h
theorem partValue_of {H : HP} {p : PV} {v : Value} {o : Option Int} (hv : VRel H p v) (h : pPart p = some o) : ∃ q : Option (Int × Tok), q.map (·.1) = o ∧ partValue q = v := by
  unfold pPart at h
  split at h
  · cases h; obtain rfl := hv; exact ⟨none, rfl, rfl⟩
  · cases h; obtain ⟨t, rfl⟩ := hv; exact ⟨some (_, t), rfl, rfl⟩
  · cases h
theorem strIdx_cut (x : List Nat) (lo hi : Option Int) : ((Builtin.Str.strSliceIndices lo hi 1 x.length).filterMap (x.toArray[·]?)) = cut x lo hi := by
  have e : Builtin.Str.strSliceIndices lo hi 1 x.length = sliceRange (sliceBounds lo hi none x.length).1 (sliceBounds lo hi none x.length).2.1 1 := rfl
  rw [e, sliceBounds_plain]
  simp only [sliceRange_one, pick_run]
  rfl
section
variable {g : GC}
theorem item_any {value slice : Expr} {A : Around} {s : Shared} {H : HP} {va vi : Value} {a i : PV} {Q : Value → Shared → Prop} {E : Value → Shared → Prop} {r : PV} (st : St g s H)
    (hs : ∀ o i, subscripted slice false o i = operate [o, i] (getItem o i)) (ha : VRel H a va) (hi : VRel H i vi) (hf : pItem a i = some r) (h : ∀ v s' H', Ext g s H s' H' → VRel H' r v → Q v s') :
    wpAny (model g.prog g.w) A (subscriptTail value slice va vi) Q E s := by
  unfold pItem at hf
  split at hf
  · rename_i xs i
    split at hf
    · rename_i hb
      obtain ⟨j, hj, hf⟩ := Option.bind_eq_some_iff.mp hf
      obtain ⟨t, rfl⟩ := hi
      obtain ⟨l, n, its, d, sl, rfl, hl, hv2⟩ := seq_at st ha
      obtain ⟨v, hv, hvr⟩ := hv2.get hf
      have hL : s.heap.IsList l its := ⟨_, hl, rfl, n, rfl⟩
      have hsz : its.size = xs.length := by have := hv2.length; rw [Array.length_toList] at this; exact this
      refine tail_any hL.typeIs slot_list_getitem.lookup ?_ (hs _ _)
      have hv' : its[j]? = some v := by simpa using hv
      by_cases h0 : 0 ≤ i
      · have : j = i.toNat := by
          unfold seqIndex? at hj
          simp only [show ¬ i < 0 by omega, if_false] at hj
          split at hj
          · cases hj; rfl
          · cases hj
        subst this
        exact wpAny_getItem_list hL h0 hb.2 hv' (h v s H (.refl st) hvr)
      · have hj0 := hj
        unfold seqIndex? at hj
        simp only [show i < 0 by omega, if_true] at hj
        split at hj
        · rename_i hc
          simp only [Bool.and_eq_true, decide_eq_true_eq] at hc
          cases hj
          refine wpAny_getItem_list_neg hL (by omega) (by omega) hb.1 ?_ (h v s H (.refl st) hvr)
          rw [hsz]; exact hv'
        · cases hj
    · cases hf
  · rename_i xs i
    split at hf
    · rename_i hb
      obtain ⟨j, hj, hf⟩ := Option.bind_eq_some_iff.mp hf
      obtain ⟨t, rfl⟩ := hi
      obtain ⟨l, n, its, d, sl, rfl, hl, hv2⟩ := seq_at st ha
      obtain ⟨v, hv, hvr⟩ := hv2.get hf
      have hsz : its.size = xs.length := by have := hv2.length; rw [Array.length_toList] at this; exact this
      have hT : IsTup s.heap l its := ⟨_, hl, rfl, n, rfl⟩
      refine tail_any (T := "tuple") ⟨_, hl, rfl⟩ slot_tuple_getitem.lookup ?_ (hs _ _)
      exact PyProof.Rows.getItem_tuple hT hb.1 hb.2 (by rw [hsz]; exact hj) (by simpa using hv) (h v s H (.refl st) hvr)
    · cases hf
  · rename_i x i
    split at hf
    · rename_i hb
      obtain ⟨c, hj, hf⟩ := Option.map_eq_some_iff.mp hf
      subst hf
      obtain ⟨u, rfl⟩ := hi
      obtain ⟨t, rfl⟩ := ha
      refine tail_any (typeIs_str s ⟨x.toArray⟩ t) slot_str_getitem.lookup ?_ (hs _ _)
      refine PyProof.Rows.getItem_str (c := c) (by simp; omega) (by simpa [PySem.Str.length] using hj) ?_
      exact h _ _ _ (.toks st) ⟨_, rfl⟩
    · cases hf
  · cases hf
variable {C : Cx}
theorem Den.item {value slice : Expr} {pos : Pos} {f1 f2 : DE} (h1 : Den g C value f1) (h2 : Den g C slice f2)
    (hs : ∀ o i, subscripted slice false o i = operate [o, i] (getItem o i) := by intro _ _; rfl) :
    Den g C (.Subscript value slice pos) (fun ρ => (f1 ρ).bind fun a => (f2 ρ).bind fun b => pItem a b) := by
  intro env A s H ρ oa Q E pv he hr x hf h
  obtain ⟨a, ha, hf⟩ := Option.bind_eq_some_iff.mp hf
  obtain ⟨b, hb, hf⟩ := Option.bind_eq_some_iff.mp hf
  refine Subscript_ (h1.bind he hr x ha fun va s1 H1 e1 x1 va1 => h2.bind he hr x1 hb fun vb s2 H2 e2 x2 vb2 => ?_)
  exact item_any x2.st hs (VRel.mono e2.le _ _ va1) vb2 hf fun v s' H' e hv => h v s' H' (e1.trans (e2.trans e)) hv
noncomputable def DenP (g : GC) (C : Cx) (e : Option Expr) (f : DE) : Prop :=
  ∀ env A s H ρ oa Q E pv, EnvOk C env → Room A C.lv → Rel g C env s H ρ oa → f ρ = some pv →
    (∀ v s' H', Ext g s H s' H' → VRel H' pv v → Q v s') → wpAny (model g.prog g.w) A (evalPart e env) Q E s
theorem DenP.none : DenP g C none (fun _ => some .none) := by
  intro env A s H ρ oa Q E pv he hr x hf h
  cases hf
  exact wpAny_pure (h _ s H (.refl x.st) rfl)
theorem DenP.some {e : Expr} {f : DE} (h1 : Den g C e f) : DenP g C (some e) f := h1
theorem push_kept {s : Shared} {H : HP} (st : St g s H) (o : Obj) (tk : Nat) : Ext g s H { s with heap := s.heap.push o, toks := tk } H := Ext.kept st fun b o' e => Heap.get?_push_of_some _ e
theorem slice_any {value : Expr} {lower upper : Option Expr} {p : Pos} {A : Around} {s : Shared} {H : HP} {va vl vu : Value} {a l u : PV} {Q : Value → Shared → Prop} {E : Value → Shared → Prop} {r : PV} (st : St g s H)
    (ha : VRel H a va) (hl : VRel H l vl) (hu : VRel H u vu) (hf : pSlice a l u = some r) (h : ∀ v s' H', Ext g s H s' H' → VRel H' r v → Q v s') :
    wpAny (model g.prog g.w) A (subscriptTail value (.Slice lower upper Option.none p) va (.ref s.heap.objs.size)) Q E { s with heap := s.heap.push { cls := .type "slice", data := .fields #[vl, vu, .none] } } := by
  have e4 := push_kept st { cls := .type "slice", data := .fields #[vl, vu, .none] } s.toks
  unfold pSlice at hf
  split at hf
  · rename_i xs
    obtain ⟨lo, hlo, hf2⟩ := Option.bind_eq_some_iff.mp hf
    obtain ⟨hi, hhi, hf3⟩ := Option.bind_eq_some_iff.mp hf2
    clear hf hf2
    split at hf3
    · rename_i hsz
      cases hf3
      obtain ⟨al, n, its, d, sl, rfl, hll, hv2⟩ := seq_at e4.st ha
      have hL : (s.heap.push { cls := .type "slice", data := .fields #[vl, vu, .none] }).IsList al its := ⟨_, hll, rfl, n, rfl⟩
      have hsz' : its.size = xs.length := by have := hv2.length; rw [Array.length_toList] at this; exact this
      refine tail_any (T := "list") ⟨_, hll, rfl⟩ slot_list_getitem.lookup ?_ rfl
      refine wpAny_getItem_list_slice (lo := lo) (hi := hi) (st := Option.none) hL (Heap.IsSliceOf.new ..) (isPart_of hl hlo) (isPart_of hu hhi) .none (by simp) ?_ (by rw [hsz']; exact Nat.le_trans hsz (by unfold sizeLine; decide))
      rw [slicePick_plain]
      refine h _ _ _ (e4.trans (push_seq e4.st)) (push_list e4.st ?_)
      have := cut_rel hv2 lo hi
      unfold cut at this ⊢
      simpa using this
    · cases hf3
  · rename_i y
    obtain ⟨lo, hlo, hf2⟩ := Option.bind_eq_some_iff.mp hf
    obtain ⟨hi, hhi, hf3⟩ := Option.bind_eq_some_iff.mp hf2
    clear hf hf2
    have hsz : y.length ≤ 1000000 := by
      split at hf3
      · assumption
      · cases hf3
    rw [if_pos hsz] at hf3
    cases hf3
    obtain ⟨t, rfl⟩ := ha
    obtain ⟨ql, hql, rfl⟩ := partValue_of hl hlo
    obtain ⟨qu, hqu, rfl⟩ := partValue_of hu hhi
    refine tail_any (T := "str") (typeIs_str _ _ t) slot_str_getitem.lookup ?_ rfl
    refine wpAny_getItem_str_slice (l := ql) (u := qu) (st := Option.none) ⟨_, Heap.get?_push_size _ rfl, rfl, rfl⟩ rfl ?_
    have hp : (slicePicked ⟨y.toArray⟩ ql qu Option.none).filterMap ((⟨y.toArray⟩ : Str).cps[·]?) = cut y lo hi := by
      rw [← hql, ← hqu]; exact strIdx_cut y _ _
    unfold sliceMade
    split
    · rename_i hw
      refine h _ _ _ e4 ⟨t, ?_⟩
      simp only [Option.map_none, Option.getD_none, BEq.rfl, Bool.true_and, beq_iff_eq] at hw
      have hlen : (cut y lo hi).length = y.length := by
        have : ∀ i ∈ slicePicked ⟨y.toArray⟩ ql qu Option.none, ((⟨y.toArray⟩ : Str).cps[i]?).isSome := by
          intro i hi
          have e : slicePicked ⟨y.toArray⟩ ql qu Option.none = sliceRange (sliceBounds (ql.map (·.1)) (qu.map (·.1)) Option.none y.length).1 (sliceBounds (ql.map (·.1)) (qu.map (·.1)) Option.none y.length).2.1 1 := rfl
          rw [e, sliceBounds_plain] at hi
          simp only [sliceRange_one] at hi
          obtain ⟨k, hk, rfl⟩ := List.mem_map.mp hi
          rw [List.mem_range] at hk
          have : (qu.map (·.1)).elim y.length (clipAt y.length) ≤ y.length := by
            cases qu with
            | none => exact Nat.le_refl _
            | some q => show clipAt y.length q.1 ≤ _; have := clipAt_cast y.length q.1; omega
          have hlt : (Option.map (fun x => x.1) ql).elim 0 (clipAt y.length) + k < y.length := by omega
          rw [Array.getElem?_eq_getElem (by simpa using hlt)]; rfl
        rw [← hp]
        have h2 : ∀ (l : List Nat) (f : Nat → Option Nat), (∀ i ∈ l, (f i).isSome) → (l.filterMap f).length = l.length := by
          intro l f
          induction l with
          | nil => intro _; rfl
          | cons a r ih =>
            intro hh
            obtain ⟨b, hb⟩ := Option.isSome_iff_exists.mp (hh a (List.mem_cons_self ..))
            rw [List.filterMap_cons, hb]
            show (List.filterMap f r).length + 1 = _
            rw [ih fun i hi => hh i (List.mem_cons_of_mem _ hi), List.length_cons]
        rw [h2 _ _ this, hw]; simp [PySem.Str.length]
      have hcut : cut y lo hi = y := by
        unfold cut at hlen ⊢
        rw [List.length_take, List.length_drop] at hlen
        by_cases hy : y = []
        · subst hy; simp
        · have : 0 < y.length := List.length_pos_iff.mpr hy
          have h0 : lo.elim 0 (clipAt y.length) = 0 := by omega
          rw [h0, List.drop_zero, List.take_of_length_le (by omega)]
      rw [hcut]
    · rw [hp]
      have e6 := e4.trans (Ext.toks (tk := s.toks + 1) e4.st)
      have h7 := h (.str ⟨(cut y lo hi).toArray⟩ s.toks) _ _ e6 ⟨_, rfl⟩
      unfold Made.post
      refine ⟨?_, h7⟩
      have : (cut y lo hi).length ≤ y.length := by unfold cut; rw [List.length_take, List.length_drop]; omega
      simp only [PySem.Str.length, List.size_toArray, sizeLine]; omega
  · cases hf
theorem sliceSt_any {value st : Expr} {lower upper : Option Expr} {p : Pos} {A : Around} {s : Shared} {H : HP} {va vl vu : Value} {k : Int} {t : Tok} {a l u : PV} {Q : Value → Shared → Prop} {E : Value → Shared → Prop} {r : PV} (hst : St g s H)
    (ha : VRel H a va) (hl : VRel H l vl) (hu : VRel H u vu) (hf : pSliceSt a l u k = some r) (h : ∀ v s' H', Ext g s H s' H' → VRel H' r v → Q v s') :
    wpAny (model g.prog g.w) A (subscriptTail value (.Slice lower upper (Option.some st) p) va (.ref s.heap.objs.size)) Q E { s with heap := s.heap.push { cls := .type "slice", data := .fields #[vl, vu, .int k t] } } := by
  have e4 := push_kept hst { cls := .type "slice", data := .fields #[vl, vu, .int k t] } s.toks
  unfold pSliceSt at hf
  split at hf
  · rename_i xs
    obtain ⟨lo, hlo, hf2⟩ := Option.bind_eq_some_iff.mp hf
    obtain ⟨hi, hhi, hf3⟩ := Option.bind_eq_some_iff.mp hf2
    clear hf hf2
    split at hf3
    · rename_i hsz
      cases hf3
      obtain ⟨al, n, its, d, sl, rfl, hll, hv2⟩ := seq_at e4.st ha
      have hL : (s.heap.push { cls := .type "slice", data := .fields #[vl, vu, .int k t] }).IsList al its := ⟨_, hll, rfl, n, rfl⟩
      have hsz' : its.size = xs.length := by have := hv2.length; rw [Array.length_toList] at this; exact this
      refine tail_any (T := "list") ⟨_, hll, rfl⟩ slot_list_getitem.lookup ?_ rfl
      refine wpAny_getItem_list_slice (lo := lo) (hi := hi) (st := Option.some k) hL (Heap.IsSliceOf.new ..) (isPart_of hl hlo) (isPart_of hu hhi) (.int _ _) (fun q => hsz.2 (Option.some.inj q)) ?_ (by rw [hsz']; exact Nat.le_trans hsz.1 (by unfold sizeLine; decide))
      refine h _ _ _ (e4.trans (push_seq e4.st)) (push_list e4.st ?_)
      have := pickL_rel hv2 (sliceRange (sliceBounds lo hi (Option.some k) xs.length).1 (sliceBounds lo hi (Option.some k) xs.length).2.1 (sliceBounds lo hi (Option.some k) xs.length).2.2)
      unfold slicePick
      rw [hsz']
      unfold pickL at this ⊢
      simpa using this
    · cases hf3
  · cases hf
theorem Den.slice {value : Expr} {lower upper : Option Expr} {p pos : Pos} {f1 fl fu : DE} (h1 : Den g C value f1) (hl : DenP g C lower fl) (hu : DenP g C upper fu) :
    Den g C (.Subscript value (.Slice lower upper Option.none p) pos) (fun ρ => (f1 ρ).bind fun a => (fl ρ).bind fun l => (fu ρ).bind fun u => pSlice a l u) := by
  intro env A s H ρ oa Q E pv he hr x hf h
  obtain ⟨a, ha, hf⟩ := Option.bind_eq_some_iff.mp hf
  obtain ⟨l, hl', hf⟩ := Option.bind_eq_some_iff.mp hf
  obtain ⟨u, hu', hf⟩ := Option.bind_eq_some_iff.mp hf
  refine Subscript_ (h1.bind he hr x ha fun va s1 H1 e1 x1 va1 => wpAny_Slice (hl env A s1 H1 ρ oa _ E l he hr x1 hl' fun vl s2 H2 e2 hvl => hu env A s2 H2 ρ oa _ E u he hr (x1.ext e2) hu' fun vu s3 H3 e3 hvu => wpAny_pure ?_))
  exact slice_any e3.st (VRel.mono e3.le _ _ (VRel.mono e2.le _ _ va1)) (VRel.mono e3.le _ _ hvl) hvu hf fun v s' H' e hv => h v s' H' (e1.trans (e2.trans (e3.trans e))) hv
theorem Den.sliceSt {value : Expr} {lower upper : Option Expr} {k : Int} {kk : Nat} {kp p pos : Pos} {f1 fl fu : DE} (h1 : Den g C value f1) (hl : DenP g C lower fl) (hu : DenP g C upper fu) :
    Den g C (.Subscript value (.Slice lower upper (Option.some (.Constant (.int k) kk kp)) p) pos) (fun ρ => (f1 ρ).bind fun a => (fl ρ).bind fun l => (fu ρ).bind fun u => pSliceSt a l u k) := by
  intro env A s H ρ oa Q E pv he hr x hf h
  obtain ⟨a, ha, hf⟩ := Option.bind_eq_some_iff.mp hf
  obtain ⟨l, hl', hf⟩ := Option.bind_eq_some_iff.mp hf
  obtain ⟨u, hu', hf⟩ := Option.bind_eq_some_iff.mp hf
  refine Subscript_ (h1.bind he hr x ha fun va s1 H1 e1 x1 va1 => wpAny_Slice (hl env A s1 H1 ρ oa _ E l he hr x1 hl' fun vl s2 H2 e2 hvl => hu env A s2 H2 ρ oa _ E u he hr (x1.ext e2) hu' fun vu s3 H3 e3 hvu => ?_))
  refine (show wpAny (model g.prog g.w) A (eval (.Constant (.int k) kk kp) env) _ E s3 from wpAny_Constant_int ?_)
  have e3' : Ext g s2 H2 { s3 with toks := s3.toks + 1 } H3 := e3.trans (Ext.toks e3.st)
  exact sliceSt_any e3'.st (VRel.mono e3'.le _ _ (VRel.mono e2.le _ _ va1)) (VRel.mono e3'.le _ _ hvl) hvu hf fun v s' H' e hv => h v s' H' (e1.trans (e2.trans (e3'.trans e))) hv
end
structure ExtW (g : GC) (wr : List Addr) (gw : List Nat) (s : Shared) (H : HP) (s' : Shared) (H' : HP) : Prop where
  st : St g s' H'
  le : HLe H H'
  old : ∀ a o, a ∉ wr → ¬ isTab a → s.heap.get? a = some o → s'.heap.get? a = some o
  fresh : ∀ a o, H' a = some o → H a = some o ∨ s.heap.get? a = none
  same : ∃ h' g' tk, s' = { s with heap := h', gens := g', toks := tk }
  gens : ∀ (i : Nat) (x : GenState), i ∉ gw → s.gens[i]? = some x → s'.gens[i]? = some x
structure WrOk (wr : List Addr) (H : HP) : Prop where
  none : ∀ b ∈ wr, H b = none
  notab : ∀ b ∈ wr, ¬ isTab b
theorem ExtW.step {g : GC} {wr : List Addr} {gw : List Nat} {s : Shared} {H : HP} {h' : Heap} {tk : Nat} (st : St g s H) (hw : WrOk wr H) (k : ∀ b o, b ∉ wr → s.heap.get? b = some o → h'.get? b = some o) : ExtW g wr gw s H { s with heap := h', toks := tk } H :=
  ⟨⟨fun a o e => k a o (fun q => by rw [hw.none a q] at e; cases e) (st.keep a o e), st.base, st.tab.moves (.refl _) fun a o t e => k a o (fun q => hw.notab a q t) e, st.notab, st.bare⟩, .refl _, fun a o h _ e => k a o h e, fun _ _ e => .inl e, ⟨_, _, _, rfl⟩, fun _ _ _ e => e⟩
theorem ExtW.freeze {g : GC} {wr : List Addr} {gw : List Nat} {s s' : Shared} {H : HP} {a : Addr} {o : Obj} (st : St g s H) (x : ExtW g wr gw s H s' H) (hn : s.heap.get? a = none) (ha : s'.heap.get? a = some o) : ExtW g wr gw s H s' (hput H a o) := by
  have hH : H a = none := by
    cases q : H a with
    | none => rfl
    | some o' => rw [st.keep a o' q] at hn; cases hn
  have hnt : ¬ isTab a := fun t => by obtain ⟨o', e, _⟩ := tab_some st.tab t; rw [e] at hn; cases hn
  refine ⟨⟨fun b o' e => ?_, fun b o' ht e => hput_le hH b o' (x.st.base b o' ht e), x.st.tab.moves (hput_le hH) (fun _ _ _ e => e), fun b t => ?_, x.st.bare⟩, hput_le hH, x.old, fun b o' e => ?_, x.same, x.gens⟩
  · unfold hput at e
    split at e
    · rename_i q; subst q; cases e; exact ha
    · exact x.st.keep b o' e
  · show (if b = a then some o else H b) = Option.none
    rw [if_neg (fun q : b = a => hnt (q ▸ t))]; exact x.st.notab b t
  · unfold hput at e
    split at e
    · rename_i q; subst q; exact .inr hn
    · exact .inl e
structure IterOk (g : GC) (A : Around) (I : Addr) (wr : List Addr) (gw : List Nat) (tgt : Expr) (T : Nat → HP → Shared → Prop) (items : List PV) : Prop where
  frame : ∀ i H H' (s s' : Shared), T i H s → HLe H H' → (∀ b ∈ wr, ∀ o, s.heap.get? b = some o → s'.heap.get? b = some o) → (∀ j ∈ gw, ∀ x, s.gens[j]? = some x → s'.gens[j]? = some x) → St g s' H' → T i H' s'
  live : ∀ i H (s : Shared), T i H s → ∀ b ∈ wr, ∃ o, s.heap.get? b = some o
  turn : ∀ i (s : Shared) H (Q : Value → Shared → Prop) (E : Value → Shared → Prop) p, items[i]? = some p → St g s H → T i H s → WrOk wr H →
    (∀ v s' H', ExtW g wr gw s H s' H' → T (i + 1) H' s' → VRel H' p v → Q v s') →
    wpAny (model g.prog g.w) A (pyNext (.ref I)) (fun r s₁ => ∃ v, r = some v ∧ wpAny (model g.prog g.w) A (letOwnedTupleGo tgt (.ref I) v) (fun _ s₂ => Q v s₂) E s₁) E s
  done : ∀ (s : Shared) H (Q : Option Value → Shared → Prop) (E : Value → Shared → Prop), St g s H → T items.length H s → WrOk wr H →
    (∀ s' H', ExtW g wr gw s H s' H' → Q none s') → wpAny (model g.prog g.w) A (pyNext (.ref I)) Q E s
  self : ∀ (s : Shared) H (Q : Value → Shared → Prop) (E : Value → Shared → Prop), St g s H → T 0 H s → Q (.ref I) s → wpAny (model g.prog g.w) A (pyIter (.ref I)) Q E s
noncomputable def WalkT (fp wr : List Addr) (H0 : HP) (T0 : Nat → Heap → Prop) (i : Nat) (H : HP) (s : Shared) : Prop := T0 i s.heap ∧ HLe H0 H ∧ ∀ b ∈ fp, b ∉ wr → ∃ o, H0 b = some o ∧ s.heap.get? b = some o
theorem IterOk.ofWalks {g : GC} {A : Around} {I : Addr} {fp wr : List Addr} {tgt : Expr} {n : Nat} {P : Nat → Value → Prop} {T0 : Nat → Heap → Prop} {H0 : HP} {items : List PV} (W : Walks g.prog g.w A I fp wr n P T0)
    (hn : items.length = n) (hP : ∀ i v p, items[i]? = some p → P i v → VRel H0 p v) (hlive : ∀ i h, T0 i h → ∀ b ∈ wr, ∃ o, h.get? b = some o)
    (hgo : ∀ i (s : Shared) v (Q : Unit → Shared → Prop) (E : Value → Shared → Prop), T0 i s.heap → Q () s → wpAny (model g.prog g.w) A (letOwnedTupleGo tgt (.ref I) v) Q E s) : IterOk g A I wr [] tgt (WalkT fp wr H0 T0) items where
  frame := fun i H H' s s' ⟨t, le, fz⟩ hle hk _ st => by
    have hk2 := st.keep
    refine ⟨W.frame i s.heap s'.heap t fun b hb o e => ?_, le.trans hle, fun b hb hw => ?_⟩
    · by_cases hw : b ∈ wr
      · exact hk b hw o e
      · obtain ⟨o', h1, h2⟩ := fz b hb hw
        rw [h2] at e; cases e
        exact hk2 b _ (hle _ _ (le _ _ h1))
    · obtain ⟨o', h1, h2⟩ := fz b hb hw
      exact ⟨o', h1, hk2 b o' (hle _ _ (le _ _ h1))⟩
  live := fun i H s ⟨t, _⟩ => hlive i s.heap t
  turn := fun i s H Q E p hp st ⟨t, le, fz⟩ hw hQ => by
    refine W.item i s _ E (by rw [← hn]; exact (List.getElem?_eq_some_iff.mp hp).1) t fun v h' tk hPv t' hk => ⟨v, rfl, ?_⟩
    have ew := ExtW.step (gw := []) (tk := tk) st hw hk
    refine hgo (i + 1) _ v _ E t' ?_
    refine hQ v _ H ew ⟨t', le, fun b hb hnw => ?_⟩ (VRel.mono le _ _ (hP i v p hp hPv))
    obtain ⟨o', h1, h2⟩ := fz b hb hnw
    exact ⟨o', h1, hk b o' hnw h2⟩
  done := fun s H Q E st ⟨t, _, _⟩ hw hQ => W.done s Q E (hn ▸ t) fun h' tk hk => hQ _ _ (ExtW.step st hw hk)
  self := fun s H Q E st ⟨t, _, _⟩ hQ => W.self 0 s Q E t hQ
theorem letGo_by {prog : Program} {w : World} {A : Around} {E : Value → Shared → Prop} {tgt : Expr} {I : Addr} {v : Value} {Q : Unit → Shared → Prop} {s : Shared} {o : Obj} {c : String} {vs : Array Value} (ho : s.heap.get? I = some o) (hc : o.cls = .type c) (hd : o.data = .fields vs)
    (hn : ["enumerate", "zip", "dict_itemiterator", "dict_reverseitemiterator", "odict_iterator", "itertools.zip_longest", "itertools.pairwise"].contains c = false) (h : Q () s) :
    wpAny (model prog w) A (letOwnedTupleGo tgt (.ref I) v) Q E s := by
  unfold letOwnedTupleGo
  cases tgt <;> first
    | exact wpAny_pure h
    | (cases v <;> first
        | exact wpAny_pure h
        | (refine wpAny_bind (wpAny_load ho ?_)
           rw [hc, hd]
           dsimp only
           rw [hn]
           exact wpAny_pure h))
noncomputable def ItAt (g : GC) (A : Around) (tgt : Expr) (s : Shared) (items : List PV) (Q : Value → Shared → Prop) (H : HP) : Prop :=
  ∀ I wr gw T s' H', Ext g s H s' H' → IterOk g A I wr gw tgt T items → T 0 H' s' → (∀ b ∈ wr, s.heap.get? b = none) → WrOk wr H' → (∀ j ∈ gw, s.gens[j]? = none) → Q (.ref I) s'
noncomputable def DenI (g : GC) (C : Cx) (iter tgt : Expr) (f : List PV → Option (List PV)) : Prop :=
  ∀ env A s H ρ oa Q E items, EnvOk C env → Room A C.lv → Rel g C env s H ρ oa → f ρ = some items → ItAt g A tgt s items Q H →
    wpAny (model g.prog g.w) A (eval iter env) (fun x s₁ => wpAny (model g.prog g.w) A (pyIter x) Q E s₁) E s
theorem fresh_wr {g : GC} {s s' : Shared} {H H' : HP} (e : Ext g s H s' H') {a : Addr} (h : s'.heap.get? a = none) : s.heap.get? a = none := by
  cases q : s.heap.get? a with
  | none => rfl
  | some o =>
    by_cases t : isTab a
    · obtain ⟨o', e', _⟩ := tab_some e.st.tab t; rw [h] at e'; cases e'
    · rw [e.old a o t q] at h; cases h
theorem fresh_gen {g : GC} {s s' : Shared} {H H' : HP} (e : Ext g s H s' H') {j : Nat} (h : s'.gens[j]? = none) : s.gens[j]? = none := by
  cases q : s.gens[j]? with
  | none => rfl
  | some x => rw [e.gens j x q] at h; cases h
theorem wrOk_new {g : GC} {s : Shared} {H : HP} (st : St g s H) {wr : List Addr} (h : ∀ b ∈ wr, s.heap.get? b = none) : WrOk wr H := by
  refine ⟨fun b hb => ?_, fun b hb t => ?_⟩
  · cases q : H b with
    | none => rfl
    | some o => have := st.keep b o q; rw [h b hb] at this; cases this
  · obtain ⟨o', e', _⟩ := tab_some st.tab t; rw [h b hb] at e'; cases e'
noncomputable def pIter : PV → Option (List PV)
  | .list xs => some xs
  | .tup xs => some xs
  | .str x => if x.all (· < 128) then some (x.map fun c => .str [c]) else none
  | _ => none
section
variable {g : GC}
theorem ItAt.ext {A : Around} {tgt : Expr} {s s1 : Shared} {items : List PV} {Q : Value → Shared → Prop} {H H1 : HP} (h : ItAt g A tgt s items Q H) (e : Ext g s H s1 H1) : ItAt g A tgt s1 items Q H1 :=
  fun I wr gw T s' H' e' hi t hw ho hg => h I wr gw T s' H' (e.trans e') hi t (fun b hb => fresh_wr e (hw b hb)) ho fun j hj => fresh_gen e (hg j hj)
theorem iter_val {A : Around} {tgt : Expr} {s : Shared} {H : HP} {p : PV} {v : Value} {items : List PV} {Q : Value → Shared → Prop} {E : Value → Shared → Prop} (hA : A.handled = none) (st : St g s H) (hv : VRel H p v) (hf : pIter p = some items)
    (h : ItAt g A tgt s items Q H) : wpAny (model g.prog g.w) A (pyIter v) Q E s := by
  have hnew : ∀ b ∈ [s.heap.objs.size], s.heap.get? b = none := fun b hb => by rw [List.mem_singleton.mp hb]; exact freshAt (Nat.le_refl _)
  unfold pIter at hf
  split at hf
  · cases hf
    obtain ⟨l, n, its, d, sl, rfl, hl, hv2⟩ := seq_at st hv
    obtain ⟨_, o, _, _, e0, hHo, _, _, _⟩ := hv
    cases e0
    have hlt : l < s.heap.objs.size := Heap.lt_size hl
    refine wpAny_pyIter_list ⟨_, hl, rfl, n, rfl⟩ ?_
    have e := push_kept st { cls := .type "list_iterator", data := .fields #[.ref l, .int 0 0] } s.toks
    refine h _ [s.heap.objs.size] [] _ _ H e (IterOk.ofWalks (tgt := tgt) (fp := [s.heap.objs.size, l]) (H0 := H) (Walks.list hA _ l (Nat.ne_of_lt hlt) its) (by have := hv2.length; rw [Array.length_toList] at this; exact this.symm) (fun i v p hp hPv => ?_) (fun i h' t b hb => ?_) (fun i s' v Q' E' t hq => ?_))
      ⟨⟨⟨_, Heap.get?_push_size _ rfl, rfl, rfl⟩, ⟨_, Heap.get?_push_of_some _ hl, rfl, n, rfl⟩⟩, .refl _, fun b hb hnw => ?_⟩ hnew (wrOk_new st hnew) (fun j hj => by cases hj)
    · obtain ⟨v', e1, e2⟩ := hv2.get hp
      have : its[i]? = some v' := by simpa using e1
      rw [this] at hPv; cases hPv; exact e2
    · rw [List.mem_singleton.mp hb]
      obtain ⟨⟨o', ho', _⟩, _⟩ := t; exact ⟨o', ho'⟩
    · obtain ⟨⟨o', ho', hc', hd'⟩, _⟩ := t
      exact letGo_by ho' hc' hd' (by decide) hq
    · rcases List.mem_cons.mp hb with rfl | hb
      · exact absurd (List.mem_singleton.mpr rfl) hnw
      · rw [List.mem_singleton.mp hb]; exact ⟨o, hHo, Heap.get?_push_of_some _ (st.keep _ _ hHo)⟩
  · cases hf
    obtain ⟨l, n, its, d, sl, rfl, hl, hv2⟩ := seq_at st hv
    obtain ⟨_, o, _, _, e0, hHo, _, _, _⟩ := hv
    cases e0
    have hlt : l < s.heap.objs.size := Heap.lt_size hl
    have ht : s.heap.IsTuple l its := ⟨_, hl, rfl, n, rfl⟩
    refine wpAny_pyIter_tuple ht ?_
    have e := push_kept st { cls := .type "tuple_iterator", data := .fields #[.ref l, .int 0 0] } s.toks
    refine h _ [s.heap.objs.size] [] _ _ H e (IterOk.ofWalks (tgt := tgt) (fp := [s.heap.objs.size, l]) (H0 := H) (Walks.tuple hA _ l (Nat.ne_of_lt hlt) its) (by have := hv2.length; rw [Array.length_toList] at this; exact this.symm) (fun i v p hp hPv => ?_) (fun i h' t b hb => ?_) (fun i s' v Q' E' t hq => ?_))
      ⟨⟨⟨_, Heap.get?_push_size _ rfl, rfl, rfl⟩, ⟨_, Heap.get?_push_of_some _ hl, rfl, n, rfl⟩⟩, .refl _, fun b hb hnw => ?_⟩ hnew (wrOk_new st hnew) (fun j hj => by cases hj)
    · obtain ⟨v', e1, e2⟩ := hv2.get hp
      have : its[i]? = some v' := by simpa using e1
      rw [this] at hPv; cases hPv; exact e2
    · rw [List.mem_singleton.mp hb]
      obtain ⟨⟨o', ho', _⟩, _⟩ := t; exact ⟨o', ho'⟩
    · obtain ⟨⟨o', ho', hc', hd'⟩, _⟩ := t
      exact letGo_by ho' hc' hd' (by decide) hq
    · rcases List.mem_cons.mp hb with rfl | hb
      · exact absurd (List.mem_singleton.mpr rfl) hnw
      · rw [List.mem_singleton.mp hb]; exact ⟨o, hHo, Heap.get?_push_of_some _ (st.keep _ _ hHo)⟩
  · split at hf
    · rename_i x hx
      cases hf
      obtain ⟨t, rfl⟩ := hv
      refine wpAny_pyIter_ascii (by simpa using hx) ?_
      have e := push_kept st { cls := .type "str_ascii_iterator", data := .fields #[.str ⟨x.toArray⟩ t, .int 0 0] } s.toks
      refine h _ [s.heap.objs.size] [] _ _ H e (IterOk.ofWalks (tgt := tgt) (fp := [s.heap.objs.size]) (H0 := H) (Walks.strAscii hA _ ⟨x.toArray⟩ t) (by simp) (fun i v p hp hPv => ?_) (fun i h' t b hb => ?_) (fun i s' v Q' E' t hq => ?_))
        ⟨⟨_, Heap.get?_push_size _ rfl, rfl, rfl⟩, .refl _, fun b hb hnw => absurd hb hnw⟩ hnew (wrOk_new st hnew) (fun j hj => by cases hj)
      · obtain ⟨c, u, hc, rfl⟩ := hPv
        simp only [List.getElem?_map, Option.map_eq_some_iff] at hp
        obtain ⟨c', hc', rfl⟩ := hp
        simp at hc
        rw [hc] at hc'; cases hc'
        exact ⟨u, rfl⟩
      · rw [List.mem_singleton.mp hb]
        obtain ⟨o', ho', _⟩ := t; exact ⟨o', ho'⟩
      · obtain ⟨o', ho', hc', hd'⟩ := t
        exact letGo_by ho' hc' hd' (by decide) hq
    · cases hf
  · cases hf
variable {C : Cx}
theorem DenI.val {iter tgt : Expr} {f : DE} (h1 : Den g C iter f) : DenI g C iter tgt (fun ρ => (f ρ).bind pIter) := by
  intro env A s H ρ oa Q E items he hr x hf h
  obtain ⟨p, hp, hf⟩ := Option.bind_eq_some_iff.mp hf
  exact h1.bind he hr x hp fun v s1 H1 e1 x1 hv => iter_val hr.hh x1.st hv hf (h.ext e1)
noncomputable def OpI (g : GC) (tgt : Expr) (f : Value) (F : List PV → Option (List PV)) : Prop :=
  ∀ A s H ps vs Q E items, Room A 20 → St g s H → VRelL H ps vs → F ps = some items → ItAt g A tgt s items Q H →
    wpAny (model g.prog g.w) A (call f vs []) (fun x s₁ => wpAny (model g.prog g.w) A (pyIter x) Q E s₁) E s
theorem DenI.call {x : Str} {b : String} {tgt : Expr} {F : List PV → Option (List PV)} {e : Expr} {es : List Expr} {f : List PV → Option (List PV)} {p pos : Pos}
    (hC : C.ok = true) (hk : C.sc.names.lookup x = some .globalImplicit) (hn : ∀ P, nsIn (K0 P) mainGlobals x = some none) (hb : bootBuiltins x = some (.type b)) (hF : OpI g tgt (.type b) F)
    (h1 : DenL g C (e :: es) f) (hlv : 20 ≤ C.lv := by decide) (hx : x ≠ Str.ofString "__name__" := by decide +kernel)
    (hs : ∀ env, starEach (e :: es) env = (false, eval e env) :: starEach es env := by intro _; rfl) (hpl : ∀ env, (backTo pos (starEach es env)).any (·.1) = false := by intro _; rfl) (hd : (x == ("__debug__" : Str)) = false := by decide) :
    DenI g C (.Call (.Name x p) (e :: es) [] pos) tgt (fun ρ => (f ρ).bind F) := by
  intro env A s H ρ oa Q E items he hr y hf h
  obtain ⟨l, hl, hf⟩ := Option.bind_eq_some_iff.mp hf
  refine wpAny_Call_Name_kw (blt_load hC he y.st hk hn hb hx ?_ hd)
  refine PyProof.Rows.callWith_type1 (h1 env A s H ρ oa _ E l pos he hr y hl fun vs s1 H1 e1 hv => ?_) (hs env) (hpl env)
  exact hF A s1 H1 l vs Q E items (hr.le hlv) e1.st hv hf (h.ext e1)
noncomputable def isSmallI (a : Int) : Bool := decide (-(2 ^ 40) ≤ a ∧ a ≤ 2 ^ 40)
noncomputable def rangeL (a c : Int) (n : Nat) : List PV := (List.range n).map fun (i : Nat) => .int (a + (i : Int) * c)
noncomputable def pRange : List PV → Option (List PV)
  | [.int b] => if isSmallI b then some (rangeL 0 1 b.toNat) else none
  | [.int a, .int b] => if isSmallI a ∧ isSmallI b then some (rangeL a 1 (b - a).toNat) else none
  | [.int a, .int b, .int c] => if isSmallI a ∧ isSmallI b ∧ c = 2 then some (rangeL a c (Builtin.Range.rangeSize a b c).toNat) else none
  | _ => none
theorem iter_range {A : Around} {tgt : Expr} {s : Shared} {H : HP} {r : Addr} {a b c : Int} {t u v : Tok} {n : Nat} {Q : Value → Shared → Prop} {E : Value → Shared → Prop} (hA : A.handled = none) (st : St g s H)
    (hr : IsRange s.heap r a b c t u v) (hsm : Builtin.Range.small a b c = true) (hn : n = (Builtin.Range.rangeSize a b c).toNat) (h0 : 0 ≤ Builtin.Range.rangeSize a b c) (h : ItAt g A tgt s (rangeL a c n) Q H) :
    wpAny (model g.prog g.w) A (pyIter (.ref r)) Q E s := by
  have hnew : ∀ b ∈ [s.heap.objs.size], s.heap.get? b = none := fun b hb => by rw [List.mem_singleton.mp hb]; exact freshAt (Nat.le_refl _)
  refine wpAny_pyIter_range hr hsm ?_
  have e := push_kept st { cls := .type "range_iterator", data := .fields #[rawInt a, rawInt (Builtin.Range.rangeSize a b c), rawInt c] } s.toks
  refine h _ [s.heap.objs.size] [] _ _ H e (IterOk.ofWalks (tgt := tgt) (fp := [s.heap.objs.size]) (H0 := H) (Walks.range hA _ a c n) (by simp [rangeL]) (fun i v p hp hPv => ?_) (fun i h' t b hb => ?_) (fun i s' v Q' E' t hq => ?_))
    ⟨?_, .refl _, fun b hb hnw => absurd hb hnw⟩ hnew (wrOk_new st hnew) (fun j hj => by cases hj)
  · obtain ⟨u, rfl⟩ := hPv
    unfold rangeL at hp
    simp only [List.getElem?_map, Option.map_eq_some_iff] at hp
    obtain ⟨j, hj, rfl⟩ := hp
    have : j = i := by
      obtain ⟨h1, h2⟩ := List.getElem?_eq_some_iff.mp hj
      simpa using h2.symm
    subst this
    exact ⟨u, rfl⟩
  · rw [List.mem_singleton.mp hb]; exact ⟨_, t⟩
  · exact letGo_by t rfl rfl (by decide) hq
  · show IsRangeIter _ _ _ _ _
    have e1 : a + ((0 : Nat) : Int) * c = a := by simp
    have e2 : (n : Int) - ((0 : Nat) : Int) = Builtin.Range.rangeSize a b c := by omega
    rw [e1, e2]
    exact Heap.get?_push_size _ rfl
theorem rangeSize_two (a b : Int) : Builtin.Range.rangeSize a b 2 = if a < b then (b - a + 1) / 2 else 0 := by
  unfold Builtin.Range.rangeSize
  simp only [show (2 : Int) > 0 by decide, if_true]
  split <;> omega
theorem range_op (tgt : Expr) : OpI g tgt (.type "range") pRange := by
  intro A s H ps vs Q E items hr st hv hf h
  unfold pRange at hf
  split at hf
  · split at hf
    · rename_i b hb
      cases hf
      obtain ⟨v, rfl, t, rfl⟩ := hv.one
      refine call_range_1 ?_
      have e := push_kept st { cls := .type "range", data := .fields #[.int 0 s.toks, .int b t, .int 1 (s.toks + 1)] } (s.toks + 1 + 1)
      simp only [isSmallI, decide_eq_true_eq] at hb
      refine iter_range hr.hh e.st (IsRange.new ..) (small_one (by omega) (by omega) (by omega) (by omega)) ?_ ?_ (h.ext e) <;> rw [rangeSize_one] <;> split <;> omega
    · cases hf
  · split at hf
    · rename_i a b hb
      cases hf
      obtain ⟨v, w, rfl, ⟨t, rfl⟩, u, rfl⟩ := hv.two
      refine call_range_2 ?_
      have e := push_kept st { cls := .type "range", data := .fields #[.int a t, .int b u, .int 1 s.toks] } (s.toks + 1)
      simp only [isSmallI, decide_eq_true_eq] at hb
      refine iter_range hr.hh e.st (IsRange.new ..) (small_one (by omega) (by omega) (by omega) (by omega)) ?_ ?_ (h.ext e) <;> rw [rangeSize_one] <;> split <;> omega
    · cases hf
  · split at hf
    · rename_i a b c hb
      cases hf
      obtain ⟨v, r, rfl, ⟨t, rfl⟩, hv2⟩ := hv
      obtain ⟨v2, w, rfl, ⟨t2, rfl⟩, u, rfl⟩ := hv2.two
      simp only [isSmallI, decide_eq_true_eq] at hb
      obtain ⟨h1, h2, rfl⟩ := hb
      refine call_range_3 (by decide) ?_ (.inl (PyProof.noPylong_of_log2 (by decide +kernel)))
      have e := push_kept st { cls := .type "range", data := .fields #[.int a t, .int b t2, .int 2 u] } s.toks
      refine iter_range hr.hh e.st (IsRange.new ..) ?_ rfl ?_ (h.ext e)
      · unfold Builtin.Range.small
        rw [rangeSize_two]
        simp only [Builtin.Range.rangeFitsLong, Bool.and_eq_true, Bool.or_eq_true, decide_eq_true_eq, beq_iff_eq, show (2 : Int) > 0 by decide, if_true]
        split <;> omega
      · rw [rangeSize_two]; split <;> omega
    · cases hf
  · cases hf
noncomputable def pReversed : List PV → Option (List PV)
  | [.list xs] => some xs.reverse
  | _ => none
theorem reversed_op (tgt : Expr) : OpI g tgt (.type "reversed") pReversed := by
  intro A s H ps vs Q E items hr st hv hf h
  unfold pReversed at hf
  split at hf
  · rename_i xs
    cases hf
    obtain ⟨v, rfl, h1⟩ := hv.one
    obtain ⟨l, n, its, d, sl, rfl, hl, hv2⟩ := seq_at st h1
    obtain ⟨_, o, _, _, e0, hHo, _, _, _⟩ := h1
    cases e0
    have hlt : l < s.heap.objs.size := Heap.lt_size hl
    have hnew : ∀ b ∈ [s.heap.objs.size], s.heap.get? b = none := fun b hb => by rw [List.mem_singleton.mp hb]; exact freshAt (Nat.le_refl _)
    have hsz : its.size = xs.length := by have := hv2.length; rw [Array.length_toList] at this; exact this
    refine call_reversed_list ⟨_, hl, rfl, n, rfl⟩ ?_
    have e := push_kept st (revObj l ((its.size : Int) - 1)) s.toks
    have hit : (s.heap.push (revObj l ((its.size : Int) - 1))).IsRevIter s.heap.objs.size l ((its.size : Int) - 1) := ⟨_, Heap.get?_push_size _ rfl, rfl, rfl⟩
    refine wpAny_pyIter_revIter hit ?_
    refine h _ [s.heap.objs.size] [] _ _ H e (IterOk.ofWalks (tgt := tgt) (fp := [s.heap.objs.size, l]) (H0 := H) (Walks.listRev hr.hh _ l (Nat.ne_of_lt hlt) its) (by rw [List.length_reverse, hsz]) (fun i v p hp hPv => ?_) (fun i h' t b hb => ?_) (fun i s' v Q' E' t hq => ?_))
      ⟨⟨Nat.zero_le _, by simpa using hit, ⟨_, Heap.get?_push_of_some _ hl, rfl, n, rfl⟩⟩, .refl _, fun b hb hnw => ?_⟩ hnew (wrOk_new st hnew) (fun j hj => by cases hj)
    · have hi : i < xs.length := by have := (List.getElem?_eq_some_iff.mp hp).1; simpa using this
      rw [List.getElem?_reverse hi] at hp
      obtain ⟨v', e1, e2⟩ := hv2.get hp
      have : its[its.size - 1 - i]? = some v' := by rw [hsz]; simpa using e1
      rw [this] at hPv; cases hPv; exact e2
    · rw [List.mem_singleton.mp hb]
      obtain ⟨_, ⟨o', ho', _⟩, _⟩ := t; exact ⟨o', ho'⟩
    · obtain ⟨_, ⟨o', ho', hc', hd'⟩, _⟩ := t
      exact letGo_by ho' hc' hd' (by decide) hq
    · rcases List.mem_cons.mp hb with rfl | hb
      · exact absurd (List.mem_singleton.mpr rfl) hnw
      · rw [List.mem_singleton.mp hb]; exact ⟨o, hHo, Heap.get?_push_of_some _ (st.keep _ _ hHo)⟩
  · cases hf
noncomputable def enumL (i : Nat) : List PV → List PV
  | [] => []
  | x :: r => .tup [.int i, x] :: enumL (i + 1) r
theorem enumL_length : ∀ (xs : List PV) (i : Nat), (enumL i xs).length = xs.length
  | [], _ => rfl
  | x :: r, i => by unfold enumL; rw [List.length_cons, List.length_cons, enumL_length r]
theorem enumL_get : ∀ (xs : List PV) (k i : Nat) (p : PV), (enumL k xs)[i]? = some p → ∃ x, xs[i]? = some x ∧ p = .tup [.int (k + i : Nat), x]
  | [], _, _, _, h => by simp [enumL] at h
  | x :: r, k, 0, p, h => by simp [enumL] at h; exact ⟨x, rfl, by rw [← h]; simp⟩
  | x :: r, k, i + 1, p, h => by
    simp only [enumL, List.getElem?_cons_succ] at h
    obtain ⟨y, h1, h2⟩ := enumL_get r (k + 1) i p h
    exact ⟨y, by simpa using h1, by rw [h2]; congr 3; omega⟩
noncomputable def pEnum : List PV → Option (List PV)
  | [.list xs] => some (enumL 0 xs)
  | _ => none
theorem enum_op {elts : List Expr} {k : Nat} {tp : Pos} : OpI g (.Tuple elts k tp) (.type "enumerate") pEnum := by
  intro A s H ps vs Q E items hr st hv hf h
  unfold pEnum at hf
  split at hf
  · rename_i xs
    cases hf
    obtain ⟨v, rfl, h1⟩ := hv.one
    obtain ⟨l, n, its, d, sl, rfl, hl, hv2⟩ := seq_at st h1
    obtain ⟨_, o, _, _, e0, hHo, _, _, _⟩ := h1
    cases e0
    have hlt : l < s.heap.objs.size := Heap.lt_size hl
    have hnew : ∀ b ∈ [s.heap.objs.size + 1, s.heap.objs.size], s.heap.get? b = none := fun b hb => by
      rcases List.mem_cons.mp hb with rfl | hb
      · exact freshAt (Nat.le_succ _)
      · rw [List.mem_singleton.mp hb]; exact freshAt (Nat.le_refl _)
    have hsz : its.size = xs.length := by have := hv2.length; rw [Array.length_toList] at this; exact this
    refine call_enumerate_list ⟨_, hl, rfl, n, rfl⟩ fun h' hen hit hsize hk => ?_
    refine wpAny_pyIter_enum hen ?_
    have e := Ext.kept (tk := s.toks) (h' := h') st hk
    have W := WalksT.enumerate (prog := g.prog) (w := g.w) hr.hh (s.heap.objs.size + 1) s.heap.objs.size l (Nat.succ_ne_self _) (Nat.ne_of_lt (Nat.lt_succ_of_lt hlt)) (Nat.ne_of_lt hlt) its
    have hwr := wrOk_new st hnew
    refine h _ [s.heap.objs.size + 1, s.heap.objs.size] [] (fun i H' ss => ((∃ old, IsEnum ss.heap (s.heap.objs.size + 1) s.heap.objs.size i old) ∧ ss.heap.IsListIter s.heap.objs.size l i ∧ ss.heap.IsList l its) ∧ HLe H H' ∧ ss.heap.get? l = some ⟨.type "list", d, .seq its n, sl⟩) _ H e
      ⟨fun i H1 H2 a b ⟨t, le, q⟩ hle hk1 _ st2 => ?_, fun i H1 hh ⟨t, _⟩ b hb => ?_, fun i s1 H1 Q1 E1 p hp st1 ⟨t, le, q⟩ hw hq => ?_, fun s1 H1 Q1 E1 st1 ⟨t, le, q⟩ hw hq => ?_, fun s1 H1 Q1 E1 st1 ⟨t, _⟩ hq => W.self 0 s1 Q1 E1 t hq⟩
      ⟨⟨⟨_, hen⟩, hit, ⟨_, hk _ _ hl, rfl, n, rfl⟩⟩, .refl _, hk _ _ hl⟩ hnew hwr (fun j hj => by cases hj)
    · have hk2 := st2.keep
      have hl2 : b.heap.get? l = some ⟨.type "list", d, .seq its n, sl⟩ := by
        have h5 := st.keep _ _ hHo
        rw [hl] at h5; cases h5
        exact hk2 _ _ (hle _ _ (le _ _ hHo))
      refine ⟨⟨?_, ?_, ⟨_, hl2, rfl, n, rfl⟩⟩, le.trans hle, hl2⟩
      · obtain ⟨⟨old, h6⟩, _⟩ := t; exact ⟨old, hk1 _ (by simp) _ h6⟩
      · exact t.2.1.at fun o x => hk1 _ (by simp) o x
    · obtain ⟨⟨old, h6⟩, ⟨o7, h7, _⟩, _⟩ := t
      rcases List.mem_cons.mp hb with rfl | hb
      · exact ⟨_, h6⟩
      · rw [List.mem_singleton.mp hb]; exact ⟨_, h7⟩
    · obtain ⟨x, hx, rfl⟩ := enumL_get xs 0 i p hp
      have hi : i < its.size := by rw [hsz]; exact (List.getElem?_eq_some_iff.mp hx).1
      refine W.item i s1 _ E1 hi t fun T vals h2 tk hPt hT hTt hm hk2 => ⟨_, rfl, ?_⟩
      refine W.go elts k tp i T _ _ E1 hm fun h3 t3 hk3 => ?_
      have hTw := W.apart i T h2 hm
      obtain ⟨t0, y, hy, rfl⟩ := hPt
      obtain ⟨oT, hoT, hcT, nT, hdT⟩ := hTt
      have ew : ExtW g [s.heap.objs.size + 1, s.heap.objs.size] [] s1 H1 { s1 with heap := h3, toks := tk } H1 := ExtW.step st1 hw fun b o hb e => hk3 b o hb (hk2 b o hb e)
      have hoT3 : h3.get? T = some oT := hk3 T oT hTw hoT
      have ef := ew.freeze st1 (freshAt hT) hoT3
      refine hq _ _ _ ef ⟨t3, le.trans ef.le, ?_⟩ ⟨T, oT, _, nT, rfl, hput_self .., hcT, hdT, ?_⟩
      · have : l ∉ [s.heap.objs.size + 1, s.heap.objs.size] := fun hm => by
          rcases List.mem_cons.mp hm with q1 | q1
          · exact Nat.ne_of_lt (Nat.lt_succ_of_lt hlt) q1
          · exact Nat.ne_of_lt hlt (List.mem_singleton.mp q1)
        exact hk3 l _ this (hk2 l _ this q)
      · obtain ⟨v', e1, e2⟩ := hv2.get hx
        have : its[i]? = some v' := by simpa using e1
        rw [this] at hy; cases hy
        exact VRelL.cons ⟨t0, by simp⟩ (VRelL.cons (VRel.mono (le.trans ef.le) _ _ e2) rfl)
    · refine W.done s1 Q1 E1 ?_ fun h2 tk hk2 => hq _ _ (ExtW.step st1 hw hk2)
      rw [enumL_length, ← hsz] at t
      exact t
  · cases hf
end
section
variable {g : GC} {C : Cx}
theorem PostS.nx {env : Env} {s : Shared} {H : HP} {oa : Option Addr} {ρ' : List PV} {Q : Flow → Shared → Prop} (p : PostS g C env s H oa .next ρ' Q) {s' : Shared} {H' : HP} {oa' : Option Addr}
    (e : ExtS g C env s H oa s' H' oa') (x : Rel g C env s' H' ρ' oa') : Q .next s' := p _ _ _ _ e x rfl
theorem PostS.aft {env : Env} {s s' : Shared} {H H' : HP} {oa oa' : Option Addr} {ρ ρ' : List PV} {fl : Fl} {Q : Flow → Shared → Prop} (p : PostS g C env s H oa fl ρ' Q) (he : EnvOk C env) (x : Rel g C env s H ρ oa) (e : ExtS g C env s H oa s' H' oa')
    : PostS g C env s' H' oa' fl ρ' Q := fun f s'' H'' oa'' e' x' hf =>
  let ⟨a, b⟩ := x.there he; p f s'' H'' oa'' (ExtS.trans a b e e') x' hf
theorem ExtS.ofStore {env : Env} {s s' : Shared} {H : HP} {ρ' : List PV} {oa : Option Addr} (hsame : ∃ h' tk, s' = { s with heap := h', toks := tk }) (hold : ∀ a o, s.heap.get? a = some o → ¬ Own C env none a → s'.heap.get? a = some o)
    (hthere : ∀ a o, s.heap.get? a = some o → ∃ o', s'.heap.get? a = some o') (st : St g s' H) {oa' : Option Addr} (hoa : ∀ a, oa' = some a → oa = some a ∨ s.heap.get? a = none) : ExtS g C env s H oa s' H oa' := by
  refine ⟨st, .refl _, fun a o _ e hn => hold a o e fun q => hn ?_, hthere, fun _ _ e => .inl e, hoa, ?_, ?_⟩
  · rcases q with q | q | q
    · exact .inl q
    · exact .inr (.inl q)
    · cases q
  · obtain ⟨h', tk, rfl⟩ := hsame; exact ⟨h', s.gens, tk, rfl⟩
  · obtain ⟨h', tk, rfl⟩ := hsame; exact fun _ _ e => e
noncomputable def KeepO (oa : Option Addr) (s s' : Shared) : Prop := ∀ a its, oa = some a → s.heap.PlainList a its → s'.heap.PlainList a its
theorem KeepO.refl (oa : Option Addr) (s : Shared) : KeepO oa s s := fun _ _ _ h => h
theorem KeepO.trans {oa : Option Addr} {s s' s'' : Shared} (x : KeepO oa s s') (y : KeepO oa s' s'') : KeepO oa s s'' := fun a its e h => y a its e (x a its e h)
theorem KeepO.ext {s s' : Shared} {H H' : HP} {oa : Option Addr} (st : St g s H) (e : Ext g s H s' H') : KeepO oa s s' := fun a its _ h => by
  have hnt := Heap.PlainList.notTab st h
  obtain ⟨n, ho⟩ := h
  exact ⟨n, e.old _ _ hnt ho⟩
theorem own_ne {env : Env} {s : Shared} {H : HP} {ρ : List PV} {oa : Option Addr} {a : Addr} {its : Array Value} (he : EnvOk C env) (y : Rel g C env s H ρ oa) (hp : s.heap.PlainList a its) :
    a ≠ env.locals ∧ ∀ (z : Str) (c : Addr) (k : VK) (i : Nat), C.ns[i]? = some (z, k) → k ≠ VK.loc → env.cells.lookup z = some c → c ≠ a := by
  obtain ⟨n, ho⟩ := hp
  refine ⟨fun q => ?_, fun z c k i hi hk hc q => ?_⟩
  · obtain ⟨m, ⟨o, es, ep, ho', hd', _⟩, _⟩ := y.ns
    rw [← q, ho] at ho'; cases ho'; cases hd'
  · obtain ⟨_, vo, ⟨o, ho', hd'⟩, _⟩ := y.ce i z k c hi hk hc
    rw [q, ho] at ho'; cases ho'; cases hd'
theorem KeepO.store {env : Env} {s s' : Shared} {H : HP} {ρ : List PV} {oa : Option Addr} (he : EnvOk C env) (y : Rel g C env s H ρ oa) (hold : ∀ a o, s.heap.get? a = some o → ¬ Own C env none a → s'.heap.get? a = some o) : KeepO oa s s' := fun a its _ h => by
  have h1 := own_ne he y h
  obtain ⟨n, ho⟩ := h
  refine ⟨n, hold _ _ ho fun q => ?_⟩
  rcases q with q | ⟨z, hz, q⟩ | q
  · exact h1.1 q
  · obtain ⟨j, hj⟩ := List.getElem?_of_mem hz
    exact h1.2 z a .cel j hj (by decide) q rfl
  · cases q
noncomputable def DenT (g : GC) (C : Cx) (tgt : Expr) (f : List PV → PV → Option (List PV)) : Prop :=
  ∀ env A s H ρ oa (Q : Unit → Shared → Prop) E p v ρ', EnvOk C env → Room A C.lv → Rel g C env s H ρ oa → VRel H p v → f ρ p = some ρ' →
    (∀ s', ExtS g C env s H oa s' H oa → Rel g C env s' H ρ' oa → KeepO oa s s' → Q () s') → wpAny (model g.prog g.w) A (assign tgt env v) Q E s
theorem storeName_den {env : Env} {A : Around} {s : Shared} {H : HP} {ρ : List PV} {oa : Option Addr} {Q : Unit → Shared → Prop} {E : Value → Shared → Prop} {i : Nat} {x : Str} {k : VK} {p : PV} {v : Value}
    (hC : C.ok = true) (he : EnvOk C env) (y : Rel g C env s H ρ oa) (hi : C.ns[i]? = some (x, k)) (hk : k ≠ .fre) (hv : VRel H p v)
    (h : ∀ s', ExtS g C env s H oa s' H oa → Rel g C env s' H (ρ.set i p) oa → KeepO oa s s' → Q () s') : wpAny (model g.prog g.w) A (storeName env x v) Q E s := by
  refine store_rel (oa' := oa) hC he y hi (fun h' _ => slot_val hv) hk (fun _ => hv.val) (fun xs e => ?_) (.inl rfl) fun s' h1 h2 h3 h4 => h s' (.ofStore (ρ' := ρ.set i p) h1 h2 h3 h4.st fun a e => .inl e) h4 (.store he y h2)
  subst e; exact hv.elim
theorem DenT.name {i : Nat} {x : Str} {k : VK} {pos : Pos} (hC : C.ok = true) (hi : C.ns[i]? = some (x, k)) (hk : k ≠ .fre := by decide) : DenT g C (.Name x pos) (fun ρ p => some (ρ.set i p)) := by
  intro env A s H ρ oa Q E p v ρ' he hr y hv hf h
  cases hf
  exact wpAny_assign_Name (storeName_den hC he y hi hk hv h)
noncomputable def DenTs (g : GC) (C : Cx) (ts : List Expr) (f : List PV → List PV → Option (List PV)) : Prop :=
  ∀ env A s H ρ oa (Q : Unit → Shared → Prop) E ps vs ρ', EnvOk C env → Room A C.lv → Rel g C env s H ρ oa → VRelL H ps vs → f ρ ps = some ρ' →
    (∀ s', ExtS g C env s H oa s' H oa → Rel g C env s' H ρ' oa → KeepO oa s s' → Q () s') → wpAny (model g.prog g.w) A (assignInOrder ((assignEach ts env).map (·.2)) vs) Q E s
noncomputable def ftNil (ρ : List PV) (_ : List PV) : Option (List PV) := some ρ
noncomputable def ftCons (f1 : List PV → PV → Option (List PV)) (f2 : List PV → List PV → Option (List PV)) (ρ ps : List PV) : Option (List PV) := match ps with | p :: r => (f1 ρ p).bind fun ρ1 => f2 ρ1 r | [] => none
noncomputable def ftTup (n : Nat) (f : List PV → List PV → Option (List PV)) (ρ : List PV) : PV → Option (List PV)
  | .tup ps => if ps.length = n then f ρ ps else none
  | _ => none
theorem DenTs.nil : DenTs g C [] ftNil := by
  intro env A s H ρ oa Q E ps vs ρ' he hr y hv hf h
  cases hf
  exact wpAny_pure (h s (.refl y.st) y (.refl _ _))
theorem DenTs.cons {t : Expr} {ts : List Expr} {f1 : List PV → PV → Option (List PV)} {f2 : List PV → List PV → Option (List PV)} (h1 : DenT g C t f1) (h2 : DenTs g C ts f2)
    (hns : ∀ env, assignEach (t :: ts) env = (false, assign t env) :: assignEach ts env := by intro _; rfl) :
    DenTs g C (t :: ts) (ftCons f1 f2) := by
  intro env A s H ρ oa Q E ps vs ρ' he hr y hv hf h
  cases ps with
  | nil => cases hf
  | cons p r =>
    obtain ⟨v, w, rfl, hv1, hv2⟩ := hv
    obtain ⟨ρ1, hρ1, hf2⟩ := Option.bind_eq_some_iff.mp hf
    clear hf
    rw [hns]
    show wpAny _ A (do holding w (assign t env v); assignInOrder ((assignEach ts env).map (·.2)) w) Q E s
    refine wpAny_bind (wpAny_holding (h1 env A s H ρ oa _ E p v ρ1 he hr y hv1 hρ1 fun s' e1 y1 k1 => ?_))
    exact h2 env A s' H ρ1 oa Q E r w ρ' he hr y1 hv2 hf2 fun s'' e2 y2 k2 => h s'' (ExtS.trans (y.there he).1 (y.there he).2 e1 e2) y2 (k1.trans k2)
theorem tup_at {s : Shared} {H : HP} (st : St g s H) {ps : List PV} {v : Value} (h : VRel H (.tup ps) v) : ∃ t its, v = .ref t ∧ IsTup s.heap t its ∧ VRelL H ps its.toList := by
  obtain ⟨l, n, its, d, sl, rfl, hl, hv2⟩ := seq_at st h
  exact ⟨l, its, rfl, ⟨_, hl, rfl, n, rfl⟩, hv2⟩
theorem ExtS.extBut {env : Env} {s : Shared} {H : HP} {oa : Option Addr} {h' : Heap} (st : St g s H) (he : Heap.ExtBut s.heap.objs.size s.heap h') : Ext g s H { s with heap := h' } H :=
  Ext.kept (tk := s.toks) st fun b o e => he b o (Nat.ne_of_lt (Heap.lt_size e)) e
theorem DenT.tuple {ts : List Expr} {k n : Nat} {pos : Pos} {f : List PV → List PV → Option (List PV)} (h1 : DenTs g C ts f) (hlen : ∀ env, (assignEach ts env).length = n ∧ (assignEach ts env).findIdx? (·.1) = none := by intro _; exact ⟨rfl, rfl⟩) :
    DenT g C (.Tuple ts k pos) (ftTup n f) := by
  intro env A s H ρ oa Q E p v ρ' he hr y hv hf h
  cases p with
  | tup ps =>
    unfold ftTup at hf
    dsimp only at hf
    split at hf
    · rename_i hn
      obtain ⟨t, its, rfl, ht, hvl⟩ := tup_at y.st hv
      have hsz : its.size = n := by have := hvl.length; rw [Array.length_toList] at this; omega
      refine assign_Tuple_tuple hr.hh ht (by rw [(hlen env).1, hsz]) (hlen env).2 fun h' hb => ?_
      have e := ExtS.extBut (env := env) (oa := oa) y.st hb
      exact h1 env A _ H ρ oa Q E ps its.toList ρ' he hr (y.ext e) hvl hf fun s' e2 y2 k2 => h s' (ExtS.trans (y.there he).1 (y.there he).2 (.of e) e2) y2 ((KeepO.ext y.st e).trans k2)
    · cases hf
  | _ => cases hf
theorem DenS.assign {x : Str} {i : Nat} {k : VK} {p pos : Pos} {value : Expr} {f : DE} (hC : C.ok = true) (hi : C.ns[i]? = some (x, k)) (h1 : Den g C value f) (hk : k ≠ .fre := by decide)
    (hs : ∀ env, env.scope = C.sc → swapsWith value (some (.Name x p)) pos.line env = pure false := by intro _ _; rfl) :
    DenS g C (.Assign [.Name x p] value pos) (fun ρ => (f ρ).map fun v => (.next, ρ.set i v)) := by
  intro env A s H ρ oa Q E fl ρ' he hr y hf hp
  obtain ⟨v, hv, hf⟩ := Option.map_eq_some_iff.mp hf
  cases hf
  refine wpAny_Assign_Name (h1.bind he hr y hv fun w s1 H1 e1 y1 hw => ?_) (hs env he.scope)
  exact storeName_den hC he y1 hi hk hw fun s' e2 y2 _ => hp.nx (ExtS.trans (y.there he).1 (y.there he).2 (.of e1) e2) y2
theorem DenS.assignT {ts : List Expr} {k : Nat} {p pos : Pos} {value : Expr} {f : DE} {ft : List PV → PV → Option (List PV)} (h1 : Den g C value f) (h2 : DenT g C (.Tuple ts k p) ft)
    (hs : ∀ env, env.scope = C.sc → swapsWithSole [.Tuple ts k p] value pos.line env = pure false ∧ swappedStores [.Tuple ts k p] value env = pure none) :
    DenS g C (.Assign [.Tuple ts k p] value pos) (fun ρ => (f ρ).bind fun v => (ft ρ v).map fun ρ1 => (.next, ρ1)) := by
  intro env A s H ρ oa Q E fl ρ' he hr y hf hp
  obtain ⟨v, hv, hf2⟩ := Option.bind_eq_some_iff.mp hf
  obtain ⟨ρ1, hρ1, hf3⟩ := Option.map_eq_some_iff.mp hf2
  obtain ⟨rfl, rfl⟩ := Prod.mk.inj hf3
  refine Assign_Tuple (h1.bind he hr y hv fun w s1 H1 e1 y1 hw => ?_) (hs env he.scope).1 (hs env he.scope).2
  exact h2 env A s1 H1 ρ oa _ E v w ρ1 he hr y1 hw hρ1 fun s' e2 y2 _ => hp.nx (ExtS.trans (y.there he).1 (y.there he).2 (.of e1) e2) y2
theorem DenS.assignT2 {x1 x2 : Str} {i1 i2 : Nat} {ts : List Expr} {k : Nat} {p pos : Pos} {value : Expr} {f : DE} (hC : C.ok = true) (hi1 : C.ns[i1]? = some (x1, .loc)) (hi2 : C.ns[i2]? = some (x2, .loc)) (h1 : Den g C value f)
    (hs : ∀ env, env.scope = C.sc → swapsWithSole [.Tuple ts k p] value pos.line env = pure false ∧ swappedStores [.Tuple ts k p] value env = pure (some [x1, x2])) :
    DenS g C (.Assign [.Tuple ts k p] value pos) (fun ρ => (f ρ).bind fun v => match v with | .tup [a, b] => some (.next, (ρ.set i2 b).set i1 a) | _ => none) := by
  intro env A s H ρ oa Q E fl ρ' he hr y hf hp
  obtain ⟨v, hv, hf2⟩ := Option.bind_eq_some_iff.mp hf
  clear hf
  split at hf2
  · rename_i a b
    cases hf2
    refine Assign_Tuple_swapped (h1.bind he hr y hv fun w s1 H1 e1 y1 hw => ?_) (hs env he.scope).1 (hs env he.scope).2
    obtain ⟨t, its, rfl, ht, hvl⟩ := tup_at y1.st hw
    obtain ⟨va, vb, hvs, ha, hb⟩ := hvl.two
    have hsz : [x1, x2].length = its.size := by have := congrArg List.length hvs; rw [Array.length_toList] at this; rw [this]; rfl
    rw [hsz]
    refine unpackItems_tuple hr.hh ht fun h' hbut => ?_
    rw [hvs]
    have e2 := ExtS.extBut (env := env) (oa := oa) y1.st hbut
    have y2 := y1.ext e2
    show wpAny _ A (do holding [va] (bindName env x2 vb); assignInOrder [fun n => bindName env x1 n] [va]) _ E _
    refine wpAny_bind (wpAny_holding (wpAny_bindName (storeName_den hC he y2 hi2 (by decide) hb fun s3 e3 y3 _ => ?_)))
    show wpAny _ A (do holding [] (bindName env x1 va); assignInOrder [] []) _ E _
    refine wpAny_bind (wpAny_holding (wpAny_bindName (storeName_den hC he y3 hi1 (by decide) ha fun s4 e4 y4 _ => wpAny_pure ?_)))
    have t := y.there he
    exact hp.nx (ExtS.trans t.1 t.2 (.of (e1.trans e2)) (ExtS.trans (y2.there he).1 (y2.there he).2 e3 e4)) y4
  · cases hf2
theorem loadOwn {env : Env} {A : Around} {s : Shared} {H : HP} {ρ : List PV} {oa : Option Addr} {Q : Value → Shared → Prop} {E : Value → Shared → Prop} {x : Str} {xs : List PV} {pos : Pos}
    (hC : C.ok = true) (he : EnvOk C env) (y : Rel g C env s H ρ oa) (hi : C.ns[C.mu]? = some (x, .loc)) (hv : ρ.getD C.mu .undef = .own xs)
    (h : ∀ a its, oa = some a → H a = none → s.heap.PlainList a its → VRelL H xs its.toList → Q (.ref a) s) : wpAny (model g.prog g.w) A (eval (.Name x pos) env) Q E s := by
  have hm : (x, VK.loc) ∈ C.ns := List.mem_of_getElem? hi
  obtain ⟨h1, h2, h3⟩ := Cx.at hC hm
  have hk : env.scope.kind = .function := by rw [he.scope]; exact Cx.kind hC
  obtain ⟨m, hn, hsl⟩ := y.ns
  have h4 := hsl C.mu x hi
  rw [hv] at h4
  obtain ⟨a, its, h5, h6, h7, h8, h9⟩ := h4
  exact wpAny_Name (wpAny_loadName_local hk (by rw [kindOf_of he]; exact kindFits_loc h3) hn h5 (h a its h6 h7 h8 h9)) h1
theorem own_step {env : Env} {s : Shared} {H : HP} {ρ : List PV} {a : Addr} {h' : Heap} {its its' : Array Value} {xs xs' : List PV} (he : EnvOk C env) (y : Rel g C env s H ρ (some a)) (hmu : C.mu < C.ns.length) (hloc : ∀ z k, C.ns[C.mu]? = some (z, k) → k = .loc)
    (hv : ρ.getD C.mu .undef = .own xs) (hp : s.heap.PlainList a its) (hp' : h'.PlainList a its') (hx : VRelL H xs' its'.toList) (hsb : Heap.SameBut a s.heap h') {tk : Tok} :
    ExtS g C env s H (some a) { s with heap := h', toks := tk } H (some a) ∧ Rel g C env { s with heap := h', toks := tk } H (ρ.set C.mu (.own xs')) (some a) := by
  obtain ⟨hne, hcell⟩ := own_ne he y hp
  obtain ⟨hHa, _⟩ := y.oall a rfl
  have hnt := Heap.PlainList.notTab y.st hp
  obtain ⟨n', ho'⟩ := hp'
  have st : St g { s with heap := h', toks := tk } H := ⟨fun b o e => (hsb.2 b fun q => by rw [q, hHa] at e; cases e).trans (y.st.keep b o e), y.st.base, y.st.tab.moves (.refl _) (fun b o t e => (hsb.2 b fun q => hnt (q ▸ t)).trans e), y.st.notab, y.st.bare⟩
  have hlt : C.mu < ρ.length := by rw [y.len]; exact hmu
  refine ⟨⟨st, .refl _, fun b o _ e hn => (hsb.2 b fun q => hn (.inr (.inr (q ▸ rfl)))).trans e, fun b o e => ?_, fun _ _ e => .inl e, fun _ e => .inl e, ⟨_, _, _, rfl⟩, fun _ _ e => e⟩, st, by rw [List.length_set]; exact y.len, y.fz, ?_, fun i z k c hi hk hc => ?_, fun i zs e => ?_, fun b e => ?_⟩
  · by_cases q : b = a
    · subst q; exact ⟨_, ho'⟩
    · exact ⟨o, (hsb.2 b q).trans e⟩
  · obtain ⟨m, hn, hsl⟩ := y.ns
    refine ⟨m, hn.sameBut hsb (Ne.symm hne), fun i z hi => ?_⟩
    rw [getD_set hlt]
    by_cases q : C.mu = i
    · subst q
      rw [if_pos rfl]
      have h4 := hsl _ z hi
      rw [hv] at h4
      obtain ⟨b, its2, h5, h6, h7, h8, h9⟩ := h4
      cases h6
      exact ⟨a, its', h5, rfl, hHa, ⟨n', ho'⟩, hx⟩
    · rw [if_neg q]
      have h4 := hsl i z hi
      revert h4
      cases hq : ρ.getD i .undef with
      | own zs => exact absurd (y.mu i zs hq).symm q
      | undef => exact fun _ => trivial
      | none => exact id
      | bool _ => exact id
      | int _ => exact id
      | str _ => exact id
      | list _ => exact id
      | tup _ => exact id
      | fn _ => exact id
  · obtain ⟨h1, vo, h2, h3⟩ := y.ce i z k c hi hk hc
    have hq : C.mu ≠ i := fun q => by subst q; exact hk (hloc z k hi)
    refine ⟨h1, vo, h2.sameBut hsb (hcell z c k i hi hk hc), ?_⟩
    rw [getD_set hlt, if_neg hq]
    revert h3
    cases ρ.getD i .undef with
    | own zs => intro ⟨b, its2, h5, h6, _⟩; cases h6
    | undef => exact fun _ => trivial
    | none => exact id
    | bool _ => exact id
    | int _ => exact id
    | str _ => exact id
    | list _ => exact id
    | tup _ => exact id
    | fn _ => exact id
  · rw [getD_set hlt] at e
    split at e
    · rename_i q; exact q.symm
    · exact y.mu i zs e
  · cases e; exact ⟨hHa, its', n', ho'⟩
noncomputable def OwnOp (g : GC) (id : String) (F : List PV → List PV → Option (List PV)) : Prop :=
  ∀ A s H a its xs ps vs (Q : Value → Shared → Prop) E xs', Room A 20 → St g s H → s.heap.PlainList a its → VRelL H xs its.toList → VRelL H ps vs → F xs ps = some xs' →
    (∀ h' its', h'.PlainList a its' → VRelL H xs' its'.toList → Heap.SameBut a s.heap h' → Q .none { s with heap := h' }) → wpAny (model g.prog g.w) A (call (.builtin id) (.ref a :: vs)) Q E s
noncomputable def fOwn0 (C : Cx) (F : List PV → List PV → Option (List PV)) : DS := fun ρ => match ρ.getD C.mu .undef with
  | .own xs => (F xs []).map fun ys => (.next, ρ.set C.mu (.own ys))
  | _ => none
noncomputable def fOwn (C : Cx) (f : List PV → Option (List PV)) (F : List PV → List PV → Option (List PV)) : DS := fun ρ => match ρ.getD C.mu .undef with
  | .own xs => (f ρ).bind fun ps => (F xs ps).map fun ys => (.next, ρ.set C.mu (.own ys))
  | _ => none
theorem interactive_no {env : Env} (hC : C.ok = true) (he : EnvOk C env) : interactive env = false := by
  unfold interactive; rw [he.scope, Cx.kind hC]; rfl
theorem DenS.own0 {x name : Str} {id : String} {p ap cp pos : Pos} {F : List PV → List PV → Option (List PV)} (hC : C.ok = true) (hi : C.ns[C.mu]? = some (x, .loc)) (slot : Slot "list" name id)
    (hty : typeOf (.builtin id) = pure (.type "method_descriptor")) (hF : OwnOp g id F) (hlv : 20 ≤ C.lv := by decide) (pl : Env → Sem Bool)
    (hev : ∀ env, eval (.Call (.Attribute (.Name x p) name ap) [] [] cp) env = (do
      let ov ← eval (.Name x p) env
      standAt ap.atName
      let (f, first) ← holding [ov] (getMethod ov name (pl env))
      callWith cp f first (backTo cp (starEach [] env)) []) := by intro _; rfl) :
    DenS g C (.Expr (.Call (.Attribute (.Name x p) name ap) [] [] cp) pos) (fOwn0 C F) := by
  intro env A s H ρ oa Q E fl ρ' he hr y hf hp
  unfold fOwn0 at hf
  split at hf
  · rename_i xs hv
    obtain ⟨ys, hys, hf2⟩ := Option.map_eq_some_iff.mp hf
    cases hf2
    refine wpAny_Expr_any ?_ (interactive_no hC he) rfl
    refine MethodCall_ (loadOwn hC he y hi hv fun a its h1 h2 h3 h4 => ?_) (hev env)
    subst h1
    refine getMethod_list_of slot hty h3.isList (by obtain ⟨n, ho⟩ := h3; exact ⟨_, ho, rfl⟩) (callWith_method0 ?_)
    refine hF A s H a its xs [] [] _ E ys (hr.le hlv) y.st h3 h4 rfl hys fun h' its' h5 h6 h7 => ?_
    have := own_step (tk := s.toks) he y (by have := (List.getElem?_eq_some_iff.mp hi).1; exact this) (fun z k q => by rw [hi] at q; cases q; rfl) hv h3 h5 h6 h7
    exact hp.nx this.1 this.2
  · cases hf
theorem DenS.own {x name : Str} {id : String} {p ap cp pos : Pos} {e : Expr} {es : List Expr} {f : List PV → Option (List PV)} {F : List PV → List PV → Option (List PV)} (hC : C.ok = true) (hi : C.ns[C.mu]? = some (x, .loc)) (slot : Slot "list" name id)
    (hty : typeOf (.builtin id) = pure (.type "method_descriptor")) (h1 : DenL g C (e :: es) f) (hF : OwnOp g id F) (hlv : 20 ≤ C.lv := by decide) (pl : Env → Sem Bool)
    (hev : ∀ env, eval (.Call (.Attribute (.Name x p) name ap) (e :: es) [] cp) env = (do
      let ov ← eval (.Name x p) env
      standAt ap.atName
      let (f, first) ← holding [ov] (getMethod ov name (pl env))
      callWith cp f first (backTo cp (starEach (e :: es) env)) []) := by intro _; rfl)
    (hs : ∀ env, starEach (e :: es) env = (false, eval e env) :: starEach es env := by intro _; rfl) (hpl : ∀ env, (backTo cp (starEach es env)).any (·.1) = false := by intro _; rfl) :
    DenS g C (.Expr (.Call (.Attribute (.Name x p) name ap) (e :: es) [] cp) pos) (fOwn C f F) := by
  intro env A s H ρ oa Q E fl ρ' he hr y hf hp
  unfold fOwn at hf
  split at hf
  · rename_i xs hv
    obtain ⟨ps, hps, hf1⟩ := Option.bind_eq_some_iff.mp hf
    obtain ⟨ys, hys, hf2⟩ := Option.map_eq_some_iff.mp hf1
    cases hf2
    refine wpAny_Expr_any ?_ (interactive_no hC he) rfl
    refine MethodCall_ (loadOwn hC he y hi hv fun a its h1' h2 h3 h4 => ?_) (hev env)
    subst h1'
    refine getMethod_list_of slot hty h3.isList (by obtain ⟨n, ho⟩ := h3; exact ⟨_, ho, rfl⟩) ?_
    refine callWith_method1 (h1 env A s H ρ (some a) _ E ps cp he hr y hps fun vs s1 H1 e1 hvs => ?_) (hs env) (hpl env)
    have y1 := y.ext e1
    obtain ⟨m, hn, hsl⟩ := y1.ns
    have h5 := hsl C.mu x hi
    rw [hv] at h5
    obtain ⟨b, its1, _, hb, hHb, h6, h7⟩ := h5
    cases hb
    refine hF A s1 H1 a its1 xs ps vs _ E ys (hr.le hlv) y1.st h6 h7 hvs hys fun h' its' h8 h9 h10 => ?_
    have := own_step (tk := s1.toks) he y1 (by have := (List.getElem?_eq_some_iff.mp hi).1; exact this) (fun z k q => by rw [hi] at q; cases q; rfl) hv h6 h8 h9 h10
    exact hp.nx (ExtS.trans (y.there he).1 (y.there he).2 (.of e1) this.1) this.2
  · cases hf
noncomputable def frz (C : Cx) (ρ : List PV) : List PV := match ρ.getD C.mu .undef with
  | .own xs => ρ.set C.mu (.list xs)
  | _ => ρ
theorem freeze_rel {env : Env} {s : Shared} {H : HP} {ρ : List PV} {a : Addr} {its : Array Value} {xs : List PV} {n : Nat} (he : EnvOk C env) (y : Rel g C env s H ρ (some a)) (hmu : C.mu < C.ns.length) (hloc : ∀ z k, C.ns[C.mu]? = some (z, k) → k = .loc)
    (hv : ρ.getD C.mu .undef = .own xs) (ho : s.heap.get? a = some { cls := .type "list", data := .seq its n }) (hx : VRelL H xs its.toList) :
    ExtS g C env s H (some a) s (hput H a { cls := .type "list", data := .seq its n }) none ∧ Rel g C env s (hput H a { cls := .type "list", data := .seq its n }) (ρ.set C.mu (.list xs)) none := by
  have hp : s.heap.PlainList a its := ⟨n, ho⟩
  obtain ⟨hne, hcell⟩ := own_ne he y hp
  obtain ⟨hHa, _⟩ := y.oall a rfl
  have hnt := Heap.PlainList.notTab y.st hp
  have hle := hput_le (o := { cls := .type "list", data := .seq its n }) hHa
  have st : St g s (hput H a { cls := .type "list", data := .seq its n }) := by
    refine ⟨fun b o e => ?_, fun b o ht e => hle _ _ (y.st.base b o ht e), y.st.tab.moves hle (fun _ _ _ e => e), fun b t => ?_, y.st.bare⟩
    · unfold hput at e
      split at e
      · rename_i q; subst q; cases e; exact ho
      · exact y.st.keep b o e
    · show (if b = a then _ else H b) = Option.none
      rw [if_neg (fun q : b = a => hnt (q ▸ t))]; exact y.st.notab b t
  have hlt : C.mu < ρ.length := by rw [y.len]; exact hmu
  have slot : ∀ i vo, i ≠ C.mu → SlotV H s.heap (some a) (ρ.getD i .undef) vo → SlotV (hput H a { cls := .type "list", data := .seq its n }) s.heap none (ρ.getD i .undef) vo := by
    intro i vo hi h4
    revert h4
    cases hq : ρ.getD i .undef with
    | own zs => exact absurd (y.mu i zs hq) hi
    | undef => exact fun _ => trivial
    | none => exact fun ⟨v, e, r⟩ => ⟨v, e, VRel.mono hle _ _ r⟩
    | bool _ => exact fun ⟨v, e, r⟩ => ⟨v, e, VRel.mono hle _ _ r⟩
    | int _ => exact fun ⟨v, e, r⟩ => ⟨v, e, VRel.mono hle _ _ r⟩
    | str _ => exact fun ⟨v, e, r⟩ => ⟨v, e, VRel.mono hle _ _ r⟩
    | list _ => exact fun ⟨v, e, r⟩ => ⟨v, e, VRel.mono hle _ _ r⟩
    | tup _ => exact fun ⟨v, e, r⟩ => ⟨v, e, VRel.mono hle _ _ r⟩
    | fn _ => exact fun ⟨v, e, r⟩ => ⟨v, e, VRel.mono hle _ _ r⟩
  have hother : ∀ c, c ≠ a → H c = none → hput H a { cls := .type "list", data := .seq its n } c = none := fun c hc e => by
    show (if c = a then _ else H c) = Option.none
    rw [if_neg hc]; exact e
  refine ⟨⟨st, hle, fun _ _ _ e _ => e, fun _ o e => ⟨o, e⟩, fun b o e => ?_, fun _ e => (by cases e), ⟨_, _, _, rfl⟩, fun _ _ e => e⟩, st, by rw [List.length_set]; exact y.len, hother _ (Ne.symm hne) y.fz, ?_, fun i z k c hi hk hc => ?_, fun i zs e => ?_, fun b e => (by cases e)⟩
  · unfold hput at e
    split at e
    · rename_i q; exact .inr (.inr (q ▸ rfl))
    · exact .inl e
  · obtain ⟨m, hn, hsl⟩ := y.ns
    refine ⟨m, hn, fun i z hi => ?_⟩
    rw [getD_set hlt]
    by_cases q : C.mu = i
    · subst q
      rw [if_pos rfl]
      have h4 := hsl _ z hi
      rw [hv] at h4
      obtain ⟨b, its2, h5, h6, h7, h8, h9⟩ := h4
      cases h6
      exact ⟨.ref a, h5, a, _, its, n, rfl, hput_self .., rfl, rfl, VRelL.mono hle _ _ hx⟩
    · rw [if_neg q]
      exact slot i _ (Ne.symm q) (hsl i z hi)
  · obtain ⟨h1, vo, h2, h3⟩ := y.ce i z k c hi hk hc
    have hq : C.mu ≠ i := fun q => by subst q; exact hk (hloc z k hi)
    refine ⟨fun e => hother c (hcell z c k i hi hk hc) (h1 e), vo, h2, ?_⟩
    rw [getD_set hlt, if_neg hq]
    refine slot i _ (Ne.symm hq) ?_
    revert h3
    cases ρ.getD i .undef with
    | own zs => intro ⟨b, its2, h5, h6, _⟩; cases h6
    | undef => exact fun _ => trivial
    | none => exact id
    | bool _ => exact id
    | int _ => exact id
    | str _ => exact id
    | list _ => exact id
    | tup _ => exact id
    | fn _ => exact id
  · rw [getD_set hlt] at e
    split at e
    · cases e
    · exact y.mu i zs e
theorem DenSs.freeze {x : Str} {sts : List Stmt} {f : DS} (hi : C.ns[C.mu]? = some (x, .loc)) (h1 : DenSs g C sts f) : DenSs g C sts (fun ρ => f (frz C ρ)) := by
  intro env A s H ρ oa Q E fl ρ' he hr y hf hp
  unfold frz at hf
  dsimp only at hf
  split at hf
  · rename_i xs hv
    obtain ⟨m, hn, hsl⟩ := y.ns
    have h5 := hsl C.mu x hi
    rw [hv] at h5
    obtain ⟨a, its, _, rfl, hHb, ⟨n, ho⟩, h7⟩ := h5
    have := freeze_rel he y (by have := (List.getElem?_eq_some_iff.mp hi).1; exact this) (fun z k q => by rw [hi] at q; cases q; rfl) hv ho h7
    exact h1 env A s _ _ none Q E fl ρ' he hr this.2 hf (hp.aft he y this.1)
  · exact h1 env A s H ρ oa Q E fl ρ' he hr y hf hp
theorem append_own : OwnOp g "list.append" (fun xs ps => match ps with | [p] => if xs.length ≤ 1000000 then some (xs ++ [p]) else none | _ => none) := by
  intro A s H a its xs ps vs Q E xs' hr st hp hx hv hf hq
  dsimp only at hf
  split at hf
  · split at hf
    · rename_i p hlen
      cases hf
      obtain ⟨v, rfl, h1⟩ := hv.one
      have hsz : its.size = xs.length := by have := hx.length; rw [Array.length_toList] at this; exact this
      refine wpAny_list_append_plain hp (fun h' hp' hsb => hq h' _ hp' ?_ hsb) (by rw [hsz]; exact Nat.le_trans hlen (by unfold sizeLine; decide))
      rw [Array.toList_push]
      exact hx.append (VRelL.cons h1 rfl)
    · cases hf
  · cases hf
end
section
variable {prog : Program} {w : World} {A : Around} {E : Value → Shared → Prop} {s : Shared}
theorem setItem_plain {l : Addr} {items : Array Value} {n : Nat} {k : Int} {t : Tok} {v : Value} {Q : Unit → Shared → Prop} (ho : s.heap.get? l = some { cls := .type "list", data := .seq items n })
    (h0 : 0 ≤ k) (hfit : k < 2 ^ 63) (hn : k < items.size)
    (hQ : ∀ h', h'.PlainList l (items.setIfInBounds k.toNat v) → Heap.SameBut l s.heap h' → Q () { s with heap := h' }) :
    wpAny (model prog w) A (setItem (.ref l) (.int k t) v) Q E s := by
  have hl : s.heap.IsList l items := ⟨_, ho, rfl, n, rfl⟩
  unfold setItem
  try with_reducible refine wpAny_holding ?_
  first | refine wpAny_bind (wpAny_pure ?_) | skip
  refine wpAny_bind (wpAny_sequenceKey hl.typeIs (by decide) ?_)
  refine wpAny_bind (wpAny_callSpecial?_slot (name := Str.ofString "__setitem__") hl.typeIs slot_list_setitem
    (wpAny_call_entry slot_list_setitem hl.typeIs entry_list_setitem ?_ (args_list_setitem _ _ _)))
  show wpAny _ _ (Builtin.List.listSubscript? (.int k t) >>= _) _ _ s
  refine wpAny_bind (wpAny_listSubscript_int (fitsIndex_of h0 hfit) ?_)
  clear hfit
  obtain ⟨j, rfl⟩ := Int.eq_ofNat_of_zero_le h0
  have hj : j < items.size := by omega
  have hx' : items[j]? = some items[j] := Array.getElem?_eq_getElem hj
  show wpAny _ _ ((seqItemAt l j >>= fun r => pure (r.map (j, ·))) >>= _) _ _ s
  refine wpAny_bind (wpAny_bind (wpAny_seqItemAt ho rfl (wpAny_pure ?_)))
  rw [hx']
  show wpAny _ _ (setSeqItemAt l j v >>= _) _ _ s
  have hfin : ∃ n', (s.heap.update l (Obj.mapSeq (·.setIfInBounds j v))).get? l = some { cls := .type "list", data := .seq (items.setIfInBounds j v) n' } := by
    refine ⟨_, Heap.get?_update_self _ ho ?_⟩
    rfl
  refine wpAny_bind (wpAny_setSeqItemAt ho rfl ?_)
  first
    | exact wpAny_bind (wpAny_pure (wpAny_pure ⟨.none, rfl, wpAny_pure (hQ _ hfin (Heap.SameBut.update ..))⟩))
    | exact wpAny_pure ⟨.none, rfl, wpAny_pure (hQ _ hfin (Heap.SameBut.update ..))⟩
end
theorem set_rel {H : HP} {p : PV} {v : Value} (hv : VRel H p v) : ∀ (k : Nat) {ps : List PV} {vs : List Value}, VRelL H ps vs → VRelL H (ps.set k p) (vs.set k v)
  | _, [], _, h => by rw [show _ = [] from h]; rfl
  | 0, q :: ps, _, ⟨w, r, e, hw, hr⟩ => by subst e; exact VRelL.cons hv hr
  | k + 1, q :: ps, _, ⟨w, r, e, hw, hr⟩ => by subst e; exact VRelL.cons hw (set_rel hv k hr)
section
variable {g : GC} {C : Cx}
noncomputable def fSetItem (C : Cx) (fi fv : DE) : DS := fun ρ => match ρ.getD C.mu .undef with
  | .own xs => (fv ρ).bind fun v => (fi ρ).bind fun i => match i with
    | .int k => if 0 ≤ k ∧ k < xs.length ∧ xs.length ≤ 1000000 then some (.next, ρ.set C.mu (.own (xs.set k.toNat v))) else none
    | _ => none
  | _ => none
theorem DenS.setitem {x : Str} {p sp pos : Pos} {idx value : Expr} {fi fv : DE} (hC : C.ok = true) (hi : C.ns[C.mu]? = some (x, .loc)) (h1 : Den g C value fv) (h2 : Den g C idx fi)
    (hs : ∀ env, env.scope = C.sc → swapsWith value (some (.Subscript (.Name x p) idx sp)) pos.line env = pure false := by intro _ _; rfl) :
    DenS g C (.Assign [.Subscript (.Name x p) idx sp] value pos) (fSetItem C fi fv) := by
  intro env A s H ρ oa Q E fl ρ' he hr y hf hp
  unfold fSetItem at hf
  split at hf
  · rename_i xs hv
    obtain ⟨pv, hpv, hf1⟩ := Option.bind_eq_some_iff.mp hf
    obtain ⟨pi, hpi, hf2⟩ := Option.bind_eq_some_iff.mp hf1
    clear hf hf1
    split at hf2
    · split at hf2
      · rename_i k hk
        cases hf2
        refine wpAny_Assign_Subscript (h1.bind he hr y hpv fun vv s1 H1 e1 y1 hvv => loadOwn hC he y1 hi hv fun a its h3 h4 h5 h6 => ?_) (hs env he.scope)
        subst h3
        refine h2.bind he hr y1 hpi fun vi s2 H2 e2 y2 hvi => ?_
        obtain ⟨t, rfl⟩ := hvi
        obtain ⟨m, hn, hsl⟩ := y2.ns
        have h7 := hsl C.mu x hi
        rw [hv] at h7
        obtain ⟨b, its2, _, hb, hHb, ⟨n, ho⟩, hx⟩ := h7
        cases hb
        have hsz : its2.size = xs.length := by have := hx.length; rw [Array.length_toList] at this; exact this
        refine setItem_plain ho hk.1 (by omega) (by rw [hsz]; exact hk.2.1) fun h' hp' hsb => ?_
        have := own_step (tk := s2.toks) he y2 (by have := (List.getElem?_eq_some_iff.mp hi).1; exact this) (fun z k q => by rw [hi] at q; cases q; rfl) hv ⟨n, ho⟩ hp' (by rw [Array.toList_setIfInBounds]; exact set_rel (VRel.mono e2.le _ _ hvv) k.toNat hx) hsb
        exact hp.nx (ExtS.trans (y.there he).1 (y.there he).2 (.of (e1.trans e2)) this.1) this.2
      · cases hf2
    · cases hf2
  · cases hf
theorem reverse_own : OwnOp g "list.reverse" (fun xs ps => match ps with | [] => if xs.length ≤ 1000000 then some xs.reverse else none | _ => none) := by
  intro A s H a its xs ps vs Q E xs' hr st hp hx hv hf hq
  dsimp only at hf
  split at hf
  · split at hf
    · rename_i hlen
      cases hf
      have hvs : vs = [] := hv
      subst hvs
      obtain ⟨n, ho⟩ := hp
      have hsz : its.size = xs.length := by have := hx.length; rw [Array.length_toList] at this; exact this
      have hszl : its.size ≤ sizeLine := by rw [hsz]; exact Nat.le_trans hlen (by unfold sizeLine; decide)
      refine call_meets PySem.F.slot_list_reverse ⟨_, ho, rfl⟩ PySem.F.entry_list_reverse (PySem.F.args_list_reverse_1 _) (AutoListH.list_reverse_list_0 a its n hszl) ⟨ho, ?_⟩
      refine hq _ its.reverse ⟨_, Heap.get?_update_self _ ho rfl⟩ ?_ (Heap.SameBut.update ..)
      rw [Array.toList_reverse]; exact hx.reverse
    · cases hf
  · cases hf
noncomputable def insAt (xs : List PV) (k : Nat) (p : PV) : List PV := xs.take k ++ p :: xs.drop k
theorem insert_own : OwnOp g "list.insert" (fun xs ps => match ps with | [.int i, p] => if 0 ≤ i ∧ i ≤ xs.length ∧ xs.length ≤ 1000000 then some (insAt xs i.toNat p) else none | _ => none) := by
  intro A s H a its xs ps vs Q E xs' hr st hp hx hv hf hq
  dsimp only at hf
  split at hf
  · split at hf
    · rename_i i p hlen
      cases hf
      obtain ⟨v, w, rfl, ⟨t, rfl⟩, hw⟩ := hv.two
      obtain ⟨n, ho⟩ := hp
      have hsz : its.size = xs.length := by have := hx.length; rw [Array.length_toList] at this; exact this
      have hszl : its.size ≤ sizeLine := by rw [hsz]; exact Nat.le_trans hlen.2.2 (by unfold sizeLine; decide)
      refine call_meets PySem.F.slot_list_insert ⟨_, ho, rfl⟩ PySem.F.entry_list_insert (PySem.F.args_list_insert_3 _ _ _) (AutoListH.list_insert_list_int_val_1 a its n i t w (by simp [Builtin.List.listFitsIndex]; omega) hszl) ⟨ho, ?_⟩
      have hfin : ∀ f : Array Value → Array Value, (s.heap.update a (Obj.mapSeq f)).PlainList a (f its) := fun f => ⟨_, Heap.get?_update_self _ ho rfl⟩
      have hneg : ¬ i < 0 := by omega
      have h0 := hfin fun xs => have k := if i < 0 then (i + ((xs.size : Nat) : Int)).toNat else min i.toNat xs.size; (xs.extract 0 k).push w ++ xs.extract k
      simp only [hneg, if_false] at h0 ⊢
      refine hq _ _ h0 ?_ (Heap.SameBut.update ..)
      · have hk : min i.toNat its.size = i.toNat := by omega
        rw [hk]
        simp only [Array.toList_append, Array.toList_push, Array.toList_extract, insAt]
        have h1 := hx.take i.toNat
        have h2 := hx.drop i.toNat
        have e1 : its.toList.extract 0 i.toNat = its.toList.take i.toNat := by simp [List.extract]
        have e2 : its.toList.extract i.toNat its.size = its.toList.drop i.toNat := by
          rw [List.extract_eq_drop_take, List.take_of_length_le (by simp)]
        rw [e1, e2]
        simpa using h1.append (VRelL.cons hw h2)
    · cases hf
  · cases hf
noncomputable def forF (ft : List PV → PV → Option (List PV)) (fb : DS) : List PV → DS
  | [], ρ => some (.next, ρ)
  | p :: ps, ρ => (ft ρ p).bind fun ρ1 => (fb ρ1).bind fun r => match r with
    | (.next, ρ2) => forF ft fb ps ρ2
    | (.ret v, ρ2) => some (.ret v, ρ2)
structure LoopI (g : GC) (C : Cx) (env : Env) (B : Shared → HP → Option Addr → Prop) (wr : List Addr) (gw : List Nat) (T : Nat → HP → Shared → Prop) (i : Nat) (ρ : List PV) (s : Shared) (H : HP) (oa : Option Addr) : Prop where
  ext : B s H oa
  rel : Rel g C env s H ρ oa
  it : T i H s
  no : ∀ b ∈ wr, b ≠ env.locals ∧ ∀ (z : Str) (c : Addr) (k : VK) (i : Nat), C.ns[i]? = some (z, k) → k ≠ VK.loc → env.cells.lookup z = some c → c ≠ b
  wok : WrOk wr H
  noa : ∀ b ∈ wr, oa ≠ some b
structure BaseOk (g : GC) (C : Cx) (env : Env) (wr : List Addr) (gw : List Nat) (B : Shared → HP → Option Addr → Prop) : Prop where
  w : ∀ s H oa s' H', B s H oa → ExtW g wr gw s H s' H' → B s' H' oa
  s : ∀ s H oa s' H' oa' ρ, B s H oa → Rel g C env s H ρ oa → ExtS g C env s H oa s' H' oa' → B s' H' oa'
theorem Rel.ne_of_fresh {env : Env} {s0 s : Shared} {H0 H : HP} {ρ0 ρ : List PV} {oa0 oa : Option Addr} {b : Addr} (he : EnvOk C env) (y0 : Rel g C env s0 H0 ρ0 oa0) (hb : s0.heap.get? b = none) :
    b ≠ env.locals ∧ ∀ (z : Str) (c : Addr) (k : VK) (i : Nat), C.ns[i]? = some (z, k) → k ≠ VK.loc → env.cells.lookup z = some c → c ≠ b := by
  refine ⟨fun q => ?_, fun z c k i hi hk hc q => ?_⟩
  · obtain ⟨m, ⟨o, _, _, ho, _⟩, _⟩ := y0.ns; rw [q, ho] at hb; cases hb
  · obtain ⟨_, vo, ⟨o, ho, _⟩, _⟩ := y0.ce i z k c hi hk hc; rw [q, hb] at ho; cases ho
theorem Rel.extW {env : Env} {s s' : Shared} {H H' : HP} {ρ : List PV} {oa : Option Addr} {wr : List Addr} {gw : List Nat} (he : EnvOk C env) (y : Rel g C env s H ρ oa) (e : ExtW g wr gw s H s' H') (hL : env.locals ∉ wr)
    (hc : ∀ (z : Str) (c : Addr) (k : VK) (i : Nat), C.ns[i]? = some (z, k) → k ≠ VK.loc → env.cells.lookup z = some c → c ∉ wr) (hoa : ∀ b ∈ wr, oa ≠ some b) : Rel g C env s' H' ρ oa := by
  have stays : ∀ a o, s.heap.get? a = some o → H a = none → H' a = none := fun a o ho hH => by
    cases q : H' a with
    | none => rfl
    | some o' => rcases e.fresh a o' q with r | r
                 · rw [hH] at r; cases r
                 · rw [ho] at r; cases r
  have slot : ∀ (p : PV) (vo : Option Value), SlotV H s.heap oa p vo → SlotV H' s'.heap oa p vo := by
    intro p vo hs
    cases p with
    | undef => trivial
    | own xs =>
      obtain ⟨a, its, h1, h2, h3, ⟨n, h4⟩, h5⟩ := hs
      exact ⟨a, its, h1, h2, stays a _ h4 h3, ⟨n, e.old a _ (fun q => hoa a q h2) (Heap.PlainList.notTab y.st ⟨n, h4⟩) h4⟩, VRelL.mono e.le _ _ h5⟩
    | none => obtain ⟨v, h1, h2⟩ := hs; exact ⟨v, h1, VRel.mono e.le _ _ h2⟩
    | bool b => obtain ⟨v, h1, h2⟩ := hs; exact ⟨v, h1, VRel.mono e.le _ _ h2⟩
    | int b => obtain ⟨v, h1, h2⟩ := hs; exact ⟨v, h1, VRel.mono e.le _ _ h2⟩
    | str b => obtain ⟨v, h1, h2⟩ := hs; exact ⟨v, h1, VRel.mono e.le _ _ h2⟩
    | list b => obtain ⟨v, h1, h2⟩ := hs; exact ⟨v, h1, VRel.mono e.le _ _ h2⟩
    | tup b => obtain ⟨v, h1, h2⟩ := hs; exact ⟨v, h1, VRel.mono e.le _ _ h2⟩
    | fn b => obtain ⟨v, h1, h2⟩ := hs; exact ⟨v, h1, VRel.mono e.le _ _ h2⟩
  have slot0 : ∀ (p : PV) (vo : Option Value), SlotV H s.heap Option.none p vo → SlotV H' s'.heap Option.none p vo := by
    intro p vo hs
    cases p with
    | undef => trivial
    | own xs => obtain ⟨a, its, h1, h2, _⟩ := hs; cases h2
    | none => obtain ⟨v, h1, h2⟩ := hs; exact ⟨v, h1, VRel.mono e.le _ _ h2⟩
    | bool b => obtain ⟨v, h1, h2⟩ := hs; exact ⟨v, h1, VRel.mono e.le _ _ h2⟩
    | int b => obtain ⟨v, h1, h2⟩ := hs; exact ⟨v, h1, VRel.mono e.le _ _ h2⟩
    | str b => obtain ⟨v, h1, h2⟩ := hs; exact ⟨v, h1, VRel.mono e.le _ _ h2⟩
    | list b => obtain ⟨v, h1, h2⟩ := hs; exact ⟨v, h1, VRel.mono e.le _ _ h2⟩
    | tup b => obtain ⟨v, h1, h2⟩ := hs; exact ⟨v, h1, VRel.mono e.le _ _ h2⟩
    | fn b => obtain ⟨v, h1, h2⟩ := hs; exact ⟨v, h1, VRel.mono e.le _ _ h2⟩
  obtain ⟨m, hn, hsl⟩ := y.ns
  refine ⟨e.st, y.len, ?_, ⟨m, hn.at' fun o ho => e.old _ o hL (Heap.Ns.notTab y.st hn) ho, fun i z hi => slot _ _ (hsl i z hi)⟩, fun i z k c hi hk hcc => ?_, y.mu, fun a ha => ?_⟩
  · obtain ⟨o, _, _, ho, _⟩ := hn; exact stays _ o ho y.fz
  · obtain ⟨h1, vo, ⟨o, ho, hd⟩, h3⟩ := y.ce i z k c hi hk hcc
    exact ⟨fun q => stays c o ho (h1 q), vo, ⟨o, e.old _ _ (hc z c k i hi hk hcc) (Heap.IsCell.notTab y.st ⟨o, ho, hd⟩) ho, hd⟩, slot0 _ _ h3⟩
  · obtain ⟨h1, its, n, ho⟩ := y.oall a ha
    exact ⟨stays a _ ho h1, its, n, e.old _ _ (fun q => hoa a q ha) (Heap.PlainList.notTab y.st ⟨n, ho⟩) ho⟩
theorem ExtS.thenW {env : Env} {s s' s'' : Shared} {H H' H'' : HP} {oa oa' : Option Addr} {wr : List Addr} {gw : List Nat} (x : ExtS g C env s H oa s' H' oa') (e : ExtW g wr gw s' H' s'' H'') (hw : ∀ b ∈ wr, s.heap.get? b = none) (hg : ∀ j ∈ gw, s.gens[j]? = none) : ExtS g C env s H oa s'' H'' oa' := by
  refine ⟨e.st, x.le.trans e.le, fun a o ht h hn => e.old a o (fun q => by rw [hw a q] at h; cases h) ht (x.old a o ht h hn), fun a o h => ?_, fun a o h => ?_, x.oa, ?_, fun i z h => e.gens i z (fun q => by rw [hg i q] at h; cases h) (x.gens i z h)⟩
  · obtain ⟨o', h'⟩ := x.there a o h
    by_cases t : isTab a
    · obtain ⟨o2, h2, _⟩ := tab_some e.st.tab t; exact ⟨o2, h2⟩
    · exact ⟨o', e.old a o' (fun q => by rw [hw a q] at h; cases h) t h'⟩
  · rcases e.fresh a o h with q | q
    · exact x.fresh a o q
    · right; left
      cases r : s.heap.get? a with
      | none => rfl
      | some o' => obtain ⟨o2, h2⟩ := x.there a o' r; rw [h2] at q; cases q
  · obtain ⟨h1, g1, t1, rfl⟩ := x.same
    obtain ⟨h2, g2, t2, rfl⟩ := e.same
    exact ⟨h2, g2, t2, rfl⟩
theorem BaseOk.of {env : Env} {s0 : Shared} {H0 : HP} {oa0 : Option Addr} {ρ0 : List PV} {wr : List Addr} {gw : List Nat} (he : EnvOk C env) (y0 : Rel g C env s0 H0 ρ0 oa0) (hf : ∀ b ∈ wr, s0.heap.get? b = none) (hg : ∀ j ∈ gw, s0.gens[j]? = none) : BaseOk g C env wr gw (ExtS g C env s0 H0 oa0) :=
  ⟨fun s H oa s' H' x e => x.thenW e hf hg, fun s H oa s' H' oa' ρ x y e => ExtS.trans (y0.there he).1 (y0.there he).2 x e⟩
section
variable {env : Env} {B : Shared → HP → Option Addr → Prop} {wr : List Addr} {gw : List Nat} {A : Around} {I : Addr} {tgt : Expr} {T : Nat → HP → Shared → Prop} {items : List PV}
theorem LoopI.after {s s' : Shared} {H H' : HP} {oa oa' : Option Addr} {i : Nat} {ρ ρ' : List PV}
    (hB : BaseOk g C env wr gw B) (hO : IterOk g A I wr gw tgt T items) (L : LoopI g C env B wr gw T i ρ s H oa) (e : ExtS g C env s H oa s' H' oa') (y : Rel g C env s' H' ρ' oa') : LoopI g C env B wr gw T i ρ' s' H' oa' := by
  have hno : ∀ b ∈ wr, ¬ Own C env oa b := fun b hb q => by
    rcases q with q | ⟨z, hz, q⟩ | q
    · exact (L.no b hb).1 q
    · obtain ⟨j, hj⟩ := List.getElem?_of_mem hz
      exact (L.no b hb).2 z b .cel j hj (by decide) q rfl
    · exact L.noa b hb q
  refine ⟨hB.s _ _ _ _ _ _ _ L.ext L.rel e, y, ?_, L.no, ⟨fun b hb => ?_, L.wok.notab⟩, fun b hb q => ?_⟩
  · exact hO.frame i H H' s s' L.it e.le (fun b hb o ho => e.old b o (L.wok.notab b hb) ho (hno b hb)) (fun j _ x hx => e.gens j x hx) e.st
  · obtain ⟨o, ho⟩ := hO.live i H s L.it b hb
    cases q : H' b with
    | none => rfl
    | some o' =>
      rcases e.fresh b o' q with r | r | r
      · rw [L.wok.none b hb] at r; cases r
      · rw [ho] at r; cases r
      · exact absurd r (L.noa b hb)
  · obtain ⟨o, ho⟩ := hO.live i H s L.it b hb
    rcases e.oa b q with r | r
    · exact L.noa b hb r
    · rw [ho] at r; cases r
theorem LoopI.relW {s s' : Shared} {H H' : HP} {oa : Option Addr} {i : Nat} {ρ : List PV} (L : LoopI g C env B wr gw T i ρ s H oa) (he : EnvOk C env) (e : ExtW g wr gw s H s' H') : Rel g C env s' H' ρ oa :=
  L.rel.extW he e (fun q => (L.no _ q).1 rfl) (fun z c k j hj hk hc q => (L.no _ q).2 z c k j hj hk hc rfl) L.noa
theorem LoopI.turn {s : Shared} {H : HP} {oa : Option Addr} {i : Nat} {ρ : List PV} {p : PV} {Q : Value → Shared → Prop} {E : Value → Shared → Prop}
    (he : EnvOk C env) (hB : BaseOk g C env wr gw B) (hO : IterOk g A I wr gw tgt T items) (L : LoopI g C env B wr gw T i ρ s H oa) (hp : items[i]? = some p)
    (h : ∀ v s' H', ExtW g wr gw s H s' H' → LoopI g C env B wr gw T (i + 1) ρ s' H' oa → VRel H' p v → Q v s') :
    wpAny (model g.prog g.w) A (pyNext (.ref I)) (fun r s₁ => ∃ v, r = some v ∧ wpAny (model g.prog g.w) A (letOwnedTupleGo tgt (.ref I) v) (fun _ s₂ => Q v s₂) E s₁) E s := by
  refine hO.turn i s H Q E p hp L.rel.st L.it L.wok fun v s' H' e t hv => h v s' H' e ⟨hB.w _ _ _ _ _ L.ext e, L.relW he e, t, L.no, ⟨fun b hb => ?_, L.wok.notab⟩, L.noa⟩ hv
  obtain ⟨o, ho⟩ := hO.live i H s L.it b hb
  cases q : H' b with
  | none => rfl
  | some o' =>
    rcases e.fresh b o' q with r | r
    · rw [L.wok.none b hb] at r; cases r
    · rw [ho] at r; cases r
theorem LoopI.done {s : Shared} {H : HP} {oa : Option Addr} {ρ : List PV} {Q : Option Value → Shared → Prop} {E : Value → Shared → Prop}
    (he : EnvOk C env) (hB : BaseOk g C env wr gw B) (hO : IterOk g A I wr gw tgt T items) (L : LoopI g C env B wr gw T items.length ρ s H oa)
    (h : ∀ s' H', ExtW g wr gw s H s' H' → B s' H' oa → Rel g C env s' H' ρ oa → Q none s') : wpAny (model g.prog g.w) A (pyNext (.ref I)) Q E s :=
  hO.done s H Q E L.rel.st L.it L.wok fun s' H' e => h s' H' e (hB.w _ _ _ _ _ L.ext e) (L.relW he e)
end
theorem LoopI.start {env : Env} {s s' : Shared} {H H' : HP} {oa : Option Addr} {wr : List Addr} {gw : List Nat} {T : Nat → HP → Shared → Prop} {ρ : List PV} (he : EnvOk C env) (y : Rel g C env s H ρ oa) (e : Ext g s H s' H') (t : T 0 H' s') (hf : ∀ b ∈ wr, s.heap.get? b = none) (hw : WrOk wr H') :
    LoopI g C env (ExtS g C env s H oa) wr gw T 0 ρ s' H' oa :=
  ⟨.of e, y.ext e, t, fun b hb => Rel.ne_of_fresh (s := s) (H := H) (ρ := ρ) (oa := oa) he y (hf b hb), hw, fun b hb q => by obtain ⟨_, its, n, ho⟩ := y.oall b q; rw [hf b hb] at ho; cases ho⟩
theorem DenS.for {tgt iter : Expr} {body : List Stmt} {pos : Pos} {fi : List PV → Option (List PV)} {ft : List PV → PV → Option (List PV)} {fb : DS} (hI : DenI g C iter tgt fi) (hT : DenT g C tgt ft) (hB : DenSs g C body fb)
    (hs : ∀ env x, foldedSetIterable iter env x = pure x := by intro _ _; rfl) :
    DenS g C (.For tgt iter body [] pos) (fun ρ => (fi ρ).bind fun items => forF ft fb items ρ) := by
  intro env A s H ρ oa Q E fl ρ' he hr y hf hp
  obtain ⟨items, hit, hf2⟩ := Option.bind_eq_some_iff.mp hf
  clear hf
  refine wpAny_For (hI env A s H ρ oa _ E items he hr y hit fun I wr gw T s1 H1 e1 hO t hfr hw hgf => ?_) (hs env)
  have hBs := BaseOk.of he y hfr hgf
  refine codeAny_forLoop_any (fun n s' => ∃ H' oa' ρ1 i, LoopI g C env (ExtS g C env s H oa) wr gw T i ρ1 s' H' oa' ∧ i ≤ items.length ∧ n = items.length - i ∧ forF ft fb (items.drop i) ρ1 = some (fl, ρ')) ?_ items.length
    ⟨H1, oa, ρ, 0, LoopI.start he y e1 t hfr hw, Nat.zero_le _, rfl, by simpa using hf2⟩
  rintro n s' ⟨H', oa', ρ1, i, L, hi, rfl, hfi⟩
  by_cases hlt : i < items.length
  · have hd : items.drop i = items[i] :: items.drop (i + 1) := List.drop_eq_getElem_cons hlt
    rw [hd] at hfi
    obtain ⟨ρ2, hρ2, hfi2⟩ := Option.bind_eq_some_iff.mp hfi
    obtain ⟨⟨fl3, ρ3⟩, hρ3, hfi3⟩ := Option.bind_eq_some_iff.mp hfi2
    clear hfi hfi2
    refine wpAny_mono (L.turn (Q := fun v s2 => wpAny (model g.prog g.w) A (PySem.assign tgt env v) (fun _ s3 => wpAny (model g.prog g.w) A (execs body env) (fun f s4 => match f with
          | .next | .cont => ∃ m, m < items.length - i ∧ ∃ H' oa' ρ1 j, LoopI g C env (ExtS g C env s H oa) wr gw T j ρ1 s4 H' oa' ∧ j ≤ items.length ∧ m = items.length - j ∧ forF ft fb (items.drop j) ρ1 = some (fl, ρ')
          | .brk => Q .next s4
          | .ret v => Q (.ret v) s4) (notedBy (model g.prog g.w) A env fun e s' => cameBackBy (model g.prog g.w) A env E e s') s3) (notedBy (model g.prog g.w) A env fun e s' => cameBackBy (model g.prog g.w) A env E e s') s2)
        he hBs hO (List.getElem?_eq_getElem hlt) fun v s2 H2 _ L2 hv => ?_) (fun r s2 h2 => ?_) fun _ _ e => e
    · refine hT env A s2 H2 ρ1 oa' _ _ items[i] v ρ2 he hr L2.rel hv hρ2 fun s3 e3 y3 _ => ?_
      have L3 := LoopI.after hBs hO L2 e3 y3
      refine hB env A s3 H2 ρ2 oa' _ _ fl3 ρ3 he hr y3 hρ3 fun f s4 H4 oa4 e4 y4 hfl => ?_
      have L4 := LoopI.after hBs hO L3 e4 y4
      cases fl3 with
      | next =>
        obtain rfl := hfl
        exact ⟨items.length - (i + 1), by omega, H4, oa4, ρ3, i + 1, L4, hlt, rfl, hfi3⟩
      | ret w =>
        obtain ⟨v', rfl, hv'⟩ := hfl
        cases hfi3
        exact hp _ _ _ _ L4.ext y4 ⟨v', rfl, hv'⟩
    · obtain ⟨v, rfl, h3⟩ := h2
      exact h3
  · have hin : i = items.length := by omega
    subst hin
    rw [List.drop_length] at hfi
    cases hfi
    exact L.done he hBs hO fun s3 _ _ e3 y3 => wpAny_execs_nil (hp.nx e3 y3)
noncomputable def whileF (ft : List PV → Option Bool) (fb : DS) : Nat → DS
  | 0, _ => none
  | n + 1, ρ => (ft ρ).bind fun c => if c then (fb ρ).bind fun r => match r with
      | (.next, ρ2) => whileF ft fb n ρ2
      | (.ret v, ρ2) => some (.ret v, ρ2)
    else some (.next, ρ)
theorem DenS.while {t : Expr} {body : List Stmt} {pos : Pos} {ft : List PV → Option Bool} {fb : DS} (n : Nat) (ht : DenB g C t ft) (hB : DenSs g C body fb) : DenS g C (.While t body [] pos) (whileF ft fb n) := by
  intro env A s H ρ oa Q E fl ρ' he hr y hf hp
  refine wpAny_While (codeAny_whileLoop (fun n s' => ∃ H' oa' ρ1, ExtS g C env s H oa s' H' oa' ∧ Rel g C env s' H' ρ1 oa' ∧ whileF ft fb n ρ1 = some (fl, ρ')) ?_ n ⟨H, oa, ρ, .refl y.st, y, hf⟩)
  rintro n s' ⟨H', oa', ρ1, e1, y1, hf1⟩
  have tr := y.there he
  cases n with
  | zero => cases hf1
  | succ n =>
    obtain ⟨c, hc, hf2⟩ := Option.bind_eq_some_iff.mp hf1
    clear hf1
    refine ht env A s' H' ρ1 oa' _ _ c he hr y1 hc fun s2 H2 e2 => ?_
    have y2 := y1.ext e2
    cases c with
    | false =>
      simp only [Bool.false_eq_true, if_false] at hf2 ⊢
      cases hf2
      exact wpAny_execs_nil (hp.nx (ExtS.trans tr.1 tr.2 e1 (.of e2)) y2)
    | true =>
      simp only [if_true] at hf2 ⊢
      obtain ⟨⟨fl3, ρ3⟩, hρ3, hf3⟩ := Option.bind_eq_some_iff.mp hf2
      refine hB env A s2 H2 ρ1 oa' _ _ fl3 ρ3 he hr y2 hρ3 fun f s4 H4 oa4 e4 y4 hfl => ?_
      have e5 := ExtS.trans tr.1 tr.2 e1 (ExtS.trans (y1.there he).1 (y1.there he).2 (.of e2) e4)
      cases fl3 with
      | next => obtain rfl := hfl; exact ⟨n, Nat.lt_succ_self n, H4, oa4, ρ3, e5, y4, hf3⟩
      | ret w =>
        obtain ⟨v', rfl, hv'⟩ := hfl
        cases hf3
        exact hp _ _ _ _ e5 y4 ⟨v', rfl, hv'⟩
end
noncomputable def relS (scope sc : Scope) : Scope :=
  { scope with names := scope.names.map fun (n, k) => if (k == .free && sc.kind == .function && sc.names.lookup n == some .cell) then (n, .cell) else (n, k) }
theorem relS_eq {scope : Scope} {env : Env} {sc : Scope} (h : env.scope = sc) : relabel scope env = relS scope sc := by
  subst h; rfl
noncomputable def clFrom (cells : List (Str × Addr)) : List (Str × NameKind) → List (Str × Addr) → List (Str × Addr)
  | [], acc => acc
  | (n, k) :: r, acc => clFrom cells r (if k == .free then (n, (cells.lookup n).getD 0) :: acc else acc)
theorem closureFor_cl {scope : Scope} {env : Env} (h : ∀ n k, (n, k) ∈ scope.names → k = .free → ∃ c, env.cells.lookup n = some c) : closureFor scope env = pure (clFrom env.cells scope.names []) := by
  simp only [closureFor]
  generalize hacc : ([] : List (Str × Addr)) = acc
  clear hacc
  generalize hn : scope.names = names at h ⊢
  clear hn
  induction names generalizing acc with
  | nil => rfl
  | cons x r ih =>
    obtain ⟨n, k⟩ := x
    have ih' := fun acc => ih acc (fun n k hm => h n k (List.mem_cons_of_mem _ hm))
    simp only [List.forIn_cons]
    cases hk : (k == NameKind.free) with
    | false =>
      have e : clFrom env.cells ((n, k) :: r) acc = clFrom env.cells r acc := by
        rw [clFrom, hk]; rfl
      rw [e, ← ih' acc]
      rfl
    | true =>
      have hk' : k = .free := eq_of_beq hk
      obtain ⟨c, hc⟩ := h n k (List.mem_cons_self ..) hk'
      have e : clFrom env.cells ((n, k) :: r) acc = clFrom env.cells r ((n, c) :: acc) := by
        rw [clFrom, hk, hc]; rfl
      have e2 : cellOf env n = pure c := by unfold cellOf; rw [hc]
      rw [e, ← ih' ((n, c) :: acc)]
      simp only [if_true, e2]
      rfl
theorem clFrom_mem {cells : List (Str × Addr)} : ∀ (names : List (Str × NameKind)) (acc : List (Str × Addr)), (∀ n k, (n, k) ∈ names → k = .free → ∃ c, cells.lookup n = some c) → (∀ n c, (n, c) ∈ acc → cells.lookup n = some c) →
    ∀ n c, (n, c) ∈ clFrom cells names acc → cells.lookup n = some c
  | [], _, _, h => h
  | (m, k) :: r, acc, hs, h => by
    unfold clFrom
    refine clFrom_mem r _ (fun n k hm => hs n k (List.mem_cons_of_mem _ hm)) fun n c hm => ?_
    split at hm
    · rename_i hk
      rcases List.mem_cons.mp hm with e | hm
      · obtain ⟨c', hc'⟩ := hs m k (List.mem_cons_self ..) (eq_of_beq hk)
        rw [hc'] at e
        cases e
        exact hc'
      · exact h n c hm
    · exact h n c hm
theorem clFrom_has {cells : List (Str × Addr)} : ∀ (names : List (Str × NameKind)) (acc : List (Str × Addr)) (n : Str), (n, NameKind.free) ∈ names ∨ n ∈ acc.map (·.1) → n ∈ (clFrom cells names acc).map (·.1)
  | [], _, _, h => by
    rcases h with h | h
    · cases h
    · exact h
  | (m, k) :: r, acc, n, h => by
    unfold clFrom
    refine clFrom_has r _ n ?_
    rcases h with h | h
    · rcases List.mem_cons.mp h with e | h
      · cases e
        right
        simp
      · exact .inl h
    · right
      split
      · exact List.mem_cons_of_mem _ h
      · exact h
theorem lookup_of_mem {x : Str} : ∀ {l : List (Str × Addr)}, x ∈ l.map (·.1) → ∃ c, l.lookup x = some c ∧ (x, c) ∈ l
  | (m, c) :: r, h => by
    rw [List.lookup_cons]
    cases hb : x == m with
    | true => have := eq_of_beq hb; subst this; exact ⟨c, rfl, List.mem_cons_self ..⟩
    | false =>
      rcases List.mem_cons.mp h with e | h
      · exfalso; subst e; simp at hb
      · obtain ⟨c', h1, h2⟩ := lookup_of_mem h
        exact ⟨c', h1, List.mem_cons_of_mem _ h2⟩
theorem clFrom_lookup {cells : List (Str × Addr)} {names : List (Str × NameKind)} (h : ∀ n k, (n, k) ∈ names → k = .free → ∃ c, cells.lookup n = some c) {x : Str} (hx : (x, NameKind.free) ∈ names) : ∃ c, (clFrom cells names []).lookup x = some c ∧ cells.lookup x = some c := by
  obtain ⟨c, h1, h2⟩ := lookup_of_mem (clFrom_has (cells := cells) names [] x (.inl hx))
  exact ⟨c, h1, clFrom_mem names [] h (fun _ _ h => by cases h) x c h2⟩
theorem clFrom_lookup' {cells : List (Str × Addr)} {names : List (Str × NameKind)} (h : ∀ n k, (n, k) ∈ names → k = .free → ∃ c, cells.lookup n = some c) {x : Str} {c : Addr} (hx : (clFrom cells names []).lookup x = some c) : cells.lookup x = some c :=
  clFrom_mem names [] h (fun _ _ h => by cases h) x c (mem_of_lookup hx)
noncomputable def inCx (C : Cx) (scope : Scope) (fr : List (Str × Nat)) (tg : List Str) : Cx :=
  { sc := relS scope C.sc, ns := fr.map (fun x => (x.1, VK.fre)) ++ tg.map (fun x => (x, VK.loc)), mu := fr.length + tg.length, lv := C.lv }
noncomputable def inR (fr : List (Str × Nat)) (tg : List Str) (ρ : List PV) : List PV := fr.map (fun x => ρ.getD x.2 .undef) ++ tg.map (fun _ => .undef)
noncomputable def inOk (C : Cx) (scope : Scope) (fr : List (Str × Nat)) (tg : List Str) : Bool :=
  (inCx C scope fr tg).ok && scope.kind == .function && scope.names.all (fun x => x.2 != .cell) && scope.names.all (fun x => x.2 != .local || scope.names.lookup x.1 == some .local) &&
  scope.names.all (fun x => x.2 != .free || C.ns.any (fun y => y.1 == x.1 && y.2 != .loc)) &&
  fr.all (fun x => scope.names.contains (x.1, .free) && (match C.ns[x.2]? with | some (y, k) => y == x.1 && k != .loc | none => false))
structure InOk (C : Cx) (scope : Scope) (fr : List (Str × Nat)) (tg : List Str) : Prop where
  ok : (inCx C scope fr tg).ok = true
  kind : scope.kind = .function
  nocell : ∀ x ∈ scope.names, x.2 ≠ .cell
  loc : ∀ x ∈ scope.names, x.2 = .local → scope.names.lookup x.1 = some .local
  free : ∀ n k, (n, k) ∈ scope.names → k = .free → ∃ k', (n, k') ∈ C.ns ∧ k' ≠ .loc
  fr : ∀ x ∈ fr, (x.1, NameKind.free) ∈ scope.names ∧ ∃ k, C.ns[x.2]? = some (x.1, k) ∧ k ≠ .loc
theorem InOk.of {C : Cx} {scope : Scope} {fr : List (Str × Nat)} {tg : List Str} (h : inOk C scope fr tg = true) : InOk C scope fr tg := by
  unfold inOk at h
  simp only [Bool.and_eq_true] at h
  obtain ⟨⟨⟨⟨⟨h1, h2⟩, h3⟩, h4⟩, h5⟩, h6⟩ := h
  refine ⟨h1, eq_of_beq h2, fun x hx e => ?_, fun x hx e => ?_, fun n k hx e => ?_, fun x hx => ?_⟩
  · have := List.all_eq_true.mp h3 x hx
    rw [e] at this; cases this
  · have := List.all_eq_true.mp h4 x hx
    rw [e] at this
    simpa using this
  · have := List.all_eq_true.mp h5 (n, k) hx
    rw [e] at this
    simp only [bne_self_eq_false, Bool.false_or] at this
    obtain ⟨⟨y, k'⟩, hy, hyk⟩ := List.any_eq_true.mp this
    simp only [Bool.and_eq_true, beq_iff_eq, bne_iff_ne] at hyk
    exact ⟨k', by rw [← hyk.1]; exact hy, hyk.2⟩
  · have := List.all_eq_true.mp h6 x hx
    simp only [Bool.and_eq_true] at this
    refine ⟨by simpa using this.1, ?_⟩
    have h7 := this.2
    split at h7
    · rename_i y k hk
      simp only [Bool.and_eq_true, beq_iff_eq, bne_iff_ne] at h7
      exact ⟨k, by rw [← h7.1]; exact hk, h7.2⟩
    · cases h7
section
variable {g : GC} {C : Cx}
theorem noOwn {env : Env} {s : Shared} {H : HP} {ρ : List PV} {oa : Option Addr} (y : Rel g C env s H ρ oa) (hmu : C.mu = C.ns.length) : ∀ i xs, ρ.getD i .undef ≠ .own xs := by
  intro i xs e
  have h1 := y.mu i xs e
  rw [h1, hmu, ← y.len] at e
  simp at e
theorem acc_step {env : Env} {s : Shared} {H : HP} {ρ : List PV} {a : Addr} {h' : Heap} {its its' : Array Value} (he : EnvOk C env) (y : Rel g C env s H ρ (some a)) (hmu : C.mu = C.ns.length)
    (hp : s.heap.PlainList a its) (hp' : h'.PlainList a its') (hsb : Heap.SameBut a s.heap h') {tk : Tok} :
    ExtS g C env s H (some a) { s with heap := h', toks := tk } H (some a) ∧ Rel g C env { s with heap := h', toks := tk } H ρ (some a) := by
  obtain ⟨hne, hcell⟩ := own_ne he y hp
  obtain ⟨hHa, _⟩ := y.oall a rfl
  have hnt := Heap.PlainList.notTab y.st hp
  obtain ⟨n', ho'⟩ := hp'
  have st : St g { s with heap := h', toks := tk } H := ⟨fun b o e => (hsb.2 b fun q => by rw [q, hHa] at e; cases e).trans (y.st.keep b o e), y.st.base, y.st.tab.moves (.refl _) (fun b o t e => (hsb.2 b fun q => hnt (q ▸ t)).trans e), y.st.notab, y.st.bare⟩
  have hno := noOwn y hmu
  have slot : ∀ (oa : Option Addr) i vo, SlotV H s.heap oa (ρ.getD i .undef) vo → SlotV H h' oa (ρ.getD i .undef) vo := by
    intro oa i vo h4
    revert h4
    cases hq : ρ.getD i .undef with
    | own zs => exact absurd hq (hno i zs)
    | undef => exact fun _ => trivial
    | none => exact id
    | bool _ => exact id
    | int _ => exact id
    | str _ => exact id
    | list _ => exact id
    | tup _ => exact id
    | fn _ => exact id
  refine ⟨⟨st, .refl _, fun b o _ e hn => (hsb.2 b fun q => hn (.inr (.inr (q ▸ rfl)))).trans e, fun b o e => ?_, fun _ _ e => .inl e, fun _ e => .inl e, ⟨_, _, _, rfl⟩, fun _ _ e => e⟩, st, y.len, y.fz, ?_, fun i z k c hi hk hc => ?_, y.mu, fun b e => ?_⟩
  · by_cases q : b = a
    · subst q; exact ⟨_, ho'⟩
    · exact ⟨o, (hsb.2 b q).trans e⟩
  · obtain ⟨m, hn, hsl⟩ := y.ns
    exact ⟨m, hn.sameBut hsb (Ne.symm hne), fun i z hi => slot _ i _ (hsl i z hi)⟩
  · obtain ⟨h1, vo, h2, h3⟩ := y.ce i z k c hi hk hc
    exact ⟨h1, vo, h2.sameBut hsb (hcell z c k i hi hk hc), slot _ i _ h3⟩
  · cases e; exact ⟨hHa, its', n', ho'⟩
noncomputable def DenTest (g : GC) (C : Cx) (ifs : List Expr) (f : List PV → Option Bool) : Prop :=
  ∀ env A s H ρ oa (Q : Bool → Shared → Prop) E b, EnvOk C env → Room A C.lv → Rel g C env s H ρ oa → f ρ = some b → (∀ s' H', Ext g s H s' H' → Q b s') →
    wpAny (model g.prog g.w) A (forIn ifs true fun c r => if r = true then do let ok ← isTrue c env (eval c env); pure (ForInStep.yield ok) else pure (ForInStep.yield r)) Q E s
theorem DenTest.nil : DenTest g C [] (fun _ => some true) := by
  intro env A s H ρ oa Q E b he hr y hf h
  cases hf
  exact wpAny_tests_nil (h s H (.refl y.st))
theorem DenTest.one {c : Expr} {f : List PV → Option Bool} (h1 : DenB g C c f) : DenTest g C [c] f := by
  intro env A s H ρ oa Q E b he hr y hf h
  exact wpAny_tests_one (h1 env A s H ρ oa Q E b he hr y hf h)
noncomputable abbrev DC := List PV → List PV → Option (List PV × List PV)
noncomputable abbrev EM := Env → Value → Sem Fin → Sem Fin
noncomputable def DenE (g : GC) (C : Cx) (m : EM) (f : DC) : Prop :=
  ∀ env A s H ρ D acc (Q : Fin → Shared → Prop) E ρ' acc' (k : Sem Fin), EnvOk C env → Room A C.lv → Rel g C env s H ρ (some D) → (∃ its, s.heap.PlainList D its ∧ VRelL H acc its.toList) → f ρ acc = some (ρ', acc') →
    (∀ s' H', ExtS g C env s H (some D) s' H' (some D) → Rel g C env s' H' ρ' (some D) → (∃ its, s'.heap.PlainList D its ∧ VRelL H' acc' its.toList) → wpAny (model g.prog g.w) A k Q E s') → wpAny (model g.prog g.w) A (m env (.ref D) k) Q E s
noncomputable def eElt (f : DE) : DC := fun ρ acc => (f ρ).bind fun v => if acc.length ≤ 1000000 then some (ρ, acc ++ [v]) else none
theorem DenE.elt {e : Expr} {f : DE} (hmu : C.mu = C.ns.length) (h1 : Den g C e f) : DenE g C (fun env acc k => do
      (do let _ ← call (.builtin "list.append") [acc, ← eval e env] : Sem Unit)
      k) (eElt f) := by
  intro env A s H ρ D acc Q E ρ' acc' k he hr y hD hf h
  obtain ⟨v, hv, hf2⟩ := Option.bind_eq_some_iff.mp hf
  clear hf
  split at hf2
  · rename_i hlen
    cases hf2
    refine wpAny_bind (wpAny_bind (h1.bind he hr y hv fun w s1 H1 e1 y1 hw => wpAny_bind ?_))
    obtain ⟨its, ⟨n, ho⟩, hx⟩ := hD
    have hnt := Heap.PlainList.notTab y.st ⟨n, ho⟩
    have ho1 := e1.old _ _ hnt ho
    have hsz : its.size = acc.length := by have := hx.length; rw [Array.length_toList] at this; exact this
    refine wpAny_list_append_plain ⟨n, ho1⟩ (fun h' hp' hsb => wpAny_pure ?_) (by rw [hsz]; exact Nat.le_trans hlen (by unfold sizeLine; decide))
    have := acc_step (tk := s1.toks) he y1 hmu ⟨n, ho1⟩ hp' hsb
    refine h _ H1 (ExtS.trans (y.there he).1 (y.there he).2 (.of e1) this.1) this.2 ⟨_, hp', ?_⟩
    rw [Array.toList_push]
    exact (VRelL.mono e1.le _ _ hx).append (VRelL.cons hw rfl)
  · cases hf2
noncomputable def compF (ft : List PV → PV → Option (List PV)) (tst : List PV → Option Bool) (em : DC) : List PV → DC
  | [], ρ, acc => some (ρ, acc)
  | p :: ps, ρ, acc => (ft ρ p).bind fun ρ1 => (tst ρ1).bind fun b => if b then (em ρ1 acc).bind fun r => compF ft tst em ps r.1 r.2 else compF ft tst em ps ρ1 acc
noncomputable def turnM (tgt iter : Expr) (ifs : List Expr) (m : EM) (next : Code) (it acc : Value) (env : Env) : Sem Fin := do
  standAt iter.pos
  match ← pyNext it with
  | none => pure (.done .next)
  | some v =>
    letOwnedTupleGo tgt it v
    assign tgt env v
    let mut ok := true
    for c in ifs do
      if ok then ok ← isTrue c env (eval c env)
    if ok then m env acc (again next) else again next
theorem compLoop_den {e : Expr} {d : Nat} {tgt iter : Expr} {ifs : List Expr} {m : EM} {ft : List PV → PV → Option (List PV)} {tst : List PV → Option Bool} {em : DC}
    (heq : ∀ it acc env, compTurn e d it acc env = turnM tgt iter ifs m (.compLoop e d it acc env) it acc env) (hnf : ∀ it acc env, (Code.compLoop e d it acc env).isFrame = false) (hq : ∀ it acc env, (Code.compLoop e d it acc env).quiet = true)
    (hT : DenT g C tgt ft) (hI : DenTest g C ifs tst) (hE : DenE g C m em)
    {env : Env} {A : Around} {I D : Addr} {wr : List Addr} {gw : List Nat} {T : Nat → HP → Shared → Prop} {items : List PV} {B : Shared → HP → Option Addr → Prop} {s : Shared} {H : HP} {ρ acc ρ' acc' : List PV} {R : Result → Shared → Prop}
    (hun : ∀ it acc env, A.under (.compLoop e d it acc env) = A)
    (he : EnvOk C env) (hr : Room A C.lv) (hB : BaseOk g C env wr gw B) (hO : IterOk g A I wr gw tgt T items) (L : LoopI g C env B wr gw T 0 ρ s H (some D)) (hD : ∃ its, s.heap.PlainList D its ∧ VRelL H acc its.toList)
    (hf : compF ft tst em items ρ acc = some (ρ', acc'))
    (h : ∀ s' H', B s' H' (some D) → Rel g C env s' H' ρ' (some D) → (∃ its, s'.heap.PlainList D its ∧ VRelL H' acc' its.toList) → R (.ok .next) s') :
    codeAny (model g.prog g.w) A (.compLoop e d (.ref I) (.ref D) env) R s := by
  refine codeAny_loop (hq _ _ _) (fun n s' => ∃ H' ρ1 acc1 i, LoopI g C env B wr gw T i ρ1 s' H' (some D) ∧ (∃ its, s'.heap.PlainList D its ∧ VRelL H' acc1 its.toList) ∧ i ≤ items.length ∧ n = items.length - i ∧ compF ft tst em (items.drop i) ρ1 acc1 = some (ρ', acc')) ?_ items.length
    ⟨H, ρ, acc, 0, L, hD, Nat.zero_le _, rfl, by simpa using hf⟩
  rintro n s' ⟨H', ρ1, acc1, i, L1, hD1, hi, rfl, hfi⟩
  rw [hun]
  show wpAny _ A (if (Code.compLoop e d (.ref I) (.ref D) env).isFrame then _ else (compTurn e d (.ref I) (.ref D) env).onRaise (fun x => do noteFrame x env; theTreesLotGoes x)) _ _ s'
  rw [hnf]
  refine wpAny_noted ?_
  rw [heq]
  unfold turnM
  refine wpAny_bind (wpAny_standAt ?_)
  by_cases hlt : i < items.length
  · have hd : items.drop i = items[i] :: items.drop (i + 1) := List.drop_eq_getElem_cons hlt
    rw [hd] at hfi
    obtain ⟨ρ2, hρ2, hfi2⟩ := Option.bind_eq_some_iff.mp hfi
    obtain ⟨b, hb, hfi3⟩ := Option.bind_eq_some_iff.mp hfi2
    clear hfi hfi2
    refine wpAny_bind (wpAny_mono (L1.turn (Q := fun v s2 => wpAny (model g.prog g.w) A (do
        assign tgt env v
        let mut ok := true
        for c in ifs do
          if ok then ok ← isTrue c env (eval c env)
        if ok then m env (.ref D) (again (.compLoop e d (.ref I) (.ref D) env)) else again (.compLoop e d (.ref I) (.ref D) env)) (fun fin s' => match fin with | .done f => R (.ok f) s' | .again c' => c' = Code.compLoop e d (.ref I) (.ref D) env ∧ ∃ m, m < items.length - i ∧ ∃ H' ρ1 acc1 i, LoopI g C env B wr gw T i ρ1 s' H' (some D) ∧ (∃ its, s'.heap.PlainList D its ∧ VRelL H' acc1 its.toList) ∧ i ≤ items.length ∧ m = items.length - i ∧ compF ft tst em (items.drop i) ρ1 acc1 = some (ρ', acc'))
          (notedBy (model g.prog g.w) A env fun e s' => R (.error e) s') s2) he hB hO (List.getElem?_eq_getElem hlt) fun v s2 H2 ew L2 hv => ?_) (fun r s2 h2 => ?_) fun _ _ e => e)
    · refine wpAny_bind (hT env A s2 H2 ρ1 (some D) _ _ items[i] v ρ2 he hr L2.rel hv hρ2 fun s3 e3 y3 k3 => ?_)
      have L3 := LoopI.after hB hO L2 e3 y3
      have hDw : D ∉ wr := fun q => L1.noa D q rfl
      obtain ⟨its1, ⟨n1, ho1⟩, hx1⟩ := hD1
      have hp2 : s2.heap.PlainList D its1 := ⟨n1, ew.old _ _ hDw (Heap.PlainList.notTab L1.rel.st ⟨n1, ho1⟩) ho1⟩
      have hp3 := k3 D its1 rfl hp2
      have hx3 := VRelL.mono ew.le _ _ hx1
      refine wpAny_bind (hI env A s3 H2 ρ2 (some D) _ _ b he hr y3 hb fun s4 H4 e4 => ?_)
      have y4 := y3.ext e4
      have L4 := LoopI.after hB hO L3 (.of e4) y4
      have hp4 := KeepO.ext (oa := some D) y3.st e4 D its1 rfl hp3
      have hx4 := VRelL.mono e4.le _ _ hx3
      cases b with
      | false =>
        simp only [Bool.false_eq_true, if_false] at hfi3 ⊢
        exact wpAny_pure ⟨rfl, items.length - (i + 1), by omega, H4, ρ2, acc1, i + 1, L4, ⟨its1, hp4, hx4⟩, hlt, rfl, hfi3⟩
      | true =>
        simp only [if_true] at hfi3 ⊢
        obtain ⟨⟨ρ3, acc3⟩, hem, hfi4⟩ := Option.bind_eq_some_iff.mp hfi3
        refine hE env A s4 H4 ρ2 D acc1 _ _ ρ3 acc3 _ he hr y4 ⟨its1, hp4, hx4⟩ hem fun s5 H5 e5 y5 hD5 => wpAny_pure ?_
        exact ⟨rfl, items.length - (i + 1), by omega, H5, ρ3, acc3, i + 1, LoopI.after hB hO L4 e5 y5, hD5, hlt, rfl, hfi4⟩
    · obtain ⟨v, rfl, h3⟩ := h2
      exact wpAny_bind h3
  · have hin : i = items.length := by omega
    subst hin
    rw [List.drop_length] at hfi
    cases hfi
    refine wpAny_bind (L1.done he hB hO fun s3 H3 ew e3 y3 => wpAny_pure ?_)
    obtain ⟨its1, ⟨n1, ho1⟩, hx1⟩ := hD1
    exact h s3 H3 e3 y3 ⟨its1, ⟨n1, ew.old _ _ (fun q => L1.noa D q rfl) (Heap.PlainList.notTab L1.rel.st ⟨n1, ho1⟩) ho1⟩, VRelL.mono ew.le _ _ hx1⟩
theorem inner_start {scope : Scope} {fr : List (Str × Nat)} {tg : List Str} (ok : InOk C scope fr tg) {env cenv : Env} {s s1 s2 : Shared} {H H1 : HP} {ρ : List PV} {oa : Option Addr} {Cl D : Addr} {m : Str → Option Value}
    (he : EnvOk C env) (y : Rel g C env s H ρ oa) (e1 : Ext g s H s1 H1) (e2 : Ext g s1 H1 s2 H1)
    (hcenv : cenv = compEnvC scope (clFrom env.cells scope.names []) Cl env) (hns : s2.heap.Ns Cl m) (hCl : s1.heap.get? Cl = none) (hD1 : s1.heap.get? D = none) (hD : s2.heap.PlainList D #[]) (hm : ∀ x, m x = none) :
    EnvOk (inCx C scope fr tg) cenv ∧ Rel g (inCx C scope fr tg) cenv s2 H1 (inR fr tg ρ) (some D) ∧
    (∀ (z : Str) (c : Addr) (k : VK) (i : Nat), (inCx C scope fr tg).ns[i]? = some (z, k) → k ≠ VK.loc → cenv.cells.lookup z = some c → ∃ o, s.heap.get? c = some o) := by
  have hlk : ∀ n k, (n, k) ∈ scope.names → k = .free → ∃ c, env.cells.lookup n = some c := fun n k hx hk => by
    obtain ⟨k', h1, h2⟩ := ok.free n k hx hk
    exact he.cel n k' h1 h2
  have hfr : ∀ x, (x, VK.fre) ∈ (inCx C scope fr tg).ns → ∃ j, (x, j) ∈ fr := fun x h => by
    unfold inCx at h
    rcases List.mem_append.mp h with h | h
    · obtain ⟨⟨z, j⟩, h1, h2⟩ := List.mem_map.mp h
      cases h2; exact ⟨j, h1⟩
    · obtain ⟨z, h1, h2⟩ := List.mem_map.mp h
      cases h2
  have hnone : ∀ {a}, s1.heap.get? a = none → H1 a = none := fun {a} h => by
    cases q : H1 a with
    | none => rfl
    | some o => have := e1.st.keep a o q; rw [h] at this; cases this
  have y1 := (y.ext e1).ext e2
  have hlen : (inR fr tg ρ).length = (inCx C scope fr tg).ns.length := by unfold inR inCx; simp
  have hval : ∀ i x k, (inCx C scope fr tg).ns[i]? = some (x, k) → (k = .loc ∧ (inR fr tg ρ).getD i .undef = .undef) ∨ (k = .fre ∧ ∃ j, (x, j) ∈ fr ∧ (inR fr tg ρ).getD i .undef = ρ.getD j .undef) := fun i x k hi => by
    unfold inCx at hi
    simp only at hi
    by_cases hlt : i < fr.length
    · rw [List.getElem?_append_left (by simpa using hlt)] at hi
      simp only [List.getElem?_map, Option.map_eq_some_iff] at hi
      obtain ⟨⟨z, j⟩, h1, h2⟩ := hi
      cases h2
      right
      refine ⟨rfl, j, List.mem_of_getElem? h1, ?_⟩
      unfold inR
      simp only [List.getD]
      rw [List.getElem?_append_left (by simpa using hlt)]
      simp [h1]
    · rw [List.getElem?_append_right (by simpa using hlt)] at hi
      simp only [List.getElem?_map, Option.map_eq_some_iff] at hi
      obtain ⟨z, h1, h2⟩ := hi
      cases h2
      left
      refine ⟨rfl, ?_⟩
      unfold inR
      simp only [List.getD]
      rw [List.getElem?_append_right (by simpa using hlt)]
      simp only [List.length_map] at h1 ⊢
      simp [h1]
  have hloc : cenv.locals = Cl := by rw [hcenv]; rfl
  have hcells : cenv.cells = clFrom env.cells scope.names [] := by rw [hcenv]; rfl
  refine ⟨⟨?_, ?_, ?_, fun x k hx hk => ?_, fun x z c h1 h2 => ?_⟩, ⟨y1.st, hlen, ?_, ⟨m, by rw [hloc]; exact hns, fun i x hi => ?_⟩, fun i x k c hi hk hc => ?_, fun i xs h => ?_, fun a ha => ?_⟩, fun x c k i hi hk hc => ?_⟩
  · rw [hcenv]; show relabel scope env = relS scope C.sc; exact relS_eq he.scope
  · rw [hcenv]; exact he.globals
  · rw [hcenv]; exact he.builtins
  · rw [hcells]
    have hk' : k = .fre := by
      obtain ⟨i, hi⟩ := List.getElem?_of_mem hx
      rcases hval i x k hi with h | h
      · exact absurd h.1 hk
      · exact h.1
    subst hk'
    obtain ⟨j, hj⟩ := hfr x hx
    obtain ⟨c, h1, _⟩ := clFrom_lookup (cells := env.cells) hlk (ok.fr (x, j) hj).1
    exact ⟨c, h1⟩
  · rw [hcells] at h1 h2
    exact he.apart x z c (clFrom_lookup' hlk h1) (clFrom_lookup' hlk h2)
  · rw [hloc]; exact hnone hCl
  · rcases hval i x .loc hi with h | h
    · rw [h.2]; trivial
    · cases h.1
  · rcases hval i x k hi with h | ⟨hkf, j, hj, hv⟩
    · exact absurd h.1 hk
    · subst hkf
      rw [hcells] at hc
      obtain ⟨k', h1, h2⟩ := (ok.fr (x, j) hj).2
      obtain ⟨_, vo, h3, h4⟩ := y1.ce j x k' c h1 h2 (clFrom_lookup' hlk hc)
      exact ⟨fun q => (by cases q), vo, h3, by rw [hv]; exact h4⟩
  · exfalso
    cases hq : (inCx C scope fr tg).ns[i]? with
    | none =>
      have : (inR fr tg ρ)[i]? = none := by rw [List.getElem?_eq_none_iff] at hq ⊢; omega
      simp [List.getD, this] at h
    | some p =>
      obtain ⟨x, k⟩ := p
      rcases hval i x k hq with h1 | ⟨hkf, j, hj, hv⟩
      · rw [h1.2] at h; cases h
      · rw [hv] at h
        obtain ⟨k', h1, h2⟩ := (ok.fr (x, j) hj).2
        have h3 := y.mu j xs h
        obtain ⟨c, hc⟩ := he.cel x k' (List.mem_of_getElem? h1) h2
        obtain ⟨_, vo, h4, h5⟩ := y.ce j x k' c h1 h2 hc
        rw [h] at h5
        obtain ⟨a, its, h6, h7, _⟩ := h5
        cases h7
  · cases ha
    refine ⟨?_, #[], hD⟩
    exact hnone hD1
  · rcases hval i x k hi with h | ⟨hkf, j, hj, hv⟩
    · exact absurd h.1 hk
    · subst hkf
      rw [hcells] at hc
      obtain ⟨k', h1, h2⟩ := (ok.fr (x, j) hj).2
      obtain ⟨_, vo, ⟨o, h3, _⟩, h4⟩ := y.ce j x k' c h1 h2 (clFrom_lookup' hlk hc)
      exact ⟨o, h3⟩
noncomputable def OutB (g : GC) (s : Shared) (H : HP) (s' : Shared) (H' : HP) (oa' : Option Addr) : Prop := Ext g s H s' H' ∧ ∀ a, oa' = some a → s.heap.get? a = none
theorem baseOut {scope : Scope} {fr : List (Str × Nat)} {tg : List Str} {cenv : Env} {s : Shared} {H : HP} {wr : List Addr} {gw : List Nat} (hCl : s.heap.get? cenv.locals = none) (hw : ∀ b ∈ wr, s.heap.get? b = none) (hg : ∀ j ∈ gw, s.gens[j]? = none) :
    BaseOk g (inCx C scope fr tg) cenv wr gw (OutB g s H) := by
  refine ⟨fun s1 H1 oa1 s2 H2 ⟨x, h⟩ e => ⟨⟨e.st, x.le.trans e.le, fun a o t ho => ?_, fun a o ho => ?_, ?_, fun i z hz => e.gens i z (fun q => by rw [hg i q] at hz; cases hz) (x.gens i z hz)⟩, h⟩, fun s1 H1 oa1 s2 H2 oa2 ρ ⟨x, h⟩ y e => ?_⟩
  · exact e.old a o (fun q => by rw [hw a q] at ho; cases ho) t (x.old a o t ho)
  · rcases e.fresh a o ho with q | q
    · exact x.fresh a o q
    · exact .inr (fresh_wr x q)
  · obtain ⟨h1, g1, t1, rfl⟩ := x.same
    obtain ⟨h2, g2, t2, rfl⟩ := e.same
    exact ⟨h2, g2, t2, rfl⟩
  · refine ⟨⟨e.st, x.le.trans e.le, fun a o t ho => ?_, fun a o ho => ?_, ?_, fun i z hz => e.gens i z (x.gens i z hz)⟩, fun a ha => ?_⟩
    · refine e.old a o t (x.old a o t ho) fun q => ?_
      rcases q with q | ⟨z, hz, q⟩ | q
      · rw [q, hCl] at ho; cases ho
      · unfold inCx at hz
        rcases List.mem_append.mp hz with hz | hz
        · obtain ⟨_, _, h2⟩ := List.mem_map.mp hz; cases h2
        · obtain ⟨_, _, h2⟩ := List.mem_map.mp hz; cases h2
      · rw [h a q] at ho; cases ho
    · rcases e.fresh a o ho with q | q | q
      · exact x.fresh a o q
      · exact .inr (fresh_wr x q)
      · exact .inr (h a q)
    · obtain ⟨h1, g1, t1, rfl⟩ := x.same
      obtain ⟨h2, g2, t2, rfl⟩ := e.same
      exact ⟨h2, g2, t2, rfl⟩
    · rcases e.oa a ha with q | q
      · exact h a q
      · exact fresh_wr x q
theorem comp_run {elt tgt iter : Expr} {ifs : List Expr} {rest : List Comprehension} {scope : Scope} {pos : Pos} {fr : List (Str × Nat)} {tg : List Str} {m : EM} {ft : List PV → PV → Option (List PV)} {tst : List PV → Option Bool} {em : DC}
    (ok : InOk C scope fr tg) (hT : DenT g (inCx C scope fr tg) tgt ft) (hI : DenTest g (inCx C scope fr tg) ifs tst) (hE : DenE g (inCx C scope fr tg) m em)
    (heq : ∀ it acc env, compTurn (.ListComp elt (⟨tgt, iter, ifs, 0⟩ :: rest) scope pos) 0 it acc env = turnM tgt iter ifs m (.compLoop (.ListComp elt (⟨tgt, iter, ifs, 0⟩ :: rest) scope pos) 0 it acc env) it acc env)
    {env : Env} {A : Around} {s s1 : Shared} {H H1 : HP} {ρ : List PV} {oa : Option Addr} {I : Addr} {wr : List Addr} {gw : List Nat} {T : Nat → HP → Shared → Prop} {items ρ' acc' : List PV} {RR : Value → Addr → Result → Shared → Prop} {E : Value → Shared → Prop}
    (he : EnvOk C env) (hr : Room A C.lv) (y : Rel g C env s H ρ oa) (e1 : Ext g s H s1 H1) (hO : IterOk g A I wr gw tgt T items) (t : T 0 H1 s1) (hfr : ∀ b ∈ wr, s.heap.get? b = none) (hw : WrOk wr H1) (hgf : ∀ j ∈ gw, s.gens[j]? = none)
    (hf : compF ft tst em items (inR fr tg ρ) [] = some (ρ', acc'))
    (h : ∀ D Cl its s' H' m', Ext g s H s' H' → VRelL H' acc' its.toList → s'.heap.PlainList D its → s.heap.get? D = none → H' D = none → s.heap.get? Cl = none → H' Cl = none → D ≠ Cl → s'.heap.Ns Cl m' → RR (.ref D) Cl (.ok .next) s') :
    wpAny (model g.prog g.w) A (newList []) (fun acc s₃ => wpAny (model g.prog g.w) A (newFunctionEnv scope env.globals (clFrom env.cells scope.names []) [] env.qual none .none (some env)) (fun cenv s₄ =>
      codeAny (model g.prog g.w) A (.compStart (.ListComp elt (⟨tgt, iter, ifs, 0⟩ :: rest) scope pos) 0 (.ref I) acc { cenv with scope := relabel scope env }) (RR acc cenv.locals) s₄) E s₃) E s1 := by
  refine wpAny_newObj_type (wpAny_newFunctionEnv ok.nocell (by intro y hy; simp at hy) (fun h₁ hns₁ hsb₁ => ?_) ok.kind)
  dsimp only at hns₁ hsb₁ ⊢
  generalize hH2 : s1.heap.push { cls := .type "list", dict := none, data := .seq ([] : List Value).toArray } = H2 at hns₁ hsb₁ ⊢
  have hC : H2.objs.size = s1.heap.objs.size + 1 := by rw [← hH2, Heap.size_push]
  have hDC : s1.heap.objs.size ≠ H2.objs.size := by rw [hC]; exact Nat.ne_of_lt (Nat.lt_succ_self _)
  have hCle : s1.heap.objs.size ≤ H2.objs.size := by rw [hC]; exact Nat.le_succ _
  have below : ∀ b, b < s1.heap.objs.size → b ≠ H2.objs.size ∧ b ≠ s1.heap.objs.size := fun b hb => ⟨by rw [hC]; exact Nat.ne_of_lt (Nat.lt_succ_of_lt hb), Nat.ne_of_lt hb⟩
  have old : ∀ b o, s1.heap.get? b = some o → h₁.get? b = some o := fun b o e => hsb₁.extBut b o (below b (Heap.lt_size e)).1 (Heap.get?_push_of_some _ (hH2 ▸ Heap.get?_push_of_some _ e))
  have hacc : h₁.PlainList s1.heap.objs.size #[] := ⟨_, hsb₁.extBut _ _ hDC (Heap.get?_push_of_some _ (hH2 ▸ Heap.get?_push_size _ rfl))⟩
  have e2 : Ext g s1 H1 { s1 with heap := h₁, toks := s1.toks + ([] : List (Str × Value)).length } H1 := Ext.kept e1.st old
  have hCl1 : s1.heap.get? H2.objs.size = none := freshAt hCle
  have hD1 : s1.heap.get? s1.heap.objs.size = none := freshAt (Nat.le_refl _)
  obtain ⟨he', y', hcex⟩ := inner_start (cenv := compEnvC scope (clFrom env.cells scope.names []) H2.objs.size env) ok he y e1 e2 rfl hns₁ hCl1 hD1 hacc (fun x => rfl)
  have hB : BaseOk g (inCx C scope fr tg) (compEnvC scope (clFrom env.cells scope.names []) H2.objs.size env) wr gw (OutB g s H) := baseOut (fresh_wr e1 hCl1) hfr hgf
  have hlive := fun b hb => hO.live 0 H1 s1 t b hb
  have L : LoopI g (inCx C scope fr tg) (compEnvC scope (clFrom env.cells scope.names []) H2.objs.size env) (OutB g s H) wr gw T 0 (inR fr tg ρ) { s1 with heap := h₁, toks := s1.toks + ([] : List (Str × Value)).length } H1 (some s1.heap.objs.size) := by
    refine ⟨⟨e1.trans e2, fun a ha => ?_⟩, y', hO.frame 0 H1 H1 s1 _ t (.refl _) (fun b _ o ho => old b o ho) (fun _ _ _ e => e) e2.st, fun b hb => ⟨fun q => ?_, fun z c k i hi hk hc q => ?_⟩, hw, fun b hb q => ?_⟩
    · cases ha; exact fresh_wr e1 hD1
    · obtain ⟨o, ho⟩ := hlive b hb
      rw [show b = H2.objs.size from q, hCl1] at ho; cases ho
    · obtain ⟨o, ho⟩ := hcex z c k i hi hk hc
      rw [q, hfr b hb] at ho; cases ho
    · obtain ⟨o, ho⟩ := hlive b hb
      cases q; rw [hD1] at ho; cases ho
  have loop : ∀ s₃ : Shared, s₃ = { s1 with heap := h₁, toks := s1.toks + ([] : List (Str × Value)).length } →
      codeAny (model g.prog g.w) A (.compLoop (.ListComp elt (⟨tgt, iter, ifs, 0⟩ :: rest) scope pos) 0 (.ref I) (.ref s1.heap.objs.size) (compEnvC scope (clFrom env.cells scope.names []) H2.objs.size env)) (RR (.ref s1.heap.objs.size) H2.objs.size) s₃ := by
    rintro s₃ rfl
    refine compLoop_den (acc := []) heq (fun _ _ _ => rfl) (fun _ _ _ => rfl) hT hI hE (fun _ _ _ => rfl) he' hr hB hO L ⟨#[], hacc, rfl⟩ hf fun s' H' hb y5 hD5 => ?_
    obtain ⟨its, hp, hx⟩ := hD5
    obtain ⟨m', hn', _⟩ := y5.ns
    exact h s1.heap.objs.size H2.objs.size its s' H' m' hb.1 hx hp (fresh_wr e1 hD1) (y5.oall _ rfl).1 (fresh_wr e1 hCl1) y5.fz hDC hn'
  exact codeAny_compStart_list (loop _ rfl) (hO.self _ H1 _ _ e2.st (L.it) (loop _ rfl))
theorem out_let {s s' : Shared} {H H' : HP} {Cl : Addr} {h' : Heap} (x : Ext g s H s' H') (hCl : s.heap.get? Cl = none) (hH : H' Cl = none) (hsb : Heap.SameBut Cl s'.heap h') (hnt : ¬ isTab Cl) : Ext g s H { s' with heap := h' } H' := by
  have e : ExtW g [Cl] [] s' H' { s' with heap := h', toks := s'.toks } H' := ExtW.step x.st ⟨fun b hb => by rw [List.mem_singleton.mp hb]; exact hH, fun b hb => by rw [List.mem_singleton.mp hb]; exact hnt⟩ fun b o hb ho => (hsb.2 b fun q => hb (by rw [q]; exact List.mem_singleton.mpr rfl)).trans ho
  refine ⟨e.st, x.le, fun a o t ho => e.old a o (fun q => by rw [List.mem_singleton.mp q, hCl] at ho; cases ho) t (x.old a o t ho), x.fresh, ?_, x.gens⟩
  obtain ⟨h1, g1, t1, rfl⟩ := x.same
  exact ⟨h', g1, t1, rfl⟩
theorem notTab_fresh {s : Shared} {H : HP} (st : St g s H) {a : Addr} (h : s.heap.get? a = none) : ¬ isTab a := fun t => by
  obtain ⟨o', e', _⟩ := tab_some st.tab t; rw [h] at e'; cases e'
theorem DenNew.comp {elt tgt iter : Expr} {ifs : List Expr} {rest : List Comprehension} {scope : Scope} {pos : Pos} {fr : List (Str × Nat)} {tg : List Str} {m : EM} {fi : List PV → Option (List PV)} {ft : List PV → PV → Option (List PV)} {tst : List PV → Option Bool} {em : DC}
    (ok : InOk C scope fr tg) (hIt : DenI g C iter tgt fi) (hT : DenT g (inCx C scope fr tg) tgt ft) (hI : DenTest g (inCx C scope fr tg) ifs tst) (hE : DenE g (inCx C scope fr tg) m em)
    (heq : ∀ it acc env, compTurn (.ListComp elt (⟨tgt, iter, ifs, 0⟩ :: rest) scope pos) 0 it acc env = turnM tgt iter ifs m (.compLoop (.ListComp elt (⟨tgt, iter, ifs, 0⟩ :: rest) scope pos) 0 it acc env) it acc env)
    (hs : ∀ env x, foldedSetIterable iter env x = pure x := by intro _ _; rfl) :
    DenNew g C (.ListComp elt (⟨tgt, iter, ifs, 0⟩ :: rest) scope pos) (fun ρ => (fi ρ).bind fun items => (compF ft tst em items (inR fr tg ρ) []).map (·.2)) := by
  intro env A s H ρ oa Q E l he hr y hf hq
  obtain ⟨items, hit, hf2⟩ := Option.bind_eq_some_iff.mp hf
  obtain ⟨⟨ρ', acc'⟩, hco, hl⟩ := Option.map_eq_some_iff.mp hf2
  clear hf hf2
  cases hl
  rw [eval_ListComp]
  have hlk : ∀ n k, (n, k) ∈ scope.names → k = .free → ∃ c, env.cells.lookup n = some c := fun n k hx hk => by
    obtain ⟨k', h1, h2⟩ := ok.free n k hx hk
    exact he.cel n k' h1 h2
  refine wpAny_comprehension_free (use := none) rfl (hs env) (closureFor_cl hlk) ok.kind ok.loc ?_
  refine (show wpAny _ A (eval iter env) _ E s from hIt env A s H ρ oa _ E items he hr y hit fun I wr gw T s1 H1 e1 hO t hfr hw hgf => ?_)
  refine comp_run (RR := fun acc Cl => compPost (model g.prog g.w) A E none Q acc Cl) ok hT hI hE heq he hr y e1 hO t hfr hw hgf hco fun D Cl its s' H' m' x hx hp hD hHD hCl hHCl hne hn => ?_
  refine ⟨m', hn, fun h' hsb => ?_⟩
  obtain ⟨n, ho⟩ := hp
  exact hq D its _ H' (out_let x hCl hHCl hsb (notTab_fresh y.st hCl)) hx ⟨n, (hsb.2 D hne).trans ho⟩ hD hHD
theorem DenNew.comp1 {elt tgt iter : Expr} {ifs : List Expr} {scope : Scope} {pos : Pos} (fr : List (Str × Nat)) (tg : List Str) {fi : List PV → Option (List PV)} {ft : List PV → PV → Option (List PV)} {tst : List PV → Option Bool} {fe : DE}
    (ok : inOk C scope fr tg = true) (hIt : DenI g C iter tgt fi) (hT : DenT g (inCx C scope fr tg) tgt ft) (hI : DenTest g (inCx C scope fr tg) ifs tst) (hE : Den g (inCx C scope fr tg) elt fe)
    (hs : ∀ env x, foldedSetIterable iter env x = pure x := by intro _ _; rfl) :
    DenNew g C (.ListComp elt [⟨tgt, iter, ifs, 0⟩] scope pos) (fun ρ => (fi ρ).bind fun items => (compF ft tst (eElt fe) items (inR fr tg ρ) []).map (·.2)) :=
  DenNew.comp (InOk.of ok) hIt hT hI (DenE.elt (by simp [inCx]) hE) (fun _ _ _ => rfl) hs
end
section
variable {prog : Program} {w : World} {A : Around} {R : Result → Shared → Prop} {s : Shared}
theorem codeAny_compStart_list1 {elt : Expr} {g0 : Comprehension} {target iter ifs rest scope pos it acc env}
    (h0 : codeAny (model prog w) A (.compLoop (.ListComp elt (g0 :: ⟨target, iter, ifs, 0⟩ :: rest) scope pos) 1 it acc env) R s)
    (h : wpAny (model prog w) A (pyIter it) (fun it' s' => codeAny (model prog w) A (.compLoop (.ListComp elt (g0 :: ⟨target, iter, ifs, 0⟩ :: rest) scope pos) 1 it' acc env) R s')
      (notedBy (model prog w) A env fun x s' => R (.error x) s') s) :
    codeAny (model prog w) A (.compStart (.ListComp elt (g0 :: ⟨target, iter, ifs, 0⟩ :: rest) scope pos) 1 it acc env) R s := by
  refine codeAny_of_tree ?_
  show wpAny _ _ ((compStart (.ListComp elt (g0 :: ⟨target, iter, ifs, 0⟩ :: rest) scope pos) 1 it acc env).onRaise (fun x => do noteFrame x env; standAt theWindowsPlace)) _ _ s
  refine wpAny_notedAt ?_
  unfold compStart
  show wpAny _ _ (ask >>= _) _ _ s
  refine wpAny_bind (wpAny_askSetting (wpAny_ite ?_))
  split
  · first
      | exact wpAny_bind (wpAny_pure (wpAny_pure (And.intro rfl h0)))
      | exact wpAny_pure (And.intro rfl h0)
  · first
      | exact wpAny_bind (wpAny_rule (wpAny_bind (wpAny_standAt (wpAny_bind (wpAny_mono h (fun it' s' h' => wpAny_pure (And.intro rfl h')) fun _ _ x => x)))))
      | (refine wpAny_bind (wpAny_rule ?_); show wpAny _ _ (standAt iter.pos >>= _) _ _ s; exact wpAny_bind (wpAny_standAt (wpAny_bind (wpAny_mono h (fun it' s' h' => wpAny_pure (And.intro rfl h')) fun _ _ x => x))))
end
theorem turn_d0 (elt tgt iter : Expr) (ifs : List Expr) (tgt1 iter1 : Expr) (ifs1 : List Expr) (scope : Scope) (pos : Pos) (it acc : Value) (env : Env) :
    compTurn (.ListComp elt [⟨tgt, iter, ifs, 0⟩, ⟨tgt1, iter1, ifs1, 0⟩] scope pos) 0 it acc env =
      turnM tgt iter ifs (fun env acc k => do
      let x ← eval iter1 env
      standAt iter1.pos
      let x ← foldedSetIterable iter1 env x
      let _ ← runOwn (.compStart (.ListComp elt [⟨tgt, iter, ifs, 0⟩, ⟨tgt1, iter1, ifs1, 0⟩] scope pos) 1 (← holding [x] (pyIter x)) acc env) env
      k) (.compLoop (.ListComp elt [⟨tgt, iter, ifs, 0⟩, ⟨tgt1, iter1, ifs1, 0⟩] scope pos) 0 it acc env) it acc env := by
  unfold compTurn turnM
  rfl
theorem turn_d1 (elt : Expr) (g0 : Comprehension) (tgt1 iter1 : Expr) (ifs1 : List Expr) (scope : Scope) (pos : Pos) (it acc : Value) (env : Env) :
    compTurn (.ListComp elt [g0, ⟨tgt1, iter1, ifs1, 0⟩] scope pos) 1 it acc env =
      turnM tgt1 iter1 ifs1 (fun env acc k => do
      (do let _ ← call (.builtin "list.append") [acc, ← eval elt env] : Sem Unit)
      k) (.compLoop (.ListComp elt [g0, ⟨tgt1, iter1, ifs1, 0⟩] scope pos) 1 it acc env) it acc env := by
  unfold compTurn turnM
  rfl
section
variable {g : GC} {C : Cx}
noncomputable def eIn (fi : List PV → Option (List PV)) (ft : List PV → PV → Option (List PV)) (tst : List PV → Option Bool) (em : DC) : DC := fun ρ acc => (fi ρ).bind fun items => compF ft tst em items ρ acc
theorem DenE.inner {elt : Expr} {g0 : Comprehension} {tgt iter : Expr} {ifs : List Expr} {scope : Scope} {pos : Pos} {m : EM} {fi : List PV → Option (List PV)} {ft : List PV → PV → Option (List PV)} {tst : List PV → Option Bool} {em : DC}
    (hIt : DenI g C iter tgt fi) (hT : DenT g C tgt ft) (hI : DenTest g C ifs tst) (hE : DenE g C m em)
    (heq : ∀ it acc env, compTurn (.ListComp elt [g0, ⟨tgt, iter, ifs, 0⟩] scope pos) 1 it acc env = turnM tgt iter ifs m (.compLoop (.ListComp elt [g0, ⟨tgt, iter, ifs, 0⟩] scope pos) 1 it acc env) it acc env)
    (hs : ∀ env x, foldedSetIterable iter env x = pure x := by intro _ _; rfl) :
    DenE g C (fun env acc k => do
      let x ← eval iter env
      standAt iter.pos
      let x ← foldedSetIterable iter env x
      let _ ← runOwn (.compStart (.ListComp elt [g0, ⟨tgt, iter, ifs, 0⟩] scope pos) 1 (← holding [x] (pyIter x)) acc env) env
      k) (eIn fi ft tst em) := by
  intro env A s H ρ D acc Q E ρ' acc' k he hr y hD hf h
  obtain ⟨items, hit, hf2⟩ := Option.bind_eq_some_iff.mp hf
  clear hf
  refine wpAny_bind (wpAny_mono (hIt env A s H ρ (some D) (fun it s1 => wpAny (model g.prog g.w) A (runOwn (.compStart (.ListComp elt [g0, ⟨tgt, iter, ifs, 0⟩] scope pos) 1 it (.ref D) env) env) (fun _ s2 => wpAny (model g.prog g.w) A k Q E s2) E s1) E items he hr y hit fun I wr gw T s1 H1 e1 hO t hfr hw hgf => ?_) (fun x s1 h1 => ?_) fun _ _ e => e)
  · refine wpAny_runOwn ?_
    have L := LoopI.start (gw := gw) he y e1 t hfr hw
    have hB := BaseOk.of he y hfr hgf
    have hD1 : ∃ its, s1.heap.PlainList D its ∧ VRelL H1 acc its.toList := by
      obtain ⟨its, hp, hx⟩ := hD
      exact ⟨its, KeepO.ext (oa := some D) y.st e1 D its rfl hp, VRelL.mono e1.le _ _ hx⟩
    have loop : codeAny (model g.prog g.w) A (.compLoop (.ListComp elt [g0, ⟨tgt, iter, ifs, 0⟩] scope pos) 1 (.ref I) (.ref D) env) (fun r s' => match r with | .ok f => wpAny (model g.prog g.w) A k Q E s' | .error e => cameBackBy (model g.prog g.w) A env E e s') s1 :=
      compLoop_den heq (fun _ _ _ => rfl) (fun _ _ _ => rfl) hT hI hE (fun _ _ _ => rfl) he hr hB hO L hD1 hf2 fun s' H' hb y5 hD5 => h s' H' hb y5 hD5
    exact codeAny_compStart_list1 loop (hO.self _ H1 _ _ e1.st t loop)
  · refine wpAny_bind (wpAny_standAt (wpAny_bind (wpAny_of_eq (hs env x) ?_)))
    refine wpAny_bind (wpAny_holding (wpAny_mono h1 (fun it s2 h2 => ?_) fun _ _ e => e))
    exact wpAny_bind h2
theorem DenNew.comp2 {elt tgt iter tgt1 iter1 : Expr} {ifs ifs1 : List Expr} {scope : Scope} {pos : Pos} (fr : List (Str × Nat)) (tg : List Str) {fi fi1 : List PV → Option (List PV)} {ft ft1 : List PV → PV → Option (List PV)} {tst tst1 : List PV → Option Bool} {fe : DE}
    (ok : inOk C scope fr tg = true) (hIt : DenI g C iter tgt fi) (hT : DenT g (inCx C scope fr tg) tgt ft) (hI : DenTest g (inCx C scope fr tg) ifs tst)
    (hIt1 : DenI g (inCx C scope fr tg) iter1 tgt1 fi1) (hT1 : DenT g (inCx C scope fr tg) tgt1 ft1) (hI1 : DenTest g (inCx C scope fr tg) ifs1 tst1) (hE : Den g (inCx C scope fr tg) elt fe)
    (hs : ∀ env x, foldedSetIterable iter env x = pure x := by intro _ _; rfl) (hs1 : ∀ env x, foldedSetIterable iter1 env x = pure x := by intro _ _; rfl) :
    DenNew g C (.ListComp elt [⟨tgt, iter, ifs, 0⟩, ⟨tgt1, iter1, ifs1, 0⟩] scope pos) (fun ρ => (fi ρ).bind fun items => (compF ft tst (eIn fi1 ft1 tst1 (eElt fe)) items (inR fr tg ρ) []).map (·.2)) :=
  DenNew.comp (InOk.of ok) hIt hT hI (DenE.inner hIt1 hT1 hI1 (DenE.elt (by simp [inCx]) hE) (turn_d1 _ _ _ _ _ _ _) hs1) (turn_d0 _ _ _ _ _ _ _ _ _) hs
theorem DenS.assignComp {elt tgt iter : Expr} {ifs : List Expr} {rest : List Comprehension} {scope : Scope} {pos p spos : Pos} {x : Str} {i : Nat} {fr : List (Str × Nat)} {tg : List Str} {m : EM} {fi : List PV → Option (List PV)} {ft : List PV → PV → Option (List PV)} {tst : List PV → Option Bool} {em : DC}
    (hC : C.ok = true) (hi : C.ns[i]? = some (x, .loc)) (ok : InOk C scope fr tg) (hIt : DenI g C iter tgt fi) (hT : DenT g (inCx C scope fr tg) tgt ft) (hI : DenTest g (inCx C scope fr tg) ifs tst) (hE : DenE g (inCx C scope fr tg) m em)
    (heq : ∀ it acc env, compTurn (.ListComp elt (⟨tgt, iter, ifs, 0⟩ :: rest) scope pos) 0 it acc env = turnM tgt iter ifs m (.compLoop (.ListComp elt (⟨tgt, iter, ifs, 0⟩ :: rest) scope pos) 0 it acc env) it acc env)
    (hsw : ∀ env, env.scope = C.sc → swapsWith (.ListComp elt (⟨tgt, iter, ifs, 0⟩ :: rest) scope pos) (some (.Name x p)) spos.line env = pure true)
    (hs : ∀ env x, foldedSetIterable iter env x = pure x := by intro _ _; rfl) :
    DenS g C (.Assign [.Name x p] (.ListComp elt (⟨tgt, iter, ifs, 0⟩ :: rest) scope pos) spos) (fun ρ => (fi ρ).bind fun items => (compF ft tst em items (inR fr tg ρ) []).map fun r => (.next, ρ.set i (.list r.2))) := by
  intro env A s H ρ oa Q E fl ρ9 he hr y hf hp
  obtain ⟨items, hit, hf2⟩ := Option.bind_eq_some_iff.mp hf
  obtain ⟨⟨ρ', acc'⟩, hco, hl⟩ := Option.map_eq_some_iff.mp hf2
  clear hf hf2
  cases hl
  rw [exec_Assign_Name_used _ _ _ _ (hsw env he.scope)]
  refine wpAny_bind (wpAny_standAt (wpAny_bind ?_))
  have hlk : ∀ n k, (n, k) ∈ scope.names → k = .free → ∃ c, env.cells.lookup n = some c := fun n k hx hk => by
    obtain ⟨k', h1, h2⟩ := ok.free n k hx hk
    exact he.cel n k' h1 h2
  show wpAny _ A (do let _ ← comprehension (.ListComp elt (⟨tgt, iter, ifs, 0⟩ :: rest) scope pos) scope env (firstIterPos (⟨tgt, iter, ifs, 0⟩ :: rest) pos) (newList []) false (firstIter (⟨tgt, iter, ifs, 0⟩ :: rest) env) (some (PySem.assign (.Name x p) env))) _ E s
  refine wpAny_bind (wpAny_comprehension_free (Q := fun _ s' => wpAny (model g.prog g.w) A (pure ()) (fun _ s'' => wpAny (model g.prog g.w) A (pure Flow.next) Q E s'') E s') rfl (hs env) (closureFor_cl hlk) ok.kind ok.loc ?_)
  refine (show wpAny _ A (eval iter env) _ E s from hIt env A s H ρ oa _ E items he hr y hit fun I wr gw T s1 H1 e1 hO t hfr hw hgf => ?_)
  refine comp_run (RR := fun acc Cl => compPost (model g.prog g.w) A E (some (PySem.assign (.Name x p) env)) _ acc Cl) ok hT hI hE heq he hr y e1 hO t hfr hw hgf hco fun D Cl its s' H' m' x' hx hpl hD hHD hCl hHCl hne hn => ?_
  obtain ⟨n, ho⟩ := hpl
  have hDn : DenNew g C (.ListComp elt (⟨tgt, iter, ifs, 0⟩ :: rest) scope pos) (fun ρ => (fi ρ).bind fun items => (compF ft tst em items (inR fr tg ρ) []).map (·.2)) := DenNew.comp ok hIt hT hI hE heq hs
  have hnt := notTab_fresh y.st hD
  have hle := hput_le (o := { cls := .type "list", data := .seq its n }) hHD
  have ef : Ext g s H s' (hput H' D { cls := .type "list", data := .seq its n }) := by
    refine ⟨⟨fun b o' q => ?_, fun b o' ht q => hle b o' (x'.st.base b o' ht q), x'.st.tab.moves hle (fun _ _ _ q => q), fun b t => ?_, x'.st.bare⟩, x'.le.trans hle, x'.old, fun b o' q => ?_, x'.same, x'.gens⟩
    · unfold hput at q
      split at q
      · rename_i r; subst r; cases q; exact ho
      · exact x'.st.keep b o' q
    · show (if b = D then _ else H' b) = Option.none
      rw [if_neg (fun q : b = D => hnt (q ▸ t))]; exact x'.st.notab b t
    · unfold hput at q
      split at q
      · rename_i r; subst r; exact .inr hD
      · exact x'.fresh b o' q
  have hv : VRel (hput H' D { cls := .type "list", data := .seq its n }) (.list acc') (.ref D) := ⟨D, _, its, n, rfl, hput_self .., rfl, rfl, VRelL.mono hle _ _ hx⟩
  have y1 := y.ext ef
  have hCne := Rel.ne_of_fresh (ρ := ρ) (s := s) (H := H) (oa := oa) he y hCl
  have hCoa : oa ≠ some Cl := fun q => by obtain ⟨_, its, n, ho⟩ := y.oall Cl q; rw [hCl] at ho; cases ho
  have hHf : hput H' D { cls := .type "list", data := .seq its n } Cl = none := by
    show (if Cl = D then _ else H' Cl) = Option.none
    rw [if_neg (Ne.symm hne)]; exact hHCl
  refine wpAny_assign_Name (storeName_den hC he y1 hi (by decide) hv fun s2 e2 y2 _ => ?_)
  have hno : ¬ Own C env oa Cl := fun q => by
    rcases q with q | ⟨z, hz, q⟩ | q
    · exact hCne.1 q
    · obtain ⟨j, hj⟩ := List.getElem?_of_mem hz
      exact hCne.2 z Cl .cel j hj (by decide) q rfl
    · exact hCoa q
  refine ⟨m', hn.at' fun o ho => e2.old _ o (notTab_fresh y.st hCl) ho hno, fun h' hsb => wpAny_pure (wpAny_pure ?_)⟩
  have ew : ExtW g [Cl] [] s2 (hput H' D { cls := .type "list", data := .seq its n }) { s2 with heap := h', toks := s2.toks } (hput H' D { cls := .type "list", data := .seq its n }) :=
    ExtW.step e2.st ⟨fun b hb => by rw [List.mem_singleton.mp hb]; exact hHf, fun b hb => by rw [List.mem_singleton.mp hb]; exact notTab_fresh y.st hCl⟩ fun b o hb ho => (hsb.2 b fun q => hb (by rw [q]; exact List.mem_singleton.mpr rfl)).trans ho
  have tr := y.there he
  refine hp.nx ((ExtS.trans tr.1 tr.2 (.of ef) e2).thenW ew (fun b hb => by rw [List.mem_singleton.mp hb]; exact hCl) (fun j hj => by cases hj)) ?_
  exact y2.extW he ew (fun q => hCne.1 (List.mem_singleton.mp q).symm) (fun z c k j hj hk hc q => hCne.2 z c k j hj hk hc (List.mem_singleton.mp q)) fun b hb => by rw [List.mem_singleton.mp hb]; exact hCoa
theorem DenS.assignComp1 {elt tgt iter : Expr} {ifs : List Expr} {scope : Scope} {pos p spos : Pos} {x : Str} {i : Nat} (fr : List (Str × Nat)) (tg : List Str) {fi : List PV → Option (List PV)} {ft : List PV → PV → Option (List PV)} {tst : List PV → Option Bool} {fe : DE}
    (hC : C.ok = true) (hi : C.ns[i]? = some (x, .loc)) (ok : inOk C scope fr tg = true) (hIt : DenI g C iter tgt fi) (hT : DenT g (inCx C scope fr tg) tgt ft) (hI : DenTest g (inCx C scope fr tg) ifs tst) (hE : Den g (inCx C scope fr tg) elt fe)
    (hsw : ∀ env, env.scope = C.sc → swapsWith (.ListComp elt [⟨tgt, iter, ifs, 0⟩] scope pos) (some (.Name x p)) spos.line env = pure true)
    (hs : ∀ env x, foldedSetIterable iter env x = pure x := by intro _ _; rfl) :
    DenS g C (.Assign [.Name x p] (.ListComp elt [⟨tgt, iter, ifs, 0⟩] scope pos) spos) (fun ρ => (fi ρ).bind fun items => (compF ft tst (eElt fe) items (inR fr tg ρ) []).map fun r => (.next, ρ.set i (.list r.2))) :=
  DenS.assignComp hC hi (InOk.of ok) hIt hT hI (DenE.elt (by simp [inCx]) hE) (fun _ _ _ => rfl) hsw hs
theorem DenS.assignComp2 {elt tgt iter tgt1 iter1 : Expr} {ifs ifs1 : List Expr} {scope : Scope} {pos p spos : Pos} {x : Str} {i : Nat} (fr : List (Str × Nat)) (tg : List Str) {fi fi1 : List PV → Option (List PV)} {ft ft1 : List PV → PV → Option (List PV)} {tst tst1 : List PV → Option Bool} {fe : DE}
    (hC : C.ok = true) (hi : C.ns[i]? = some (x, .loc)) (ok : inOk C scope fr tg = true) (hIt : DenI g C iter tgt fi) (hT : DenT g (inCx C scope fr tg) tgt ft) (hI : DenTest g (inCx C scope fr tg) ifs tst)
    (hIt1 : DenI g (inCx C scope fr tg) iter1 tgt1 fi1) (hT1 : DenT g (inCx C scope fr tg) tgt1 ft1) (hI1 : DenTest g (inCx C scope fr tg) ifs1 tst1) (hE : Den g (inCx C scope fr tg) elt fe)
    (hsw : ∀ env, env.scope = C.sc → swapsWith (.ListComp elt [⟨tgt, iter, ifs, 0⟩, ⟨tgt1, iter1, ifs1, 0⟩] scope pos) (some (.Name x p)) spos.line env = pure true)
    (hs : ∀ env x, foldedSetIterable iter env x = pure x := by intro _ _; rfl) (hs1 : ∀ env x, foldedSetIterable iter1 env x = pure x := by intro _ _; rfl) :
    DenS g C (.Assign [.Name x p] (.ListComp elt [⟨tgt, iter, ifs, 0⟩, ⟨tgt1, iter1, ifs1, 0⟩] scope pos) spos) (fun ρ => (fi ρ).bind fun items => (compF ft tst (eIn fi1 ft1 tst1 (eElt fe)) items (inR fr tg ρ) []).map fun r => (.next, ρ.set i (.list r.2))) :=
  DenS.assignComp hC hi (InOk.of ok) hIt hT hI (DenE.inner hIt1 hT1 hI1 (DenE.elt (by simp [inCx]) hE) (turn_d1 _ _ _ _ _ _ _) hs1) (turn_d0 _ _ _ _ _ _ _ _ _) hsw hs
theorem storeOwn {env : Env} {A : Around} {s : Shared} {H : HP} {ρ : List PV} {oa : Option Addr} {Q : Unit → Shared → Prop} {E : Value → Shared → Prop} {x : Str} {a : Addr} {its : Array Value} {l : List PV}
    (hC : C.ok = true) (he : EnvOk C env) (y : Rel g C env s H ρ oa) (hi : C.ns[C.mu]? = some (x, .loc)) (hp : s.heap.PlainList a its) (hx : VRelL H l its.toList) (hHa : H a = none)
    (h : ∀ s', (∀ b o, s.heap.get? b = some o → ¬ Own C env none b → s'.heap.get? b = some o) → (∀ oa0 : Option Addr, (∀ b, some a = some b → oa0 = some b ∨ ∀ s0 : Shared, True) → True) → (∃ h' tk, s' = { s with heap := h', toks := tk }) → (∀ b o, s.heap.get? b = some o → ∃ o', s'.heap.get? b = some o') → Rel g C env s' H (ρ.set C.mu (.own l)) (some a) → Q () s') :
    wpAny (model g.prog g.w) A (storeName env x (.ref a)) Q E s := by
  refine store_rel (oa' := some a) (p := .own l) hC he y hi (fun h' hl => ⟨a, its, rfl, rfl, hHa, hl a its hp, hx⟩) (by decide) (fun q => absurd rfl q) (fun _ _ => rfl) (.inr ⟨fun j xs hj e => hj (y.mu j xs e), fun b e => by cases e; exact ⟨hHa, its, hp⟩⟩) fun s' h1 h2 h3 h4 => h s' h2 (fun _ _ => trivial) h1 h3 h4
theorem DenS.assignOwn {x : Str} {p pos : Pos} {value : Expr} {f : List PV → Option (List PV)} (hC : C.ok = true) (hi : C.ns[C.mu]? = some (x, .loc)) (h1 : DenNew g C value f)
    (hs : ∀ env, env.scope = C.sc → swapsWith value (some (.Name x p)) pos.line env = pure false := by intro _ _; rfl) :
    DenS g C (.Assign [.Name x p] value pos) (fun ρ => (f ρ).map fun l => (.next, ρ.set C.mu (.own l))) := by
  intro env A s H ρ oa Q E fl ρ' he hr y hf hp
  obtain ⟨l, hl, hf2⟩ := Option.map_eq_some_iff.mp hf
  cases hf2
  refine wpAny_Assign_Name (h1 env A s H ρ oa _ E l he hr y hl fun a its s1 H1 e1 hx hpl hn hH => ?_) (hs env he.scope)
  refine storeOwn hC he (y.ext e1) hi hpl hx hH fun s2 h2 _ h3 h4 y2 => ?_
  have e2 : ExtS g C env s1 H1 oa s2 H1 oa := .ofStore (ρ' := ρ) h3 h2 h4 y2.st fun a e => .inl e
  have e3 := ExtS.trans (y.there he).1 (y.there he).2 (.of e1) e2
  exact hp.nx ⟨e3.st, e3.le, e3.old, e3.there, e3.fresh, fun b hb => by cases hb; exact .inr hn, e3.same, e3.gens⟩ y2
theorem DenS.assignT2b {x1 x2 : Str} {i1 : Nat} {t1 t2 v1 v2 : Expr} {k k2 : Nat} {p p2 pos : Pos} {f1 : DE} {f2 : List PV → Option (List PV)} (hC : C.ok = true) (hi1 : C.ns[i1]? = some (x1, .loc)) (hi2 : C.ns[C.mu]? = some (x2, .loc)) (hne : i1 ≠ C.mu) (h1 : Den g C v1 f1) (h2 : DenNew g C v2 f2)
    (hst : ∀ env, starEach [v1, v2] env = (false, eval v1 env) :: starEach [v2] env := by intro _; rfl) (hst1 : ∀ env, starEach [v2] env = (false, eval v2 env) :: starEach [] env := by intro _; rfl)
    (hs : ∀ env, env.scope = C.sc → swapsWithSole [.Tuple [t1, t2] k p] (.Tuple [v1, v2] k2 p2) pos.line env = pure false ∧ swappedStores [.Tuple [t1, t2] k p] (.Tuple [v1, v2] k2 p2) env = pure (some [x1, x2])) :
    DenS g C (.Assign [.Tuple [t1, t2] k p] (.Tuple [v1, v2] k2 p2) pos) (fun ρ => (f1 ρ).bind fun a => (f2 ρ).map fun b => (.next, (ρ.set C.mu (.own b)).set i1 a)) := by
  intro env A s H ρ oa Q E fl ρ' he hr y hf hp
  obtain ⟨pa, hpa, hf2⟩ := Option.bind_eq_some_iff.mp hf
  obtain ⟨lb, hlb, hf3⟩ := Option.map_eq_some_iff.mp hf2
  clear hf hf2
  cases hf3
  refine Assign_Tuple_swapped (wpAny_Tuple ?_) (hs env he.scope).1 (hs env he.scope).2
  refine wpAny_items_cons (h1.bind he hr y hpa fun va s1 H1 e1 y1 hva => ?_) (hst env)
  refine wpAny_items_cons (h2 env A s1 H1 ρ oa _ E lb he hr y1 hlb fun b its s2 H2 e2 hx hpl hn hH => wpAny_items_nil ⟨by show (2 : Nat) ≤ _; unfold sizeLine; decide, ?_⟩) (hst1 env)
  have y2 := y1.ext e2
  have e3 := push_kept e2.st { cls := .type "tuple", data := .seq [va, .ref b].toArray } s2.toks
  have y3 := y2.ext e3
  have ht : IsTup (s2.heap.push { cls := .type "tuple", data := .seq [va, .ref b].toArray }) s2.heap.objs.size #[va, .ref b] := IsTup.new ..
  refine (show wpAny _ A (unpackItems _ (#[va, .ref b] : Array Value).size none) _ E _ from unpackItems_tuple hr.hh ht fun h' hbut => ?_)
  have e4 := ExtS.extBut (env := env) (oa := oa) e3.st hbut
  have y4 := y3.ext e4
  obtain ⟨n, ho⟩ := hpl
  have hp4 : h'.PlainList b its := ⟨n, hbut b _ (by rw [Heap.size_push]; exact Nat.ne_of_lt (Nat.lt_succ_of_lt (Heap.lt_size ho))) (Heap.get?_push_of_some _ ho)⟩
  show wpAny _ A (do holding [va] (bindName env x2 (.ref b)); assignInOrder [fun n => bindName env x1 n] [va]) _ E _
  refine wpAny_bind (wpAny_holding (wpAny_bindName (storeOwn hC he y4 hi2 hp4 hx hH fun s5 h5 _ h6 h7 y5 => ?_)))
  show wpAny _ A (do holding [] (bindName env x1 va); assignInOrder [] []) _ E _
  have hva2 := VRel.mono e2.le _ _ hva
  refine wpAny_bind (wpAny_holding (wpAny_bindName (storeName_den hC he y5 hi1 (by decide) hva2 fun s6 e6 y6 _ => wpAny_pure ?_)))
  have tr := y.there he
  have eA : ExtS g C env s H oa _ H2 oa := .of (e1.trans (e2.trans (e3.trans e4)))
  have e5 : ExtS g C env _ H2 oa s5 H2 oa := .ofStore (ρ' := ρ) h6 h5 h7 y5.st fun a e => .inl e
  have eB := ExtS.trans tr.1 tr.2 eA e5
  have eC : ExtS g C env s H oa s5 H2 (some b) := ⟨eB.st, eB.le, eB.old, eB.there, eB.fresh, fun c hc => by cases hc; exact .inr (fresh_wr e1 hn), eB.same, eB.gens⟩
  exact hp.nx (ExtS.trans tr.1 tr.2 eC e6) y6
theorem DenS.assignT2a {x1 x2 : Str} {i2 : Nat} {t1 t2 v1 v2 : Expr} {k k2 : Nat} {p p2 pos : Pos} {f1 : List PV → Option (List PV)} {f2 : DE} (hC : C.ok = true) (hi1 : C.ns[C.mu]? = some (x1, .loc)) (hi2 : C.ns[i2]? = some (x2, .loc)) (h1 : DenNew g C v1 f1) (h2 : Den g C v2 f2)
    (hst : ∀ env, starEach [v1, v2] env = (false, eval v1 env) :: starEach [v2] env := by intro _; rfl) (hst1 : ∀ env, starEach [v2] env = (false, eval v2 env) :: starEach [] env := by intro _; rfl)
    (hs : ∀ env, env.scope = C.sc → swapsWithSole [.Tuple [t1, t2] k p] (.Tuple [v1, v2] k2 p2) pos.line env = pure false ∧ swappedStores [.Tuple [t1, t2] k p] (.Tuple [v1, v2] k2 p2) env = pure (some [x1, x2])) :
    DenS g C (.Assign [.Tuple [t1, t2] k p] (.Tuple [v1, v2] k2 p2) pos) (fun ρ => (f1 ρ).bind fun a => (f2 ρ).map fun b => (.next, (ρ.set i2 b).set C.mu (.own a))) := by
  intro env A s H ρ oa Q E fl ρ' he hr y hf hp
  obtain ⟨la, hla, hf2⟩ := Option.bind_eq_some_iff.mp hf
  obtain ⟨pb, hpb, hf3⟩ := Option.map_eq_some_iff.mp hf2
  clear hf hf2
  cases hf3
  refine Assign_Tuple_swapped (wpAny_Tuple ?_) (hs env he.scope).1 (hs env he.scope).2
  refine wpAny_items_cons (h1 env A s H ρ oa _ E la he hr y hla fun a its s1 H1 e1 hx hpl hn hH => ?_) (hst env)
  have y1 := y.ext e1
  refine wpAny_items_cons (h2.bind he hr y1 hpb fun vb s2 H2 e2 y2 hvb => wpAny_items_nil ⟨by show (2 : Nat) ≤ _; unfold sizeLine; decide, ?_⟩) (hst1 env)
  have e3 := push_kept e2.st { cls := .type "tuple", data := .seq [.ref a, vb].toArray } s2.toks
  have y3 := y2.ext e3
  have ht : IsTup (s2.heap.push { cls := .type "tuple", data := .seq [.ref a, vb].toArray }) s2.heap.objs.size #[.ref a, vb] := IsTup.new ..
  refine (show wpAny _ A (unpackItems _ (#[.ref a, vb] : Array Value).size none) _ E _ from unpackItems_tuple hr.hh ht fun h' hbut => ?_)
  have e4 := ExtS.extBut (env := env) (oa := oa) e3.st hbut
  have y4 := y3.ext e4
  have hnt := Heap.PlainList.notTab e1.st hpl
  obtain ⟨n, ho⟩ := hpl
  have ho2 := e2.old _ _ hnt ho
  have hp4 : h'.PlainList a its := ⟨n, hbut a _ (by rw [Heap.size_push]; exact Nat.ne_of_lt (Nat.lt_succ_of_lt (Heap.lt_size ho2))) (Heap.get?_push_of_some _ ho2)⟩
  have hH2 : H2 a = none := e2.stays_none ho hH
  show wpAny _ A (do holding [.ref a] (bindName env x2 vb); assignInOrder [fun n => bindName env x1 n] [.ref a]) _ E _
  refine wpAny_bind (wpAny_holding (wpAny_bindName (store_rel (oa' := oa) hC he y4 hi2 (fun h' _ => slot_val hvb) (by decide) (fun _ => hvb.val) (fun xs e => by subst e; exact hvb.elim) (.inl rfl) fun s5 h5 h6 h7 y5 => ?_)))
  show wpAny _ A (do holding [] (bindName env x1 (.ref a)); assignInOrder [] []) _ E _
  have hp5 : s5.heap.PlainList a its := by
    have hne := own_ne he y4 hp4
    obtain ⟨n, ho⟩ := hp4
    refine ⟨n, h6 _ _ ho fun q => ?_⟩
    rcases q with q | ⟨z, hz, q⟩ | q
    · exact hne.1 q
    · obtain ⟨j, hj⟩ := List.getElem?_of_mem hz
      exact hne.2 z a .cel j hj (by decide) q rfl
    · cases q
  refine wpAny_bind (wpAny_holding (wpAny_bindName (storeOwn hC he y5 hi1 hp5 (VRelL.mono e2.le _ _ hx) hH2 fun s6 h8 _ h9 h10 y6 => wpAny_pure ?_)))
  have tr := y.there he
  have eA : ExtS g C env s H oa _ H2 oa := .of (e1.trans (e2.trans (e3.trans e4)))
  have e5 : ExtS g C env _ H2 oa s5 H2 oa := .ofStore (ρ' := ρ) h5 h6 h7 y5.st fun a e => .inl e
  have e6 : ExtS g C env s5 H2 oa s6 H2 oa := .ofStore (ρ' := ρ) h9 h8 h10 y6.st fun a e => .inl e
  have eB := ExtS.trans tr.1 tr.2 eA (ExtS.trans (y4.there he).1 (y4.there he).2 e5 e6)
  exact hp.nx ⟨eB.st, eB.le, eB.old, eB.there, eB.fresh, fun c hc => by cases hc; exact .inr hn, eB.same, eB.gens⟩ y6
theorem DenSs.dead {sts : List Stmt} : DenSs g C sts (fun _ => none) := by
  intro env A s H ρ oa Q E fl ρ' he hr y hf hp
  cases hf
theorem DenS.dead {st : Stmt} : DenS g C st (fun _ => none) := by
  intro env A s H ρ oa Q E fl ρ' he hr y hf hp
  cases hf
theorem DenNew.mul {l r : Expr} {pos : Pos} {f1 f2 : DE} (h1 : Den g C l f1) (h2 : Den g C r f2) :
    DenNew g C (.BinOp l .Mult r pos) (fun ρ => (f1 ρ).bind fun a => (f2 ρ).bind fun b => match a, b with
      | .list xs, .int n => if 0 ≤ n ∧ n ≤ 1000 ∧ xs.length ≤ 1000 then some (List.replicate n.toNat xs).flatten else none
      | _, _ => none) := by
  intro env A s H ρ oa Q E l he hr x hf h
  obtain ⟨a, ha, hf1⟩ := Option.bind_eq_some_iff.mp hf
  obtain ⟨b, hb, hf2⟩ := Option.bind_eq_some_iff.mp hf1
  clear hf hf1
  refine wpAny_BinOp (h1.bind he hr x ha fun va s1 H1 e1 x1 va1 => h2.bind he hr x1 hb fun vb s2 H2 e2 x2 vb2 => ?_)
  split at hf2
  · split at hf2
    · rename_i xs n hm
      cases hf2
      obtain ⟨t, rfl⟩ := vb2
      obtain ⟨al, n', its, d, sl, rfl, hl, hv⟩ := seq_at x2.st (VRel.mono e2.le _ _ va1)
      refine mul_list_new g hl hv hm.1 hm.2.1 hm.2.2 fun ws hw => ?_
      have e3 := push_kept x2.st { cls := .type "list", data := .seq ws } s2.toks
      have hfr : s2.heap.get? s2.heap.objs.size = none := freshAt (Nat.le_refl _)
      refine h _ ws _ H2 ((e1.trans e2).trans e3) hw ⟨0, Heap.get?_push_size _ rfl⟩ (fresh_wr (e1.trans e2) hfr) ?_
      cases q : H2 s2.heap.objs.size with
      | none => rfl
      | some o => have := x2.st.keep _ o q; rw [hfr] at this; cases this
    · cases hf2
  · cases hf2
end
section
variable {g : GC} {C : Cx}
noncomputable def GetM (g : GC) (name : Str) (id : String) (tag : PV → Bool) : Prop :=
  ∀ A (s : Shared) H p v (pl : Sem Bool) (Q : Value × List Value → Shared → Prop) (E : Value → Shared → Prop), VRel H p v → tag p = true → Q (.builtin id, [v]) s → wpAny (model g.prog g.w) A (getMethod v name pl) Q E s
noncomputable def OpM (g : GC) (id : String) (F : PV → List PV → Option PV) : Prop :=
  ∀ A s H p v ps vs Q E r, Room A 20 → St g s H → VRel H p v → VRelL H ps vs → F p ps = some r → (∀ v' s' H', Ext g s H s' H' → VRel H' r v' → Q v' s') → wpAny (model g.prog g.w) A (call (.builtin id) (v :: vs)) Q E s
theorem Den.meth0 {o : Expr} {name : Str} {id : String} {ap cp : Pos} {f1 : DE} {tag : PV → Bool} {F : PV → List PV → Option PV} (h1 : Den g C o f1) (hG : GetM g name id tag) (hF : OpM g id F) (hlv : 20 ≤ C.lv := by decide) (pl : Env → Sem Bool)
    (hev : ∀ env, eval (.Call (.Attribute o name ap) [] [] cp) env = (do
      let ov ← eval o env
      standAt ap.atName
      let (f, first) ← holding [ov] (getMethod ov name (pl env))
      callWith cp f first (backTo cp (starEach [] env)) []) := by intro _; rfl) :
    Den g C (.Call (.Attribute o name ap) [] [] cp) (fun ρ => (f1 ρ).bind fun p => if tag p then F p [] else none) := by
  intro env A s H ρ oa Q E pv he hr y hf h
  obtain ⟨p, hp, hf2⟩ := Option.bind_eq_some_iff.mp hf
  clear hf
  split at hf2
  · rename_i ht
    refine MethodCall_ (h1.bind he hr y hp fun v s1 H1 e1 y1 hv => hG A s1 H1 p v _ _ E hv ht (callWith_method0 ?_)) (hev env)
    exact hF A s1 H1 p v [] [] Q E pv (hr.le hlv) y1.st hv rfl hf2 fun v' s' H' e2 hv' => h v' s' H' (e1.trans e2) hv'
  · cases hf2
theorem Den.meth {o : Expr} {name : Str} {id : String} {ap cp : Pos} {e : Expr} {es : List Expr} {f1 : DE} {f2 : List PV → Option (List PV)} {tag : PV → Bool} {F : PV → List PV → Option PV} (h1 : Den g C o f1) (h2 : DenL g C (e :: es) f2) (hG : GetM g name id tag) (hF : OpM g id F) (pl : Env → Sem Bool) (hlv : 20 ≤ C.lv := by decide)
    (hev : ∀ env, eval (.Call (.Attribute o name ap) (e :: es) [] cp) env = (do
      let ov ← eval o env
      standAt ap.atName
      let (f, first) ← holding [ov] (getMethod ov name (pl env))
      callWith cp f first (backTo cp (starEach (e :: es) env)) []) := by intro _; rfl)
    (hs : ∀ env, starEach (e :: es) env = (false, eval e env) :: starEach es env := by intro _; rfl) (hpl : ∀ env, (backTo cp (starEach es env)).any (·.1) = false := by intro _; rfl) :
    Den g C (.Call (.Attribute o name ap) (e :: es) [] cp) (fun ρ => (f1 ρ).bind fun p => if tag p then (f2 ρ).bind fun ps => F p ps else none) := by
  intro env A s H ρ oa Q E pv he hr y hf h
  obtain ⟨p, hp, hf2⟩ := Option.bind_eq_some_iff.mp hf
  clear hf
  split at hf2
  · rename_i ht
    obtain ⟨ps, hps, hf3⟩ := Option.bind_eq_some_iff.mp hf2
    refine MethodCall_ (h1.bind he hr y hp fun v s1 H1 e1 y1 hv => hG A s1 H1 p v _ _ E hv ht ?_) (hev env)
    refine callWith_method1 (h2 env A s1 H1 ρ oa _ E ps cp he hr y1 hps fun vs s2 H2 e2 hvs => ?_) (hs env) (hpl env)
    exact hF A s2 H2 p v ps vs Q E pv (hr.le hlv) e2.st (VRel.mono e2.le _ _ hv) hvs hf3 fun v' s' H' e3 hv' => h v' s' H' (e1.trans (e2.trans e3)) hv'
  · cases hf2
noncomputable def isStrP : PV → Bool
  | .str _ => true
  | _ => false
noncomputable def isIntP : PV → Bool
  | .int _ => true
  | _ => false
theorem join_get : GetM g "join" "str.join" isStrP := by
  intro A s H p v pl Q E hv ht hq
  cases p with
  | str x => obtain ⟨t, rfl⟩ := hv; exact GM.join hq
  | _ => cases ht
theorem count_get : GetM g "count" "str.count" isStrP := by
  intro A s H p v pl Q E hv ht hq
  cases p with
  | str x => obtain ⟨t, rfl⟩ := hv; exact GM.count hq
  | _ => cases ht
theorem bits_get : GetM g "bit_length" "int.bit_length" isIntP := by
  intro A s H p v pl Q E hv ht hq
  cases p with
  | int x => obtain ⟨t, rfl⟩ := hv; exact getMethod_int_bit_length hq
  | _ => cases ht
noncomputable def cntN (c : Nat) : List Nat → Int
  | [] => 0
  | n :: r => (if n = c then 1 else 0) + cntN c r
theorem cntN_eq (c : Nat) : ∀ x : List Nat, cnt c x = cntN c x
  | [] => rfl
  | n :: r => by rw [cnt_cons, cntN_eq c r]; rfl
noncomputable def pCount : PV → List PV → Option PV
  | .str x, [.str [c]] => some (.int (cntN c x))
  | _, _ => none
theorem count_op : OpM g "str.count" pCount := by
  intro A s H p v ps vs Q E r hr st hv hvs hf hq
  unfold pCount at hf
  split at hf
  · rename_i x c
    cases hf
    obtain ⟨t, rfl⟩ := hv
    obtain ⟨w, rfl, u, rfl⟩ := hvs.one
    refine SC.count ?_
    have e : Txt.count ⟨x.toArray⟩ ⟨[c].toArray⟩ = cntN c x := by
      rw [← cntN_eq]
      have := count_cnt ⟨x.toArray⟩ c
      simpa using this
    rw [e]
    exact hq _ _ _ (.toks st) ⟨_, rfl⟩
  · cases hf
noncomputable def pBits : PV → List PV → Option PV
  | .int x, [] => some (.int (Builtin.Int.intBits x))
  | _, _ => none
theorem bits_op : OpM g "int.bit_length" pBits := by
  intro A s H p v ps vs Q E r hr st hv hvs hf hq
  unfold pBits at hf
  split at hf
  · rename_i x
    cases hf
    obtain ⟨t, rfl⟩ := hv
    have : vs = [] := hvs
    subst this
    exact call_int_bit_length (hq _ _ _ (.toks st) ⟨_, rfl⟩)
  · cases hf
noncomputable def strs? : List PV → Option (List (List Nat))
  | [] => some []
  | .str x :: r => (strs? r).map (x :: ·)
  | _ :: _ => none
noncomputable def pJoin : PV → List PV → Option PV
  | .str [], [.list xs] => (strs? xs).bind fun ts => if ts.flatten.length ≤ 100000 then some (.str ts.flatten) else none
  | _, _ => none
theorem strs_rel {H : HP} : ∀ {xs : List PV} {ts : List (List Nat)} {vs : List Value}, strs? xs = some ts → VRelL H xs vs → ∃ l : List (Str × Tok), vs = strValues l ∧ l.map (·.1) = ts.map fun x => (⟨x.toArray⟩ : Str)
  | [], _, _, h, hv => by cases h; exact ⟨[], hv, rfl⟩
  | .str x :: r, ts, vs, h, hv => by
    obtain ⟨us, hu, h⟩ := Option.map_eq_some_iff.mp h
    subst h
    obtain ⟨v, w, rfl, ⟨t, rfl⟩, hw⟩ := hv
    obtain ⟨l, rfl, h2⟩ := strs_rel hu hw
    exact ⟨(⟨x.toArray⟩, t) :: l, rfl, by simp [h2]⟩
  | .undef :: _, _, _, h, _ => by cases h
  | .none :: _, _, _, h, _ => by cases h
  | .bool _ :: _, _, _, h, _ => by cases h
  | .int _ :: _, _, _, h, _ => by cases h
  | .list _ :: _, _, _, h, _ => by cases h
  | .tup _ :: _, _, _, h, _ => by cases h
  | .fn _ :: _, _, _, h, _ => by cases h
  | .own _ :: _, _, _, h, _ => by cases h
theorem foldl_cps : ∀ (ts : List (List Nat)) (acc : Array Nat), (ts.map fun x => (⟨x.toArray⟩ : Str)).foldl (fun acc p => acc ++ (#[] : Array Nat) ++ p.cps) acc = acc ++ ts.flatten.toArray
  | [], acc => by simp
  | t :: r, acc => by
    rw [List.map_cons, List.foldl_cons, foldl_cps r]
    simp
theorem glued_flat (ts : List (List Nat)) : Builtin.Str.glued ⟨#[]⟩ (ts.map fun x => (⟨x.toArray⟩ : Str)) = ⟨ts.flatten.toArray⟩ := by
  unfold Builtin.Str.glued
  cases ts with
  | nil => rfl
  | cons t r =>
    simp only [List.map_cons, List.drop_succ_cons, List.drop_zero, List.headD_cons, List.flatten_cons]
    rw [foldl_cps]
    simp
theorem sum_flat : ∀ ts : List (List Nat), ((ts.map fun x => (⟨x.toArray⟩ : Str)).map (·.length)).sum = ts.flatten.length
  | [] => rfl
  | t :: r => by simp only [List.map_cons, List.sum_cons, List.flatten_cons, List.length_append]; rw [sum_flat r]; rfl
theorem join_op : OpM g "str.join" pJoin := by
  intro A s H p v ps vs Q E r hr st hv hvs hf hq
  unfold pJoin at hf
  split at hf
  · rename_i xs
    obtain ⟨ts, hts, hf2⟩ := Option.bind_eq_some_iff.mp hf
    clear hf
    split at hf2
    · rename_i hlen
      cases hf2
      obtain ⟨t, rfl⟩ := hv
      obtain ⟨w, rfl, h1⟩ := hvs.one
      obtain ⟨al, n', its, d, sl, rfl, hl, hv2⟩ := seq_at st h1
      obtain ⟨l, h2, h3⟩ := strs_rel hts hv2
      have hits : its = (strValues l).toArray := by rw [← h2]
      subst hits
      refine SC.join (x := ⟨([] : List Nat).toArray⟩) ⟨_, hl, rfl, n', rfl⟩ h3 ?_ fun t' k => ?_
      · unfold JoinOk
        rw [Bool.not_eq_true']
        show Builtin.Str.tooLong ((List.map (fun x => (⟨x.toArray⟩ : Str)) ts).toArray.foldl (fun a p => a + p.length + (⟨([] : List Nat).toArray⟩ : Str).length) 0) = false
        rw [StrLaws.joinTotal, sum_flat]
        unfold Builtin.Str.tooLong sizeLine
        simp only [PySem.Str.length, List.size_toArray, List.length_nil, Nat.mul_zero, Nat.add_zero, decide_eq_false_iff_not, gt_iff_lt, Nat.not_lt]
        omega
      · have e : Txt.join ⟨([] : List Nat).toArray⟩ (ts.map fun x => (⟨x.toArray⟩ : Str)) = ⟨ts.flatten.toArray⟩ := glued_flat ts
        rw [e]
        exact hq _ _ _ (.toks st) ⟨_, rfl⟩
    · cases hf2
  · cases hf
theorem Den.itemOwn {x : Str} {p pos : Pos} {idx : Expr} {fi : DE} (hC : C.ok = true) (hi : C.ns[C.mu]? = some (x, .loc)) (h1 : Den g C idx fi)
    (hs : ∀ o i, subscripted idx false o i = operate [o, i] (getItem o i) := by intro _ _; rfl) :
    Den g C (.Subscript (.Name x p) idx pos) (fun ρ => match ρ.getD C.mu .undef with
      | .own xs => (fi ρ).bind fun i => match i with
        | .int k => if 0 ≤ k ∧ k < 2 ^ 62 then xs[k.toNat]? else none
        | _ => none
      | _ => none) := by
  intro env A s H ρ oa Q E pv he hr y hf h
  dsimp only at hf
  split at hf
  · rename_i xs hv
    obtain ⟨pi, hpi, hf2⟩ := Option.bind_eq_some_iff.mp hf
    clear hf
    split at hf2
    · split at hf2
      · rename_i k hk
        refine Subscript_ (loadOwn hC he y hi hv fun a its h3 h4 h5 h6 => h1.bind he hr y hpi fun vi s1 H1 e1 y1 hvi => ?_)
        obtain ⟨t, rfl⟩ := hvi
        have hp1 := KeepO.ext (oa := some a) y.st e1 a its rfl h5
        obtain ⟨v, hv1, hv2⟩ := h6.get hf2
        refine tail_any hp1.isList.typeIs slot_list_getitem.lookup ?_ (hs _ _)
        exact wpAny_getItem_list hp1.isList hk.1 (by omega) (by simpa using hv1) (h v s1 H1 e1 (VRel.mono e1.le _ _ hv2))
      · cases hf2
    · cases hf2
  · cases hf
end
noncomputable abbrev DB := List PV → Option Bool
noncomputable abbrev DLs := List PV → Option (List PV)
noncomputable def kC (p : PV) : DE := fun _ => some p
noncomputable def kBin (F : PV → PV → Option PV) (f1 f2 : DE) : DE := fun ρ => (f1 ρ).bind fun a => (f2 ρ).bind fun b => F a b
noncomputable def kUn (F : PV → Option PV) (f1 : DE) : DE := fun ρ => (f1 ρ).bind F
noncomputable def bCmp (F : PV → PV → Option PV) (f1 f2 : DE) : DB := fun ρ => (f1 ρ).bind fun a => (f2 ρ).bind fun b => (F a b).bind pTruth
noncomputable def bVal (f : DE) : DB := fun ρ => (f ρ).bind pTruth
noncomputable def bAnd (f1 f2 : DB) : DB := fun ρ => (f1 ρ).bind fun b => if b then f2 ρ else some false
noncomputable def bT : DB := fun _ => some true
noncomputable def bF : DB := fun _ => some false
noncomputable def bOr (f1 f2 : DB) : DB := fun ρ => (f1 ρ).bind fun b => if b then some true else f2 ρ
noncomputable def kAnd2 (f1 f2 : DE) : DE := fun ρ => (f1 ρ).bind fun a => (pTruth a).bind fun b => if b then f2 ρ else some a
noncomputable def kIf (ft : DB) (fa fb : DE) : DE := fun ρ => (ft ρ).bind fun c => if c then fa ρ else fb ρ
noncomputable def lNil : DLs := fun _ => some []
noncomputable def lCons (f1 : DE) (f2 : DLs) : DLs := fun ρ => (f1 ρ).bind fun a => (f2 ρ).bind fun r => some (a :: r)
noncomputable def kTup (f : DLs) : DE := fun ρ => (f ρ).map .tup
noncomputable def kLst (f : DLs) : DE := fun ρ => (f ρ).map .list
noncomputable def kSlice (f1 fl fu : DE) : DE := fun ρ => (f1 ρ).bind fun a => (fl ρ).bind fun l => (fu ρ).bind fun u => pSlice a l u
noncomputable def kSliceSt (f1 fl fu : DE) (k : Int) : DE := fun ρ => (f1 ρ).bind fun a => (fl ρ).bind fun l => (fu ρ).bind fun u => pSliceSt a l u k
noncomputable def kCallB (F : List PV → Option PV) (f : DLs) : DE := fun ρ => (f ρ).bind F
noncomputable def kCall (F : List PV → List (Str × PV) → Option PV) (ns : List Str) (f fk : DLs) : DE := fun ρ => (f ρ).bind fun l => (fk ρ).bind fun k => F l (ns.zip k)
noncomputable def lOne (f : DE) : DLs := fun ρ => (f ρ).map fun a => [a]
noncomputable def kMeth (tag : PV → Bool) (F : PV → List PV → Option PV) (f1 : DE) (f2 : DLs) : DE := fun ρ => (f1 ρ).bind fun p => if tag p then (f2 ρ).bind fun ps => F p ps else none
noncomputable def kMeth0 (tag : PV → Bool) (F : PV → List PV → Option PV) (f1 : DE) : DE := fun ρ => (f1 ρ).bind fun p => if tag p then F p [] else none
noncomputable def iVal (f : DE) : DLs := fun ρ => (f ρ).bind pIter
noncomputable def iCall (F : List PV → Option (List PV)) (f : DLs) : DLs := fun ρ => (f ρ).bind F
noncomputable def lComp (fr : List (Str × Nat)) (tg : List Str) (fi : DLs) (ft : List PV → PV → Option (List PV)) (tst : DB) (em : DC) : DLs := fun ρ => (fi ρ).bind fun items => (compF ft tst em items (inR fr tg ρ) []).map (·.2)
noncomputable def tSet (i : Nat) : List PV → PV → Option (List PV) := fun ρ p => some (ρ.set i p)
noncomputable def sAssign (i : Nat) (f : DE) : DS := fun ρ => (f ρ).map fun v => (.next, ρ.set i v)
noncomputable def sRet (f : DE) : DS := fun ρ => (f ρ).map fun v => (.ret v, ρ)
noncomputable def sIf (ft : DB) (f1 f2 : DS) : DS := fun ρ => (ft ρ).bind fun c => if c then f1 ρ else f2 ρ
noncomputable def sNil : DS := fun ρ => some (.next, ρ)
noncomputable def sFor (fi : DLs) (ft : List PV → PV → Option (List PV)) (fb : DS) : DS := fun ρ => (fi ρ).bind fun items => forF ft fb items ρ
noncomputable def sComp (i : Nat) (fr : List (Str × Nat)) (tg : List Str) (fi : DLs) (ft : List PV → PV → Option (List PV)) (tst : DB) (em : DC) : DS :=
  fun ρ => (fi ρ).bind fun items => (compF ft tst em items (inR fr tg ρ) []).map fun r => (.next, ρ.set i (.list r.2))
noncomputable def sTup (f : DE) (ft : List PV → PV → Option (List PV)) : DS := fun ρ => (f ρ).bind fun v => (ft ρ v).map fun ρ1 => (.next, ρ1)
noncomputable def sTup2 (i1 i2 : Nat) (f : DE) : DS := fun ρ => (f ρ).bind fun v => match v with | .tup [a, b] => some (.next, (ρ.set i2 b).set i1 a) | _ => none
noncomputable def sOwnNew (mu : Nat) (f : DLs) : DS := fun ρ => (f ρ).map fun l => (.next, ρ.set mu (.own l))
noncomputable def sTup2b (i1 mu : Nat) (f1 : DE) (f2 : DLs) : DS := fun ρ => (f1 ρ).bind fun a => (f2 ρ).map fun b => (.next, (ρ.set mu (.own b)).set i1 a)
noncomputable def sTup2a (mu i2 : Nat) (f1 : DLs) (f2 : DE) : DS := fun ρ => (f1 ρ).bind fun a => (f2 ρ).map fun b => (.next, (ρ.set i2 b).set mu (.own a))
noncomputable def sFrz (C : Cx) (f : DS) : DS := fun ρ => f (frz C ρ)
noncomputable def sDead : DS := fun _ => none
noncomputable def pAppend (xs ps : List PV) : Option (List PV) := match ps with | [p] => if xs.length ≤ 1000000 then some (xs ++ [p]) else none | _ => none
noncomputable def pRev (xs ps : List PV) : Option (List PV) := match ps with | [] => if xs.length ≤ 1000000 then some xs.reverse else none | _ => none
noncomputable def pInsert (xs ps : List PV) : Option (List PV) := match ps with | [.int i, p] => if 0 ≤ i ∧ i ≤ xs.length ∧ xs.length ≤ 1000000 then some (insAt xs i.toNat p) else none | _ => none
noncomputable def lMul (f1 f2 : DE) : DLs := fun ρ => (f1 ρ).bind fun a => (f2 ρ).bind fun b => match a, b with
      | .list xs, .int n => if 0 ≤ n ∧ n ≤ 1000 ∧ xs.length ≤ 1000 then some (List.replicate n.toNat xs).flatten else none
      | _, _ => none
noncomputable def kItemOwn (C : Cx) (fi : DE) : DE := fun ρ => match ρ.getD C.mu .undef with
      | .own xs => (fi ρ).bind fun i => match i with
        | .int k => if 0 ≤ k ∧ k < 2 ^ 62 then xs[k.toNat]? else none
        | _ => none
      | _ => none
noncomputable def pInv : PV → Option PV
  | .int a => some (.int (Builtin.bitNot a))
  | _ => none
noncomputable def fnF (n m : Nat) (fb : DS) (ps : List PV) (ks : List (Str × PV)) : Option PV :=
  if ps.length = n ∧ ks.isEmpty then (fb (ps ++ List.replicate m .undef)).map flOut else none
theorem FnS.plain {g : GC} {a : Addr} {body : List Stmt} {C : Cx} {fb : DS} (xs : List Str) (m : Nat)
    (hK : ∃ oc od fd osl, (∀ P, (K0 P).lookup a = some ⟨oc, od, .func fd, osl⟩) ∧ (∀ P, codeIn (K0 P) fd.code fd.qualname = true) ∧ fd.globals = mainGlobals ∧ fd.closure = [] ∧ fd.builtins = builtinsNs ∧
      fd.scope.isGenerator = false ∧ fd.scope.isCoroutine = false ∧ fd.body = .stmts body ∧ fd.scope = C.sc ∧ ∀ s vs, vs.length = xs.length → BindsTo s fd ⟨vs, []⟩ (xs.zip vs))
    (hC : C.ok = true) (hfre : C.ns.all (fun x => x.2 != .fre) = true) (hta : ¬ isTab a) (hx : xs.Nodup ∧ ∀ x ∈ xs, C.sc.names.lookup x = some .local ∨ C.sc.names.lookup x = some .cell)
    (hini : ∀ ps : List PV, ps.length = xs.length → initR C (xs.zip ps) = ps ++ List.replicate m .undef) (D : DenSs g C body fb) : FnS g a (C.lv + 1) (fnF xs.length m fb) := by
  obtain ⟨oc, od, fd, osl, h1, h2, h3, h4, h5, h6, h7, h8, h9, h10⟩ := hK
  have := FnS.intro (bind := fun ps ks => if ps.length = xs.length ∧ ks.isEmpty then some (xs.zip ps) else none) h1 h2 h3 h4 h5 h6 h7 h8 h9 hC hfre hta (fun s H ps vs ks kvs bs st hps hkn hks hb => ?_) (fun ps ks bs hb => ?_) D
  · intro A s H ps vs ks kvs Q E r hr st hps hkn hks hF hq
    refine this A s H ps vs ks kvs Q E r hr st hps hkn hks ?_ hq
    unfold fnF at hF
    split at hF
    · rename_i hc
      show ((if ps.length = xs.length ∧ ks.isEmpty then some (xs.zip ps) else none).bind fun bs => (fb (initR C bs)).map flOut) = some r
      rw [if_pos hc]
      show (fb (initR C (xs.zip ps))).map flOut = some r
      rw [hini ps hc.1]; exact hF
    · cases hF
  · split at hb
    · rename_i hc
      cases hb
      have hk0 : ks = [] := List.isEmpty_iff.mp hc.2
      subst hk0
      have hkv : kvs = [] := List.map_eq_nil_iff.mp hkn
      subst hkv
      have hlen : vs.length = xs.length := by rw [hps.length]; exact hc.1
      refine ⟨xs.zip vs, h10 s vs hlen, ?_, ?_⟩
      · rw [List.map_fst_zip (by omega), List.map_fst_zip (by omega)]
      · rw [List.map_snd_zip (by omega), List.map_snd_zip (by omega)]; exact hps
    · cases hb
  · split at hb
    · rename_i hc
      cases hb
      rw [List.map_fst_zip (by omega)]
      exact hx
    · cases hb
section
variable (g : GC)
theorem inv_op : Op1 g (unaryOp .Invert) pInv := by
  intro A s H va a Q E r hr st ha hf hq
  unfold pInv at hf
  split at hf
  · obtain ⟨t, rfl⟩ := ha
    cases hf
    exact PyProof.Rows.invert_int (hq _ _ _ (.toks st) ⟨_, rfl⟩)
  · cases hf
end
section
variable {g : GC} {C : Cx}
theorem DenNew.cmp1 {elt tgt iter : Expr} {ifs : List Expr} {scope : Scope} {pos : Pos} (fr : List (Str × Nat)) (tg : List Str) {fi : List PV → Option (List PV)} {ft : List PV → PV → Option (List PV)} {tst : List PV → Option Bool} {fe : DE}
    (hIt : DenI g C iter tgt fi) (ok : inOk C scope fr tg = true) (hT : (inCx C scope fr tg).ok = true → DenT g (inCx C scope fr tg) tgt ft) (hI : (inCx C scope fr tg).ok = true → DenTest g (inCx C scope fr tg) ifs tst) (hE : (inCx C scope fr tg).ok = true → Den g (inCx C scope fr tg) elt fe)
    (hs : ∀ env x, foldedSetIterable iter env x = pure x := by intro _ _; rfl) :
    DenNew g C (.ListComp elt [⟨tgt, iter, ifs, 0⟩] scope pos) (lComp fr tg fi ft tst (eElt fe)) :=
  DenNew.comp1 fr tg ok hIt (hT (InOk.of ok).ok) (hI (InOk.of ok).ok) (hE (InOk.of ok).ok) hs
theorem DenNew.cmp2 {elt tgt iter tgt1 iter1 : Expr} {ifs ifs1 : List Expr} {scope : Scope} {pos : Pos} (fr : List (Str × Nat)) (tg : List Str) {fi fi1 : List PV → Option (List PV)} {ft ft1 : List PV → PV → Option (List PV)} {tst tst1 : List PV → Option Bool} {fe : DE}
    (hIt : DenI g C iter tgt fi) (ok : inOk C scope fr tg = true) (hT : (inCx C scope fr tg).ok = true → DenT g (inCx C scope fr tg) tgt ft) (hI : (inCx C scope fr tg).ok = true → DenTest g (inCx C scope fr tg) ifs tst)
    (hIt1 : (inCx C scope fr tg).ok = true → DenI g (inCx C scope fr tg) iter1 tgt1 fi1) (hT1 : (inCx C scope fr tg).ok = true → DenT g (inCx C scope fr tg) tgt1 ft1) (hI1 : (inCx C scope fr tg).ok = true → DenTest g (inCx C scope fr tg) ifs1 tst1) (hE : (inCx C scope fr tg).ok = true → Den g (inCx C scope fr tg) elt fe)
    (hs : ∀ env x, foldedSetIterable iter env x = pure x := by intro _ _; rfl) (hs1 : ∀ env x, foldedSetIterable iter1 env x = pure x := by intro _ _; rfl) :
    DenNew g C (.ListComp elt [⟨tgt, iter, ifs, 0⟩, ⟨tgt1, iter1, ifs1, 0⟩] scope pos) (lComp fr tg fi ft tst (eIn fi1 ft1 tst1 (eElt fe))) :=
  DenNew.comp2 fr tg ok hIt (hT (InOk.of ok).ok) (hI (InOk.of ok).ok) (hIt1 (InOk.of ok).ok) (hT1 (InOk.of ok).ok) (hI1 (InOk.of ok).ok) (hE (InOk.of ok).ok) hs hs1
theorem DenS.asC1 {elt tgt iter : Expr} {ifs : List Expr} {scope : Scope} {pos p spos : Pos} {x : Str} {i : Nat} (fr : List (Str × Nat)) (tg : List Str) {fi : List PV → Option (List PV)} {ft : List PV → PV → Option (List PV)} {tst : List PV → Option Bool} {fe : DE}
    (hC : C.ok = true) (hi : C.ns[i]? = some (x, .loc)) (hIt : DenI g C iter tgt fi) (ok : inOk C scope fr tg = true) (hT : (inCx C scope fr tg).ok = true → DenT g (inCx C scope fr tg) tgt ft) (hI : (inCx C scope fr tg).ok = true → DenTest g (inCx C scope fr tg) ifs tst) (hE : (inCx C scope fr tg).ok = true → Den g (inCx C scope fr tg) elt fe)
    (hsw : ∀ env, env.scope = C.sc → swapsWith (.ListComp elt [⟨tgt, iter, ifs, 0⟩] scope pos) (some (.Name x p)) spos.line env = pure true)
    (hs : ∀ env x, foldedSetIterable iter env x = pure x := by intro _ _; rfl) :
    DenS g C (.Assign [.Name x p] (.ListComp elt [⟨tgt, iter, ifs, 0⟩] scope pos) spos) (sComp i fr tg fi ft tst (eElt fe)) :=
  DenS.assignComp1 fr tg hC hi ok hIt (hT (InOk.of ok).ok) (hI (InOk.of ok).ok) (hE (InOk.of ok).ok) hsw hs
theorem DenS.asC2 {elt tgt iter tgt1 iter1 : Expr} {ifs ifs1 : List Expr} {scope : Scope} {pos p spos : Pos} {x : Str} {i : Nat} (fr : List (Str × Nat)) (tg : List Str) {fi fi1 : List PV → Option (List PV)} {ft ft1 : List PV → PV → Option (List PV)} {tst tst1 : List PV → Option Bool} {fe : DE}
    (hC : C.ok = true) (hi : C.ns[i]? = some (x, .loc)) (hIt : DenI g C iter tgt fi) (ok : inOk C scope fr tg = true) (hT : (inCx C scope fr tg).ok = true → DenT g (inCx C scope fr tg) tgt ft) (hI : (inCx C scope fr tg).ok = true → DenTest g (inCx C scope fr tg) ifs tst)
    (hIt1 : (inCx C scope fr tg).ok = true → DenI g (inCx C scope fr tg) iter1 tgt1 fi1) (hT1 : (inCx C scope fr tg).ok = true → DenT g (inCx C scope fr tg) tgt1 ft1) (hI1 : (inCx C scope fr tg).ok = true → DenTest g (inCx C scope fr tg) ifs1 tst1) (hE : (inCx C scope fr tg).ok = true → Den g (inCx C scope fr tg) elt fe)
    (hsw : ∀ env, env.scope = C.sc → swapsWith (.ListComp elt [⟨tgt, iter, ifs, 0⟩, ⟨tgt1, iter1, ifs1, 0⟩] scope pos) (some (.Name x p)) spos.line env = pure true)
    (hs : ∀ env x, foldedSetIterable iter env x = pure x := by intro _ _; rfl) (hs1 : ∀ env x, foldedSetIterable iter1 env x = pure x := by intro _ _; rfl) :
    DenS g C (.Assign [.Name x p] (.ListComp elt [⟨tgt, iter, ifs, 0⟩, ⟨tgt1, iter1, ifs1, 0⟩] scope pos) spos) (sComp i fr tg fi ft tst (eIn fi1 ft1 tst1 (eElt fe))) :=
  DenS.assignComp2 fr tg hC hi ok hIt (hT (InOk.of ok).ok) (hI (InOk.of ok).ok) (hIt1 (InOk.of ok).ok) (hT1 (InOk.of ok).ok) (hI1 (InOk.of ok).ok) (hE (InOk.of ok).ok) hsw hs hs1
end
theorem kin_s {g : GC} {s : Shared} {H : HP} (st : St g s H) : (K0 g.w.params).In s.heap := fun b o e => by
  by_cases t : isTab b
  · exfalso
    have : (K0 g.w.params).lookup 51 = none ∧ (K0 g.w.params).lookup 58 = none := ⟨by kernel_rfl, by kernel_rfl⟩
    rcases t with rfl | rfl
    · rw [this.1] at e; cases e
    · rw [this.2] at e; cases e
  · exact st.keep _ _ (st.base _ _ t (g.kin _ _ e))
noncomputable def kCallV (a : Addr) (f0 : DE) (F : List PV → List (Str × PV) → Option PV) (f : DLs) : DE := fun ρ => (f0 ρ).bind fun c => match c with | .fn b => if b == a then (f ρ).bind fun l => F l [] else none | _ => none
noncomputable def bisNames : List Str := [Str.ofString "a", Str.ofString "x", Str.ofString "lo", Str.ofString "hi", Str.ofString "key"]
noncomputable def bindB (ps : List PV) (ks : List (Str × PV)) : Option (List PV) := match ps, ks with
  | [a, x], [] => some [a, x, .int 0, .none, .none]
  | [a, x], [(n, k)] => if n == Str.ofString "key" then some [a, x, .int 0, .none, k] else none
  | [a, x, lo, hi], [(n, k)] => if n == Str.ofString "key" then some [a, x, lo, hi, k] else none
  | _, _ => none
noncomputable def BindsB (g : GC) (fd : FuncData) : Prop := ∀ s H, St g s H → (∀ v1 v2, ∃ t, BindsTo s fd ⟨[v1, v2], []⟩ [(Str.ofString "a", v1), (Str.ofString "x", v2), (Str.ofString "lo", .int 0 t), (Str.ofString "hi", .none), (Str.ofString "key", .none)]) ∧
  (∀ v1 v2 k, ∃ t, BindsTo s fd ⟨[v1, v2], [(Str.ofString "key", k)]⟩ [(Str.ofString "a", v1), (Str.ofString "x", v2), (Str.ofString "lo", .int 0 t), (Str.ofString "hi", .none), (Str.ofString "key", k)]) ∧
  (∀ v1 v2 v3 v4 k, BindsTo s fd ⟨[v1, v2, v3, v4], [(Str.ofString "key", k)]⟩ [(Str.ofString "a", v1), (Str.ofString "x", v2), (Str.ofString "lo", v3), (Str.ofString "hi", v4), (Str.ofString "key", k)])
theorem BindsB.of {g : GC} {fd : FuncData} (h : BindsB g fd) {s : Shared} {H : HP} {ps : List PV} {vs : List Value} {ks : List (Str × PV)} {kvs : List (Str × Value)} {l : List PV} (st : St g s H) (hps : VRelL H ps vs) (hkn : kvs.map (·.1) = ks.map (·.1)) (hks : VRelL H (ks.map (·.2)) (kvs.map (·.2)))
    (hb : bindB ps ks = some l) : ∃ ws, BindsTo s fd ⟨vs, kvs⟩ (bisNames.zip ws) ∧ VRelL H l ws ∧ l.length = 5 := by
  obtain ⟨h1, h2, h3⟩ := h s H st
  unfold bindB at hb
  split at hb
  · cases hb
    obtain ⟨v, w, rfl, ha, hx⟩ := hps.two
    have hk0 : kvs = [] := List.map_eq_nil_iff.mp hkn
    subst hk0
    obtain ⟨t, h⟩ := h1 v w
    exact ⟨[v, w, .int 0 t, .none, .none], h, VRelL.cons ha (VRelL.cons hx (VRelL.cons ⟨t, rfl⟩ (VRelL.cons rfl (VRelL.cons rfl rfl)))), rfl⟩
  · rename_i a x n k
    split at hb
    · rename_i hn
      cases hb
      have hn' := eq_of_beq hn
      subst hn'
      obtain ⟨v, w, rfl, ha, hx⟩ := hps.two
      obtain ⟨⟨m, u⟩, rest, rfl⟩ : ∃ p r, kvs = p :: r := by cases kvs with | nil => cases hkn | cons p r => exact ⟨p, r, rfl⟩
      have hr : rest = [] := by
        have := congrArg List.length hkn
        simp at this
        exact this
      subst hr
      simp only [List.map_cons, List.map_nil, List.cons.injEq, and_true] at hkn
      subst hkn
      obtain ⟨u', hu', hku⟩ := hks.one
      simp only [List.map_cons, List.map_nil, List.cons.injEq, and_true] at hu'
      subst hu'
      obtain ⟨t, h⟩ := h2 v w u
      exact ⟨[v, w, .int 0 t, .none, u], h, VRelL.cons ha (VRelL.cons hx (VRelL.cons ⟨t, rfl⟩ (VRelL.cons rfl (VRelL.cons hku rfl)))), rfl⟩
    · cases hb
  · rename_i a x lo hi n k
    split at hb
    · rename_i hn
      cases hb
      have hn' := eq_of_beq hn
      subst hn'
      obtain ⟨v1, r1, rfl, ha, v2, r2, rfl, hx, hr2⟩ := hps
      obtain ⟨v3, v4, rfl, hlo, hhi⟩ := VRelL.two hr2
      obtain ⟨⟨m, u⟩, rest, rfl⟩ : ∃ p r, kvs = p :: r := by cases kvs with | nil => cases hkn | cons p r => exact ⟨p, r, rfl⟩
      have hr : rest = [] := by
        have := congrArg List.length hkn
        simp at this
        exact this
      subst hr
      simp only [List.map_cons, List.map_nil, List.cons.injEq, and_true] at hkn
      subst hkn
      obtain ⟨u', hu', hku⟩ := hks.one
      simp only [List.map_cons, List.map_nil, List.cons.injEq, and_true] at hu'
      subst hu'
      exact ⟨[v1, v2, v3, v4, u], h3 v1 v2 v3 v4 u, VRelL.cons ha (VRelL.cons hx (VRelL.cons hlo (VRelL.cons hhi (VRelL.cons hku rfl)))), rfl⟩
    · cases hb
  · cases hb
noncomputable def fnB (m : Nat) (fb : DS) (ps : List PV) (ks : List (Str × PV)) : Option PV := (bindB ps ks).bind fun l => (fb (l ++ List.replicate m .undef)).map flOut
theorem FnS.bis {g : GC} {a : Addr} {body : List Stmt} {C : Cx} {fb : DS} (m : Nat)
    (hK : ∃ oc od fd osl, (∀ P, (K0 P).lookup a = some ⟨oc, od, .func fd, osl⟩) ∧ (∀ P, codeIn (K0 P) fd.code fd.qualname = true) ∧ fd.globals = mainGlobals ∧ fd.closure = [] ∧ fd.builtins = builtinsNs ∧
      fd.scope.isGenerator = false ∧ fd.scope.isCoroutine = false ∧ fd.body = .stmts body ∧ fd.scope = C.sc ∧ BindsB g fd)
    (hC : C.ok = true) (hfre : C.ns.all (fun x => x.2 != .fre) = true) (hta : ¬ isTab a) (hx : bisNames.Nodup ∧ ∀ x ∈ bisNames, C.sc.names.lookup x = some .local ∨ C.sc.names.lookup x = some .cell)
    (hini : ∀ ps : List PV, ps.length = 5 → initR C (bisNames.zip ps) = ps ++ List.replicate m .undef) (D : DenSs g C body fb) : FnS g a (C.lv + 1) (fnB m fb) := by
  obtain ⟨oc, od, fd, osl, h1, h2, h3, h4, h5, h6, h7, h8, h9, h10⟩ := hK
  have hlen5 : ∀ ps ks l, bindB ps ks = some l → l.length = 5 := fun ps ks l hb => by
    unfold bindB at hb
    split at hb
    · cases hb; rfl
    · split at hb
      · cases hb; rfl
      · cases hb
    · split at hb
      · cases hb; rfl
      · cases hb
    · cases hb
  have := FnS.intro (bind := fun ps ks => (bindB ps ks).map fun l => bisNames.zip l) h1 h2 h3 h4 h5 h6 h7 h8 h9 hC hfre hta (fun s H ps vs ks kvs bs st hps hkn hks hb => ?_) (fun ps ks bs hb => ?_) D
  · intro A s H ps vs ks kvs Q E r hr st hps hkn hks hF hq
    refine this A s H ps vs ks kvs Q E r hr st hps hkn hks ?_ hq
    obtain ⟨l, hl, hF2⟩ := Option.bind_eq_some_iff.mp hF
    show (((bindB ps ks).map fun l => bisNames.zip l).bind fun bs => (fb (initR C bs)).map flOut) = some r
    rw [hl]
    show (fb (initR C (bisNames.zip l))).map flOut = some r
    rw [hini l (hlen5 _ _ _ hl)]; exact hF2
  · obtain ⟨l, hl, rfl⟩ := Option.map_eq_some_iff.mp hb
    obtain ⟨ws, h11, h12, h13⟩ := h10.of st hps hkn hks hl
    have hw : ws.length = 5 := by rw [h12.length]; exact h13
    have hn : bisNames.length = 5 := rfl
    refine ⟨bisNames.zip ws, h11, ?_, ?_⟩
    · rw [List.map_fst_zip (by omega), List.map_fst_zip (by omega)]
    · rw [List.map_snd_zip (by omega), List.map_snd_zip (by omega)]; exact h12
  · obtain ⟨l, hl, rfl⟩ := Option.map_eq_some_iff.mp hb
    have hn : bisNames.length = 5 := rfl
    rw [List.map_fst_zip (by have := hlen5 _ _ _ hl; omega)]
    exact hx
noncomputable def cx_law_first : Cx := { sc := scopeOf (fstmt 17), ns := [((Str.ofString "pair"), VK.loc)], mu := 1, lv := 20 }
theorem cx_law_first_ok : cx_law_first.ok = true := by decide +kernel
noncomputable def fb_law_first : DS := (dSeq (sRet (kBin pItem (dVar 0) (kC (.int 0))))
  sNil)
theorem D_law_first (g : GC) : DenSs g cx_law_first (bodyOf (fstmt 17)) fb_law_first := (DenSs.cons (DenS.ret (Den.item (Den.var (i := 0) cx_law_first_ok rfl) Den.int))
  DenSs.nil)
noncomputable def fn_law_first : List PV → List (Str × PV) → Option PV := fnF 1 0 fb_law_first
theorem ok_law_first (g : GC) : FnS g 111 21 fn_law_first := FnS.plain (C := cx_law_first) [(Str.ofString "pair")] 0
  ⟨_, _, _, _, fun P => by with_unfolding_all rfl, fun P => by kernel_rfl, by rfl, by rfl, by rfl, by rfl, by rfl, by with_unfolding_all rfl, by with_unfolding_all rfl, fun s vs h => by
    match vs, h with
    | [v0], _ => exact BindsTo.of_eq (by with_unfolding_all rfl)⟩
  cx_law_first_ok (by kernel_rfl) (by unfold isTab; decide) (by decide +kernel) (fun ps h => by
    match ps, h with
    | [v0], _ => kernel_rfl) (D_law_first g)
noncomputable def cx_law_rows : Cx := { sc := scopeOf (fstmt 18), ns := [((Str.ofString "pairs"), VK.cel), ((Str.ofString "rows"), VK.loc), ((Str.ofString "step"), VK.loc)], mu := 3, lv := 20 }
theorem cx_law_rows_ok : cx_law_rows.ok = true := by decide +kernel
noncomputable def fb_law_rows : DS := (dSeq (sAssign 1 (fun ρ => ((lCons (kC (.str [])) lNil) ρ).map .list))
  (dSeq (sFor (iCall pRange (lCons (kBin pMul (kC (.int 2)) (dVar 0)) lNil)) (tSet 2) (dSeq (sComp 1 [((Str.ofString "pairs"), 0)] [(Str.ofString "row"), (Str.ofString "sign")] (iVal (dVar 1)) (tSet 1) bT (eIn (iVal (kC (.str [40, 41]))) (tSet 2) (bCmp pLt (kMeth isStrP pCount (dVar 1) (lCons (dVar 2) lNil)) (kIf (bCmp pEq (dVar 2) (kC (.str [40]))) (dVar 0) (kMeth isStrP pCount (dVar 1) (lCons (kC (.str [40])) lNil)))) (eElt (kBin pAdd (dVar 1) (dVar 2)))))
  sNil))
  (dSeq (sRet (dVar 1))
  sNil)))
theorem D_law_rows (g : GC) : DenSs g cx_law_rows (bodyOf (fstmt 18)) fb_law_rows := (DenSs.cons (DenS.assign (i := 1) cx_law_rows_ok rfl (DenNew.den (DenNew.list (DenL.cons (Den.str (l := []) (by kernel_rfl)) DenL.nil) (by decide) (lenL_cons lenL_nil))))
  (DenSs.cons (DenS.for (DenI.call cx_law_rows_ok (by kernel_rfl) (fun P => by kernel_rfl) (by kernel_rfl) (range_op _) (DenL.cons (Den.bin (by decide) Den.int (Den.var (i := 0) cx_law_rows_ok rfl) (mul_op g)) DenL.nil)) (DenT.name (i := 2) cx_law_rows_ok rfl) (DenSs.cons (DenS.asC2 (i := 1) [((Str.ofString "pairs"), 0)] [(Str.ofString "row"), (Str.ofString "sign")] cx_law_rows_ok rfl (DenI.val (Den.var (i := 1) cx_law_rows_ok rfl)) (by decide +kernel) (fun h1 => (DenT.name (i := 1) h1 rfl)) (fun h1 => DenTest.nil) (fun h1 => (DenI.val (Den.str (l := [40, 41]) (by kernel_rfl)))) (fun h1 => (DenT.name (i := 2) h1 rfl)) (fun h1 => (DenTest.one (DenB.cmp (by decide) (Den.meth (Den.var (i := 1) h1 rfl) (DenL.cons (Den.var (i := 2) h1 rfl) DenL.nil) count_get count_op _) (Den.ifexp (DenB.cmp (by decide) (Den.var (i := 2) h1 rfl) (Den.str (l := [40]) (by kernel_rfl)) (eq_op g)) (Den.var (i := 0) h1 rfl) (Den.meth (Den.var (i := 1) h1 rfl) (DenL.cons (Den.str (l := [40]) (by kernel_rfl)) DenL.nil) count_get count_op _)) (lt_op g)))) (fun h1 => (Den.bin (by decide) (Den.var (i := 1) h1 rfl) (Den.var (i := 2) h1 rfl) (add_op g))) (fun env h => by obtain ⟨sc, e1, e2, e3, e4, e5, e6, e7, e8⟩ := env; have h2 : sc = _ := h; subst h2; first | rfl | exact ⟨rfl, rfl⟩ | with_unfolding_all rfl | with_unfolding_all exact ⟨rfl, rfl⟩))
  DenSs.nil))
  (DenSs.cons (DenS.ret (Den.var (i := 1) cx_law_rows_ok rfl))
  DenSs.nil)))
noncomputable def fn_law_rows : List PV → List (Str × PV) → Option PV := fnF 1 2 fb_law_rows
theorem ok_law_rows (g : GC) : FnS g 116 21 fn_law_rows := FnS.plain (C := cx_law_rows) [(Str.ofString "pairs")] 2
  ⟨_, _, _, _, fun P => by with_unfolding_all rfl, fun P => by kernel_rfl, by rfl, by rfl, by rfl, by rfl, by rfl, by with_unfolding_all rfl, by with_unfolding_all rfl, fun s vs h => by
    match vs, h with
    | [v0], _ => exact BindsTo.of_eq (by with_unfolding_all rfl)⟩
  cx_law_rows_ok (by kernel_rfl) (by unfold isTab; decide) (by decide +kernel) (fun ps h => by
    match ps, h with
    | [v0], _ => kernel_rfl) (D_law_rows g)
noncomputable def cx_law_plain : Cx := { sc := scopeOf (fstmt 20), ns := [((Str.ofString "row"), VK.loc), ((Str.ofString "spans"), VK.loc), ((Str.ofString "opens"), VK.loc), ((Str.ofString "i"), VK.loc)], mu := 1, lv := 20 }
theorem cx_law_plain_ok : cx_law_plain.ok = true := by decide +kernel
noncomputable def fb_law_plain : DS := (dSeq (sTup2a 1 2 (lMul (fun ρ => ((lCons (kC (.int 0)) lNil) ρ).map .list) (kCallB pLen (lCons (dVar 0) lNil))) (fun ρ => (lNil ρ).map .list))
  (dSeq (sFor (iCall pRange (lCons (kCallB pLen (lCons (dVar 0) lNil)) lNil)) (tSet 3) (dSeq (sIf (bCmp pEq (kBin pItem (dVar 0) (dVar 3)) (kC (.str [40]))) (dSeq (sAssign 2 (kBin pAdd (dVar 2) (fun ρ => ((lCons (dVar 3) lNil) ρ).map .list)))
  sNil) (dSeq (fSetItem cx_law_plain (kBin pItem (dVar 2) (kUn pNeg (kC (.int 1)))) (kBin pSub (kBin pAdd (dVar 3) (kC (.int 1))) (kBin pItem (dVar 2) (kUn pNeg (kC (.int 1))))))
  (dSeq (sAssign 2 (kSlice (dVar 2) (kC .none) (kUn pNeg (kC (.int 1)))))
  sNil)))
  sNil))
  (sFrz cx_law_plain (dSeq (sRet (dVar 1)) sNil))))
theorem D_law_plain (g : GC) : DenSs g cx_law_plain (bodyOf (fstmt 20)) fb_law_plain := (DenSs.cons (DenS.assignT2a (i2 := 2) cx_law_plain_ok rfl rfl (DenNew.mul (DenNew.den (DenNew.list (DenL.cons Den.int DenL.nil) (by decide) (lenL_cons lenL_nil))) (Den.callB cx_law_plain_ok (by kernel_rfl) (fun P => by kernel_rfl) (by kernel_rfl) (len_op g) (DenL.cons (Den.var (i := 0) cx_law_plain_ok rfl) DenL.nil))) (DenNew.den (DenNew.list DenL.nil (by decide) lenL_nil)) (fun _ => rfl) (fun _ => rfl) (fun env h => by obtain ⟨sc, e1, e2, e3, e4, e5, e6, e7, e8⟩ := env; have h2 : sc = _ := h; subst h2; first | rfl | exact ⟨rfl, rfl⟩ | with_unfolding_all rfl | with_unfolding_all exact ⟨rfl, rfl⟩))
  (DenSs.cons (DenS.for (DenI.call cx_law_plain_ok (by kernel_rfl) (fun P => by kernel_rfl) (by kernel_rfl) (range_op _) (DenL.cons (Den.callB cx_law_plain_ok (by kernel_rfl) (fun P => by kernel_rfl) (by kernel_rfl) (len_op g) (DenL.cons (Den.var (i := 0) cx_law_plain_ok rfl) DenL.nil)) DenL.nil)) (DenT.name (i := 3) cx_law_plain_ok rfl) (DenSs.cons (DenS.ite (DenB.cmp (by decide) (Den.item (Den.var (i := 0) cx_law_plain_ok rfl) (Den.var (i := 3) cx_law_plain_ok rfl)) (Den.str (l := [40]) (by kernel_rfl)) (eq_op g)) (DenSs.cons (DenS.assign (i := 2) cx_law_plain_ok rfl (Den.bin (by decide) (Den.var (i := 2) cx_law_plain_ok rfl) (DenNew.den (DenNew.list (DenL.cons (Den.var (i := 3) cx_law_plain_ok rfl) DenL.nil) (by decide) (lenL_cons lenL_nil))) (add_op g)))
  DenSs.nil) (DenSs.cons (DenS.setitem cx_law_plain_ok rfl (Den.bin (by decide) (Den.bin (by decide) (Den.var (i := 3) cx_law_plain_ok rfl) Den.int (add_op g)) (Den.item (Den.var (i := 2) cx_law_plain_ok rfl) (Den.un (by decide) Den.int (neg_op g))) (sub_op g)) (Den.item (Den.var (i := 2) cx_law_plain_ok rfl) (Den.un (by decide) Den.int (neg_op g))))
  (DenSs.cons (DenS.assign (i := 2) cx_law_plain_ok rfl (Den.slice (Den.var (i := 2) cx_law_plain_ok rfl) DenP.none (DenP.some (Den.un (by decide) Den.int (neg_op g)))))
  DenSs.nil)))
  DenSs.nil))
  (DenSs.freeze rfl (DenSs.cons (DenS.ret (Den.var (i := 1) cx_law_plain_ok rfl)) DenSs.nil))))
noncomputable def fn_law_plain : List PV → List (Str × PV) → Option PV := fnF 1 3 fb_law_plain
theorem ok_law_plain (g : GC) : FnS g 128 21 fn_law_plain := FnS.plain (C := cx_law_plain) [(Str.ofString "row")] 3
  ⟨_, _, _, _, fun P => by with_unfolding_all rfl, fun P => by kernel_rfl, by rfl, by rfl, by rfl, by rfl, by rfl, by with_unfolding_all rfl, by with_unfolding_all rfl, fun s vs h => by
    match vs, h with
    | [v0], _ => exact BindsTo.of_eq (by with_unfolding_all rfl)⟩
  cx_law_plain_ok (by kernel_rfl) (by unfold isTab; decide) (by decide +kernel) (fun ps h => by
    match ps, h with
    | [v0], _ => kernel_rfl) (D_law_plain g)
noncomputable def cx_law_ups : Cx := { sc := scopeOf (fstmt 22), ns := [((Str.ofString "row"), VK.loc), ((Str.ofString "spans"), VK.loc), ((Str.ofString "ups"), VK.loc), ((Str.ofString "k"), VK.loc), ((Str.ofString "end"), VK.loc)], mu := 2, lv := 20 }
theorem cx_law_ups_ok : cx_law_ups.ok = true := by decide +kernel
noncomputable def fb_law_ups : DS := (dSeq (sOwnNew 2 lNil)
  (dSeq (sFor (iCall pRange (lCons (kBin pSub (kCallB pLen (lCons (dVar 0) lNil)) (kC (.int 1))) lNil)) (tSet 3) (dSeq (sIf (bCmp pEq (kSlice (dVar 0) (dVar 3) (kBin pAdd (dVar 3) (kC (.int 2)))) (kC (.str [41, 40]))) (dSeq (sAssign 4 (kBin pAdd (kBin pAdd (dVar 3) (kC (.int 1))) (kBin pItem (dVar 1) (kBin pAdd (dVar 3) (kC (.int 1))))))
  (dSeq (fOwn cx_law_ups (lCons (kBin pAdd (kBin pAdd (kBin pAdd (kSlice (dVar 0) (kC .none) (dVar 3)) (kSlice (dVar 0) (kBin pAdd (dVar 3) (kC (.int 1))) (dVar 4))) (kC (.str [41]))) (kSlice (dVar 0) (dVar 4) (kC .none))) lNil) pAppend)
  sNil)) sNil)
  sNil))
  (sFrz cx_law_ups (dSeq (sRet (dVar 2)) sNil))))
theorem D_law_ups (g : GC) : DenSs g cx_law_ups (bodyOf (fstmt 22)) fb_law_ups := (DenSs.cons (DenS.assignOwn cx_law_ups_ok rfl (DenNew.list DenL.nil (by decide) lenL_nil))
  (DenSs.cons (DenS.for (DenI.call cx_law_ups_ok (by kernel_rfl) (fun P => by kernel_rfl) (by kernel_rfl) (range_op _) (DenL.cons (Den.bin (by decide) (Den.callB cx_law_ups_ok (by kernel_rfl) (fun P => by kernel_rfl) (by kernel_rfl) (len_op g) (DenL.cons (Den.var (i := 0) cx_law_ups_ok rfl) DenL.nil)) Den.int (sub_op g)) DenL.nil)) (DenT.name (i := 3) cx_law_ups_ok rfl) (DenSs.cons (DenS.ite (DenB.cmp (by decide) (Den.slice (Den.var (i := 0) cx_law_ups_ok rfl) (DenP.some (Den.var (i := 3) cx_law_ups_ok rfl)) (DenP.some (Den.bin (by decide) (Den.var (i := 3) cx_law_ups_ok rfl) Den.int (add_op g)))) (Den.str (l := [41, 40]) (by kernel_rfl)) (eq_op g)) (DenSs.cons (DenS.assign (i := 4) cx_law_ups_ok rfl (Den.bin (by decide) (Den.bin (by decide) (Den.var (i := 3) cx_law_ups_ok rfl) Den.int (add_op g)) (Den.item (Den.var (i := 1) cx_law_ups_ok rfl) (Den.bin (by decide) (Den.var (i := 3) cx_law_ups_ok rfl) Den.int (add_op g))) (add_op g)))
  (DenSs.cons (DenS.own cx_law_ups_ok rfl slot_list_append type_list_append (DenL.cons (Den.bin (by decide) (Den.bin (by decide) (Den.bin (by decide) (Den.slice (Den.var (i := 0) cx_law_ups_ok rfl) DenP.none (DenP.some (Den.var (i := 3) cx_law_ups_ok rfl))) (Den.slice (Den.var (i := 0) cx_law_ups_ok rfl) (DenP.some (Den.bin (by decide) (Den.var (i := 3) cx_law_ups_ok rfl) Den.int (add_op g))) (DenP.some (Den.var (i := 4) cx_law_ups_ok rfl))) (add_op g)) (Den.str (l := [41]) (by kernel_rfl)) (add_op g)) (Den.slice (Den.var (i := 0) cx_law_ups_ok rfl) (DenP.some (Den.var (i := 4) cx_law_ups_ok rfl)) DenP.none) (add_op g)) DenL.nil) append_own (by decide) _)
  DenSs.nil)) DenSs.nil)
  DenSs.nil))
  (DenSs.freeze rfl (DenSs.cons (DenS.ret (Den.var (i := 2) cx_law_ups_ok rfl)) DenSs.nil))))
noncomputable def fn_law_ups : List PV → List (Str × PV) → Option PV := fnF 2 3 fb_law_ups
theorem ok_law_ups (g : GC) : FnS g 140 21 fn_law_ups := FnS.plain (C := cx_law_ups) [(Str.ofString "row"), (Str.ofString "spans")] 3
  ⟨_, _, _, _, fun P => by with_unfolding_all rfl, fun P => by kernel_rfl, by rfl, by rfl, by rfl, by rfl, by rfl, by with_unfolding_all rfl, by with_unfolding_all rfl, fun s vs h => by
    match vs, h with
    | [v0, v1], _ => exact BindsTo.of_eq (by with_unfolding_all rfl)⟩
  cx_law_ups_ok (by kernel_rfl) (by unfold isTab; decide) (by decide +kernel) (fun ps h => by
    match ps, h with
    | [v0, v1], _ => kernel_rfl) (D_law_ups g)
noncomputable def cx_bisect_right : Cx := { sc := scopeOf (fstmt 14), ns := [((Str.ofString "a"), VK.loc), ((Str.ofString "x"), VK.loc), ((Str.ofString "lo"), VK.loc), ((Str.ofString "hi"), VK.loc), ((Str.ofString "key"), VK.loc), ((Str.ofString "mid"), VK.loc)], mu := 6, lv := 22 }
theorem cx_bisect_right_ok : cx_bisect_right.ok = true := by decide +kernel
noncomputable def fb_bisect_right : DS := (dSeq (sIf (bCmp pLt (dVar 2) (kC (.int 0))) (dSeq sDead
  sNil) sNil)
  (dSeq (sIf (bCmp pIs (dVar 3) (kC .none)) (dSeq (sAssign 3 (kCallB pLen (lCons (dVar 0) lNil)))
  sNil) sNil)
  (dSeq (sIf (bCmp pIs (dVar 4) (kC .none)) (dSeq (whileF (bCmp pLt (dVar 2) (dVar 3)) (dSeq (sAssign 5 (kBin pFloorDiv (kBin pAdd (dVar 2) (dVar 3)) (kC (.int 2))))
  (dSeq (sIf (bCmp pLt (dVar 1) (kBin pItem (dVar 0) (dVar 5))) (dSeq (sAssign 3 (dVar 5))
  sNil) (dSeq (sAssign 2 (kBin pAdd (dVar 5) (kC (.int 1))))
  sNil))
  sNil)) 100)
  sNil) (dSeq (whileF (bCmp pLt (dVar 2) (dVar 3)) (dSeq (sAssign 5 (kBin pFloorDiv (kBin pAdd (dVar 2) (dVar 3)) (kC (.int 2))))
  (dSeq (sIf (bCmp pLt (dVar 1) (kCallV 111 (dVar 4) fn_law_first (lCons (kBin pItem (dVar 0) (dVar 5)) lNil))) (dSeq (sAssign 3 (dVar 5))
  sNil) (dSeq (sAssign 2 (kBin pAdd (dVar 5) (kC (.int 1))))
  sNil))
  sNil)) 100)
  sNil))
  (dSeq (sRet (dVar 2))
  sNil))))
theorem D_bisect_right (g : GC) : DenSs g cx_bisect_right (bodyOf (fstmt 14)) fb_bisect_right := (DenSs.cons (DenS.ite (DenB.cmp (by decide) (Den.var (i := 2) cx_bisect_right_ok rfl) Den.int (lt_op g)) (DenSs.cons DenS.dead
  DenSs.nil) DenSs.nil)
  (DenSs.cons (DenS.ite (DenB.cmp (by decide) (Den.var (i := 3) cx_bisect_right_ok rfl) Den.kNone (is_op g)) (DenSs.cons (DenS.assign (i := 3) cx_bisect_right_ok rfl (Den.callB cx_bisect_right_ok (by kernel_rfl) (fun P => by kernel_rfl) (by kernel_rfl) (len_op g) (DenL.cons (Den.var (i := 0) cx_bisect_right_ok rfl) DenL.nil)))
  DenSs.nil) DenSs.nil)
  (DenSs.cons (DenS.ite (DenB.cmp (by decide) (Den.var (i := 4) cx_bisect_right_ok rfl) Den.kNone (is_op g)) (DenSs.cons (DenS.while 100 (DenB.cmp (by decide) (Den.var (i := 2) cx_bisect_right_ok rfl) (Den.var (i := 3) cx_bisect_right_ok rfl) (lt_op g)) (DenSs.cons (DenS.assign (i := 5) cx_bisect_right_ok rfl (Den.bin (by decide) (Den.bin (by decide) (Den.var (i := 2) cx_bisect_right_ok rfl) (Den.var (i := 3) cx_bisect_right_ok rfl) (add_op g)) Den.int (floordiv_op g)))
  (DenSs.cons (DenS.ite (DenB.cmp (by decide) (Den.var (i := 1) cx_bisect_right_ok rfl) (Den.item (Den.var (i := 0) cx_bisect_right_ok rfl) (Den.var (i := 5) cx_bisect_right_ok rfl)) (lt_op g)) (DenSs.cons (DenS.assign (i := 3) cx_bisect_right_ok rfl (Den.var (i := 5) cx_bisect_right_ok rfl))
  DenSs.nil) (DenSs.cons (DenS.assign (i := 2) cx_bisect_right_ok rfl (Den.bin (by decide) (Den.var (i := 5) cx_bisect_right_ok rfl) Den.int (add_op g)))
  DenSs.nil))
  DenSs.nil)))
  DenSs.nil) (DenSs.cons (DenS.while 100 (DenB.cmp (by decide) (Den.var (i := 2) cx_bisect_right_ok rfl) (Den.var (i := 3) cx_bisect_right_ok rfl) (lt_op g)) (DenSs.cons (DenS.assign (i := 5) cx_bisect_right_ok rfl (Den.bin (by decide) (Den.bin (by decide) (Den.var (i := 2) cx_bisect_right_ok rfl) (Den.var (i := 3) cx_bisect_right_ok rfl) (add_op g)) Den.int (floordiv_op g)))
  (DenSs.cons (DenS.ite (DenB.cmp (by decide) (Den.var (i := 1) cx_bisect_right_ok rfl) (Den.callVar (Den.var (i := 4) cx_bisect_right_ok rfl) (fun P => ⟨_, _, _, _, by with_unfolding_all rfl⟩) (ok_law_first g) (DenL.cons (Den.item (Den.var (i := 0) cx_bisect_right_ok rfl) (Den.var (i := 5) cx_bisect_right_ok rfl)) DenL.nil)) (lt_op g)) (DenSs.cons (DenS.assign (i := 3) cx_bisect_right_ok rfl (Den.var (i := 5) cx_bisect_right_ok rfl))
  DenSs.nil) (DenSs.cons (DenS.assign (i := 2) cx_bisect_right_ok rfl (Den.bin (by decide) (Den.var (i := 5) cx_bisect_right_ok rfl) Den.int (add_op g)))
  DenSs.nil))
  DenSs.nil)))
  DenSs.nil))
  (DenSs.cons (DenS.ret (Den.var (i := 2) cx_bisect_right_ok rfl))
  DenSs.nil))))
noncomputable def fn_bisect_right : List PV → List (Str × PV) → Option PV := fnB 1 fb_bisect_right
theorem ok_bisect_right (g : GC) : FnS g 95 23 fn_bisect_right := FnS.bis (C := cx_bisect_right) 1
  ⟨_, _, _, _, fun P => by with_unfolding_all rfl, fun P => by kernel_rfl, by rfl, by rfl, by rfl, by rfl, by rfl, by with_unfolding_all rfl, by with_unfolding_all rfl, fun s H st =>
    ⟨fun v1 v2 => ⟨_, kp_binds (kin_s st) (fun S => by with_unfolding_all rfl)⟩, fun v1 v2 k => ⟨_, kp_binds (kin_s st) (fun S => by with_unfolding_all rfl)⟩, fun v1 v2 v3 v4 k => kp_binds (kin_s st) (fun S => by with_unfolding_all rfl)⟩⟩
  cx_bisect_right_ok (by kernel_rfl) (by unfold isTab; decide) (by decide +kernel) (fun ps h => by
    match ps, h with
    | [v1, v2, v3, v4, v5], _ => kernel_rfl) (D_bisect_right g)
noncomputable def cx_bisect_left : Cx := { sc := scopeOf (fstmt 15), ns := [((Str.ofString "a"), VK.loc), ((Str.ofString "x"), VK.loc), ((Str.ofString "lo"), VK.loc), ((Str.ofString "hi"), VK.loc), ((Str.ofString "key"), VK.loc), ((Str.ofString "mid"), VK.loc)], mu := 6, lv := 22 }
theorem cx_bisect_left_ok : cx_bisect_left.ok = true := by decide +kernel
noncomputable def fb_bisect_left : DS := (dSeq (sIf (bCmp pLt (dVar 2) (kC (.int 0))) (dSeq sDead
  sNil) sNil)
  (dSeq (sIf (bCmp pIs (dVar 3) (kC .none)) (dSeq (sAssign 3 (kCallB pLen (lCons (dVar 0) lNil)))
  sNil) sNil)
  (dSeq (sIf (bCmp pIs (dVar 4) (kC .none)) (dSeq (whileF (bCmp pLt (dVar 2) (dVar 3)) (dSeq (sAssign 5 (kBin pFloorDiv (kBin pAdd (dVar 2) (dVar 3)) (kC (.int 2))))
  (dSeq (sIf (bCmp pLt (kBin pItem (dVar 0) (dVar 5)) (dVar 1)) (dSeq (sAssign 2 (kBin pAdd (dVar 5) (kC (.int 1))))
  sNil) (dSeq (sAssign 3 (dVar 5))
  sNil))
  sNil)) 100)
  sNil) (dSeq (whileF (bCmp pLt (dVar 2) (dVar 3)) (dSeq (sAssign 5 (kBin pFloorDiv (kBin pAdd (dVar 2) (dVar 3)) (kC (.int 2))))
  (dSeq (sIf (bCmp pLt (kCallV 111 (dVar 4) fn_law_first (lCons (kBin pItem (dVar 0) (dVar 5)) lNil)) (dVar 1)) (dSeq (sAssign 2 (kBin pAdd (dVar 5) (kC (.int 1))))
  sNil) (dSeq (sAssign 3 (dVar 5))
  sNil))
  sNil)) 100)
  sNil))
  (dSeq (sRet (dVar 2))
  sNil))))
theorem D_bisect_left (g : GC) : DenSs g cx_bisect_left (bodyOf (fstmt 15)) fb_bisect_left := (DenSs.cons (DenS.ite (DenB.cmp (by decide) (Den.var (i := 2) cx_bisect_left_ok rfl) Den.int (lt_op g)) (DenSs.cons DenS.dead
  DenSs.nil) DenSs.nil)
  (DenSs.cons (DenS.ite (DenB.cmp (by decide) (Den.var (i := 3) cx_bisect_left_ok rfl) Den.kNone (is_op g)) (DenSs.cons (DenS.assign (i := 3) cx_bisect_left_ok rfl (Den.callB cx_bisect_left_ok (by kernel_rfl) (fun P => by kernel_rfl) (by kernel_rfl) (len_op g) (DenL.cons (Den.var (i := 0) cx_bisect_left_ok rfl) DenL.nil)))
  DenSs.nil) DenSs.nil)
  (DenSs.cons (DenS.ite (DenB.cmp (by decide) (Den.var (i := 4) cx_bisect_left_ok rfl) Den.kNone (is_op g)) (DenSs.cons (DenS.while 100 (DenB.cmp (by decide) (Den.var (i := 2) cx_bisect_left_ok rfl) (Den.var (i := 3) cx_bisect_left_ok rfl) (lt_op g)) (DenSs.cons (DenS.assign (i := 5) cx_bisect_left_ok rfl (Den.bin (by decide) (Den.bin (by decide) (Den.var (i := 2) cx_bisect_left_ok rfl) (Den.var (i := 3) cx_bisect_left_ok rfl) (add_op g)) Den.int (floordiv_op g)))
  (DenSs.cons (DenS.ite (DenB.cmp (by decide) (Den.item (Den.var (i := 0) cx_bisect_left_ok rfl) (Den.var (i := 5) cx_bisect_left_ok rfl)) (Den.var (i := 1) cx_bisect_left_ok rfl) (lt_op g)) (DenSs.cons (DenS.assign (i := 2) cx_bisect_left_ok rfl (Den.bin (by decide) (Den.var (i := 5) cx_bisect_left_ok rfl) Den.int (add_op g)))
  DenSs.nil) (DenSs.cons (DenS.assign (i := 3) cx_bisect_left_ok rfl (Den.var (i := 5) cx_bisect_left_ok rfl))
  DenSs.nil))
  DenSs.nil)))
  DenSs.nil) (DenSs.cons (DenS.while 100 (DenB.cmp (by decide) (Den.var (i := 2) cx_bisect_left_ok rfl) (Den.var (i := 3) cx_bisect_left_ok rfl) (lt_op g)) (DenSs.cons (DenS.assign (i := 5) cx_bisect_left_ok rfl (Den.bin (by decide) (Den.bin (by decide) (Den.var (i := 2) cx_bisect_left_ok rfl) (Den.var (i := 3) cx_bisect_left_ok rfl) (add_op g)) Den.int (floordiv_op g)))
  (DenSs.cons (DenS.ite (DenB.cmp (by decide) (Den.callVar (Den.var (i := 4) cx_bisect_left_ok rfl) (fun P => ⟨_, _, _, _, by with_unfolding_all rfl⟩) (ok_law_first g) (DenL.cons (Den.item (Den.var (i := 0) cx_bisect_left_ok rfl) (Den.var (i := 5) cx_bisect_left_ok rfl)) DenL.nil)) (Den.var (i := 1) cx_bisect_left_ok rfl) (lt_op g)) (DenSs.cons (DenS.assign (i := 2) cx_bisect_left_ok rfl (Den.bin (by decide) (Den.var (i := 5) cx_bisect_left_ok rfl) Den.int (add_op g)))
  DenSs.nil) (DenSs.cons (DenS.assign (i := 3) cx_bisect_left_ok rfl (Den.var (i := 5) cx_bisect_left_ok rfl))
  DenSs.nil))
  DenSs.nil)))
  DenSs.nil))
  (DenSs.cons (DenS.ret (Den.var (i := 2) cx_bisect_left_ok rfl))
  DenSs.nil))))
noncomputable def fn_bisect_left : List PV → List (Str × PV) → Option PV := fnB 1 fb_bisect_left
theorem ok_bisect_left (g : GC) : FnS g 104 23 fn_bisect_left := FnS.bis (C := cx_bisect_left) 1
  ⟨_, _, _, _, fun P => by with_unfolding_all rfl, fun P => by kernel_rfl, by rfl, by rfl, by rfl, by rfl, by rfl, by with_unfolding_all rfl, by with_unfolding_all rfl, fun s H st =>
    ⟨fun v1 v2 => ⟨_, kp_binds (kin_s st) (fun S => by with_unfolding_all rfl)⟩, fun v1 v2 k => ⟨_, kp_binds (kin_s st) (fun S => by with_unfolding_all rfl)⟩, fun v1 v2 v3 v4 k => kp_binds (kin_s st) (fun S => by with_unfolding_all rfl)⟩⟩
  cx_bisect_left_ok (by kernel_rfl) (by unfold isTab; decide) (by decide +kernel) (fun ps h => by
    match ps, h with
    | [v1, v2, v3, v4, v5], _ => kernel_rfl) (D_bisect_left g)
section
variable {g : GC} {C : Cx}
theorem lend {s : Shared} {H : HP} {a : Addr} {its : Array Value} {n : Nat} (st : St g s H) (ho : s.heap.get? a = some { cls := .type "list", data := .seq its n }) (hHa : H a = none) : St g s (hput H a { cls := .type "list", data := .seq its n }) ∧ HLe H (hput H a { cls := .type "list", data := .seq its n }) := by
  have hle := hput_le (o := { cls := .type "list", data := .seq its n }) hHa
  have hnt := Heap.PlainList.notTab st ⟨n, ho⟩
  refine ⟨⟨fun b o e => ?_, fun b o ht e => hle _ _ (st.base b o ht e), st.tab.moves hle (fun _ _ _ e => e), fun b t => ?_, st.bare⟩, hle⟩
  · unfold hput at e
    split at e
    · rename_i q; subst q; cases e; exact ho
    · exact st.keep b o e
  · show (if b = a then _ else H b) = Option.none
    rw [if_neg (fun q : b = a => hnt (q ▸ t))]; exact st.notab b t
noncomputable def hdel (H : HP) (a : Addr) : HP := fun b => if b = a then none else H b
theorem Ext.thaw {s s' : Shared} {H H' : HP} {a : Addr} {its : Array Value} {n : Nat} (st : St g s H) (ho : s.heap.get? a = some { cls := .type "list", data := .seq its n }) (hHa : H a = none)
    (e : Ext g s (hput H a { cls := .type "list", data := .seq its n }) s' H') : Ext g s H s' (hdel H' a) := by
  have hnt := Heap.PlainList.notTab st ⟨n, ho⟩
  have hH'a : H' a = some { cls := .type "list", data := .seq its n } := e.le _ _ (hput_self ..)
  have sub : ∀ b o, hdel H' a b = some o → b ≠ a ∧ H' b = some o := fun b o q => by
    unfold hdel at q
    split at q
    · cases q
    · rename_i hne; exact ⟨hne, q⟩
  have sup : ∀ b o, b ≠ a → H' b = some o → hdel H' a b = some o := fun b o hne q => by
    show (if b = a then none else H' b) = some o
    rw [if_neg hne]; exact q
  have hle := hput_le (o := { cls := .type "list", data := .seq its n }) hHa
  have le : HLe H (hdel H' a) := fun b o q => sup b o (fun r => by rw [r, hHa] at q; cases q) (e.le _ _ (hle _ _ q))
  have tabk : ∀ {P : Addr} {qual : Str} {line : Nat}, TabOk H' s'.heap P qual line → TabOk (hdel H' a) s'.heap P qual line := by
    rintro P qual line ⟨ps, hp, hr⟩
    refine ⟨ps, hp, ?_⟩
    rcases hr with q | ⟨c', o, vs, t, q, h1, h2, h3⟩
    · exact .inl q
    · refine .inr ⟨c', o, vs, t, q, sup c' o (fun r => ?_) h1, h2, h3⟩
      rw [r, hH'a] at h1; cases h1; cases h2
  refine ⟨⟨fun b o q => e.st.keep b o (sub b o q).2, fun b o ht q => le b o (st.base b o ht q), ⟨tabk e.st.tab.1, tabk e.st.tab.2⟩, fun b t => ?_, e.st.bare⟩, le, e.old, fun b o q => ?_, e.same, e.gens⟩
  · show (if b = a then none else H' b) = none
    split
    · rfl
    · exact e.st.notab b t
  · obtain ⟨hne, q2⟩ := sub b o q
    rcases e.fresh b o q2 with r | r
    · unfold hput at r
      rw [if_neg hne] at r
      exact .inl r
    · exact .inr r
noncomputable def isFlat : PV → Bool
  | .int _ => true
  | .none => true
  | .bool _ => true
  | _ => false
theorem VRel.flat {H H' : HP} {p : PV} {v : Value} (hf : isFlat p = true) (h : VRel H p v) : VRel H' p v := by
  cases p <;> first | exact h | cases hf
theorem Den.callOwn {x y : Str} {a : Addr} {lv : Nat} {F : List PV → List (Str × PV) → Option PV} {es : List Expr} {kws : List Keyword} {ns : List Str} {f fk : List PV → Option (List PV)} {p p2 pos : Pos}
    (hC : C.ok = true) (hk : C.sc.names.lookup x = some .globalImplicit) (hn : ∀ P, nsIn (K0 P) mainGlobals x = some (some (.ref a)))
    (ha : ∀ P, ∃ oc od fd osl, (K0 P).lookup a = some ⟨oc, od, .func fd, osl⟩) (hF : FnS g a lv F) (hi : C.ns[C.mu]? = some (y, .loc)) (h1 : DenL g C es f) (h2 : DenK g C kws ns fk) (hlen : ∀ ρ l, fk ρ = some l → ns.length = l.length)
    (hlv : lv ≤ C.lv := by decide) (hta : ¬ isTab a := by unfold isTab; decide)
    (hs : ∀ env, starEach (.Name y p2 :: es) env = (false, eval (.Name y p2) env) :: starEach es env := by intro _; rfl) (hd : (x == ("__debug__" : Str)) = false := by decide) :
    Den g C (.Call (.Name x p) (.Name y p2 :: es) kws pos) (fun ρ => match ρ.getD C.mu .undef with
      | .own xs => (f ρ).bind fun l => (fk ρ).bind fun k => (F (.list xs :: l) (ns.zip k)).bind fun r => if isFlat r then some r else none
      | _ => none) := by
  intro env A s H ρ oa Q E pv he hr y1 hf h
  dsimp only at hf
  split at hf
  · rename_i xs hv
    obtain ⟨pvs, hpvs, hf1⟩ := Option.bind_eq_some_iff.mp hf
    obtain ⟨kvs, hkk, hf2⟩ := Option.bind_eq_some_iff.mp hf1
    obtain ⟨r, hFr, hf3⟩ := Option.bind_eq_some_iff.mp hf2
    clear hf hf1 hf2
    split at hf3
    · rename_i hflat
      cases hf3
      refine wpAny_Call_Name_kw (glob_load hC he y1.st hk hn ?_ hd)
      obtain ⟨oc, od, fd, osl, hK⟩ := ha g.w.params
      have hb : backTo pos (starEach (.Name y p2 :: es) env) = (false, eval (.Name y p2) env) :: backTo pos (starEach es env) := by rw [hs]; rfl
      have hlen2 := hlen ρ kvs hkk
      have h0 : wpAny (model g.prog g.w) A (spliced (backTo pos (starEach (.Name y p2 :: es) env))) (fun vs s1 => wpAny (model g.prog g.w) A (evalAll ((backToKw pos (keywordEach kws env)).map (·.2))) (fun ks s₂ => (s₂.heap.get? a = some ⟨oc, od, .func fd, osl⟩ ∧ Data.func fd = .func fd) ∧ wpAny (model g.prog g.w) A (PySem.call (.ref a) ([] ++ vs) (((backToKw pos (keywordEach kws env)).filterMap (·.1)).zip ks)) Q E s₂) E s1) E s := by
        refine wpAny_items_cons (loadOwn hC he y1 hi hv fun l its h3 h4 h5 h6 => ?_) (hs env)
        subst h3
        refine h1 env A s H ρ (some l) _ E pvs pos he hr y1 hpvs fun vs s1 H1 e1 hv1 => ?_
        obtain ⟨k1, k2, k3⟩ := h2 env A s1 H1 ρ (some l) (fun ks s₂ => (s₂.heap.get? a = some ⟨oc, od, .func fd, osl⟩ ∧ Data.func fd = .func fd) ∧ wpAny (model g.prog g.w) A (PySem.call (.ref a) ([] ++ (.ref l :: vs)) (((backToKw pos (keywordEach kws env)).filterMap (·.1)).zip ks)) Q E s₂) E kvs pos he hr (y1.ext e1) hkk
        refine k3 fun ks s2 H2 e2 hv2 => ⟨⟨e2.st.keep _ _ (e2.st.base _ _ hta (g.kin _ _ hK)), rfl⟩, ?_⟩
        rw [k1]
        have hl2 : ks.length = kvs.length := hv2.length
        have y2 := (y1.ext e1).ext e2
        obtain ⟨m, hnn, hsl⟩ := y2.ns
        have h7 := hsl C.mu y hi
        rw [hv] at h7
        obtain ⟨b, its2, _, hbb, hHb, ⟨n, ho⟩, hx⟩ := h7
        cases hbb
        obtain ⟨st3, le3⟩ := lend y2.st ho hHb
        refine hF A s2 _ (.list xs :: pvs) (.ref l :: vs) (ns.zip kvs) (ns.zip ks) Q E pv (hr.le hlv) st3 (VRelL.cons ⟨l, _, its2, n, rfl, hput_self .., rfl, rfl, VRelL.mono le3 _ _ hx⟩ (VRelL.mono le3 _ _ (VRelL.mono e2.le _ _ hv1))) ?_ ?_ hFr fun v s' H' e3 hvr => ?_
        · rw [List.map_fst_zip (by omega), List.map_fst_zip (by omega)]
        · rw [List.map_snd_zip (by omega), List.map_snd_zip (by omega)]; exact VRelL.mono le3 _ _ hv2
        · exact h v s' _ (e1.trans (e2.trans (Ext.thaw y2.st ho hHb e3))) (hvr.flat hflat)
      have hall := (h2 env A s H ρ oa (fun _ _ => True) (fun _ _ => True) kvs pos he hr y1 hkk).2.1
      rw [hb] at h0 ⊢
      exact callWith_function_kw (o := ⟨oc, od, .func fd, osl⟩) (fd := fd) (evalArgs_kw hall h0)
    · cases hf3
  · cases hf
structure ExtO (g : GC) (l : Addr) (s : Shared) (H : HP) (s' : Shared) (H' : HP) : Prop where
  st : St g s' H'
  le : HLe H H'
  old : ∀ a o, ¬ isTab a → a ≠ l → s.heap.get? a = some o → s'.heap.get? a = some o
  fresh : ∀ a o, H' a = some o → H a = some o ∨ s.heap.get? a = none
  there : ∀ a o, s.heap.get? a = some o → ∃ o', s'.heap.get? a = some o'
  same : ∃ h' g' tk, s' = { s with heap := h', gens := g', toks := tk }
  gens : ∀ (i : Nat) (x : GenState), s.gens[i]? = some x → s'.gens[i]? = some x
noncomputable def FnO (g : GC) (a : Addr) (lv : Nat) (F : List PV → List PV → List (Str × PV) → Option (List PV)) : Prop :=
  ∀ A s H l its xs ps vs ks kvs (Q : Value → Shared → Prop) E xs', Room A lv → St g s H → s.heap.PlainList l its → VRelL H xs its.toList → H l = none → VRelL H ps vs → kvs.map (·.1) = ks.map (·.1) → VRelL H (ks.map (·.2)) (kvs.map (·.2)) → F xs ps ks = some xs' →
    (∀ s' H' its', ExtO g l s H s' H' → s'.heap.PlainList l its' → VRelL H' xs' its'.toList → H' l = none → Q .none s') → wpAny (model g.prog g.w) A (call (.ref a) (.ref l :: vs) kvs) Q E s
theorem ExtO.step {env : Env} {s s' : Shared} {H H' : HP} {ρ : List PV} {l : Addr} {its its' : Array Value} {xs xs' : List PV} (he : EnvOk C env) (y : Rel g C env s H ρ (some l)) (hmu : C.mu < C.ns.length) (hloc : ∀ z k, C.ns[C.mu]? = some (z, k) → k = .loc)
    (hv : ρ.getD C.mu .undef = .own xs) (hp : s.heap.PlainList l its) (e : ExtO g l s H s' H') (hp' : s'.heap.PlainList l its') (hx : VRelL H' xs' its'.toList) (hH' : H' l = none) :
    ExtS g C env s H (some l) s' H' (some l) ∧ Rel g C env s' H' (ρ.set C.mu (.own xs')) (some l) := by
  obtain ⟨hne, hcell⟩ := own_ne he y hp
  have hlt : C.mu < ρ.length := by rw [y.len]; exact hmu
  have stays : ∀ a o, s.heap.get? a = some o → H a = none → H' a = none := fun a o ho hH => by
    cases q : H' a with
    | none => rfl
    | some o' => rcases e.fresh a o' q with r | r
                 · rw [hH] at r; cases r
                 · rw [ho] at r; cases r
  refine ⟨⟨e.st, e.le, fun b o ht ho hn => e.old b o ht (fun q => hn (.inr (.inr (q ▸ rfl)))) ho, e.there, fun b o q => (e.fresh b o q).imp id .inl, fun _ q => .inl q, e.same, e.gens⟩, e.st, by rw [List.length_set]; exact y.len, ?_, ?_, fun i z k c hi hk hc => ?_, fun i zs q => ?_, fun b q => ?_⟩
  · obtain ⟨m, ⟨o, _, _, ho, _⟩, _⟩ := y.ns; exact stays _ o ho y.fz
  · obtain ⟨m, hn, hsl⟩ := y.ns
    have hnt := Heap.Ns.notTab y.st hn
    refine ⟨m, hn.at' fun o ho => e.old _ o hnt (Ne.symm hne) ho, fun i z hi => ?_⟩
    rw [getD_set hlt]
    by_cases q : C.mu = i
    · subst q
      rw [if_pos rfl]
      have h4 := hsl _ z hi
      rw [hv] at h4
      obtain ⟨b, its2, h5, h6, h7, h8, h9⟩ := h4
      cases h6
      exact ⟨l, its', h5, rfl, hH', hp', hx⟩
    · rw [if_neg q]
      have h4 := hsl i z hi
      revert h4
      cases hq : ρ.getD i .undef with
      | own zs => exact absurd (y.mu i zs hq).symm q
      | undef => exact fun _ => trivial
      | none => exact fun ⟨v, a, b⟩ => ⟨v, a, VRel.mono e.le _ _ b⟩
      | bool _ => exact fun ⟨v, a, b⟩ => ⟨v, a, VRel.mono e.le _ _ b⟩
      | int _ => exact fun ⟨v, a, b⟩ => ⟨v, a, VRel.mono e.le _ _ b⟩
      | str _ => exact fun ⟨v, a, b⟩ => ⟨v, a, VRel.mono e.le _ _ b⟩
      | list _ => exact fun ⟨v, a, b⟩ => ⟨v, a, VRel.mono e.le _ _ b⟩
      | tup _ => exact fun ⟨v, a, b⟩ => ⟨v, a, VRel.mono e.le _ _ b⟩
      | fn _ => exact fun ⟨v, a, b⟩ => ⟨v, a, VRel.mono e.le _ _ b⟩
  · obtain ⟨h1, vo, h2, h3⟩ := y.ce i z k c hi hk hc
    have hnt := Heap.IsCell.notTab y.st h2
    obtain ⟨o, ho, hd⟩ := h2
    have hq : C.mu ≠ i := fun q => by subst q; exact hk (hloc z k hi)
    refine ⟨fun q => stays c o ho (h1 q), vo, ⟨o, e.old _ _ hnt (hcell z c k i hi hk hc) ho, hd⟩, ?_⟩
    rw [getD_set hlt, if_neg hq]
    revert h3
    cases ρ.getD i .undef with
    | own zs => intro ⟨b, its2, h5, h6, _⟩; cases h6
    | undef => exact fun _ => trivial
    | none => exact fun ⟨v, a, b⟩ => ⟨v, a, VRel.mono e.le _ _ b⟩
    | bool _ => exact fun ⟨v, a, b⟩ => ⟨v, a, VRel.mono e.le _ _ b⟩
    | int _ => exact fun ⟨v, a, b⟩ => ⟨v, a, VRel.mono e.le _ _ b⟩
    | str _ => exact fun ⟨v, a, b⟩ => ⟨v, a, VRel.mono e.le _ _ b⟩
    | list _ => exact fun ⟨v, a, b⟩ => ⟨v, a, VRel.mono e.le _ _ b⟩
    | tup _ => exact fun ⟨v, a, b⟩ => ⟨v, a, VRel.mono e.le _ _ b⟩
    | fn _ => exact fun ⟨v, a, b⟩ => ⟨v, a, VRel.mono e.le _ _ b⟩
  · rw [getD_set hlt] at q
    split at q
    · rename_i r; exact r.symm
    · exact y.mu i zs q
  · cases q; exact ⟨hH', its', hp'⟩
noncomputable def fOwnCall (C : Cx) (f fk : List PV → Option (List PV)) (ns : List Str) (F : List PV → List PV → List (Str × PV) → Option (List PV)) : DS := fun ρ => match ρ.getD C.mu .undef with
  | .own xs => (f ρ).bind fun l => (fk ρ).bind fun k => (F xs l (ns.zip k)).map fun ys => (.next, ρ.set C.mu (.own ys))
  | _ => none
theorem DenS.ownCall {x y : Str} {a : Addr} {lv : Nat} {F : List PV → List PV → List (Str × PV) → Option (List PV)} {es : List Expr} {kws : List Keyword} {ns : List Str} {f fk : List PV → Option (List PV)} {p p2 pos spos : Pos}
    (hC : C.ok = true) (hk : C.sc.names.lookup x = some .globalImplicit) (hn : ∀ P, nsIn (K0 P) mainGlobals x = some (some (.ref a)))
    (ha : ∀ P, ∃ oc od fd osl, (K0 P).lookup a = some ⟨oc, od, .func fd, osl⟩) (hF : FnO g a lv F) (hi : C.ns[C.mu]? = some (y, .loc)) (h1 : DenL g C es f) (h2 : DenK g C kws ns fk) (hlen : ∀ ρ l, fk ρ = some l → ns.length = l.length)
    (hlv : lv ≤ C.lv := by decide) (hta : ¬ isTab a := by unfold isTab; decide)
    (hs : ∀ env, starEach (.Name y p2 :: es) env = (false, eval (.Name y p2) env) :: starEach es env := by intro _; rfl) (hd : (x == ("__debug__" : Str)) = false := by decide) :
    DenS g C (.Expr (.Call (.Name x p) (.Name y p2 :: es) kws pos) spos) (fOwnCall C f fk ns F) := by
  intro env A s H ρ oa Q E fl ρ' he hr y1 hf hp
  unfold fOwnCall at hf
  split at hf
  · rename_i xs hv
    obtain ⟨pvs, hpvs, hf1⟩ := Option.bind_eq_some_iff.mp hf
    obtain ⟨kvs, hkk, hf2⟩ := Option.bind_eq_some_iff.mp hf1
    obtain ⟨ys, hFr, hf3⟩ := Option.map_eq_some_iff.mp hf2
    clear hf hf1 hf2
    cases hf3
    refine wpAny_Expr_any ?_ (interactive_no hC he) rfl
    refine wpAny_Call_Name_kw (glob_load hC he y1.st hk hn ?_ hd)
    obtain ⟨oc, od, fd, osl, hK⟩ := ha g.w.params
    have hb : backTo pos (starEach (.Name y p2 :: es) env) = (false, eval (.Name y p2) env) :: backTo pos (starEach es env) := by rw [hs]; rfl
    have hlen2 := hlen ρ kvs hkk
    have h0 : wpAny (model g.prog g.w) A (spliced (backTo pos (starEach (.Name y p2 :: es) env))) (fun vs s1 => wpAny (model g.prog g.w) A (evalAll ((backToKw pos (keywordEach kws env)).map (·.2))) (fun ks s₂ => (s₂.heap.get? a = some ⟨oc, od, .func fd, osl⟩ ∧ Data.func fd = .func fd) ∧ wpAny (model g.prog g.w) A (call (.ref a) ([] ++ vs) (((backToKw pos (keywordEach kws env)).filterMap (·.1)).zip ks)) (fun _ => Q .next) E s₂) E s1) E s := by
      refine wpAny_items_cons (loadOwn hC he y1 hi hv fun l its h3 h4 h5 h6 => ?_) (hs env)
      subst h3
      refine h1 env A s H ρ (some l) _ E pvs pos he hr y1 hpvs fun vs s1 H1 e1 hv1 => ?_
      obtain ⟨k1, k2, k3⟩ := h2 env A s1 H1 ρ (some l) (fun ks s₂ => (s₂.heap.get? a = some ⟨oc, od, .func fd, osl⟩ ∧ Data.func fd = .func fd) ∧ wpAny (model g.prog g.w) A (call (.ref a) ([] ++ (.ref l :: vs)) (((backToKw pos (keywordEach kws env)).filterMap (·.1)).zip ks)) (fun _ => Q .next) E s₂) E kvs pos he hr (y1.ext e1) hkk
      refine k3 fun ks s2 H2 e2 hv2 => ⟨⟨e2.st.keep _ _ (e2.st.base _ _ hta (g.kin _ _ hK)), rfl⟩, ?_⟩
      rw [k1]
      have hl2 : ks.length = kvs.length := hv2.length
      have y2 := (y1.ext e1).ext e2
      obtain ⟨m, hnn, hsl⟩ := y2.ns
      have h7 := hsl C.mu y hi
      rw [hv] at h7
      obtain ⟨b, its2, _, hbb, hHb, hpl, hx⟩ := h7
      cases hbb
      refine hF A s2 H2 l its2 xs pvs vs (ns.zip kvs) (ns.zip ks) _ E ys (hr.le hlv) y2.st hpl hx hHb (VRelL.mono e2.le _ _ hv1) ?_ ?_ hFr fun s' H' its' eo hp' hx' hH' => ?_
      · rw [List.map_fst_zip (by omega), List.map_fst_zip (by omega)]
      · rw [List.map_snd_zip (by omega), List.map_snd_zip (by omega)]; exact hv2
      · have := ExtO.step he y2 (by have := (List.getElem?_eq_some_iff.mp hi).1; exact this) (fun z k q => by rw [hi] at q; cases q; rfl) hv hpl eo hp' hx' hH'
        exact hp.nx (ExtS.trans (y1.there he).1 (y1.there he).2 (.of (e1.trans e2)) this.1) this.2
    have hall := (h2 env A s H ρ oa (fun _ _ => True) (fun _ _ => True) kvs pos he hr y1 hkk).2.1
    rw [hb] at h0 ⊢
    exact callWith_function_kw (o := ⟨oc, od, .func fd, osl⟩) (fd := fd) (evalArgs_kw hall h0)
  · cases hf
end
noncomputable def cx_insort : Cx := { sc := scopeOf (fstmt 13), ns := [(Str.ofString "a", VK.loc), (Str.ofString "x", VK.loc), (Str.ofString "lo", VK.loc), (Str.ofString "hi", VK.loc), (Str.ofString "key", VK.loc)], mu := 0, lv := 24 }
theorem cx_insort_ok : cx_insort.ok = true := by decide +kernel
noncomputable def f_pos : DE := fun ρ => match ρ.getD cx_insort.mu .undef with
      | .own xs => (lCons (kCallV 111 (dVar 4) fn_law_first (lCons (dVar 1) lNil)) (lCons (dVar 2) (lCons (dVar 3) lNil)) ρ).bind fun l => (lOne (dVar 4) ρ).bind fun k => (fn_bisect_right (.list xs :: l) ([Str.ofString "key"].zip k)).bind fun r => if isFlat r then some r else none
      | _ => none
noncomputable def fn_insort (xs ps : List PV) (ks : List (Str × PV)) : Option (List PV) := match ps, ks with
  | [x], [(n, .fn 111)] => if n == Str.ofString "key" then (f_pos [.own xs, x, .int 0, .none, .fn 111]).bind fun r => match r with
      | .int i => if 0 ≤ i ∧ i ≤ xs.length ∧ xs.length ≤ 1000000 then some (insAt xs i.toNat x) else none
      | _ => none else none
  | _, _ => none
section
variable {g : GC}
theorem insort_exec {t ce e : Expr} {es : List Expr} {b1 : List Stmt} {p1 p5 p6 p7 ap cp p12 : Pos} (hT : DenB g cx_insort t (bCmp pIs (dVar 4) (kC .none))) (hCall : Den g cx_insort ce f_pos) (hL : DenL g cx_insort (e :: es) (lCons (dVar 2) (lCons (dVar 1) lNil)))
    (pl : Env → Sem Bool)
    (hev : ∀ env, eval (.Call (.Attribute (.Name (Str.ofString "a") p7) (Str.ofString "insert") ap) (e :: es) [] cp) env = (do
      let ov ← eval (.Name (Str.ofString "a") p7) env
      standAt ap.atName
      let (f, first) ← holding [ov] (getMethod ov (Str.ofString "insert") (pl env))
      callWith cp f first (backTo cp (starEach (e :: es) env)) []))
    (hs : ∀ env, starEach (e :: es) env = (false, eval e env) :: starEach es env) (hpl : ∀ env, (backTo cp (starEach es env)).any (·.1) = false)
    (hsw : ∀ env, swapsWith ce (some (.Name (Str.ofString "lo") p1)) p5.line env = pure false)
    {env : Env} {A : Around} {s : Shared} {H : HP} {l : Addr} {xs : List PV} {px : PV} {i : Int} {Q : Flow → Shared → Prop} {E : Value → Shared → Prop}
    (he : EnvOk cx_insort env) (hr : Room A cx_insort.lv) (y : Rel g cx_insort env s H [.own xs, px, .int 0, .none, .fn 111] (some l)) (hf : f_pos [.own xs, px, .int 0, .none, .fn 111] = some (.int i)) (hpx : px.val = true)
    (hi : 0 ≤ i ∧ i ≤ xs.length ∧ xs.length ≤ 1000000)
    (h : ∀ s' H' ρ' its', ExtS g cx_insort env s H (some l) s' H' (some l) → Rel g cx_insort env s' H' ρ' (some l) → s'.heap.PlainList l its' → VRelL H' (insAt xs i.toNat px) its'.toList → Q .next s') :
    wpAny (model g.prog g.w) A (execs [.If t b1 [.Assign [.Name (Str.ofString "lo") p1] ce p5] p6, .Expr (.Call (.Attribute (.Name (Str.ofString "a") p7) (Str.ofString "insert") ap) (e :: es) [] cp) p12] env) Q E s := by
  have hC := cx_insort_ok
  have tr := y.there he
  refine wpAny_execs_cons (wpAny_If (hT env A s H _ (some l) _ E false he hr y rfl fun s1 H1 e1 => ?_))
  simp only [Bool.false_eq_true, if_false]
  have y1 := y.ext e1
  refine wpAny_execs_cons (wpAny_Assign_Name (hCall env A s1 H1 _ (some l) _ E (.int i) he hr y1 hf fun v s2 H2 e2 hv => ?_) (hsw env))
  have y2 := y1.ext e2
  refine storeName_den (i := 2) hC he y2 rfl (by decide) hv fun s3 e3 y3 k3 => wpAny_execs_nil ?_
  refine wpAny_execs_cons (wpAny_Expr_any ?_ (interactive_no hC he) rfl)
  refine MethodCall_ (loadOwn hC he y3 rfl (by rfl : ([.own xs, px, .int 0, .none, .fn 111].set 2 (.int i)).getD cx_insort.mu .undef = .own xs) fun a its h1' h2 h3 h4 => ?_) (hev env)
  cases h1'
  refine getMethod_list_of PySem.F.slot_list_insert PySem.F.type_list_insert h3.isList (by obtain ⟨n, ho⟩ := h3; exact ⟨_, ho, rfl⟩) ?_
  have hargs : (lCons (dVar 2) (lCons (dVar 1) lNil)) ([.own xs, px, .int 0, .none, .fn 111].set 2 (.int i)) = some [.int i, px] := by
    cases px <;> first | rfl | cases hpx
  refine callWith_method1 (hL env A s3 H2 _ (some l) _ E _ cp he hr y3 hargs fun vs s4 H4 e4 hvs => ?_) (hs env) (hpl env)
  have y4 := y3.ext e4
  have hp4 := KeepO.ext (oa := some l) y3.st e4 l its rfl h3
  refine insert_own A s4 H4 l its xs [.int i, px] vs _ E (insAt xs i.toNat px) (hr.le (by decide)) y4.st hp4 (VRelL.mono e4.le _ _ h4) hvs (if_pos hi) fun h' its' h8 h9 h10 => ?_
  have hfin := own_step (tk := s4.toks) (xs' := insAt xs i.toNat px) he y4 (by decide) (fun z k q => by cases q; rfl) (by rfl : ([.own xs, px, .int 0, .none, .fn 111].set 2 (.int i)).getD cx_insort.mu .undef = .own xs) hp4 h8 h9 h10
  refine wpAny_execs_nil (h _ H4 _ its' ?_ hfin.2 h8 h9)
  exact ExtS.trans tr.1 tr.2 (.of (e1.trans e2)) (ExtS.trans (y2.there he).1 (y2.there he).2 e3 (ExtS.trans (y3.there he).1 (y3.there he).2 (.of e4) hfin.1))
theorem own_in {env : Env} {s : Shared} {H : HP} {l : Addr} {its : Array Value} {xs : List PV} {px pk : PV} (y : Rel g cx_insort env s H [.fn l, px, .int 0, .none, pk] none) (hp : s.heap.PlainList l its) (hx : VRelL H xs its.toList) (hH : H l = none)
    (h1 : ∀ zs, px ≠ .own zs) (h2 : ∀ zs, pk ≠ .own zs) : Rel g cx_insort env s H [.own xs, px, .int 0, .none, pk] (some l) := by
  obtain ⟨m, hn, hsl⟩ := y.ns
  refine ⟨y.st, y.len, y.fz, ⟨m, hn, fun i z hi => ?_⟩, fun i z k c hi hk hc => ?_, fun i zs e => ?_, fun a e => ?_⟩
  · have h3 := hsl i z hi
    match i, hi, h3 with
    | 0, _, h3 =>
      obtain ⟨v, h4, h5⟩ := h3
      have h5' : v = .ref l := h5
      subst h5'
      exact ⟨l, its, h4, rfl, hH, hp, hx⟩
    | 1, _, h3 =>
      revert h3
      show SlotV H s.heap none px _ → SlotV H s.heap (some l) px _
      cases px with
      | own zs => exact absurd rfl (h1 zs)
      | undef => exact fun _ => trivial
      | none => exact id
      | bool _ => exact id
      | int _ => exact id
      | str _ => exact id
      | list _ => exact id
      | tup _ => exact id
      | fn _ => exact id
    | 2, _, h3 => exact h3
    | 3, _, h3 => exact h3
    | 4, _, h3 =>
      revert h3
      show SlotV H s.heap none pk _ → SlotV H s.heap (some l) pk _
      cases pk with
      | own zs => exact absurd rfl (h2 zs)
      | undef => exact fun _ => trivial
      | none => exact id
      | bool _ => exact id
      | int _ => exact id
      | str _ => exact id
      | list _ => exact id
      | tup _ => exact id
      | fn _ => exact id
    | j + 5, hi, _ => cases hi
  · have : ∀ y ∈ cx_insort.ns, y.2 = VK.loc := by decide +kernel
    exact absurd (this _ (List.mem_of_getElem? hi)) hk
  · match i, e with
    | 0, _ => rfl
    | 1, e => exact absurd e (h1 zs)
    | 2, e => cases e
    | 3, e => cases e
    | 4, e => exact absurd e (h2 zs)
    | j + 5, e => simp at e
  · cases e; exact ⟨hH, its, hp⟩
theorem ok_insort (g : GC) : FnO g 86 25 fn_insort := by
  intro A s H l its xs ps vs ks kvs Q E xs' hr st hpl hx hH hps hkn hks hF hq
  unfold fn_insort at hF
  split at hF
  · rename_i px n
    split at hF
    · rename_i hn
      obtain ⟨r, hr1, hF2⟩ := Option.bind_eq_some_iff.mp hF
      clear hF
      split at hF2
      · split at hF2
        · rename_i i hi
          cases hF2
          have hn' := eq_of_beq hn
          subst hn'
          obtain ⟨vx, rfl, hvx⟩ := hps.one
          obtain ⟨⟨m, u⟩, rest, rfl⟩ : ∃ p r, kvs = p :: r := by cases kvs with | nil => cases hkn | cons p r => exact ⟨p, r, rfl⟩
          have hr0 : rest = [] := by
            have := congrArg List.length hkn
            simp at this
            exact this
          subst hr0
          simp only [List.map_cons, List.map_nil, List.cons.injEq, and_true] at hkn
          subst hkn
          obtain ⟨u', hu', hku⟩ := hks.one
          simp only [List.map_cons, List.map_nil, List.cons.injEq, and_true] at hu'
          subst hu'
          obtain ⟨oc, od, fd, osl, k1, k2, k3, k4, k5, k6, k7, k8, k9, k10⟩ : ∃ oc od fd osl, (∀ P, (K0 P).lookup 86 = some ⟨oc, od, .func fd, osl⟩) ∧ (∀ P, codeIn (K0 P) fd.code fd.qualname = true) ∧ fd.globals = mainGlobals ∧ fd.closure = [] ∧ fd.builtins = builtinsNs ∧
              fd.scope.isGenerator = false ∧ fd.scope.isCoroutine = false ∧ fd.body = .stmts (bodyOf (fstmt 13)) ∧ fd.scope = cx_insort.sc ∧ ∀ (s : Shared) (H : HP), St g s H → ∀ v1 v2 k, ∃ t, BindsTo s fd ⟨[v1, v2], [(Str.ofString "key", k)]⟩ [(Str.ofString "a", v1), (Str.ofString "x", v2), (Str.ofString "lo", .int 0 t), (Str.ofString "hi", .none), (Str.ofString "key", k)] :=
            ⟨_, _, _, _, fun P => by with_unfolding_all rfl, fun P => by kernel_rfl, by rfl, by rfl, by rfl, by rfl, by rfl, by with_unfolding_all rfl, by with_unfolding_all rfl, fun s H st v1 v2 k => ⟨_, kp_binds (kin_s st) (fun S => by with_unfolding_all rfl)⟩⟩
          obtain ⟨t0, hB⟩ := k10 s H st (.ref l) vx u
          have ho : s.heap.get? 86 = some ⟨oc, od, .func fd, osl⟩ := kin_s st _ _ (k1 _)
          have hcr : s.heap.CodeRec fd.code fd.qualname := codeRec_of (kin_s st) (k2 g.w.params)
          have hC := cx_insort_ok
          refine wpAny_call (codeAny_call_function hr.lim ho rfl k7 k6 k8 hcr (hB _ _ _ _ ?_))
          rw [k4, k3, k5]
          have hbs : (bisNames.zip [PV.fn l, px, .int 0, .none, .fn 111]).map (·.1) = bisNames := rfl
          refine wpAny_newFunctionEnv_cells (by rw [k9]; exact Cx.kind hC) (fun x hx => ?_) fun env henv s' X => ⟨?_, ?_⟩
          · rw [k9]
            have : ∀ y ∈ bisNames, cx_insort.sc.names.lookup y = some .local := by decide +kernel
            exact .inl (this x.1 (by
              have h2 : [(Str.ofString "a", Value.ref l), (Str.ofString "x", vx), (Str.ofString "lo", .int 0 t0), (Str.ofString "hi", .none), (Str.ofString "key", u)].map (·.1) = bisNames := rfl
              rw [← h2]; exact List.mem_map_of_mem hx))
          · exact (St.nolimit st).keeps X.toInCall.keep
          · have hval : ∀ x p, (bisNames.zip [PV.fn l, px, .int 0, .none, .fn 111]).lookup x = some p → p.val = true := fun x p hx2 => by
              obtain ⟨v, _, h3⟩ := lookup_rel (bs := bisNames.zip [PV.fn l, px, .int 0, .none, .fn 111]) (vs := [(Str.ofString "a", Value.ref l), (Str.ofString "x", vx), (Str.ofString "lo", .int 0 t0), (Str.ofString "hi", .none), (Str.ofString "key", u)]) (H := H) rfl (VRelL.cons rfl (VRelL.cons hvx (VRelL.cons ⟨t0, rfl⟩ (VRelL.cons rfl (VRelL.cons hku rfl))))) hx2
              exact h3.val
            obtain ⟨he, e1, x1⟩ := enter_rel (bs := bisNames.zip [PV.fn l, px, .int 0, .none, .fn 111]) st hC (fun x hm => by
                have : ∀ y ∈ cx_insort.ns, y.2 ≠ VK.fre := by decide +kernel
                exact this _ hm rfl) k9 henv X rfl (VRelL.cons rfl (VRelL.cons hvx (VRelL.cons ⟨t0, rfl⟩ (VRelL.cons rfl (VRelL.cons hku rfl))))) (show bisNames.Nodup by decide +kernel) hval
            have hini : initR cx_insort (bisNames.zip [PV.fn l, px, .int 0, .none, .fn 111]) = [PV.fn l, px, .int 0, .none, .fn 111] := by kernel_rfl
            rw [hini] at x1
            have hp1 : s'.heap.PlainList l its := by obtain ⟨n, ho2⟩ := hpl; exact ⟨n, X.toInCall.keep _ _ ho2⟩
            have x2 := own_in x1 hp1 hx hH (fun zs e => by have := hvx.val; rw [e] at this; cases this) (fun zs e => by cases e)
            have hel : env.locals = s.heap.objs.size := by rw [henv]; rfl
            refine codeAny_func ?_
            refine insort_exec (DenB.cmp (by decide) (Den.var (i := 4) hC rfl) Den.kNone (is_op g)) (Den.callOwn hC (by kernel_rfl) (fun P => by kernel_rfl) (fun P => ⟨_, _, _, _, by with_unfolding_all rfl⟩) (ok_bisect_right g) rfl
              (DenL.cons (Den.callVar (Den.var (i := 4) hC rfl) (fun P => ⟨_, _, _, _, by with_unfolding_all rfl⟩) (ok_law_first g) (DenL.cons (Den.var (i := 1) hC rfl) DenL.nil)) (DenL.cons (Den.var (i := 2) hC rfl) (DenL.cons (Den.var (i := 3) hC rfl) DenL.nil)))
              (DenK.one (Den.var (i := 4) hC rfl)) lenK_one)
              (DenL.cons (Den.var (i := 2) hC rfl) (DenL.cons (Den.var (i := 1) hC rfl) DenL.nil)) _ (fun _ => rfl) (fun _ => rfl) (fun _ => rfl) (fun _ => rfl) he hr.deeper x2 hr1 hvx.val hi fun s2 H2 ρ2 its2 e2 y2 hp2 hx2 => ?_
            have e1' := X.toInCall.same
            have fresh1 : ∀ a, s.heap.objs.size ≤ a → s.heap.get? a = none := fun a ha => freshAt ha
            refine hq s2 H2 its2 ⟨e2.st, e2.le, fun b o ht hne ho2 => ?_, fun b o h2 => ?_, fun b o ho2 => ?_, ?_, fun i x hx3 => e2.gens i x (e1.gens i x hx3)⟩ hp2 hx2 (y2.oall l rfl).1
            · refine e2.old b o ht (e1.old b o ht ho2) fun q => ?_
              rcases q with q | ⟨z, hz, q⟩ | q
              · rw [q, hel, freshAt (Nat.le_refl _)] at ho2; cases ho2
              · have : ∀ y ∈ cx_insort.ns, y.2 = VK.loc := by decide +kernel
                cases this _ hz
              · exact hne (Option.some.inj q).symm
            · rcases e2.fresh b o h2 with q | q | q
              · exact .inl q
              · right
                cases r : s.heap.get? b with
                | none => rfl
                | some o' => rw [X.toInCall.keep b o' r] at q; cases q
              · cases q
                have := (y2.oall l rfl).1
                rw [this] at h2; cases h2
            · exact e2.there b o (X.toInCall.keep b o ho2)
            · obtain ⟨h1, g1, t1, q1⟩ := e1.same
              obtain ⟨h2, g2, t2, q2⟩ := e2.same
              rw [q1] at q2
              exact ⟨h2, g2, t2, q2⟩
        · cases hF2
      · cases hF2
    · cases hF
  · cases hF
end
noncomputable def runT {α : Type} (lt : Nat → Nat → Bool) : KasT α → α
  | .ret a => a
  | .ask i j k => runT lt (k (lt i j))
noncomputable def runOk {α : Type} (lt : Nat → Nat → Bool) (n : Nat) : KasT α → Bool
  | .ret _ => true
  | .ask i j k => decide (i < n) && decide (j < n) && runOk lt n (k (lt i j))
theorem runT_wp {α : Type} {lt : Nat → Nat → Bool} {n : Nat} {cmp : Nat → Nat → (Bool → Shared → Prop) → Shared → Prop} {s : Shared} (hc : ∀ i j C, i < n → j < n → C (lt i j) s → cmp i j C s) {Q : α → Shared → Prop} :
    ∀ t : KasT α, runOk lt n t = true → Q (runT lt t) s → t.kasWp cmp Q s
  | .ret a, _, h => h
  | .ask i j k, ho, h => by
    unfold runOk at ho
    simp only [Bool.and_eq_true, decide_eq_true_eq] at ho
    exact hc i j _ ho.1.1 ho.1.2 (runT_wp hc (k (lt i j)) ho.2 h)
section
variable {prog : Program} {w : World} {A : Around} {E : Value → Shared → Prop} {s : Shared}
theorem lsortT {a : Addr} {vs : List Value} {n : Nat} {P : PySem.Fin → Shared → Prop} {lt : Nat → Nat → Bool} (ho : s.heap.get? a = some (seqObj "list" vs.toArray n)) (h2 : 2 ≤ vs.length) (h64 : vs.length < 64)
    (hk : ∀ h', (∀ b o, b ≠ a → s.heap.get? b = some o → h'.get? b = some o) → ∀ (Q : SortKind → Shared → Prop), Q (tuples' true) { s with heap := h' } → wpAny (model prog w) A (keyKind' vs.toArray) Q (fun _ _ => False) { s with heap := h' })
    (hc : ∀ h', (∀ b o, b ≠ a → s.heap.get? b = some o → h'.get? b = some o) → ∀ i j C, i < vs.length → j < vs.length → C (lt i j) { s with heap := h' } → kas_ask prog w A (tuples' true) vs i j C { s with heap := h' })
    (h : P (.done (.ret .none)) { s with heap := sortedHeap s.heap a vs (List.toArray ((runT lt (kas_sort vs.length)).toList.map fun i => vs.getD i Value.none)) })
    (hps : (runT lt (kas_sort vs.length)).size = vs.length) (hro : runOk lt vs.length (kas_sort vs.length) = true) :
    wpAny (model prog w) A (Builtin.«list.sort» ⟨[.ref a], []⟩) P E s := by
  rw [list_sort_plain]
  have ha : a < s.heap.objs.size := Heap.lt_size ho
  refine wpAny_bind (listItems_at ho rfl ?_)
  refine wpAny_bind (listUpdate_at ho rfl ?_ (by rw [List.size_toArray, sizeLine_eq]; omega) (Nat.zero_le _))
  obtain ⟨e1, ho1⟩ : ∃ e1, (s.heap.update a (Obj.mapSeq fun _ => #[])).get? a = some (seqObj "list" #[] e1) := ⟨_, get?_update_seq ho (fun _ => #[])⟩
  refine wpAny_bind (seqEpoch_at ho1 rfl ?_)
  refine wpAny_bind (wpAny_newTuple ?_ (by show vs.length ≤ _; rw [sizeLine_eq]; omega))
  refine wpAny_bind (wpAny_newList ?_ (Nat.zero_le _))
  refine wpAny_holding ?_
  have ho6 : (((s.heap.update a (Obj.mapSeq fun _ => #[])).push (seqObj "tuple" vs.toArray 0)).push (seqObj "list" #[] 0)).get? a = some (seqObj "list" #[] e1) := by
    rw [Heap.get?_push_ne _ _ _ (by rw [size_push', Heap.size_update]; exact Nat.ne_of_lt (Nat.lt_succ_of_lt ha)), Heap.get?_push_ne _ _ _ (by rw [Heap.size_update]; exact Nat.ne_of_lt ha)]
    exact ho1
  have keep : ∀ b o, b ≠ a → s.heap.get? b = some o → (((s.heap.update a (Obj.mapSeq fun _ => #[])).push (seqObj "tuple" vs.toArray 0)).push (seqObj "list" #[] 0)).get? b = some o := fun b o hb q =>
    Heap.get?_push_of_some _ (Heap.get?_push_of_some _ ((Heap.get?_update_other _ _ (Ne.symm hb)).trans q))
  show wpAny (model prog w) A _ P E { s with heap := ((s.heap.update a (Obj.mapSeq fun _ => #[])).push (seqObj "tuple" vs.toArray 0)).push (seqObj "list" #[] 0) }
  dsimp only
  have hn2 : ¬ vs.toArray.size < 2 := by rw [List.size_toArray]; omega
  rw [if_neg hn2, if_neg hn2]
  refine wpAny_bind (wpAny_mono (hk _ keep (fun κ s' => κ = tuples' true ∧ s' = { s with heap := ((s.heap.update a (Obj.mapSeq fun _ => #[])).push (seqObj "tuple" vs.toArray 0)).push (seqObj "list" #[] 0) }) ⟨rfl, rfl⟩) (fun κ s0 hκ => ?_) fun _ _ x => x.elim)
  obtain ⟨rfl, rfl⟩ := hκ
  have run := runT_wp (hc _ keep) (Q := fun p s' => p = runT lt (kas_sort vs.length) ∧ s' = { s with heap := ((s.heap.update a (Obj.mapSeq fun _ => #[])).push (seqObj "tuple" vs.toArray 0)).push (seqObj "list" #[] 0) }) (kas_sort vs.length) hro ⟨rfl, rfl⟩
  refine wpAny_bind (wpAny_mono (kat_run (Q := fun st' s' => ∃ p : Array Nat, arrOf st' = p.map (kas_item (vs.toArray.zip vs.toArray)) ∧ failedOf st' = none ∧ p = runT lt (kas_sort vs.length) ∧ s' = { s with heap := ((s.heap.update a (Obj.mapSeq fun _ => #[])).push (seqObj "tuple" vs.toArray 0)).push (seqObj "list" #[] 0) })
    rfl h2 h64 (fun p' st' s' a1 a2 a3 a4 => ⟨p', a2, a3, a4.1, a4.2⟩) run) ?_ fun _ _ e => e)
  rintro ⟨⟨⟩, st'⟩ s' ⟨p, har, hf, rfl, rfl⟩
  dsimp only
  have hout := kat_snds rfl har
  rw [hout]
  refine wpAny_bind (seqEpoch_at ho6 rfl ?_)
  refine wpAny_bind (listUpdate_at ho6 rfl ?_ (Nat.zero_le _) (by rw [List.size_toArray, List.length_map, Array.length_toList, hps, sizeLine_eq]; omega))
  rw [hf]
  simp only [bne_self_eq_false, Bool.false_eq_true, if_false]
  exact wpAny_pure h
theorem sortedT {l : Addr} {vs : List Value} {Q : Value → Shared → Prop} {lt : Nat → Nat → Bool} (hl : s.heap.IsList l vs.toArray) (h2 : 2 ≤ vs.length) (h64 : vs.length < 64)
    (hk : ∀ (A' : Around) h', (∀ b o, s.heap.get? b = some o → h'.get? b = some o) → ∀ (Q : SortKind → Shared → Prop), Q (tuples' true) { s with heap := h' } → wpAny (model prog w) A' (keyKind' vs.toArray) Q (fun _ _ => False) { s with heap := h' })
    (hc : ∀ h', (∀ b o, s.heap.get? b = some o → h'.get? b = some o) → ∀ i j C, i < vs.length → j < vs.length → C (lt i j) { s with heap := h' } → kas_ask prog w A.in1.in1 (tuples' true) vs i j C { s with heap := h' })
    (h : Q (.ref (s.heap.objs.size + 1)) { s with heap := sortedAll s.heap vs (List.toArray ((runT lt (kas_sort vs.length)).toList.map fun i => vs.getD i Value.none)) })
    (hps : (runT lt (kas_sort vs.length)).size = vs.length) (hro : runOk lt vs.length (kas_sort vs.length) = true) :
    wpAny (model prog w) A (call (.builtin "sorted") [.ref l]) Q E s := by
  refine Calls.call_function_entry kind_sorted plain_sorted entry_sorted (args_sorted1 _) ?_
  unfold Builtin.«sorted»
  refine wpAny_bind (m := checkCount "sorted" 1 1 _) (wpAny_pure ?_)
  refine wpAny_bind (collect_list hl ?_ (by rw [sizeLine_eq]; omega))
  refine wpAny_bind (wpAny_newList ?_ (by rw [sizeLine_eq]; omega))
  have hsz : ((s.heap.push (seqObj "list" #[] 0)).update s.heap.objs.size (Obj.mapSeq (· ++ vs.toArray))).objs.size = s.heap.objs.size + 1 := by
    rw [Heap.size_update, size_push']
  have hoL : (((s.heap.push (seqObj "list" #[] 0)).update s.heap.objs.size (Obj.mapSeq (· ++ vs.toArray))).push (seqObj "list" vs.toArray 0)).get? (s.heap.objs.size + 1) = some (seqObj "list" vs.toArray 0) := by
    rw [← hsz]; exact Heap.get?_push_size _ rfl
  have keep : ∀ b o, s.heap.get? b = some o → (((s.heap.push (seqObj "list" #[] 0)).update s.heap.objs.size (Obj.mapSeq (· ++ vs.toArray))).push (seqObj "list" vs.toArray 0)).get? b = some o := fun b o q => by
    have hlt : b < s.heap.objs.size := Heap.lt_size q
    rw [Heap.get?_push_ne _ _ _ (by rw [hsz]; exact Nat.ne_of_lt (Nat.lt_succ_of_lt hlt)), Heap.get?_update_ne _ _ _ _ (Nat.ne_of_lt hlt), Heap.get?_push_ne _ _ _ (Nat.ne_of_lt hlt)]
    exact q
  have keep2 : ∀ h' : Heap, (∀ b o, b ≠ s.heap.objs.size + 1 → (((s.heap.push (seqObj "list" #[] 0)).update s.heap.objs.size (Obj.mapSeq (· ++ vs.toArray))).push (seqObj "list" vs.toArray 0)).get? b = some o → h'.get? b = some o) → ∀ b o, s.heap.get? b = some o → h'.get? b = some o := fun h' k b o q =>
    k b o (Nat.ne_of_lt (Nat.lt_succ_of_lt (Heap.lt_size q))) (keep b o q)
  show wpAny _ _ _ _ _ { s with heap := ((s.heap.push (seqObj "list" #[] 0)).update s.heap.objs.size (Obj.mapSeq (· ++ vs.toArray))).push (seqObj "list" vs.toArray 0) }
  rw [hsz]
  refine wpAny_bind (wpAny_holding (wpAny_call_entry slot_list_sort ⟨_, hoL, rfl⟩ entry_list_sort ?body (args_list_sort _)))
  case body =>
    exact lsortT (s := { s with heap := ((s.heap.push (seqObj "list" #[] 0)).update s.heap.objs.size (Obj.mapSeq (· ++ vs.toArray))).push (seqObj "list" vs.toArray 0) }) hoL h2 h64
      (fun h' k Q' hq => hk _ h' (keep2 h' k) Q' hq) (fun h' k i j C h1 h2 hC => hc h' (keep2 h' k) i j C h1 h2 hC) ⟨_, rfl, wpAny_pure ⟨_, rfl, h⟩⟩ hps hro
end
noncomputable def ltT : PV → PV → Bool
  | .tup [.list a, .int x], .tup [.list b, .int y] => if pEqN 6 (.list a) (.list b) then (if x == y then false else decide (x < y)) else (match ints? a, ints? b with | some m, some n => ltInts m n | _, _ => false)
  | _, _ => false
noncomputable def okT : PV → Bool
  | .tup [.list a, .int _] => pOk 6 (.list a) && (ints? a).isSome
  | _ => false
noncomputable def sortP (xs : List PV) : Array Nat := runT (fun i j => ltT (xs.getD i .none) (xs.getD j .none)) (kas_sort xs.length)
noncomputable def pSortT : List PV → Option PV
  | [.list xs] => if xs.all okT = true ∧ 2 ≤ xs.length ∧ xs.length < 64 ∧ (sortP xs).size = xs.length ∧ runOk (fun i j => ltT (xs.getD i .none) (xs.getD j .none)) xs.length (kas_sort xs.length) = true ∧ (sortP xs).toList.all (fun i => decide (i < xs.length)) = true then some (.list ((sortP xs).toList.map fun i => xs.getD i .none)) else none
  | _ => none
section
variable {g : GC} {s : Shared} {H : HP}
theorem okT_at (st : St g s H) {p : PV} {v : Value} (ho : okT p = true) (hv : VRel H p v) : ∃ a x m t o n l tk, p = .tup [.list a, .int x] ∧ ints? a = some m ∧ pOk 6 (.list a) = true ∧ v = .ref t ∧ s.heap.get? t = some o ∧ o.cls = .type "tuple" ∧ o.data = .seq #[.ref l, .int x tk] n ∧ VRel H (.list a) (.ref l) := by
  unfold okT at ho
  split at ho
  · rename_i a x
    rw [Bool.and_eq_true] at ho
    obtain ⟨m, hm⟩ := Option.isSome_iff_exists.mp ho.2
    obtain ⟨t, o, its, n, rfl, hH, hcl, hd, hl⟩ := hv
    obtain ⟨v1, v2, hvs, h1, tk, rfl⟩ := hl.two
    obtain ⟨l, ol, itl, nl, rfl, hrest⟩ := h1
    have hits : its = #[.ref l, .int x tk] := by rw [← Array.toArray_toList (xs := its), hvs]
    subst hits
    exact ⟨a, x, m, t, o, n, l, tk, rfl, hm, ho.1, rfl, st.keep _ _ hH, hcl, hd, l, ol, itl, nl, rfl, hrest⟩
  · cases ho
theorem katTups_of (st : St g s H) : ∀ {xs : List PV} {vs : List Value}, xs.all okT = true → VRelL H xs vs → ∃ fs, KatTups s.heap vs fs ∧ fs.length = xs.length ∧ ∀ v ∈ fs, ∃ l o, v = .ref l ∧ s.heap.get? l = some o ∧ o.cls = .type "list"
  | [], vs, _, hv => ⟨[], by rw [show vs = [] from hv]; exact KatTups.nil, rfl, fun _ h => by cases h⟩
  | p :: ps, vs, ho, hv => by
    rw [List.all_cons, Bool.and_eq_true] at ho
    obtain ⟨v, w, rfl, h1, h2⟩ := hv
    obtain ⟨fs, f1, f2, f3⟩ := katTups_of st ho.2 h2
    obtain ⟨a, x, m, t, o, n, l, tk, rfl, hm, hok, rfl, hg, hcl, hd, hrl⟩ := okT_at st ho.1 h1
    obtain ⟨l', ol, itl, nl, e, hH, hcll, hdl, _⟩ := hrl
    cases e
    refine ⟨.ref l :: fs, KatTups.cons hg hcl hd (by rfl) f1, by rw [List.length_cons, f2, List.length_cons], fun v hv => ?_⟩
    rcases List.mem_cons.mp hv with rfl | hv
    · exact ⟨l, ol, rfl, st.keep _ _ hH, hcll⟩
    · exact f3 v hv
theorem ltT_ask {A : Around} {C : Bool → Shared → Prop} {p q : PV} {v w : Value} (hA : Room A 8) (st : St g s H) (hp : okT p = true) (hq : okT q = true) (hv : VRel H p v) (hw : VRel H q w) (hC : C (ltT p q) s) :
    wpAny (model g.prog g.w) A (keyLt' (tuples' true) v w) C (fun _ _ => False) s := by
  obtain ⟨a, x, m, t, o, n, l, tk, rfl, hm, hok, rfl, hg, hcl, hd, hrl⟩ := okT_at st hp hv
  obtain ⟨b, y, m2, t2, o2, n2, l2, tk2, rfl, hm2, hok2, rfl, hg2, hcl2, hd2, hrl2⟩ := okT_at st hq hw
  refine kat_lt hg hd hg2 hd2 (kat_cons ?_)
  obtain ⟨as, ra⟩ := reads_of st.keep 6 (.list a) (.ref l) hok hrl
  obtain ⟨bs, rb⟩ := reads_of st.keep 6 (.list b) (.ref l2) hok2 hrl2
  have la := lay_of 6 (.list a) hok
  have lb := lay_of 6 (.list b) hok2
  refine PySem.SeqAt.eqBoolOverData _ _ _ _ _ _ _ _ _ _ _ _ ra rb la.1 lb.1 (min_room hA la.2) ?_
  rw [eqv_of 6 _ _ hok hok2]
  unfold ltT at hC
  dsimp only at hC
  cases hE : pEqN 6 (.list a) (.list b) with
  | true =>
    rw [hE] at hC
    simp only [if_true] at hC
    refine kat_yes (kat_cons (wpAny_eqBool_int ?_))
    cases hxy : (x == y) with
    | true =>
      rw [hxy] at hC
      simp only [if_true] at hC
      exact kat_yes (kat_nil (by simpa using hC))
    | false =>
      rw [hxy] at hC
      simp only [Bool.false_eq_true, if_false] at hC
      refine kat_no ?_
      show wpAny _ A (oneLt' (true && (0 + 1 == 0)) _ _) C _ s
      exact kat_one _ _ (PySem.P.lt_int hC)
  | false =>
    rw [hE, hm, hm2] at hC
    simp only [Bool.false_eq_true, if_false] at hC
    refine kat_no ?_
    show wpAny _ A (oneLt' true _ _) C _ s
    rw [oneLt'_eq]
    simp only [if_true]
    obtain ⟨l', n', its, d, sl, e1, hl, hvl⟩ := seq_at st hrl
    obtain ⟨l2', n2', its2, d2, sl2, e2, hl2, hvl2⟩ := seq_at st hrl2
    cases e1; cases e2
    refine wpAny_bind (wpAny_cRoomFor (by have := hA.c; omega) ?_)
    refine wpAny_bind (wpAny_callSpecialIfBound?_slot (name := Str.ofString "__lt__") ⟨_, hl, rfl⟩ F.slot_list_lt (call_meets F.slot_list_lt ⟨_, hl, rfl⟩ F.entry_list_lt (F.args_list_lt_2 _ _) (list_ltAt l l2 its its2 n' n2' d d2 sl sl2 m m2 (intsAre_of hm hvl) (intsAre_of hm2 hvl2)) ⟨hl, hl2, ?_⟩))
    exact wpAny_truthy_bool hC
theorem sortT_op (g : GC) : OpL g (.builtin "sorted") pSortT := by
  intro A s H ps vs Q E r hr st hv hf hq
  unfold pSortT at hf
  split at hf
  · rename_i xs
    split at hf
    · rename_i hc
      obtain ⟨hok, h2, h64, hsz, hro, hin⟩ := hc
      cases hf
      obtain ⟨v, rfl, h1⟩ := hv.one
      obtain ⟨l, n, its, d, sl, rfl, hl, hv2⟩ := seq_at st h1
      have hlen : its.toList.length = xs.length := hv2.length
      have hpr : runT (fun i j => ltT (xs.getD i .none) (xs.getD j .none)) (kas_sort its.toList.length) = sortP xs := by unfold sortP; rw [hlen]
      refine sortedT (vs := its.toList) (lt := fun i j => ltT (xs.getD i .none) (xs.getD j .none)) ⟨_, hl, rfl, n, by simp⟩ (by omega) (by omega) (fun A' h' k Q' hq' => ?_) (fun h' k i j C hi hj hC => ?_) ?_ (by rw [hpr, hlen]; exact hsz) (by rw [hlen]; exact hro)
      · have e := Ext.kept (tk := s.toks) st k
        obtain ⟨fs, f1, f2, f3⟩ := katTups_of e.st hok hv2
        refine kat_kind (T := .type "list") f1 (by omega) (fun v hv3 => ?_) (by decide) hq'
        obtain ⟨lv, o, rfl, ho, hcl⟩ := f3 v hv3
        have : Looks (model g.prog g.w) h' (typeOf (.ref lv)) o.cls := (Looks.ld ho).andThen .now
        rw [hcl] at this
        exact this
      · have e := Ext.kept (tk := s.toks) st k
        have at_ : ∀ i, i < its.toList.length → okT (xs.getD i .none) = true ∧ VRel H (xs.getD i .none) (its.toList.getD i .none) := fun i hi => by
          have hi' : i < xs.length := by omega
          have e1 : xs[i]? = some xs[i] := List.getElem?_eq_getElem hi'
          obtain ⟨v, e2, e3⟩ := hv2.get e1
          have e4 : xs.getD i .none = xs[i] := by simp [hi']
          have e5 : its.toList.getD i .none = v := by simp only [List.getD]; rw [e2]; rfl
          rw [e4, e5]
          exact ⟨List.all_eq_true.mp hok _ (List.getElem_mem hi'), e3⟩
        exact ltT_ask ⟨hr.hh, by have := hr.depth; show A.depth + 8 ≤ 900; omega, by have := hr.units; show A.units + 1 + 1 + 10 * 8 ≤ 9000; omega⟩ e.st (at_ i hi).1 (at_ j hj).1 (at_ i hi).2 (at_ j hj).2 hC
      · rw [hpr]
        obtain ⟨e, he⟩ := sortedAll_at s.heap its.toList (List.toArray ((sortP xs).toList.map fun i => its.toList.getD i Value.none))
        have hfz := Ext.freeze (tk := s.toks) st (fun b o => sortedAll_old) (freshAt (Nat.le_succ _)) he
        refine hq _ _ _ hfz ⟨_, _, _, e, rfl, hput_self .., rfl, rfl, ?_⟩
        show VRelL _ _ (List.toArray _).toList
        have go : ∀ is : List Nat, is.all (fun i => decide (i < xs.length)) = true → VRelL H (is.map fun i => xs.getD i .none) (is.map fun i => its.toList.getD i .none) := by
          intro is
          induction is with
          | nil => intro _; exact rfl
          | cons i is ih =>
            intro hall
            rw [List.all_cons, Bool.and_eq_true, decide_eq_true_eq] at hall
            have e1 : xs[i]? = some xs[i] := List.getElem?_eq_getElem hall.1
            obtain ⟨v, e2, e3⟩ := hv2.get e1
            have e4 : xs.getD i .none = xs[i] := by simp [hall.1]
            have e5 : its.toList.getD i .none = v := by simp only [List.getD]; rw [e2]; rfl
            rw [List.map_cons, List.map_cons, e4, e5]
            exact VRelL.cons e3 (ih hall.2)
        exact VRelL.mono hfz.le _ _ (go _ hin)
    · cases hf
  · cases hf
end
theorem hd_55 : ∀ P, ∃ o vs file tf flags tg inF text tt, (K0 P).lookup 55 = some o ∧ o.cls = .type "code" ∧ o.data = .fields vs ∧ vs[11]? = some (.ref 51) ∧ vs.getD 11 .none = .ref 51 ∧ vs.getD 18 .none = .str file tf ∧
    vs.getD 7 .none = .int flags tg ∧ vs.getD 9 .none = .bool inF ∧ vs.getD 10 .none = .int text tt :=
  fun P => ⟨_, _, _, _, _, _, _, _, _, by with_unfolding_all rfl, by rfl, by rfl, by rfl, by rfl, by rfl, by rfl, by rfl, by rfl⟩
theorem hd_62 : ∀ P, ∃ o vs file tf flags tg inF text tt, (K0 P).lookup 62 = some o ∧ o.cls = .type "code" ∧ o.data = .fields vs ∧ vs[11]? = some (.ref 58) ∧ vs.getD 11 .none = .ref 58 ∧ vs.getD 18 .none = .str file tf ∧
    vs.getD 7 .none = .int flags tg ∧ vs.getD 9 .none = .bool inF ∧ vs.getD 10 .none = .int text tt :=
  fun P => ⟨_, _, _, _, _, _, _, _, _, by with_unfolding_all rfl, by rfl, by rfl, by rfl, by rfl, by rfl, by rfl, by rfl, by rfl⟩
section
variable {g : GC}
theorem codeHd_55 {s : Shared} {H : HP} (st : St g s H) : CodeHd s.heap 55 51 := by
  obtain ⟨o, vs, file, tf, flags, tg, inF, text, tt, e, r⟩ := hd_55 g.w.params
  exact ⟨o, vs, file, tf, flags, tg, inF, text, tt, kin_s st _ _ e, r.1, r.2.1, r.2.2.1, r.2.2.2.1, r.2.2.2.2.1, r.2.2.2.2.2.1, r.2.2.2.2.2.2.1, r.2.2.2.2.2.2.2, by decide⟩
theorem codeHd_62 {s : Shared} {H : HP} (st : St g s H) : CodeHd s.heap 62 58 := by
  obtain ⟨o, vs, file, tf, flags, tg, inF, text, tt, e, r⟩ := hd_62 g.w.params
  exact ⟨o, vs, file, tf, flags, tg, inF, text, tt, kin_s st _ _ e, r.1, r.2.1, r.2.2.1, r.2.2.2.1, r.2.2.2.2.1, r.2.2.2.2.2.1, r.2.2.2.2.2.2.1, r.2.2.2.2.2.2.2, by decide⟩
structure FnMade (g : GC) (H : HP) (f : Addr) (fd : FuncData) (name qual : Str) (params : Arguments) (body : List Stmt) (scope : Scope) (clos : List (Str × Addr)) : Prop where
  at_ : ∃ oc od osl, H f = some ⟨oc, od, .func fd, osl⟩
  body : fd.body = .stmts body
  scope : fd.scope = scope
  globals : fd.globals = mainGlobals
  closure : fd.closure = clos
  builtins : fd.builtins = builtinsNs
  params : fd.params = params
  defs : fd.defaults = .none ∧ fd.kwdefaults = .none
  nm : fd.name = name ∧ fd.qualname = qual
  code : ∃ c o vs t, fd.code = .ref c ∧ H c = some o ∧ o.data = .fields vs ∧ vs[1]? = some (.str qual t)
theorem FnMade.mono {H H' : HP} {f : Addr} {fd : FuncData} {name qual : Str} {params : Arguments} {body : List Stmt} {scope : Scope} {clos : List (Str × Addr)} (x : FnMade g H f fd name qual params body scope clos) (le : HLe H H') : FnMade g H' f fd name qual params body scope clos :=
  ⟨let ⟨oc, od, osl, h⟩ := x.at_; ⟨oc, od, osl, le _ _ h⟩, x.body, x.scope, x.globals, x.closure, x.builtins, x.params, x.defs, x.nm, let ⟨c, o, vs, t, a, b, r⟩ := x.code; ⟨c, o, vs, t, a, le _ _ b, r⟩⟩
theorem freeze2 {s : Shared} {H : HP} {a b : Addr} {oa ob : Obj} {h' : Heap} {tk : Nat} {P : Addr} (st : St g s H) (k : ∀ c o, c ≠ P → s.heap.get? c = some o → h'.get? c = some o) (hP : isTab P) (hna : s.heap.get? a = none) (hnb : s.heap.get? b = none) (ha : h'.get? a = some oa) (hb : h'.get? b = some ob)
    (ht : TabInv (hput (hput H a oa) b ob) h') : Ext g s H { s with heap := h', toks := tk } (hput (hput H a oa) b ob) := by
  have hHa : H a = none := by
    cases q : H a with
    | none => rfl
    | some o' => rw [st.keep a o' q] at hna; cases hna
  have hHb : H b = none := by
    cases q : H b with
    | none => rfl
    | some o' => rw [st.keep b o' q] at hnb; cases hnb
  have hta : ¬ isTab a := fun t => by obtain ⟨o', e, _⟩ := tab_some st.tab t; rw [e] at hna; cases hna
  have htb : ¬ isTab b := fun t => by obtain ⟨o', e, _⟩ := tab_some st.tab t; rw [e] at hnb; cases hnb
  have at_ : ∀ c o, hput (hput H a oa) b ob c = some o → (c = b ∧ o = ob) ∨ (c = a ∧ o = oa) ∨ H c = some o := fun c o q => by
    unfold hput at q
    split at q
    · rename_i r; cases q; exact .inl ⟨r, rfl⟩
    · split at q
      · rename_i r; cases q; exact .inr (.inl ⟨r, rfl⟩)
      · exact .inr (.inr q)
  have le : HLe H (hput (hput H a oa) b ob) := fun c o q => by
    have h1 : c ≠ b := fun r => by rw [r, hHb] at q; cases q
    have h2 : c ≠ a := fun r => by rw [r, hHa] at q; cases q
    show (if c = b then some ob else if c = a then some oa else H c) = some o
    rw [if_neg h1, if_neg h2]; exact q
  refine ⟨⟨fun c o q => ?_, fun c o t q => le _ _ (st.base c o t q), ht, fun c t => ?_, st.bare⟩, le, fun c o t q => k c o (fun r => t (r ▸ hP)) q, fun c o q => ?_, ⟨h', s.gens, tk, rfl⟩, fun _ _ e => e⟩
  · rcases at_ c o q with ⟨rfl, rfl⟩ | ⟨rfl, rfl⟩ | q
    · exact hb
    · exact ha
    · exact k c o (fun r => by rw [r, st.notab P hP] at q; cases q) (st.keep c o q)
  · cases q : hput (hput H a oa) b ob c with
    | none => rfl
    | some o =>
      rcases at_ c o q with ⟨r, _⟩ | ⟨r, _⟩ | q
      · exact absurd (r ▸ t) htb
      · exact absurd (r ▸ t) hta
      · rw [st.notab c t] at q; cases q
  · rcases at_ c o q with ⟨rfl, _⟩ | ⟨rfl, _⟩ | q
    · exact .inr hnb
    · exact .inr hna
    · exact .inl q
theorem makeInner {env : Env} {A : Around} {s : Shared} {H : HP} {P c : Addr} {name qual : Str} {line : Nat} {params : Arguments} {body : List Stmt} {scope : Scope} {clos : List (Str × Addr)} {pos : Pos} {fl : Nat} {Q : Value → Shared → Prop} {E : Value → Shared → Prop}
    (st : St g s H) (hP : isTab P) (hT : TabOk H s.heap P qual line) (hother : ∀ (H' : HP) (h' : Heap), (∀ R o, isTab R → R ≠ P → s.heap.get? R = some o → h'.get? R = some o) → HLe H H' → TabOk H' h' P qual line → TabInv H' h') (hC : CodeHd s.heap c P) (hcode : env.code = .ref c) (hge : env.globals = mainGlobals) (hcl : closureFor scope env = pure clos)
    (hline : pos.line = line) (hcol : pos.col = 4)
    (h : ∀ f fd s' H', Ext g s H s' H' → FnMade g H' f fd name qual params body scope clos → s.heap.get? f = none → Q (.ref f) s') :
    wpAny (model g.prog g.w) A (makeFunction name qual params (.stmts body) scope env [] [] [] pos fl) Q E s := by
  have hg : s.heap.Ns mainGlobals g.mg := st.ns g.hg (by unfold isTab; decide)
  obtain ⟨bm, ob, hbm, hne, hbo, hcls, hdict, hdata⟩ := g.bmain
  obtain ⟨ps, hps, hcase⟩ := id hT
  have hbmG : bm ≠ mainGlobals := fun q => by
    obtain ⟨o, es, ep, e, hd, _⟩ := g.hg
    rw [q, e] at hbo; cases hbo; rw [hd] at hdata; cases hdata
  have hbmT : ¬ isTab bm := fun t => by
    obtain ⟨ps0, h0⟩ := g.tab0 bm t
    rw [h0] at hbo; cases hbo; cases hcls
  have hgP : mainGlobals ≠ P := fun q => by
    have : ¬ isTab mainGlobals := by unfold isTab; decide
    exact this (q ▸ hP)
  have hB : s.heap.BuiltinsAt g.mg P := ⟨bm, ob, hbm, hne, hbmG, fun q => hbmT (q ▸ hP), st.keep _ _ (st.base _ _ hbmT hbo), hcls, hdict, hdata⟩
  rcases hcase with rfl | ⟨c', o, vs, t, rfl, hco, hcd, hcv⟩
  · refine makeFunction_K hcl hge hg hcode hC hps trivial rfl hgP hB fun c' ctv doc h' tk hx hge' hlt hrec htb => ?_
    obtain ⟨c2, oc, vs, t, e2, hoc, hd, hv⟩ := hrec
    cases e2
    have hnc : s.heap.get? c' = none := freshAt hge'
    have hnf : s.heap.get? h'.objs.size = none := freshAt (Nat.le_trans hge' (Nat.le_of_lt hlt))
    have hoc2 : (h'.push (fnMade name qual params body scope clos doc ((g.mg "__name__").getD .none) c' ctv)).get? c' = some oc := Heap.get?_push_of_some _ hoc
    have hfo := Heap.get?_push_size h' (o := fnMade name qual params body scope clos doc ((g.mg "__name__").getD .none) c' ctv) rfl
    have hne2 : c' ≠ h'.objs.size := Nat.ne_of_lt hlt
    have hHc' : hput (hput H c' oc) h'.objs.size (fnMade name qual params body scope clos doc ((g.mg "__name__").getD .none) c' ctv) c' = some oc := by
      show (if c' = h'.objs.size then _ else if c' = c' then some oc else H c') = some oc
      rw [if_neg hne2, if_pos rfl]
    have hle : HLe H (hput (hput H c' oc) h'.objs.size (fnMade name qual params body scope clos doc ((g.mg "__name__").getD .none) c' ctv)) := fun b o q => by
      have h1 : b ≠ h'.objs.size := fun r => by have := st.keep b o q; rw [r, hnf] at this; cases this
      have h2 : b ≠ c' := fun r => by have := st.keep b o q; rw [r, hnc] at this; cases this
      show (if b = h'.objs.size then _ else if b = c' then some oc else H b) = some o
      rw [if_neg h1, if_neg h2]; exact q
    have e := freeze2 (tk := tk) (P := P) (oa := oc) (ob := fnMade name qual params body scope clos doc ((g.mg "__name__").getD .none) c' ctv) st (fun b o hb q => Heap.get?_push_of_some _ (hx b o hb q)) hP hnc hnf hoc2 hfo
      (hother _ _ (fun R o hR hne q => Heap.get?_push_of_some _ (hx R o hne q)) hle ⟨_, Heap.get?_push_of_some _ htb, .inr ⟨c', oc, vs, t, by rw [hline, hcol, Array.empty_append]; rfl, hHc', hd, hv⟩⟩)
    refine h h'.objs.size _ _ _ e ⟨⟨_, _, _, hput_self ..⟩, rfl, rfl, rfl, rfl, rfl, rfl, ⟨rfl, rfl⟩, ⟨rfl, rfl⟩, c', oc, vs, t, rfl, hHc', hd, hv⟩ hnf
  · refine makeFunction_hit (cv := .ref c') hcl hge hg hcode hC hps (by trivial) ?_ hB fun ctv doc h' tk hk hsz => ?_
    · show (if ((line : Int) == pos.line && ((4 : Int) == pos.col)) = true then some (Value.ref c') else _) = some (Value.ref c')
      rw [hline, hcol]
      simp
    · have hnf : s.heap.get? h'.objs.size = none := freshAt hsz
      have e := Ext.freeze (tk := tk) (o := { cls := .type "function", data := .func (fnX name qual params body scope clos .none .none doc ((g.mg "__name__").getD .none) none (.ref c') ctv) }) st (fun b o q => Heap.get?_push_of_some _ (hk b o q)) hnf (Heap.get?_push_size h' rfl)
      exact h h'.objs.size _ _ _ e ⟨⟨_, _, _, hput_self ..⟩, rfl, rfl, rfl, rfl, rfl, rfl, ⟨rfl, rfl⟩, ⟨rfl, rfl⟩, c', o, vs, t, rfl, e.le _ _ hco, hcd, hcv⟩ hnf
end
section
variable {g : GC} {C : Cx}
theorem zip_rev_lookup {xs : List Str} {vs : List Value} (hn : xs.Nodup) (hl : vs.length = xs.length) {x : Str} : (xs.zip vs).reverse.lookup x = (xs.zip vs).lookup x := by
  have key : ∀ (l : List (Str × Value)) (x : Str), (l.map (·.1)).Nodup → l.reverse.lookup x = l.lookup x := by
    intro l
    induction l with
    | nil => intro x _; rfl
    | cons p r ih =>
      intro x hnd
      obtain ⟨n, v⟩ := p
      rw [List.map_cons, List.nodup_cons] at hnd
      rw [List.reverse_cons, List.lookup_append, ih x hnd.2, List.lookup_cons]
      cases hb : x == n with
      | true =>
        have := eq_of_beq hb; subst this
        have : r.lookup x = none := by
          cases q : r.lookup x with
          | none => rfl
          | some w => exact absurd (List.mem_map_of_mem (f := (·.1)) (mem_of_lookup q)) hnd.1
        rw [this]
        simp [List.lookup_cons]
      | false =>
        rw [List.lookup_cons, hb]
        simp [List.lookup_cons, hb]
  exact key _ x (by rw [List.map_fst_zip (by omega)]; exact hn)
theorem enterD {A : Around} {s : Shared} {H : HP} {f : Addr} {fd : FuncData} {name qual : Str} {params : Arguments} {body : List Stmt} {clos : List (Str × Addr)} {vs : List Value} {ps ρ0 : List PV} {xs : List Str} {Q : Value → Shared → Prop} {E : Value → Shared → Prop}
    (M : FnMade g H f fd name qual params body C.sc clos) (hr : Room A (C.lv + 1)) (st : St g s H) (hC : C.ok = true) (hnc : ∀ x ∈ C.sc.names, x.2 ≠ .cell) (hgen : C.sc.isGenerator = false) (hco : C.sc.isCoroutine = false) (hfc : ∀ x ∈ C.ns, x.2 ≠ .cel)
    (hxs : xs.Nodup) (hxl : ∀ x ∈ xs, C.sc.names.lookup x = some .local) (hB : BindsTo s fd ⟨vs, []⟩ (xs.zip vs)) (hlen : vs.length = xs.length) (hps : VRelL H ps vs) (hap : ∀ x y c, clos.lookup x = some c → clos.lookup y = some c → x = y)
    (hlenρ : ρ0.length = C.ns.length) (hloc : ∀ i x, C.ns[i]? = some (x, VK.loc) → ρ0.getD i .undef = ((xs.zip ps).lookup x).getD .undef)
    (hfre : ∀ i x, C.ns[i]? = some (x, VK.fre) → ∃ c vo, clos.lookup x = some c ∧ s.heap.IsCell c vo ∧ SlotV H s.heap none (ρ0.getD i .undef) vo ∧ ∀ zs, ρ0.getD i .undef ≠ .own zs)
    (h : ∀ env s1 (E' : Value → Shared → Prop), EnvOk C env → Ext g s H s1 H → Rel g C env s1 H ρ0 none → s.heap.get? env.locals = none → env.cells = clos →
      wpAny (model g.prog g.w) (A.deeper env) (execs body env) (fun fl s' => Q (match fl with | .ret v => v | _ => .none) s') E' s1) :
    wpAny (model g.prog g.w) A (call (.ref f) vs) Q E s := by
  obtain ⟨oc, od, osl, hHf⟩ := M.at_
  have ho := st.keep _ _ hHf
  have hcr : s.heap.CodeRec fd.code fd.qualname := by
    obtain ⟨c, o, vs, t, a, b, d, e⟩ := M.code
    exact ⟨c, o, vs, t, a, st.keep _ _ b, d, by rw [M.nm.2]; exact e⟩
  refine wpAny_call (codeAny_call_function hr.lim ho rfl (by rw [M.scope]; exact hco) (by rw [M.scope]; exact hgen) M.body hcr (hB _ _ _ _ ?_))
  rw [M.closure, M.globals, M.builtins, M.scope]
  refine wpAny_newFunctionEnv hnc (fun x hx => hxl x.1 (List.of_mem_zip hx).1) (fun h' hns hsb => ⟨?_, ?_⟩) (Cx.kind hC)
  · refine (St.nolimit st).keeps fun b o e => ?_
    exact hsb.extBut b o (Nat.ne_of_lt (Heap.lt_size e)) (Heap.get?_push_of_some _ e)
  · have old : ∀ b o, s.heap.get? b = some o → h'.get? b = some o := fun b o e => hsb.extBut b o (Nat.ne_of_lt (Heap.lt_size e)) (Heap.get?_push_of_some _ e)
    have e1 : Ext g s H { s with heap := h', toks := s.toks + (xs.zip vs).length } H := Ext.kept st old
    have hL : s.heap.get? s.heap.objs.size = none := freshAt (Nat.le_refl _)
    have hHL : H s.heap.objs.size = none := by
      cases q : H s.heap.objs.size with
      | none => rfl
      | some o => have := st.keep _ o q; rw [hL] at this; cases this
    refine codeAny_func (h _ _ _ ⟨rfl, rfl, rfl, fun x k hm hk => ?_, fun x y c h1 h2 => hap x y c h1 h2⟩ e1 ⟨e1.st, hlenρ, hHL, ⟨_, hns, fun i x hi => ?_⟩, fun i x k c hi hk hc => ?_, fun i zs hz => ?_, fun a ha => by cases ha⟩ hL rfl)
    · obtain ⟨i, hi⟩ := List.getElem?_of_mem hm
      cases k with
      | loc => exact absurd rfl hk
      | cel => exact absurd rfl (hfc _ hm)
      | fre => obtain ⟨c, vo, h1, _⟩ := hfre i x hi; exact ⟨c, h1⟩
    · rw [hloc i x hi]
      show SlotV H h' none _ ((xs.zip vs).reverse.lookup x)
      rw [zip_rev_lookup hxs hlen]
      cases hb : (xs.zip ps).lookup x with
      | none => trivial
      | some p =>
        have hpl : ps.length = xs.length := by rw [← hlen]; exact hps.length.symm
        obtain ⟨v, h3, h4⟩ := lookup_rel (bs := xs.zip ps) (vs := xs.zip vs) (by rw [List.map_fst_zip (by omega), List.map_fst_zip (by omega)]) (by rw [List.map_snd_zip (by omega), List.map_snd_zip (by omega)]; exact hps) hb
        rw [h3]
        exact slot_val h4
    · cases k with
      | loc => exact absurd rfl hk
      | cel => exact absurd rfl (hfc _ (List.mem_of_getElem? hi))
      | fre =>
        obtain ⟨c', vo, h1, ⟨o, ho', hd⟩, h3, _⟩ := hfre i x hi
        have : c' = c := by
          have h2 : clos.lookup x = some c := hc
          rw [h1] at h2; exact Option.some.inj h2
        subst this
        exact ⟨fun q => (by cases q), vo, ⟨o, old _ _ ho', hd⟩, h3.ext st e1⟩
    · exfalso
      cases hq : C.ns[i]? with
      | none =>
        have : ρ0[i]? = none := by rw [List.getElem?_eq_none_iff] at hq ⊢; omega
        simp [List.getD, this] at hz
      | some y =>
        obtain ⟨x, k⟩ := y
        cases k with
        | loc =>
          rw [hloc i x hq] at hz
          cases hb : (xs.zip ps).lookup x with
          | none => rw [hb] at hz; cases hz
          | some p =>
            have hpl : ps.length = xs.length := by rw [← hlen]; exact hps.length.symm
            obtain ⟨v, h3, h4⟩ := lookup_rel (bs := xs.zip ps) (vs := xs.zip vs) (by rw [List.map_fst_zip (by omega), List.map_fst_zip (by omega)]) (by rw [List.map_snd_zip (by omega), List.map_snd_zip (by omega)]; exact hps) hb
            rw [hb] at hz
            simp only [Option.getD_some] at hz
            rw [hz] at h4; exact h4.elim
        | cel => exact hfc _ (List.mem_of_getElem? hq) rfl
        | fre => obtain ⟨_, _, _, _, _, h5⟩ := hfre i x hq; exact h5 zs hz
theorem leaveD {env : Env} {s s1 s2 : Shared} {H H2 : HP} {oa2 : Option Addr} (e1 : Ext g s H s1 H) (hL : s.heap.get? env.locals = none) (hfc : ∀ x ∈ C.ns, x.2 ≠ .cel) (e2 : ExtS g C env s1 H none s2 H2 oa2) : Ext g s H s2 H2 := by
  refine ⟨e2.st, e2.le, fun a o ht h => e2.old a o ht (e1.old a o ht h) fun q => ?_, fun a o h => ?_, ?_, fun i x h => e2.gens i x (e1.gens i x h)⟩
  · rcases q with q | ⟨x, hx, q⟩ | q
    · rw [q, hL] at h; cases h
    · exact hfc _ hx rfl
    · cases q
  · rcases e2.fresh a o h with q | q | q
    · exact .inl q
    · right
      cases r : s.heap.get? a with
      | none => rfl
      | some o' =>
        by_cases t : isTab a
        · obtain ⟨o2, h2, _⟩ := tab_some e1.st.tab t; rw [h2] at q; cases q
        · rw [e1.old a o' t r] at q; cases q
    · cases q
  · obtain ⟨h1, g1, t1, rfl⟩ := e1.same
    obtain ⟨h2, g2, t2, rfl⟩ := e2.same
    exact ⟨h2, g2, t2, rfl⟩
theorem callDyn {x : Str} {i : Nat} {k : VK} {f : Addr} {e : Expr} {es : List Expr} {fl : DLs} {p pos : Pos} {env : Env} {A : Around} {s : Shared} {H : HP} {ρ : List PV} {oa : Option Addr} {l : List PV} {Q : Value → Shared → Prop} {E : Value → Shared → Prop}
    (hC : C.ok = true) (hi : C.ns[i]? = some (x, k)) (he : EnvOk C env) (hr : Room A C.lv) (y : Rel g C env s H ρ oa) (hv : ρ.getD i .undef = .fn f) (hf : ∃ oc od fd osl, H f = some ⟨oc, od, .func fd, osl⟩) (h1 : DenL g C (e :: es) fl) (hl : fl ρ = some l)
    (hs : ∀ env, starEach (e :: es) env = (false, eval e env) :: starEach es env)
    (h : ∀ vs s1 H1, Ext g s H s1 H1 → Rel g C env s1 H1 ρ oa → VRelL H1 l vs → wpAny (model g.prog g.w) A (call (.ref f) vs) Q E s1) :
    wpAny (model g.prog g.w) A (eval (.Call (.Name x p) (e :: es) [] pos) env) Q E s := by
  obtain ⟨oc, od, fd, osl, hH⟩ := hf
  refine wpAny_Call_Name_kw (wpAny_Name (loadName_rel hC he y hi (show dVar i ρ = some (.fn f) by unfold dVar; rw [hv]) fun v hv' => ?_) (Cx.at hC (List.mem_of_getElem? hi)).1)
  have hv'' : v = .ref f := hv'
  subst hv''
  have h0 := h1 env A s H ρ oa (fun vs s1 => s1.heap.get? f = some ⟨oc, od, .func fd, osl⟩ ∧ wpAny (model g.prog g.w) A (call (.ref f) vs) Q E s1) E l pos he hr y hl fun vs s1 H1 e1 hvs =>
    ⟨e1.st.keep _ _ (e1.le _ _ hH), h vs s1 H1 e1 (y.ext e1) hvs⟩
  exact PyProof.Rows.callWith_def (rest := es) rfl h0 (hs env)
end
noncomputable def innerD : Stmt := nthS (bodyOf (fstmt 9)) 0
noncomputable def cxD (k : Nat) : Cx := { sc := scopeOf innerD, ns := [(Str.ofString "L", VK.loc), (Str.ofString "R", VK.loc), (Str.ofString "mid", VK.loc), (Str.ofString "shift", VK.loc), (Str.ofString "digits", VK.fre), (Str.ofString "inner", VK.fre), (Str.ofString "n", VK.fre)], mu := 7, lv := 20 + k }
theorem cxD_ok (k : Nat) : (cxD k).ok = true := by
  show (cxD 0).ok = true
  decide +kernel
noncomputable def d2iP (ds : List Int) (n : Int) : Nat → Int → Int → Option Int
  | 0, L, R => if (L + 1 == R) = true ∧ 0 ≤ L then ds[L.toNat]? else none
  | k + 1, L, R => if (L + 1 == R) = true then (if 0 ≤ L then ds[L.toNat]? else none) else
      (d2iP ds n k ((L + R).fdiv (2 ^ 1)) R).bind fun hi => (d2iP ds n k L ((L + R).fdiv (2 ^ 1))).bind fun lo =>
        if 0 ≤ ((L + R).fdiv (2 ^ 1) - L) * n ∧ ((L + R).fdiv (2 ^ 1) - L) * n ≤ 1000000 ∧ isMid hi = true ∧ isMid ((L + R).fdiv (2 ^ 1) - L) = true ∧ isMid n = true then some (hi * 2 ^ (((L + R).fdiv (2 ^ 1) - L) * n).toNat + lo) else none
structure DP (clos : List (Str × Addr)) (f : Addr) (ds : List Int) (n : Int) (s : Shared) (H : HP) : Prop where
  d : ∃ c v, clos.lookup (Str.ofString "digits") = some c ∧ s.heap.IsCell c (some v) ∧ VRel H (.list (ds.map .int)) v
  i : ∃ c, clos.lookup (Str.ofString "inner") = some c ∧ s.heap.IsCell c (some (.ref f))
  n : ∃ c t, clos.lookup (Str.ofString "n") = some c ∧ s.heap.IsCell c (some (.int n t))
section
variable {g : GC}
theorem DP.of_rel {k : Nat} {env : Env} {s : Shared} {H : HP} {ρ : List PV} {f : Addr} {ds : List Int} {n : Int} (he : EnvOk (cxD k) env) (y : Rel g (cxD k) env s H ρ none) (h4 : ρ.getD 4 .undef = .list (ds.map .int)) (h5 : ρ.getD 5 .undef = .fn f) (h6 : ρ.getD 6 .undef = .int n) : DP env.cells f ds n s H := by
  refine ⟨?_, ?_, ?_⟩
  · obtain ⟨c, hc⟩ := he.cel (Str.ofString "digits") .fre (List.mem_of_getElem? (i := 4) rfl) (by decide)
    obtain ⟨_, vo, h1, h2⟩ := y.ce 4 _ .fre c rfl (by decide) hc
    rw [h4] at h2
    obtain ⟨v, rfl, hv⟩ := h2
    exact ⟨c, v, hc, h1, hv⟩
  · obtain ⟨c, hc⟩ := he.cel (Str.ofString "inner") .fre (List.mem_of_getElem? (i := 5) rfl) (by decide)
    obtain ⟨_, vo, h1, h2⟩ := y.ce 5 _ .fre c rfl (by decide) hc
    rw [h5] at h2
    obtain ⟨v, rfl, hv⟩ := h2
    have hv' : v = .ref f := hv
    subst hv'
    exact ⟨c, hc, h1⟩
  · obtain ⟨c, hc⟩ := he.cel (Str.ofString "n") .fre (List.mem_of_getElem? (i := 6) rfl) (by decide)
    obtain ⟨_, vo, h1, h2⟩ := y.ce 6 _ .fre c rfl (by decide) hc
    rw [h6] at h2
    obtain ⟨v, rfl, t, rfl⟩ := h2
    exact ⟨c, t, hc, h1⟩
theorem d_item {ds : List Int} {L r : Int} (h0 : 0 ≤ L) (hlen : ds.length < 2 ^ 60) (h : ds[L.toNat]? = some r) : pItem (.list (ds.map .int)) (.int L) = some (.int r) := by
  have hlt : L.toNat < ds.length := (List.getElem?_eq_some_iff.mp h).1
  unfold pItem
  dsimp only
  rw [if_pos ⟨by omega, by omega⟩]
  have : seqIndex? L (ds.map PV.int).length = some L.toNat := by
    unfold seqIndex?
    simp only [show ¬ L < 0 by omega, if_false, List.length_map]
    rw [if_pos (by simp only [Bool.and_eq_true, decide_eq_true_eq]; omega)]
  rw [this]
  simp [h]
theorem d2iP_leaf {ds : List Int} {n : Int} {k : Nat} {L R r : Int} (hc : (L + 1 == R) = true) (hf : d2iP ds n k L R = some r) : 0 ≤ L ∧ ds[L.toNat]? = some r := by
  cases k with
  | zero =>
    unfold d2iP at hf
    split at hf
    · rename_i h; exact ⟨h.2, hf⟩
    · exact nomatch hf
  | succ k =>
    unfold d2iP at hf
    rw [if_pos hc] at hf
    split at hf
    · rename_i h; exact ⟨h, hf⟩
    · exact nomatch hf
theorem d2iP_node {ds : List Int} {n : Int} {k : Nat} {L R r : Int} (hc : (L + 1 == R) = false) (hf : d2iP ds n k L R = some r) : ∃ j, k = j + 1 ∧ ((d2iP ds n j ((L + R).fdiv (2 ^ 1)) R).bind fun hi => (d2iP ds n j L ((L + R).fdiv (2 ^ 1))).bind fun lo =>
        if 0 ≤ ((L + R).fdiv (2 ^ 1) - L) * n ∧ ((L + R).fdiv (2 ^ 1) - L) * n ≤ 1000000 ∧ isMid hi = true ∧ isMid ((L + R).fdiv (2 ^ 1) - L) = true ∧ isMid n = true then some (hi * 2 ^ (((L + R).fdiv (2 ^ 1) - L) * n).toNat + lo) else none) = some r := by
  have hn : ¬ (L + 1 == R) = true := by rw [hc]; decide
  cases k with
  | zero =>
    unfold d2iP at hf
    rw [if_neg fun h => hn h.1] at hf
    exact nomatch hf
  | succ k =>
    unfold d2iP at hf
    rw [if_neg hn] at hf
    exact ⟨k, rfl, hf⟩
theorem inner_d {f : Addr} {fd : FuncData} {clos : List (Str × Addr)} {ds : List Int} {n : Int} (hlen : ds.length < 2 ^ 60) (hap : ∀ x y c, clos.lookup x = some c → clos.lookup y = some c → x = y) {params : Arguments} {name qual : Str}
    (hB : ∀ s v1 v2, BindsTo s fd ⟨[v1, v2], []⟩ [(Str.ofString "L", v1), (Str.ofString "R", v2)]) :
    ∀ (k : Nat) (A : Around) (s : Shared) (H : HP) (L R r : Int) (tL tR : Tok) (Q : Value → Shared → Prop) (E : Value → Shared → Prop), Room A (21 + k) → St g s H → FnMade g H f fd name qual params (bodyOf innerD) (scopeOf innerD) clos → DP clos f ds n s H →
      d2iP ds n k L R = some r → (∀ t s' H', Ext g s H s' H' → Q (.int r t) s') → wpAny (model g.prog g.w) A (call (.ref f) [.int L tL, .int R tR]) Q E s := by
  intro k
  induction k using Nat.strongRecOn with
  | _ k ih =>
    intro A s H L R r tL tR Q E hr st M P hf hq
    have hC := cxD_ok k
    have h8 : 8 ≤ (cxD k).lv := by show 8 ≤ 20 + k; omega
    have hfc : ∀ x ∈ (cxD k).ns, x.2 ≠ .cel := by show ∀ x ∈ (cxD 0).ns, x.2 ≠ .cel; decide +kernel
    refine enterD (C := cxD k) (xs := [Str.ofString "L", Str.ofString "R"]) (ps := [.int L, .int R]) (ρ0 := [.int L, .int R, .undef, .undef, .list (ds.map .int), .fn f, .int n]) M (hr.le (by show 20 + k + 1 ≤ 21 + k; omega)) st hC (by show ∀ x ∈ (scopeOf innerD).names, x.2 ≠ .cell; decide +kernel) (by show (scopeOf innerD).isGenerator = false; kernel_rfl) (by show (scopeOf innerD).isCoroutine = false; kernel_rfl) hfc (by decide +kernel) (by show ∀ x ∈ [Str.ofString "L", Str.ofString "R"], (scopeOf innerD).names.lookup x = some .local; decide +kernel) (hB s _ _) rfl
      (VRelL.cons ⟨tL, rfl⟩ (VRelL.cons ⟨tR, rfl⟩ rfl)) hap rfl (fun i x hi => ?_) (fun i x hi => ?_) fun env s1 E' he e1 y hL hcl => ?_
    · match i, hi with
      | 0, hi => cases hi; rfl
      | 1, hi => cases hi; rfl
      | 2, hi => cases hi; rfl
      | 3, hi => cases hi; rfl
      | 4, hi => cases hi
      | 5, hi => cases hi
      | 6, hi => cases hi
      | j + 7, hi => cases hi
    · match i, hi with
      | 0, hi => cases hi
      | 1, hi => cases hi
      | 2, hi => cases hi
      | 3, hi => cases hi
      | 4, hi => cases hi; obtain ⟨c, v, h1, h2, h3⟩ := P.d; exact ⟨c, _, h1, h2, ⟨v, rfl, h3⟩, fun zs h => by cases h⟩
      | 5, hi => cases hi; obtain ⟨c, h1, h2⟩ := P.i; exact ⟨c, _, h1, h2, ⟨_, rfl, rfl⟩, fun zs h => by cases h⟩
      | 6, hi => cases hi; obtain ⟨c, t, h1, h2⟩ := P.n; exact ⟨c, _, h1, h2, ⟨_, rfl, t, rfl⟩, fun zs h => by cases h⟩
      | j + 7, hi => cases hi
    · have hr' : Room (A.deeper env) (cxD k).lv := (hr.le (show (cxD k).lv + 1 ≤ 21 + k by show 20 + k + 1 ≤ 21 + k; omega)).deeper
      refine wpAny_execs_cons (wpAny_If ((DenB.cmp h8 (Den.bin h8 (Den.var (i := 0) hC rfl) Den.int (add_op g)) (Den.var (i := 1) hC rfl) (eq_op g)) env _ s1 H _ none _ E' (L + 1 == R) he hr' y rfl fun s2 H2 e2 => ?_))
      cases hc : (L + 1 == R) with
      | true =>
        obtain ⟨h0, hf⟩ := d2iP_leaf hc hf
        simp only [if_true]
        · refine wpAny_execs_cons (wpAny_Return_some ((Den.item (Den.var (i := 4) hC rfl) (Den.var (i := 0) hC rfl)) env _ s2 H2 _ none _ E' (.int r) he hr' (y.ext e2) (d_item h0 hlen hf) fun v s3 H3 e3 hv => ?_))
          obtain ⟨t, rfl⟩ := hv
          exact hq t s3 H3 (leaveD e1 hL hfc (.of (e2.trans e3)))
      | false =>
        obtain ⟨j, hk, hf⟩ := d2iP_node hc hf
        have hr21 : Room (A.deeper env) (21 + j) := hr'.le (by show 21 + j ≤ 20 + k; omega)
        simp only [Bool.false_eq_true, if_false]
        obtain ⟨hi, hhi, hf2⟩ := Option.bind_eq_some_iff.mp hf
        obtain ⟨lo, hlo, hf3⟩ := Option.bind_eq_some_iff.mp hf2
        clear hf hf2
        split at hf3
        · rename_i hcond
          cases hf3
          generalize hmid : (L + R).fdiv (2 ^ 1) = mid at hhi hlo hcond hq ⊢
          have tr := y.there he
          refine wpAny_execs_nil ?_
          have y2 := y.ext e2
          -- mid = L + R >> 1
          refine wpAny_execs_cons (wpAny_Assign_Name ((Den.bin h8 (Den.bin h8 (Den.var (i := 0) hC rfl) (Den.var (i := 1) hC rfl) (add_op g)) Den.int (shr_op g)) env _ s2 H2 _ none _ E' (.int mid) he hr' y2 (by rw [← hmid]; rfl) fun v3 s3 H3 e3 hv3 => storeName_den (i := 2) hC he (y2.ext e3) rfl (by decide) hv3 fun s4 e4 y4 _ => ?_))
          -- shift = (mid - L) * n
          refine wpAny_execs_cons (wpAny_Assign_Name ((Den.bin h8 (Den.bin h8 (Den.var (i := 2) hC rfl) (Den.var (i := 0) hC rfl) (sub_op g)) (Den.var (i := 6) hC rfl) (mul_op g)) env _ s4 H3 _ none _ E' (.int ((mid - L) * n)) he hr' y4
            (by show pMul (.int (mid - L)) (.int n) = _; unfold pMul; dsimp only; rw [hcond.2.2.2.1, hcond.2.2.2.2]; rfl) fun v5 s5 H5 e5 hv5 => storeName_den (i := 3) hC he (y4.ext e5) rfl (by decide) hv5 fun s6 e6 y6 _ => ?_))
          have eA : ExtS g (cxD k) env s1 H none s6 H5 none := ExtS.trans tr.1 tr.2 (.of (e2.trans e3)) (ExtS.trans ((y2.ext e3).there he).1 ((y2.ext e3).there he).2 e4 (ExtS.trans (y4.there he).1 (y4.there he).2 (.of e5) e6))
          have M6 := M.mono eA.le
          -- return (inner(mid, R) << shift) + inner(L, mid)
          refine wpAny_execs_cons (wpAny_Return_some (wpAny_BinOp (wpAny_BinOp ?_)))
          refine callDyn (i := 5) (l := [.int mid, .int R]) hC rfl he hr' y6 rfl (let ⟨oc, od, osl, h⟩ := M6.at_; ⟨oc, od, fd, osl, h⟩) (DenL.cons (Den.var (i := 2) hC rfl) (DenL.cons (Den.var (i := 1) hC rfl) DenL.nil)) rfl (fun _ => rfl) fun vs s7 H7 e7 y7 hvs => ?_
          obtain ⟨w1, w2, rfl, ⟨t1, rfl⟩, t2, rfl⟩ := hvs.two
          have P7 : DP clos f ds n s7 H7 := by rw [← hcl]; exact DP.of_rel he y7 rfl rfl rfl
          refine ih j (by omega) _ s7 H7 mid R hi t1 t2 _ _ hr21 y7.st (M6.mono e7.le) P7 hhi fun t3 s8 H8 e8 => ?_
          have y8 := y7.ext e8
          refine (Den.var (g := g) (i := 3) hC rfl) env _ s8 H8 _ none _ E' (.int ((mid - L) * n)) he hr' y8 rfl fun v9 s9 H9 e9 hv9 => ?_
          have y9 := y8.ext e9
          refine shl_op g _ s9 H9 (.int hi t3) v9 (.int hi) _ _ E' (.int (hi * 2 ^ ((mid - L) * n).toNat)) (hr'.le h8) y9.st ⟨t3, rfl⟩ hv9 (by unfold pShl; dsimp only; rw [if_pos ⟨hcond.1, hcond.2.1, hcond.2.2.1⟩]) fun v10 s10 H10 e10 hv10 => ?_
          have y10 := y9.ext e10
          refine callDyn (i := 5) (l := [.int L, .int mid]) hC rfl he hr' y10 rfl (let ⟨oc, od, osl, h⟩ := (M6.mono (e7.le.trans (e8.le.trans (e9.le.trans e10.le)))).at_; ⟨oc, od, fd, osl, h⟩) (DenL.cons (Den.var (i := 0) hC rfl) (DenL.cons (Den.var (i := 2) hC rfl) DenL.nil)) rfl (fun _ => rfl) fun vs s11 H11 e11 y11 hvs11 => ?_
          obtain ⟨w3, w4, rfl, ⟨t5, rfl⟩, t6, rfl⟩ := hvs11.two
          have P11 : DP clos f ds n s11 H11 := by rw [← hcl]; exact DP.of_rel he y11 rfl rfl rfl
          refine ih j (by omega) _ s11 H11 L mid lo t5 t6 _ _ hr21 y11.st (M6.mono (e7.le.trans (e8.le.trans (e9.le.trans (e10.le.trans e11.le))))) P11 hlo fun t7 s12 H12 e12 => ?_
          refine add_op g _ s12 H12 v10 (.int lo t7) (.int (hi * 2 ^ ((mid - L) * n).toNat)) (.int lo) _ E' (.int (hi * 2 ^ ((mid - L) * n).toNat + lo)) (hr'.le h8) e12.st (VRel.mono (e11.le.trans e12.le) _ _ hv10) ⟨t7, rfl⟩ rfl fun v13 s13 H13 e13 hv13 => ?_
          obtain ⟨t14, rfl⟩ := hv13
          refine hq t14 s13 H13 (leaveD e1 hL hfc (ExtS.trans tr.1 tr.2 eA (.of (e7.trans (e8.trans (e9.trans (e10.trans (e11.trans (e12.trans e13)))))))))
        · cases hf3
end
section
variable {g : GC} {C : Cx}
theorem enterF {A : Around} {s : Shared} {H : HP} {a : Addr} {oc : Value} {od : Option Addr} {fd : FuncData} {osl : Array (Option Value)} {body : List Stmt} {bs : List (Str × PV)} {binds : List (Str × Value)} {vs : List Value} {Q : Value → Shared → Prop} {E : Value → Shared → Prop}
    (hr : Room A (C.lv + 1)) (st : St g s H)
    (hK : ∀ P, (K0 P).lookup a = some ⟨oc, od, .func fd, osl⟩) (hcode : ∀ P, codeIn (K0 P) fd.code fd.qualname = true)
    (hg : fd.globals = mainGlobals) (hcl : fd.closure = []) (hb : fd.builtins = builtinsNs) (hgen : fd.scope.isGenerator = false) (hco : fd.scope.isCoroutine = false) (hbody : fd.body = .stmts body) (hsc : fd.scope = C.sc)
    (hC : C.ok = true) (hfre : ∀ x ∈ C.ns, x.2 ≠ .fre)
    (hB : BindsTo s fd ⟨vs, []⟩ binds) (hn : binds.map (·.1) = bs.map (·.1)) (hv : VRelL H (bs.map (·.2)) (binds.map (·.2)))
    (hd1 : (bs.map (·.1)).Nodup) (hd2 : ∀ x ∈ bs.map (·.1), C.sc.names.lookup x = some .local ∨ C.sc.names.lookup x = some .cell)
    (h : ∀ env s1 (E' : Value → Shared → Prop), EnvOk C env → env.code = fd.code → env.qual = fd.qualname ++ Str.ofString ".<locals>." → Ext g s H s1 H → Rel g C env s1 H (initR C bs) none → (∀ s2 H2 oa2, ExtS g C env s1 H none s2 H2 oa2 → Ext g s H s2 H2) →
      wpAny (model g.prog g.w) (A.deeper env) (execs body env) (fun fl s' => Q (match fl with | .ret v => v | _ => .none) s') E' s1) :
    wpAny (model g.prog g.w) A (call (.ref a) vs) Q E s := by
  have ho : s.heap.get? a = some ⟨oc, od, .func fd, osl⟩ := kin_s st _ _ (hK _)
  have hcr : s.heap.CodeRec fd.code fd.qualname := codeRec_of (kin_s st) (hcode g.w.params)
  refine wpAny_call (codeAny_call_function hr.lim ho rfl hco hgen hbody hcr (hB _ _ _ _ ?_))
  rw [hcl, hg, hb]
  refine wpAny_newFunctionEnv_cells (by rw [hsc]; exact Cx.kind hC) (fun x hx => ?_) fun env henv s' X => ⟨?_, ?_⟩
  · have hm : x.1 ∈ bs.map (·.1) := by rw [← hn]; exact List.mem_map_of_mem hx
    rw [hsc]
    rcases hd2 x.1 hm with q | q
    · exact .inl q
    · obtain ⟨c, hc⟩ := cells_some (scope := C.sc) (s.heap.objs.size + 1) q
      exact .inr ⟨q, by rw [hc]; rfl⟩
  · exact (St.nolimit st).keeps X.toInCall.keep
  · have hval : ∀ x p, bs.lookup x = some p → p.val = true := fun x p hx => by
      obtain ⟨v, _, h2⟩ := lookup_rel hn hv hx; exact h2.val
    obtain ⟨he, e1, x1⟩ := enter_rel st hC (fun x hm => hfre _ hm rfl) hsc henv X hn hv hd1 hval
    have hel : env.locals = s.heap.objs.size := by rw [henv]; rfl
    refine codeAny_func (h env s' _ he (by rw [henv]; rfl) (by rw [henv]; rfl) e1 x1 fun s2 H2 oa2 e2 => ?_)
    exact leave_ext e1 (freshAt (by rw [hel]; exact Nat.le_refl _)) (fun x c hc => freshAt (by have := X.above x c (mem_of_lookup hc); rw [hel] at this; exact Nat.le_of_lt this)) e2
noncomputable def cx_d2i : Cx := { sc := scopeOf (fstmt 9), ns := [(Str.ofString "digits", VK.cel), (Str.ofString "n", VK.cel), (Str.ofString "inner", VK.cel)], mu := 3, lv := 28 }
theorem cx_d2i_ok : cx_d2i.ok = true := by decide +kernel
noncomputable def pInts : List PV → Option (List Int)
  | [] => some []
  | .int i :: r => (pInts r).map fun l => i :: l
  | _ :: _ => none
theorem pInts_eq : ∀ {xs : List PV} {l : List Int}, pInts xs = some l → xs = l.map .int
  | [], l, h => by cases h; rfl
  | .int i :: r, l, h => by
    obtain ⟨l', h1, rfl⟩ := Option.map_eq_some_iff.mp h
    rw [pInts_eq h1]; rfl
  | .undef :: _, _, h => by cases h
  | .none :: _, _, h => by cases h
  | .bool _ :: _, _, h => by cases h
  | .str _ :: _, _, h => by cases h
  | .list _ :: _, _, h => by cases h
  | .tup _ :: _, _, h => by cases h
  | .fn _ :: _, _, h => by cases h
  | .own _ :: _, _, h => by cases h
noncomputable def fn_d2i (ps : List PV) (ks : List (Str × PV)) : Option PV := match ps, ks with
  | [.list xs, .int n], [] => (pInts xs).bind fun ds => if ds.length ≤ 1000 then (if ds.isEmpty then some (.int 0) else (d2iP ds n 7 0 ds.length).map .int) else none
  | _, _ => none
theorem inner_binds {H : HP} {f : Addr} {fd : FuncData} {name qual : Str} {body : List Stmt} {scope : Scope} {clos : List (Str × Addr)} (M : FnMade g H f fd name qual (argsOf innerD) body scope clos) :
    ∀ s v1 v2, BindsTo s fd ⟨[v1, v2], []⟩ [(Str.ofString "L", v1), (Str.ofString "R", v2)] := by
  intro s v1 v2
  refine BindsTo.of_eq ?_
  obtain ⟨nm, qn, pr, df, kdf, bd, sc, gl, cl, _⟩ := fd
  have h1 := M.params
  have h2 := M.defs.1
  have h3 := M.defs.2
  dsimp only at h1 h2 h3
  subst h1 h2 h3
  rfl
theorem isTrue_list {e : Expr} {f : DE} {xs : List PV} (h1 : Den g C e f) (hi : ∀ env whole, isTrue e env whole = (do let v ← whole; standAt e.pos; holding [v] (truthy v)))
    {env : Env} {A : Around} {s : Shared} {H : HP} {ρ : List PV} {oa : Option Addr} {Q : Bool → Shared → Prop} {E : Value → Shared → Prop} (he : EnvOk C env) (hr : Room A C.lv) (y : Rel g C env s H ρ oa) (hf : f ρ = some (.list xs)) (hl : xs.length ≤ 1000)
    (h : ∀ s' H', Ext g s H s' H' → Q (!xs.isEmpty) s') : wpAny (model g.prog g.w) A (isTrue e env (eval e env)) Q E s := by
  refine wpAny_isTrue_value (h1.bind he hr y hf fun va s1 H1 e1 x1 hv => ?_) (hi env _)
  obtain ⟨a, o, its, n, rfl, ha, hc, hd, hvl⟩ := hv
  have hlen : its.size = xs.length := by have := hvl.length; rw [Array.length_toList] at this; exact this
  refine wpAny_truthy_list ⟨o, x1.st.keep _ _ ha, hc, n, hd⟩ (by omega) ?_
  have : its.isEmpty = xs.isEmpty := by
    cases xs with
    | nil => have : its = #[] := Array.eq_empty_of_size_eq_zero hlen
             rw [this]; rfl
    | cons p r => have : its ≠ #[] := fun q => by rw [q] at hlen; cases hlen
                  simpa using this
  rw [this]
  exact h _ H1 (e1.trans (.toks x1.st))
theorem ok_d2i (g : GC) : FnS g 63 29 fn_d2i := by
  intro A s H ps vs ks kvs Q E r hr st hps hkn hks hF hq
  unfold fn_d2i at hF
  split at hF
  · rename_i xs n
    obtain ⟨ds, hds, hF2⟩ := Option.bind_eq_some_iff.mp hF
    clear hF
    split at hF2
    · rename_i hlen
      have hxs := pInts_eq hds
      subst hxs
      have hk0 : kvs = [] := List.map_eq_nil_iff.mp hkn
      subst hk0
      obtain ⟨v, w, rfl, hv, tn, rfl⟩ := hps.two
      have hC := cx_d2i_ok
      obtain ⟨oc, od, fd, osl, k1, k2, k3, k4, k5, k6, k7, k8, k9, k10, c1, c2⟩ : ∃ oc od fd osl, (∀ P, (K0 P).lookup 63 = some ⟨oc, od, .func fd, osl⟩) ∧ (∀ P, codeIn (K0 P) fd.code fd.qualname = true) ∧ fd.globals = mainGlobals ∧ fd.closure = [] ∧ fd.builtins = builtinsNs ∧
          fd.scope.isGenerator = false ∧ fd.scope.isCoroutine = false ∧ fd.body = .stmts (bodyOf (fstmt 9)) ∧ fd.scope = cx_d2i.sc ∧ (∀ (s : Shared) (v1 v2 : Value), BindsTo s fd ⟨[v1, v2], []⟩ [(Str.ofString "digits", v1), (Str.ofString "n", v2)]) ∧ fd.code = .ref 62 ∧ fd.qualname = Str.ofString "_digits2int" :=
        ⟨_, _, _, _, fun P => by with_unfolding_all rfl, fun P => by kernel_rfl, by rfl, by rfl, by rfl, by rfl, by rfl, by with_unfolding_all rfl, by with_unfolding_all rfl, fun s v1 v2 => BindsTo.of_eq rfl, by rfl, by rfl⟩
      refine enterF (C := cx_d2i) (bs := [(Str.ofString "digits", .list (ds.map .int)), (Str.ofString "n", .int n)]) hr st k1 k2 k3 k4 k5 k6 k7 k8 k9 hC (by decide +kernel) (k10 s v (.int n tn)) rfl (VRelL.cons hv (VRelL.cons ⟨tn, rfl⟩ rfl)) (show [Str.ofString "digits", Str.ofString "n"].Nodup by decide +kernel)
        (show ∀ x ∈ [Str.ofString "digits", Str.ofString "n"], cx_d2i.sc.names.lookup x = some .local ∨ cx_d2i.sc.names.lookup x = some .cell by decide +kernel) fun env s1 E' he hec heq e1 y hlv => ?_
      have hini : initR cx_d2i [(Str.ofString "digits", .list (ds.map .int)), (Str.ofString "n", .int n)] = [.list (ds.map .int), .int n, .undef] := by rfl
      rw [hini] at y
      have hr' : Room (A.deeper env) cx_d2i.lv := hr.deeper
      have hfree : ∀ nm k, (nm, k) ∈ (scopeOf innerD).names → k = .free → ∃ c, env.cells.lookup nm = some c := by
        intro nm k hm hk
        have : nm = Str.ofString "digits" ∨ nm = Str.ofString "n" ∨ nm = Str.ofString "inner" := by
          have : ∀ x ∈ (scopeOf innerD).names, x.2 = .free → x.1 = Str.ofString "digits" ∨ x.1 = Str.ofString "n" ∨ x.1 = Str.ofString "inner" := by decide +kernel
          exact this _ hm hk
        rcases this with rfl | rfl | rfl
        · exact he.cel _ .cel (List.mem_of_getElem? (i := 0) rfl) (by decide)
        · exact he.cel _ .cel (List.mem_of_getElem? (i := 1) rfl) (by decide)
        · exact he.cel _ .cel (List.mem_of_getElem? (i := 2) rfl) (by decide)
      have hq2 : qualnameIn env (Str.ofString "inner") (Str.ofString "inner") = Str.ofString "_digits2int.<locals>.inner" := by
        unfold qualnameIn Env.kindOf
        rw [he.scope, heq, c2]
        decide +kernel
      have hcl := closureFor_cl hfree
      refine wpAny_execs_cons (nestDef_K rfl rfl rfl ?_)
      refine makeInner (P := 58) (c := 62) (line := 90) y.st (.inr rfl) ?_ ?_ (codeHd_62 y.st) (hec.trans c1) he.globals hcl rfl rfl fun f fd2 s2 H2 e2 M0 hnf => ?_
      · rw [hq2]; exact y.st.tab.2
      · intro H' h' k le ht
        rw [hq2] at ht
        exact ⟨y.st.tab.1.moves le fun o e => k 51 o (.inl rfl) (by decide) e, ht⟩
      have M : FnMade g H2 f fd2 (Str.ofString "inner") (qualnameIn env (Str.ofString "inner") (Str.ofString "inner")) (argsOf innerD) (bodyOf innerD) (scopeOf innerD) (clFrom env.cells (scopeOf innerD).names []) := M0
      clear M0
      have y2 := y.ext e2
      refine storeName_den (i := 2) hC he y2 rfl (by decide) (show VRel H2 (.fn f) (.ref f) from rfl) fun s3 e3 y3 _ => ?_
      have hcell : ∀ x c, (clFrom env.cells (scopeOf innerD).names []).lookup x = some c → env.cells.lookup x = some c := fun x c h => clFrom_lookup' hfree h
      have P : ∀ {s5 : Shared} {H5 : HP}, Rel g cx_d2i env s5 H5 [.list (ds.map .int), .int n, .fn f] none → DP (clFrom env.cells (scopeOf innerD).names []) f ds n s5 H5 := fun {s5 H5} y5 => by
        refine ⟨?_, ?_, ?_⟩
        · obtain ⟨c, h1, h2⟩ := clFrom_lookup hfree (x := Str.ofString "digits") (by decide +kernel)
          obtain ⟨_, vo, h3, h4⟩ := y5.ce 0 _ .cel c rfl (by decide) h2
          obtain ⟨v5, rfl, h6⟩ := h4
          exact ⟨c, v5, h1, h3, h6⟩
        · obtain ⟨c, h1, h2⟩ := clFrom_lookup hfree (x := Str.ofString "inner") (by decide +kernel)
          obtain ⟨_, vo, h3, h4⟩ := y5.ce 2 _ .cel c rfl (by decide) h2
          obtain ⟨v5, rfl, h6⟩ := h4
          have h6' : v5 = .ref f := h6
          subst h6'
          exact ⟨c, h1, h3⟩
        · obtain ⟨c, h1, h2⟩ := clFrom_lookup hfree (x := Str.ofString "n") (by decide +kernel)
          obtain ⟨_, vo, h3, h4⟩ := y5.ce 1 _ .cel c rfl (by decide) h2
          obtain ⟨v5, rfl, t5, rfl⟩ := h4
          exact ⟨c, t5, h1, h3⟩
      have tr := y.there he
      have eA : ExtS g cx_d2i env s1 H none s3 H2 none := ExtS.trans tr.1 tr.2 (.of e2) e3
      have y3' : Rel g cx_d2i env s3 H2 [.list (ds.map .int), .int n, .fn f] none := y3
      refine wpAny_execs_cons (wpAny_Return_some (wpAny_IfExp (isTrue_list (Den.var (i := 0) hC rfl) (fun _ _ => rfl) he hr' y3' rfl (by simpa using hlen) fun s4 H4 e4 => ?_)))
      have hem : (ds.map PV.int).isEmpty = ds.isEmpty := by cases ds <;> rfl
      rw [hem]
      cases hde : ds.isEmpty with
      | true =>
        rw [hde] at hF2
        simp only [if_true] at hF2
        cases hF2
        simp only [Bool.not_true, Bool.false_eq_true, if_false]
        refine (Den.int (g := g) (C := cx_d2i)) env _ s4 H4 _ none _ E' (.int 0) he hr' (y3'.ext e4) rfl fun v5 s5 H5 e5 hv5 => ?_
        exact hq v5 s5 H5 (hlv _ _ none (ExtS.trans tr.1 tr.2 eA (.of (e4.trans e5)))) hv5
      | false =>
        rw [hde] at hF2
        simp only [Bool.false_eq_true, if_false] at hF2
        obtain ⟨z, hz, hF3⟩ := Option.map_eq_some_iff.mp hF2
        subst hF3
        simp only [Bool.not_false, if_true]
        have M4 := (M.mono e3.le).mono e4.le
        have y4 := y3'.ext e4
        refine callDyn (i := 2) (l := [.int 0, .int ds.length]) hC rfl he hr' y4 rfl (let ⟨oc, od, osl, h⟩ := M4.at_; ⟨oc, od, fd2, osl, h⟩)
          (DenL.cons Den.int (DenL.cons (Den.callB hC (by kernel_rfl) (fun P => by kernel_rfl) (by kernel_rfl) (len_op g) (DenL.cons (Den.var (i := 0) hC rfl) DenL.nil)) DenL.nil)) ?_ (fun _ => rfl) fun vs s5 H5 e5 y5 hvs => ?_
        · have hd0 : dVar 0 [PV.list (List.map PV.int ds), PV.int n, PV.fn f] = some (.list (ds.map .int)) := rfl
          rw [hd0]
          simp only [Option.bind_some, pLen, List.length_map]
          rw [if_pos (by omega)]
          rfl
        · obtain ⟨w1, w2, rfl, ⟨t1, rfl⟩, t2, rfl⟩ := hvs.two
          have hinner := inner_d (g := g) (f := f) (fd := fd2) (clos := clFrom env.cells (scopeOf innerD).names []) (params := argsOf innerD) (name := Str.ofString "inner") (qual := qualnameIn env (Str.ofString "inner") (Str.ofString "inner")) (n := n) (ds := ds) (by omega) (fun x y c h1 h2 => he.apart x y c (hcell x c h1) (hcell y c h2)) (inner_binds M) 7
          refine hinner _ s5 H5 0 ds.length z t1 t2 _ _ (hr'.le (by show 21 + 7 ≤ 28; omega)) y5.st (M4.mono e5.le) (P y5) hz fun t6 s6 H6 e6 => ?_
          exact hq _ s6 H6 (hlv _ _ none (ExtS.trans tr.1 tr.2 eA (.of (e4.trans (e5.trans e6))))) ⟨t6, rfl⟩
    · cases hF2
  · cases hF
end
section
variable {g : GC} {C : Cx}
theorem SlotV.lift {H : HP} {h : Heap} {oa : Option Addr} {p : PV} {vo : Option Value} (x : SlotV H h none p vo) : SlotV H h oa p vo := by
  cases p with
  | own zs => obtain ⟨b, its2, h5, h6, _⟩ := x; cases h6
  | undef => trivial
  | none => exact x
  | bool _ => exact x
  | int _ => exact x
  | str _ => exact x
  | list _ => exact x
  | tup _ => exact x
  | fn _ => exact x
theorem Rel.lift {env : Env} {s : Shared} {H : HP} {ρ : List PV} {D : Addr} {its : Array Value} (y : Rel g C env s H ρ none) (hp : s.heap.PlainList D its) (hH : H D = none) : Rel g C env s H ρ (some D) := by
  obtain ⟨m, hn, hsl⟩ := y.ns
  exact ⟨y.st, y.len, y.fz, ⟨m, hn, fun i z hi => (hsl i z hi).lift⟩, y.ce, y.mu, fun a e => by cases e; exact ⟨hH, its, hp⟩⟩
theorem SlotV.step {H H' : HP} {h h' : Heap} {oa : Option Addr} {p : PV} {vo : Option Value} (le : HLe H H') (hno : ∀ zs, p ≠ .own zs) (x : SlotV H h oa p vo) : SlotV H' h' oa p vo := by
  cases p with
  | own zs => exact absurd rfl (hno zs)
  | undef => trivial
  | none => obtain ⟨v, a, b⟩ := x; exact ⟨v, a, VRel.mono le _ _ b⟩
  | bool _ => obtain ⟨v, a, b⟩ := x; exact ⟨v, a, VRel.mono le _ _ b⟩
  | int _ => obtain ⟨v, a, b⟩ := x; exact ⟨v, a, VRel.mono le _ _ b⟩
  | str _ => obtain ⟨v, a, b⟩ := x; exact ⟨v, a, VRel.mono le _ _ b⟩
  | list _ => obtain ⟨v, a, b⟩ := x; exact ⟨v, a, VRel.mono le _ _ b⟩
  | tup _ => obtain ⟨v, a, b⟩ := x; exact ⟨v, a, VRel.mono le _ _ b⟩
  | fn _ => obtain ⟨v, a, b⟩ := x; exact ⟨v, a, VRel.mono le _ _ b⟩
theorem ExtS.ofO {env : Env} {s s' : Shared} {H H' : HP} {D : Addr} (e : ExtO g D s H s' H') : ExtS g C env s H (some D) s' H' (some D) :=
  ⟨e.st, e.le, fun a o ht h hn => e.old a o ht (fun q => hn (.inr (.inr (q ▸ rfl)))) h, e.there, fun a o h => (e.fresh a o h).imp id .inl, fun _ h => .inl h, e.same, e.gens⟩
theorem Rel.extO {env : Env} {s s' : Shared} {H H' : HP} {ρ : List PV} {D : Addr} {its its' : Array Value} (he : EnvOk C env) (y : Rel g C env s H ρ (some D)) (hno : ∀ i zs, ρ.getD i .undef ≠ .own zs) (hp : s.heap.PlainList D its) (e : ExtO g D s H s' H') (hp' : s'.heap.PlainList D its') (hH' : H' D = none) :
    Rel g C env s' H' ρ (some D) := by
  obtain ⟨hne, hcell⟩ := own_ne he y hp
  have stays : ∀ a o, s.heap.get? a = some o → H a = none → H' a = none := fun a o ho hH => by
    cases q : H' a with
    | none => rfl
    | some o' => rcases e.fresh a o' q with r | r
                 · rw [hH] at r; cases r
                 · rw [ho] at r; cases r
  refine ⟨e.st, y.len, ?_, ?_, fun i z k c hi hk hc => ?_, y.mu, fun b q => ?_⟩
  · obtain ⟨m, ⟨o, _, _, ho, _⟩, _⟩ := y.ns; exact stays _ o ho y.fz
  · obtain ⟨m, hn, hsl⟩ := y.ns
    have hnt := Heap.Ns.notTab y.st hn
    exact ⟨m, hn.at' fun o ho => e.old _ o hnt (Ne.symm hne) ho, fun i z hi => (hsl i z hi).step e.le (hno i)⟩
  · obtain ⟨h1, vo, h2, h3⟩ := y.ce i z k c hi hk hc
    have hnt := Heap.IsCell.notTab y.st h2
    obtain ⟨o, ho, hd⟩ := h2
    exact ⟨fun q => stays c o ho (h1 q), vo, ⟨o, e.old _ _ hnt (hcell z c k i hi hk hc) ho, hd⟩, h3.step e.le (hno i)⟩
  · cases q; exact ⟨hH', its', hp'⟩
theorem leaveO {env : Env} {s s1 s2 : Shared} {H H2 : HP} {D : Addr} {oa2 : Option Addr} (e1 : Ext g s H s1 H) (hL : s.heap.get? env.locals = none) (hfc : ∀ x ∈ C.ns, x.2 ≠ .cel) (e2 : ExtS g C env s1 H (some D) s2 H2 oa2) (hD : H2 D = none) : ExtO g D s H s2 H2 := by
  refine ⟨e2.st, e2.le, fun a o ht hne h => e2.old a o ht (e1.old a o ht h) fun q => ?_, fun a o h => ?_, fun a o h => ?_, ?_, fun i x h => e2.gens i x (e1.gens i x h)⟩
  · rcases q with q | ⟨x, hx, q⟩ | q
    · rw [q, hL] at h; cases h
    · exact hfc _ hx rfl
    · cases q; exact hne rfl
  · rcases e2.fresh a o h with q | q | q
    · exact .inl q
    · right
      cases r : s.heap.get? a with
      | none => rfl
      | some o' =>
        by_cases t : isTab a
        · obtain ⟨o2, h2, _⟩ := tab_some e1.st.tab t; rw [h2] at q; cases q
        · rw [e1.old a o' t r] at q; cases q
    · cases q; rw [hD] at h; cases h
  · obtain ⟨o1, h1⟩ := (ExtS.of (C := C) (env := env) (oa := none) e1).there a o h
    exact e2.there a o1 h1
  · obtain ⟨h1, g1, t1, rfl⟩ := e1.same
    obtain ⟨h2, g2, t2, rfl⟩ := e2.same
    exact ⟨h2, g2, t2, rfl⟩
theorem apart_step {env : Env} {s : Shared} {H : HP} {ρ : List PV} {D : Addr} {h' : Heap} {its its' : Array Value} (he : EnvOk C env) (y : Rel g C env s H ρ (some D)) (hp : s.heap.PlainList D its) (hp' : h'.PlainList D its') (hsb : Heap.SameBut D s.heap h') {tk : Tok} :
    ExtO g D s H { s with heap := h', toks := tk } H := by
  obtain ⟨hHa, _⟩ := y.oall D rfl
  have hnt := Heap.PlainList.notTab y.st hp
  obtain ⟨n', ho'⟩ := hp'
  have st : St g { s with heap := h', toks := tk } H := ⟨fun b o e => (hsb.2 b fun q => by rw [q, hHa] at e; cases e).trans (y.st.keep b o e), y.st.base, y.st.tab.moves (.refl _) (fun b o t e => (hsb.2 b fun q => hnt (q ▸ t)).trans e), y.st.notab, y.st.bare⟩
  refine ⟨st, .refl _, fun b o _ hn e => (hsb.2 b hn).trans e, fun b o e => .inl e, fun b o e => ?_, ⟨_, _, _, rfl⟩, fun _ _ e => e⟩
  by_cases q : b = D
  · subst q; exact ⟨_, ho'⟩
  · exact ⟨o, (hsb.2 b q).trans e⟩
end
noncomputable def innerI : Stmt := nthS (bodyOf (fstmt 8)) 1
noncomputable def cxI (k : Nat) : Cx := { sc := scopeOf innerI, ns := [(Str.ofString "x", VK.loc), (Str.ofString "L", VK.loc), (Str.ofString "R", VK.loc), (Str.ofString "mid", VK.loc), (Str.ofString "shift", VK.loc), (Str.ofString "upper", VK.loc), (Str.ofString "lower", VK.loc), (Str.ofString "a_digits", VK.fre), (Str.ofString "inner", VK.fre), (Str.ofString "n", VK.fre)], mu := 10, lv := 20 + k }
theorem cxI_ok (k : Nat) : (cxI k).ok = true := by
  show (cxI 0).ok = true
  decide +kernel
noncomputable def i2dP (n : Int) : Nat → List PV → Int → Int → Int → Option (List PV)
  | 0, xs, x, L, R => if (L + 1 == R) = true ∧ 0 ≤ L ∧ L < xs.length ∧ L < 2 ^ 60 then some (xs.set L.toNat (.int x)) else none
  | k + 1, xs, x, L, R => if (L + 1 == R) = true then (if 0 ≤ L ∧ L < xs.length ∧ L < 2 ^ 60 then some (xs.set L.toNat (.int x)) else none) else
      if 0 ≤ ((L + R).fdiv (2 ^ 1) - L) * n ∧ ((L + R).fdiv (2 ^ 1) - L) * n ≤ 1000000 ∧ isMid ((L + R).fdiv (2 ^ 1) - L) = true ∧ isMid n = true ∧ isMid (x.fdiv (2 ^ (((L + R).fdiv (2 ^ 1) - L) * n).toNat)) = true then
        (i2dP n k xs (Builtin.bitXor x (x.fdiv (2 ^ (((L + R).fdiv (2 ^ 1) - L) * n).toNat) * 2 ^ (((L + R).fdiv (2 ^ 1) - L) * n).toNat)) L ((L + R).fdiv (2 ^ 1))).bind fun xs1 =>
          i2dP n k xs1 (x.fdiv (2 ^ (((L + R).fdiv (2 ^ 1) - L) * n).toNat)) ((L + R).fdiv (2 ^ 1)) R
      else none
structure IP (clos : List (Str × Addr)) (f D : Addr) (n : Int) (s : Shared) : Prop where
  d : ∃ c, clos.lookup (Str.ofString "a_digits") = some c ∧ s.heap.IsCell c (some (.ref D))
  i : ∃ c, clos.lookup (Str.ofString "inner") = some c ∧ s.heap.IsCell c (some (.ref f))
  n : ∃ c t, clos.lookup (Str.ofString "n") = some c ∧ s.heap.IsCell c (some (.int n t))
section
variable {g : GC}
theorem IP.of_rel {k : Nat} {env : Env} {s : Shared} {H : HP} {ρ : List PV} {f D : Addr} {n : Int} {oa : Option Addr} (he : EnvOk (cxI k) env) (y : Rel g (cxI k) env s H ρ oa) (h4 : ρ.getD 7 .undef = .fn D) (h5 : ρ.getD 8 .undef = .fn f) (h6 : ρ.getD 9 .undef = .int n) : IP env.cells f D n s := by
  refine ⟨?_, ?_, ?_⟩
  · obtain ⟨c, hc⟩ := he.cel (Str.ofString "a_digits") .fre (List.mem_of_getElem? (i := 7) rfl) (by decide)
    obtain ⟨_, vo, h1, h2⟩ := y.ce 7 _ .fre c rfl (by decide) hc
    rw [h4] at h2
    obtain ⟨v, rfl, hv⟩ := h2
    have hv' : v = .ref D := hv
    subst hv'
    exact ⟨c, hc, h1⟩
  · obtain ⟨c, hc⟩ := he.cel (Str.ofString "inner") .fre (List.mem_of_getElem? (i := 8) rfl) (by decide)
    obtain ⟨_, vo, h1, h2⟩ := y.ce 8 _ .fre c rfl (by decide) hc
    rw [h5] at h2
    obtain ⟨v, rfl, hv⟩ := h2
    have hv' : v = .ref f := hv
    subst hv'
    exact ⟨c, hc, h1⟩
  · obtain ⟨c, hc⟩ := he.cel (Str.ofString "n") .fre (List.mem_of_getElem? (i := 9) rfl) (by decide)
    obtain ⟨_, vo, h1, h2⟩ := y.ce 9 _ .fre c rfl (by decide) hc
    rw [h6] at h2
    obtain ⟨v, rfl, t, rfl⟩ := h2
    exact ⟨c, t, hc, h1⟩
end
noncomputable def noOwnL (ρ : List PV) : Bool := ρ.all fun p => match p with | .own _ => false | _ => true
theorem noOwnL_at {ρ : List PV} (h : noOwnL ρ = true) (i : Nat) (zs : List PV) : ρ.getD i .undef ≠ .own zs := fun q => by
  unfold noOwnL at h
  cases hq : ρ[i]? with
  | none => simp [List.getD, hq] at q
  | some p =>
    have := List.all_eq_true.mp h p (List.mem_of_getElem? hq)
    simp only [List.getD, hq, Option.getD_some] at q
    subst q
    cases this
section
variable {g : GC}
theorem i2dP_leaf {n : Int} {k : Nat} {xs xs' : List PV} {x L R : Int} (hc : (L + 1 == R) = true) (hf : i2dP n k xs x L R = some xs') : (0 ≤ L ∧ L < xs.length ∧ L < 2 ^ 60) ∧ xs' = xs.set L.toNat (.int x) := by
  cases k with
  | zero =>
    unfold i2dP at hf
    split at hf
    · rename_i h; exact ⟨h.2, (Option.some.inj hf).symm⟩
    · exact nomatch hf
  | succ k =>
    unfold i2dP at hf
    rw [if_pos hc] at hf
    split at hf
    · rename_i h; exact ⟨h, (Option.some.inj hf).symm⟩
    · exact nomatch hf
theorem i2dP_node {n : Int} {k : Nat} {xs xs' : List PV} {x L R : Int} (hc : (L + 1 == R) = false) (hf : i2dP n k xs x L R = some xs') : ∃ j, k = j + 1 ∧ (if 0 ≤ ((L + R).fdiv (2 ^ 1) - L) * n ∧ ((L + R).fdiv (2 ^ 1) - L) * n ≤ 1000000 ∧ isMid ((L + R).fdiv (2 ^ 1) - L) = true ∧ isMid n = true ∧ isMid (x.fdiv (2 ^ (((L + R).fdiv (2 ^ 1) - L) * n).toNat)) = true then
        (i2dP n j xs (Builtin.bitXor x (x.fdiv (2 ^ (((L + R).fdiv (2 ^ 1) - L) * n).toNat) * 2 ^ (((L + R).fdiv (2 ^ 1) - L) * n).toNat)) L ((L + R).fdiv (2 ^ 1))).bind fun xs1 =>
          i2dP n j xs1 (x.fdiv (2 ^ (((L + R).fdiv (2 ^ 1) - L) * n).toNat)) ((L + R).fdiv (2 ^ 1)) R
      else none) = some xs' := by
  have hn : ¬ (L + 1 == R) = true := by rw [hc]; decide
  cases k with
  | zero =>
    unfold i2dP at hf
    rw [if_neg fun h => hn h.1] at hf
    exact nomatch hf
  | succ k =>
    unfold i2dP at hf
    rw [if_neg hn] at hf
    exact ⟨k, rfl, hf⟩
theorem inner_i {f D : Addr} {fd : FuncData} {clos : List (Str × Addr)} {n : Int} (hap : ∀ x y c, clos.lookup x = some c → clos.lookup y = some c → x = y) {params : Arguments} {name qual : Str}
    (hB : ∀ s v1 v2 v3, BindsTo s fd ⟨[v1, v2, v3], []⟩ [(Str.ofString "x", v1), (Str.ofString "L", v2), (Str.ofString "R", v3)]) :
    ∀ (k : Nat) (A : Around) (s : Shared) (H : HP) (xs xs' : List PV) (its : Array Value) (x L R : Int) (tx tL tR : Tok) (Q : Value → Shared → Prop) (E : Value → Shared → Prop), Room A (21 + k) → St g s H → FnMade g H f fd name qual params (bodyOf innerI) (scopeOf innerI) clos → IP clos f D n s →
      s.heap.PlainList D its → VRelL H xs its.toList → H D = none → i2dP n k xs x L R = some xs' → (∀ s' H' its', ExtO g D s H s' H' → s'.heap.PlainList D its' → VRelL H' xs' its'.toList → H' D = none → Q .none s') → wpAny (model g.prog g.w) A (call (.ref f) [.int x tx, .int L tL, .int R tR]) Q E s := by
  intro k
  induction k using Nat.strongRecOn with
  | _ k ih =>
    intro A s H xs xs' its x L R tx tL tR Q E hr st M P hpl hxs hHD hf hq
    have hC := cxI_ok k
    have h8 : 8 ≤ (cxI k).lv := by show 8 ≤ 20 + k; omega
    have hfc : ∀ x ∈ (cxI k).ns, x.2 ≠ .cel := by show ∀ x ∈ (cxI 0).ns, x.2 ≠ .cel; decide +kernel
    refine enterD (C := cxI k) (xs := [Str.ofString "x", Str.ofString "L", Str.ofString "R"]) (ps := [.int x, .int L, .int R]) (ρ0 := [.int x, .int L, .int R, .undef, .undef, .undef, .undef, .fn D, .fn f, .int n]) M (hr.le (by show 20 + k + 1 ≤ 21 + k; omega)) st hC (by show ∀ x ∈ (scopeOf innerI).names, x.2 ≠ .cell; decide +kernel) (by show (scopeOf innerI).isGenerator = false; kernel_rfl) (by show (scopeOf innerI).isCoroutine = false; kernel_rfl) hfc (by decide +kernel) (by show ∀ x ∈ [Str.ofString "x", Str.ofString "L", Str.ofString "R"], (scopeOf innerI).names.lookup x = some .local; decide +kernel) (hB s _ _ _) rfl
      (VRelL.cons ⟨tx, rfl⟩ (VRelL.cons ⟨tL, rfl⟩ (VRelL.cons ⟨tR, rfl⟩ rfl))) hap rfl (fun i x hi => ?_) (fun i x hi => ?_) fun env s1 E' he e1 y0 hL hcl => ?_
    · match i, hi with
      | 0, hi => cases hi; rfl
      | 1, hi => cases hi; rfl
      | 2, hi => cases hi; rfl
      | 3, hi => cases hi; rfl
      | 4, hi => cases hi; rfl
      | 5, hi => cases hi; rfl
      | 6, hi => cases hi; rfl
      | 7, hi => cases hi
      | 8, hi => cases hi
      | 9, hi => cases hi
      | j + 10, hi => cases hi
    · match i, hi with
      | 0, hi => cases hi
      | 1, hi => cases hi
      | 2, hi => cases hi
      | 3, hi => cases hi
      | 4, hi => cases hi
      | 5, hi => cases hi
      | 6, hi => cases hi
      | 7, hi => cases hi; obtain ⟨c, h1, h2⟩ := P.d; exact ⟨c, _, h1, h2, ⟨_, rfl, rfl⟩, fun zs h => by cases h⟩
      | 8, hi => cases hi; obtain ⟨c, h1, h2⟩ := P.i; exact ⟨c, _, h1, h2, ⟨_, rfl, rfl⟩, fun zs h => by cases h⟩
      | 9, hi => cases hi; obtain ⟨c, t, h1, h2⟩ := P.n; exact ⟨c, _, h1, h2, ⟨_, rfl, t, rfl⟩, fun zs h => by cases h⟩
      | j + 10, hi => cases hi
    have hr' : Room (A.deeper env) (cxI k).lv := (hr.le (show (cxI k).lv + 1 ≤ 21 + k by show 20 + k + 1 ≤ 21 + k; omega)).deeper
    have hpl1 : s1.heap.PlainList D its := KeepO.ext (oa := some D) st e1 D its rfl hpl
    have y := y0.lift hpl1 hHD
    clear y0
    have tr := y.there he
    refine wpAny_execs_cons (wpAny_If ((DenB.cmp h8 (Den.bin h8 (Den.var (i := 1) hC rfl) Den.int (add_op g)) (Den.var (i := 2) hC rfl) (eq_op g)) env _ s1 H _ (some D) _ E' (L + 1 == R) he hr' y rfl fun s2 H2 e2 => ?_))
    have y2 := y.ext e2
    have hpl2 : s2.heap.PlainList D its := KeepO.ext (oa := some D) y.st e2 D its rfl hpl1
    have hHD2 := (y2.oall D rfl).1
    have hxs2 := VRelL.mono e2.le _ _ hxs
    cases hc : (L + 1 == R) with
    | true =>
        obtain ⟨h0, hx'⟩ := i2dP_leaf hc hf
        simp only [if_true]
        refine wpAny_execs_cons (wpAny_Assign_Subscript ((Den.var (g := g) (i := 0) hC rfl) env _ s2 H2 _ (some D) _ E' (.int x) he hr' y2 rfl fun vx s3 H3 e3 hvx => ?_) (by rfl))
        have y3 := y2.ext e3
        refine (Den.var (g := g) (i := 7) hC rfl) env _ s3 H3 _ (some D) _ E' (.fn D) he hr' y3 rfl fun vD s4 H4 e4 hvD => ?_
        have y4 := y3.ext e4
        have hvD' : vD = .ref D := hvD
        subst hvD'
        refine (Den.var (g := g) (i := 1) hC rfl) env _ s4 H4 _ (some D) _ E' (.int L) he hr' y4 rfl fun vL s5 H5 e5 hvL => ?_
        have y5 := y4.ext e5
        obtain ⟨tL5, rfl⟩ := hvL
        have e25 := e2.trans (e3.trans (e4.trans e5))
        have hpl5 : s5.heap.PlainList D its := KeepO.ext (oa := some D) y.st e25 D its rfl hpl1
        have hsz : its.size = xs.length := by have := hxs.length; rw [Array.length_toList] at this; exact this
        obtain ⟨n5, ho5⟩ := id hpl5
        refine setItem_plain ho5 h0.1 (by omega) (by rw [hsz]; exact h0.2.1) fun h' hp' hsb => ?_
        have eo := apart_step (tk := s5.toks) he y5 hpl5 hp' hsb
        refine wpAny_execs_cons (wpAny_Return_none ?_)
        have hHD5 := (y5.oall D rfl).1
        refine hq _ H5 _ (leaveO e1 hL hfc (ExtS.trans tr.1 tr.2 (.of e25) (ExtS.ofO eo)) hHD5) hp' ?_ hHD5
        rw [Array.toList_setIfInBounds]
        rw [hx']
        exact set_rel (VRel.mono (e4.trans e5).le _ _ hvx) L.toNat (VRelL.mono e25.le _ _ hxs)
    | false =>
      obtain ⟨j, hk, hf⟩ := i2dP_node hc hf
      simp only [Bool.false_eq_true, if_false]
      split at hf
      · rename_i hcond
        generalize hmid : (L + R).fdiv (2 ^ 1) = mid at hcond hf
        generalize hsh : (mid - L) * n = sh at hcond hf
        generalize hup : x.fdiv (2 ^ sh.toNat) = up at hcond hf
        generalize hlow : Builtin.bitXor x (up * 2 ^ sh.toNat) = low at hf
        obtain ⟨xs1, hxs1, hf2⟩ := Option.bind_eq_some_iff.mp hf
        refine wpAny_execs_nil ?_
        refine wpAny_execs_cons (wpAny_Assign_Name ((Den.bin h8 (Den.bin h8 (Den.var (i := 1) hC rfl) (Den.var (i := 2) hC rfl) (add_op g)) Den.int (shr_op g)) env _ s2 H2 _ (some D) _ E' (.int mid) he hr' y2 (by rw [← hmid]; rfl) fun v3 s3 H3 e3 hv3 => storeName_den (i := 3) hC he (y2.ext e3) rfl (by decide) hv3 fun s4 e4 y4 k4 => ?_))
        refine wpAny_execs_cons (wpAny_Assign_Name ((Den.bin h8 (Den.bin h8 (Den.var (i := 3) hC rfl) (Den.var (i := 1) hC rfl) (sub_op g)) (Den.var (i := 9) hC rfl) (mul_op g)) env _ s4 H3 _ (some D) _ E' (.int sh) he hr' y4
          (by show pMul (.int (mid - L)) (.int n) = _; unfold pMul; dsimp only; rw [hcond.2.2.1, hcond.2.2.2.1, hsh]; rfl) fun v5 s5 H5 e5 hv5 => storeName_den (i := 4) hC he (y4.ext e5) rfl (by decide) hv5 fun s6 e6 y6 k6 => ?_))
        refine wpAny_execs_cons (wpAny_Assign_Name ((Den.bin h8 (Den.var (i := 0) hC rfl) (Den.var (i := 4) hC rfl) (shr_op g)) env _ s6 H5 _ (some D) _ E' (.int up) he hr' y6
          (by show pShr (.int x) (.int sh) = _; unfold pShr; dsimp only; rw [if_pos hcond.1, hup]) fun v7 s7 H7 e7 hv7 => storeName_den (i := 5) hC he (y6.ext e7) rfl (by decide) hv7 fun s8 e8 y8 k8 => ?_))
        refine wpAny_execs_cons (wpAny_Assign_Name ((Den.bin h8 (Den.var (i := 0) hC rfl) (Den.bin h8 (Den.var (i := 5) hC rfl) (Den.var (i := 4) hC rfl) (shl_op g)) (xor_op g)) env _ s8 H7 _ (some D) _ E' (.int low) he hr' y8
          (by show (pShl (.int up) (.int sh)).bind _ = _; unfold pShl; dsimp only; rw [if_pos ⟨hcond.1, hcond.2.1, hcond.2.2.2.2⟩]; rw [Option.bind_some]; show some (PV.int (Builtin.bitXor x (up * 2 ^ sh.toNat))) = _; rw [hlow]) fun v9 s9 H9 e9 hv9 => storeName_den (i := 6) hC he (y8.ext e9) rfl (by decide) hv9 fun sa ea ya ka => ?_))
        have eA : ExtS g (cxI k) env s1 H (some D) sa H9 (some D) := ExtS.trans tr.1 tr.2 (.of (e2.trans e3)) (ExtS.trans ((y2.ext e3).there he).1 ((y2.ext e3).there he).2 e4 (ExtS.trans (y4.there he).1 (y4.there he).2 (.of e5) (ExtS.trans ((y4.ext e5).there he).1 ((y4.ext e5).there he).2 e6 (ExtS.trans (y6.there he).1 (y6.there he).2 (.of e7) (ExtS.trans ((y6.ext e7).there he).1 ((y6.ext e7).there he).2 e8 (ExtS.trans (y8.there he).1 (y8.there he).2 (.of e9) ea))))))
        have kA : KeepO (some D) s2 sa := (KeepO.ext y2.st e3).trans (k4.trans ((KeepO.ext y4.st e5).trans (k6.trans ((KeepO.ext y6.st e7).trans (k8.trans ((KeepO.ext y8.st e9).trans ka))))))
        have leA : HLe H2 H9 := e3.le.trans (e5.le.trans (e7.le.trans e9.le))
        have hpla := kA D its rfl hpl2
        have Ma := M.mono eA.le
        refine wpAny_execs_cons (wpAny_Expr_any ?_ (interactive_no hC he) rfl)
        refine callDyn (i := 8) (l := [.int low, .int L, .int mid]) hC rfl he hr' ya rfl (let ⟨oc, od, osl, h⟩ := Ma.at_; ⟨oc, od, fd, osl, h⟩) (DenL.cons (Den.var (i := 6) hC rfl) (DenL.cons (Den.var (i := 1) hC rfl) (DenL.cons (Den.var (i := 3) hC rfl) DenL.nil))) rfl (fun _ => rfl) fun vs sb Hb eb yb hvs => ?_
        obtain ⟨w1, wr, rfl, ⟨t1, rfl⟩, w2, wr2, rfl, ⟨t2, rfl⟩, w3, wr3, rfl, ⟨t3, rfl⟩, rfl⟩ := hvs
        have hplb : sb.heap.PlainList D its := KeepO.ext (oa := some D) ya.st eb D its rfl hpla
        have Pb : IP clos f D n sb := by rw [← hcl]; exact IP.of_rel he yb rfl rfl rfl
        have hr21 : Room (A.deeper env) (21 + j) := hr'.le (by show 21 + j ≤ 20 + k; omega)
        refine ih j (by omega) _ sb Hb xs xs1 its low L mid t1 t2 t3 _ _ hr21 yb.st (Ma.mono eb.le) Pb hplb (VRelL.mono (leA.trans eb.le) _ _ hxs2) (yb.oall D rfl).1 hxs1 fun sc Hc itc ec hplc hxsc hHc => ?_
        have yc := Rel.extO he yb (noOwnL_at rfl) hplb ec hplc hHc
        have Mc := (Ma.mono eb.le).mono ec.le
        refine wpAny_execs_cons (wpAny_Expr_any ?_ (interactive_no hC he) rfl)
        refine callDyn (i := 8) (l := [.int up, .int mid, .int R]) hC rfl he hr' yc rfl (let ⟨oc, od, osl, h⟩ := Mc.at_; ⟨oc, od, fd, osl, h⟩) (DenL.cons (Den.var (i := 5) hC rfl) (DenL.cons (Den.var (i := 3) hC rfl) (DenL.cons (Den.var (i := 2) hC rfl) DenL.nil))) rfl (fun _ => rfl) fun vs sd Hd ed yd hvs => ?_
        obtain ⟨w1, wr, rfl, ⟨t4, rfl⟩, w2, wr2, rfl, ⟨t5, rfl⟩, w3, wr3, rfl, ⟨t6, rfl⟩, rfl⟩ := hvs
        have hpld : sd.heap.PlainList D itc := KeepO.ext (oa := some D) yc.st ed D itc rfl hplc
        have Pd : IP clos f D n sd := by rw [← hcl]; exact IP.of_rel he yd rfl rfl rfl
        refine ih j (by omega) _ sd Hd xs1 xs' itc up mid R t4 t5 t6 _ _ hr21 yd.st (Mc.mono ed.le) Pd hpld (VRelL.mono ed.le _ _ hxsc) (yd.oall D rfl).1 hf2 fun se He ite ee hple hxse hHe => ?_
        refine wpAny_execs_nil (hq se He ite (leaveO e1 hL hfc (ExtS.trans tr.1 tr.2 eA (ExtS.trans (ya.there he).1 (ya.there he).2 (.of eb) (ExtS.trans (yb.there he).1 (yb.there he).2 (.ofO ec) (ExtS.trans (yc.there he).1 (yc.there he).2 (.of ed) (.ofO ee))))) hHe) hple hxse hHe)
      · cases hf
end
section
variable {g : GC} {C : Cx}
theorem freezeX {env : Env} {s : Shared} {H : HP} {D : Addr} {its : Array Value} {n : Nat} (st : St g s H) (hHa : H D = none) (ho : s.heap.get? D = some { cls := .type "list", data := .seq its n }) :
    ExtS g C env s H (some D) s (hput H D { cls := .type "list", data := .seq its n }) none := by
  have hnt := Heap.PlainList.notTab st ⟨n, ho⟩
  have hle := hput_le (o := { cls := .type "list", data := .seq its n }) hHa
  have st : St g s (hput H D { cls := .type "list", data := .seq its n }) := by
    refine ⟨fun b o e => ?_, fun b o ht e => hle _ _ (st.base b o ht e), st.tab.moves hle (fun _ _ _ e => e), fun b t => ?_, st.bare⟩
    · unfold hput at e
      split at e
      · rename_i q; subst q; cases e; exact ho
      · exact st.keep b o e
    · show (if b = D then _ else H b) = Option.none
      rw [if_neg (fun q : b = D => hnt (q ▸ t))]; exact st.notab b t
  refine ⟨st, hle, fun _ _ _ e _ => e, fun _ o e => ⟨o, e⟩, fun b o e => ?_, fun _ e => (by cases e), ⟨_, _, _, rfl⟩, fun _ _ e => e⟩
  unfold hput at e
  split at e
  · rename_i q; exact .inr (.inr (q ▸ rfl))
  · exact .inl e
theorem ExtS.oaTo {env : Env} {s s' : Shared} {H H' : HP} {D : Addr} (e : ExtS g C env s H none s' H' none) (h : s.heap.get? D = none) : ExtS g C env s H none s' H' (some D) :=
  ⟨e.st, e.le, e.old, e.there, e.fresh, fun a q => by cases q; exact .inr h, e.same, e.gens⟩
theorem lenApart {x : Str} {i : Nat} {k : VK} {p p2 pos : Pos} {env : Env} {A : Around} {s : Shared} {H : HP} {ρ : List PV} {D : Addr} {its : Array Value} {xs : List PV} {Q : Value → Shared → Prop} {E : Value → Shared → Prop}
    (hC : C.ok = true) (hk : C.sc.names.lookup (Str.ofString "len") = some .globalImplicit) (hlv : 20 ≤ C.lv) (hi : C.ns[i]? = some (x, k)) (he : EnvOk C env) (hr : Room A C.lv) (y : Rel g C env s H ρ (some D)) (hv : ρ.getD i .undef = .fn D) (hp : s.heap.PlainList D its) (hx : VRelL H xs its.toList) (hl : xs.length ≤ 1000)
    (h : ∀ t s' H', Ext g s H s' H' → Q (.int xs.length t) s') : wpAny (model g.prog g.w) A (eval (.Call (.Name (Str.ofString "len") p) [.Name x p2] [] pos) env) Q E s := by
  refine wpAny_Call_Name_kw (blt_load (v := .builtin "len") hC he y.st hk (fun P => by kernel_rfl) (by kernel_rfl) (by decide +kernel) ?_ (by decide))
  refine PyProof.Rows.callWith_builtin1 ?_
  refine wpAny_items_cons ((Den.var (g := g) (i := i) hC hi) env A s H ρ (some D) _ E (.fn D) he hr y (show dVar i ρ = some (.fn D) by unfold dVar; rw [hv]) fun v s1 H1 e1 hv1 => ?_) rfl
  have hv1' : v = .ref D := hv1
  subst hv1'
  refine DenL.nil env A s1 H1 ρ (some D) _ E [] pos he hr (y.ext e1) rfl fun vs s2 H2 e2 hv2 => ?_
  have hv2' : vs = [] := hv2
  subst hv2'
  have e12 := e1.trans e2
  have y2 := y.ext e12
  obtain ⟨n, ho⟩ : s2.heap.PlainList D its := KeepO.ext (oa := some D) y.st e12 D its rfl hp
  have hHD := (y2.oall D rfl).1
  obtain ⟨st3, le3⟩ := lend y2.st ho hHD
  refine len_op g A s2 _ [.list xs] [.ref D] Q E (.int xs.length) (hr.le hlv) st3 (VRelL.cons ⟨D, _, its, n, rfl, hput_self .., rfl, rfl, VRelL.mono (e12.le.trans le3) _ _ hx⟩ rfl) (by unfold pLen; dsimp only; rw [if_pos (by omega)]) fun v s' H' e3 hvr => ?_
  obtain ⟨t, rfl⟩ := hvr
  exact h t s' _ (e12.trans (Ext.thaw y2.st ho hHD e3))
noncomputable def cx_i2d : Cx := { sc := scopeOf (fstmt 8), ns := [(Str.ofString "a", VK.loc), (Str.ofString "n", VK.cel), (Str.ofString "a_digits", VK.cel), (Str.ofString "inner", VK.cel)], mu := 4, lv := 28 }
theorem cx_i2d_ok : cx_i2d.ok = true := by decide +kernel
noncomputable def f_cnt : DLs := lMul (fun ρ => (lCons (kC (.int 0)) lNil ρ).map .list) (kBin pFloorDiv (kBin pSub (kBin pAdd (kMeth0 isIntP pBits (dVar 0)) (dVar 1)) (kC (.int 1))) (dVar 1))
noncomputable def fn_i2d (ps : List PV) (ks : List (Str × PV)) : Option PV := match ps, ks with
  | [.int a, .int n], [] => (f_cnt [.int a, .int n, .undef, .undef]).bind fun xs => if xs.length ≤ 1000 then (if a != 0 then (i2dP n 7 xs a 0 xs.length).map .list else some (.list xs)) else none
  | _, _ => none
theorem inner_bindsI {H : HP} {f : Addr} {fd : FuncData} {name qual : Str} {body : List Stmt} {scope : Scope} {clos : List (Str × Addr)} (M : FnMade g H f fd name qual (argsOf innerI) body scope clos) :
    ∀ s v1 v2 v3, BindsTo s fd ⟨[v1, v2, v3], []⟩ [(Str.ofString "x", v1), (Str.ofString "L", v2), (Str.ofString "R", v3)] := by
  intro s v1 v2 v3
  refine BindsTo.of_eq ?_
  obtain ⟨nm, qn, pr, df, kdf, bd, sc, gl, cl, _⟩ := fd
  have h1 := M.params
  have h2 := M.defs.1
  have h3 := M.defs.2
  dsimp only at h1 h2 h3
  subst h1 h2 h3
  rfl
theorem ok_i2d (g : GC) : FnS g 56 29 fn_i2d := by
  intro A s H ps vs ks kvs Q E r hr st hps hkn hks hF hq
  unfold fn_i2d at hF
  split at hF
  · rename_i a n
    obtain ⟨xs, hxs, hF2⟩ := Option.bind_eq_some_iff.mp hF
    clear hF
    split at hF2
    · rename_i hlen
      have hk0 : kvs = [] := List.map_eq_nil_iff.mp hkn
      subst hk0
      obtain ⟨v, w, rfl, ⟨ta, rfl⟩, tn, rfl⟩ := hps.two
      have hC := cx_i2d_ok
      obtain ⟨oc, od, fd, osl, k1, k2, k3, k4, k5, k6, k7, k8, k9, k10, c1, c2⟩ : ∃ oc od fd osl, (∀ P, (K0 P).lookup 56 = some ⟨oc, od, .func fd, osl⟩) ∧ (∀ P, codeIn (K0 P) fd.code fd.qualname = true) ∧ fd.globals = mainGlobals ∧ fd.closure = [] ∧ fd.builtins = builtinsNs ∧
          fd.scope.isGenerator = false ∧ fd.scope.isCoroutine = false ∧ fd.body = .stmts (bodyOf (fstmt 8)) ∧ fd.scope = cx_i2d.sc ∧ (∀ (s : Shared) (v1 v2 : Value), BindsTo s fd ⟨[v1, v2], []⟩ [(Str.ofString "a", v1), (Str.ofString "n", v2)]) ∧ fd.code = .ref 55 ∧ fd.qualname = Str.ofString "_int2digits" :=
        ⟨_, _, _, _, fun P => by with_unfolding_all rfl, fun P => by kernel_rfl, by rfl, by rfl, by rfl, by rfl, by rfl, by with_unfolding_all rfl, by with_unfolding_all rfl, fun s v1 v2 => BindsTo.of_eq rfl, by rfl, by rfl⟩
      refine enterF (C := cx_i2d) (bs := [(Str.ofString "a", .int a), (Str.ofString "n", .int n)]) hr st k1 k2 k3 k4 k5 k6 k7 k8 k9 hC (by decide +kernel) (k10 s (.int a ta) (.int n tn)) rfl (VRelL.cons ⟨ta, rfl⟩ (VRelL.cons ⟨tn, rfl⟩ rfl)) (show [Str.ofString "a", Str.ofString "n"].Nodup by decide +kernel)
        (show ∀ x ∈ [Str.ofString "a", Str.ofString "n"], cx_i2d.sc.names.lookup x = some .local ∨ cx_i2d.sc.names.lookup x = some .cell by decide +kernel) fun env s1 E' he hec heq e1 y hlv => ?_
      have hini : initR cx_i2d [(Str.ofString "a", .int a), (Str.ofString "n", .int n)] = [.int a, .int n, .undef, .undef] := by rfl
      rw [hini] at y
      have hr' : Room (A.deeper env) cx_i2d.lv := hr.deeper
      have tr := y.there he
      have hfree : ∀ nm k, (nm, k) ∈ (scopeOf innerI).names → k = .free → ∃ c, env.cells.lookup nm = some c := by
        intro nm k hm hk
        have : nm = Str.ofString "n" ∨ nm = Str.ofString "a_digits" ∨ nm = Str.ofString "inner" := by
          have : ∀ x ∈ (scopeOf innerI).names, x.2 = .free → x.1 = Str.ofString "n" ∨ x.1 = Str.ofString "a_digits" ∨ x.1 = Str.ofString "inner" := by decide +kernel
          exact this _ hm hk
        rcases this with rfl | rfl | rfl
        · exact he.cel _ .cel (List.mem_of_getElem? (i := 1) rfl) (by decide)
        · exact he.cel _ .cel (List.mem_of_getElem? (i := 2) rfl) (by decide)
        · exact he.cel _ .cel (List.mem_of_getElem? (i := 3) rfl) (by decide)
      -- a_digits = [0] * ...
      refine wpAny_execs_cons (wpAny_Assign_Name ((DenNew.mul (DenNew.den (DenNew.list (DenL.cons Den.int DenL.nil) (by decide) (lenL_cons lenL_nil)))
        (Den.bin (by decide) (Den.bin (by decide) (Den.bin (by decide) (Den.meth0 (Den.var (i := 0) hC rfl) bits_get bits_op (hlv := by decide) _) (Den.var (i := 1) hC rfl) (add_op g)) Den.int (sub_op g)) (Den.var (i := 1) hC rfl) (floordiv_op g))) env _ s1 H _ none _ E' xs he hr' y hxs fun D its s2 H2 e2 hvl hpl hD0 hHD => ?_))
      have y2 := (y.ext e2).lift hpl hHD
      refine storeName_den (i := 2) (p := .fn D) hC he y2 rfl (by decide) rfl fun s3 e3 y3 k3' => ?_
      have hpl3 := k3' D its rfl hpl
      have eA : ExtS g cx_i2d env s1 H none s3 H2 (some D) := ExtS.trans tr.1 tr.2 ((ExtS.of e2).oaTo hD0) e3
      -- def inner
      have hq2 : qualnameIn env (Str.ofString "inner") (Str.ofString "inner") = Str.ofString "_int2digits.<locals>.inner" := by
        unfold qualnameIn Env.kindOf
        rw [he.scope, heq, c2]
        decide +kernel
      have hcl := closureFor_cl hfree
      refine wpAny_execs_cons (nestDef_K rfl rfl rfl ?_)
      refine makeInner (P := 51) (c := 55) (line := 75) y3.st (.inl rfl) ?_ ?_ (codeHd_55 y3.st) (hec.trans c1) he.globals hcl rfl rfl fun f fd2 s4 H4 e4 M0 hnf => ?_
      · rw [hq2]; exact y3.st.tab.1
      · intro H' h' k le ht
        rw [hq2] at ht
        exact ⟨ht, y3.st.tab.2.moves le fun o e => k 58 o (.inr rfl) (by decide) e⟩
      have M : FnMade g H4 f fd2 (Str.ofString "inner") (qualnameIn env (Str.ofString "inner") (Str.ofString "inner")) (argsOf innerI) (bodyOf innerI) (scopeOf innerI) (clFrom env.cells (scopeOf innerI).names []) := M0
      clear M0
      have y4 := y3.ext e4
      refine storeName_den (i := 3) (p := .fn f) hC he y4 rfl (by decide) rfl fun s5 e5 y5 k5 => ?_
      have hpl5 := k5 D its rfl (KeepO.ext (oa := some D) y3.st e4 D its rfl hpl3)
      have hcell : ∀ x c, (clFrom env.cells (scopeOf innerI).names []).lookup x = some c → env.cells.lookup x = some c := fun x c h => clFrom_lookup' hfree h
      have P : ∀ {s5 : Shared} {H5 : HP}, Rel g cx_i2d env s5 H5 [.int a, .int n, .fn D, .fn f] (some D) → IP (clFrom env.cells (scopeOf innerI).names []) f D n s5 := fun {s5 H5} y5 => by
        refine ⟨?_, ?_, ?_⟩
        · obtain ⟨c, h1, h2⟩ := clFrom_lookup hfree (x := Str.ofString "a_digits") (by decide +kernel)
          obtain ⟨_, vo, h3, h4⟩ := y5.ce 2 _ .cel c rfl (by decide) h2
          obtain ⟨v5, rfl, h6⟩ := h4
          have h6' : v5 = .ref D := h6
          subst h6'
          exact ⟨c, h1, h3⟩
        · obtain ⟨c, h1, h2⟩ := clFrom_lookup hfree (x := Str.ofString "inner") (by decide +kernel)
          obtain ⟨_, vo, h3, h4⟩ := y5.ce 3 _ .cel c rfl (by decide) h2
          obtain ⟨v5, rfl, h6⟩ := h4
          have h6' : v5 = .ref f := h6
          subst h6'
          exact ⟨c, h1, h3⟩
        · obtain ⟨c, h1, h2⟩ := clFrom_lookup hfree (x := Str.ofString "n") (by decide +kernel)
          obtain ⟨_, vo, h3, h4⟩ := y5.ce 1 _ .cel c rfl (by decide) h2
          obtain ⟨v5, rfl, t5, rfl⟩ := h4
          exact ⟨c, t5, h1, h3⟩
      have eB : ExtS g cx_i2d env s1 H none s5 H4 (some D) := ExtS.trans tr.1 tr.2 eA (ExtS.trans (y3.there he).1 (y3.there he).2 (.of e4) e5)
      have y5' : Rel g cx_i2d env s5 H4 [.int a, .int n, .fn D, .fn f] (some D) := y5
      have hvl5 := VRelL.mono e4.le _ _ hvl
      -- the end: a_digits is given back
      have fin : ∀ (s6 : Shared) (H6 : HP) (its6 : Array Value) (ys : List PV), ExtS g cx_i2d env s1 H none s6 H6 (some D) → Rel g cx_i2d env s6 H6 [.int a, .int n, .fn D, .fn f] (some D) → s6.heap.PlainList D its6 → VRelL H6 ys its6.toList → r = .list ys →
          wpAny (model g.prog g.w) (A.deeper env) (execs [.Return (some (.Name (Str.ofString "a_digits") ⟨87, 11, 87, 19⟩)) ⟨87, 4, 87, 19⟩] env) (fun fl s' => Q (match fl with | .ret v => v | _ => .none) s') E' s6 := by
        intro s6 H6 its6 ys e6 y6 hp6 hx6 hr6
        refine wpAny_execs_cons (wpAny_Return_some ((Den.var (g := g) (i := 2) hC rfl) env _ s6 H6 _ (some D) _ E' (.fn D) he hr' y6 rfl fun v7 s7 H7 e7 hv7 => ?_))
        have hv7' : v7 = .ref D := hv7
        subst hv7'
        have y7 := y6.ext e7
        obtain ⟨n7, ho7⟩ : s7.heap.PlainList D its6 := KeepO.ext (oa := some D) y6.st e7 D its6 rfl hp6
        have hHD7 := (y7.oall D rfl).1
        have fz := freezeX (C := cx_i2d) (env := env) y7.st hHD7 ho7
        subst hr6
        refine hq (.ref D) s7 _ (hlv _ _ none (ExtS.trans tr.1 tr.2 e6 (ExtS.trans (y6.there he).1 (y6.there he).2 (.of e7) fz))) ?_
        exact ⟨D, _, its6, n7, rfl, hput_self .., rfl, rfl, VRelL.mono (e7.le.trans (hput_le hHD7)) _ _ hx6⟩
      refine wpAny_execs_cons (wpAny_If ((DenB.val (by decide) (Den.var (i := 0) hC rfl) (fun _ _ => rfl)) env _ s5 H4 _ (some D) _ E' (a != 0) he hr' y5' rfl fun s6 H6 e6 => ?_))
      have y6 := y5'.ext e6
      have hpl6 : s6.heap.PlainList D its := KeepO.ext (oa := some D) y5'.st e6 D its rfl hpl5
      have hvl6 := VRelL.mono e6.le _ _ hvl5
      have eC : ExtS g cx_i2d env s1 H none s6 H6 (some D) := ExtS.trans tr.1 tr.2 eB (.of e6)
      cases ha : (a != 0) with
      | false =>
        rw [ha] at hF2
        simp only [Bool.false_eq_true, if_false] at hF2 ⊢
        cases hF2
        exact wpAny_execs_nil (fin s6 H6 its xs eC y6 hpl6 hvl6 rfl)
      | true =>
        rw [ha] at hF2
        simp only [if_true] at hF2 ⊢
        obtain ⟨ys, hys, rfl⟩ := Option.map_eq_some_iff.mp hF2
        have M6 := (M.mono e5.le).mono e6.le
        refine wpAny_execs_cons (wpAny_Expr_any ?_ (interactive_no hC he) rfl)
        obtain ⟨ocf, odf, oslf, hHf⟩ := M6.at_
        refine wpAny_Call_Name_kw (wpAny_Name (loadName_rel hC he y6 (i := 3) rfl (show dVar 3 _ = some (.fn f) from rfl) fun v hv' => ?_) (Cx.at hC (List.mem_of_getElem? (i := 3) rfl)).1)
        have hv'' : v = .ref f := hv'
        subst hv''
        refine PyProof.Rows.callWith_def (o := ⟨ocf, odf, .func fd2, oslf⟩) (fd := fd2) rfl ?_
        refine wpAny_items_cons ((Den.var (g := g) (i := 0) hC rfl) env _ s6 H6 _ (some D) _ E' (.int a) he hr' y6 rfl fun va s7 H7 e7 hva => ?_) rfl
        obtain ⟨t7, rfl⟩ := hva
        have y7 := y6.ext e7
        refine wpAny_items_cons ((Den.int (g := g) (C := cx_i2d)) env _ s7 H7 _ (some D) _ E' (.int 0) he hr' y7 rfl fun vb s8 H8 e8 hvb => ?_) rfl
        obtain ⟨t8, rfl⟩ := hvb
        have y8 := y7.ext e8
        have hpl8 : s8.heap.PlainList D its := KeepO.ext (oa := some D) y6.st (e7.trans e8) D its rfl hpl6
        refine wpAny_items_cons (lenApart (i := 2) hC (by kernel_rfl) (by decide) rfl he hr' y8 rfl hpl8 (VRelL.mono (e7.trans e8).le _ _ hvl6) hlen fun t9 s9 H9 e9 => ?_) rfl
        have y9 := y8.ext e9
        refine DenL.nil env _ s9 H9 _ (some D) _ E' [] _ he hr' y9 rfl fun vs sa Ha ea hva => ?_
        have hva' : vs = [] := hva
        subst hva'
        have ya := y9.ext ea
        have e6a := e7.trans (e8.trans (e9.trans ea))
        have Ma := M6.mono e6a.le
        have hpla : sa.heap.PlainList D its := KeepO.ext (oa := some D) y6.st e6a D its rfl hpl6
        refine ⟨ea.st.keep _ _ (e6a.le _ _ hHf), ?_⟩
        have hinner := inner_i (g := g) (f := f) (D := D) (fd := fd2) (clos := clFrom env.cells (scopeOf innerI).names []) (params := argsOf innerI) (name := Str.ofString "inner") (qual := qualnameIn env (Str.ofString "inner") (Str.ofString "inner")) (n := n) (fun x y c h1 h2 => he.apart x y c (hcell x c h1) (hcell y c h2)) (inner_bindsI M) 7
        refine hinner _ sa Ha xs ys its a 0 xs.length t7 t8 t9 _ _ (hr'.le (by show 21 + 7 ≤ 28; omega)) ya.st Ma (P ya) hpla (VRelL.mono e6a.le _ _ hvl6) (ya.oall D rfl).1 hys fun sb Hb itb eb hplb hxb hHb => ?_
        have yb := Rel.extO he ya (noOwnL_at rfl) hpla eb hplb hHb
        have eD : ExtS g cx_i2d env s1 H none sb Hb (some D) := ExtS.trans tr.1 tr.2 eC (ExtS.trans (y6.there he).1 (y6.there he).2 (.of e6a) (.ofO eb))
        exact wpAny_execs_nil (fin sb Hb itb ys eD yb hplb hxb rfl)
    · cases hF2
  · cases hF
end
noncomputable def cx_div2n1n : Cx := { sc := scopeOf (fstmt 6), ns := [((Str.ofString "a"), VK.loc), ((Str.ofString "b"), VK.loc), ((Str.ofString "n"), VK.loc), ((Str.ofString "pad"), VK.loc), ((Str.ofString "half_n"), VK.loc), ((Str.ofString "mask"), VK.loc), ((Str.ofString "b1"), VK.loc), ((Str.ofString "b2"), VK.loc), ((Str.ofString "q1"), VK.loc), ((Str.ofString "r"), VK.loc), ((Str.ofString "q2"), VK.loc)], mu := 11, lv := 20 }
theorem cx_div2n1n_ok : cx_div2n1n.ok = true := by decide +kernel
noncomputable def fb_div2n1n : DS := (dSeq (sIf (bCmp pLe (kBin pSub (kMeth0 isIntP pBits (dVar 0)) (dVar 2)) (kC (.int 4000))) (dSeq (sRet (kCallB pDivmod (lCons (dVar 0) (lCons (dVar 1) lNil))))
  sNil) sNil)
  sDead)
theorem D_div2n1n (g : GC) : DenSs g cx_div2n1n (bodyOf (fstmt 6)) fb_div2n1n := (DenSs.cons (DenS.ite (DenB.cmp (by decide) (Den.bin (by decide) (Den.meth0 (Den.var (i := 0) cx_div2n1n_ok rfl) bits_get bits_op (hlv := by decide) _) (Den.var (i := 2) cx_div2n1n_ok rfl) (sub_op g)) (Den.gint cx_div2n1n_ok (by kernel_rfl) (fun P => by with_unfolding_all rfl)) (le_op g)) (DenSs.cons (DenS.ret (Den.callB cx_div2n1n_ok (by kernel_rfl) (fun P => by kernel_rfl) (by kernel_rfl) (divmod_op g) (DenL.cons (Den.var (i := 0) cx_div2n1n_ok rfl) (DenL.cons (Den.var (i := 1) cx_div2n1n_ok rfl) DenL.nil))))
  DenSs.nil) DenSs.nil)
  DenSs.dead)
noncomputable def fn_div2n1n : List PV → List (Str × PV) → Option PV := fnF 3 8 fb_div2n1n
theorem ok_div2n1n (g : GC) : FnS g 42 21 fn_div2n1n := FnS.plain (C := cx_div2n1n) [(Str.ofString "a"), (Str.ofString "b"), (Str.ofString "n")] 8
  ⟨_, _, _, _, fun P => by with_unfolding_all rfl, fun P => by kernel_rfl, by rfl, by rfl, by rfl, by rfl, by rfl, by with_unfolding_all rfl, by with_unfolding_all rfl, fun s vs h => by
    match vs, h with
    | [v0, v1, v2], _ => exact BindsTo.of_eq (by with_unfolding_all rfl)⟩
  cx_div2n1n_ok (by kernel_rfl) (by unfold isTab; decide) (by decide +kernel) (fun ps h => by
    match ps, h with
    | [v0, v1, v2], _ => kernel_rfl) (D_div2n1n g)
noncomputable def cx_divmod_pos : Cx := { sc := scopeOf (fstmt 10), ns := [((Str.ofString "a"), VK.loc), ((Str.ofString "b"), VK.loc), ((Str.ofString "n"), VK.loc), ((Str.ofString "a_digits"), VK.loc), ((Str.ofString "r"), VK.loc), ((Str.ofString "q_digits"), VK.loc), ((Str.ofString "a_digit"), VK.loc), ((Str.ofString "q_digit"), VK.loc), ((Str.ofString "q"), VK.loc)], mu := 5, lv := 30 }
theorem cx_divmod_pos_ok : cx_divmod_pos.ok = true := by decide +kernel
noncomputable def fb_divmod_pos : DS := (dSeq (sAssign 2 (kMeth0 isIntP pBits (dVar 1)))
  (dSeq (sAssign 3 (kCall fn_i2d [] (lCons (dVar 0) (lCons (dVar 2) lNil)) lNil))
  (dSeq (sAssign 4 (kC (.int 0)))
  (dSeq (sOwnNew 5 lNil)
  (dSeq (sFor (iCall pReversed (lCons (dVar 3) lNil)) (tSet 6) (dSeq (sTup (kCall fn_div2n1n [] (lCons (kBin pAdd (kBin pShl (dVar 4) (dVar 2)) (dVar 6)) (lCons (dVar 1) (lCons (dVar 2) lNil))) lNil) (ftTup 2 (ftCons (tSet 7) (ftCons (tSet 4) ftNil))))
  (dSeq (fOwn cx_divmod_pos (lCons (dVar 7) lNil) pAppend)
  sNil)))
  (dSeq (fOwn0 cx_divmod_pos pRev)
  (sFrz cx_divmod_pos (dSeq (sAssign 8 (kCall fn_d2i [] (lCons (dVar 5) (lCons (dVar 2) lNil)) lNil)) (dSeq (sRet (kTup (lCons (dVar 8) (lCons (dVar 4) lNil))))
  sNil)))))))))
theorem D_divmod_pos (g : GC) : DenSs g cx_divmod_pos (bodyOf (fstmt 10)) fb_divmod_pos := (DenSs.cons (DenS.assign (i := 2) cx_divmod_pos_ok rfl (Den.meth0 (Den.var (i := 1) cx_divmod_pos_ok rfl) bits_get bits_op (hlv := by decide) _))
  (DenSs.cons (DenS.assign (i := 3) cx_divmod_pos_ok rfl (Den.call cx_divmod_pos_ok (by kernel_rfl) (fun P => by kernel_rfl) (fun P => ⟨_, _, _, _, by with_unfolding_all rfl⟩) (ok_i2d g) (DenL.cons (Den.var (i := 0) cx_divmod_pos_ok rfl) (DenL.cons (Den.var (i := 2) cx_divmod_pos_ok rfl) DenL.nil)) DenK.nil lenK_nil))
  (DenSs.cons (DenS.assign (i := 4) cx_divmod_pos_ok rfl Den.int)
  (DenSs.cons (DenS.assignOwn cx_divmod_pos_ok rfl (DenNew.list DenL.nil (by decide) lenL_nil))
  (DenSs.cons (DenS.for (DenI.call cx_divmod_pos_ok (by kernel_rfl) (fun P => by kernel_rfl) (by kernel_rfl) (reversed_op _) (DenL.cons (Den.var (i := 3) cx_divmod_pos_ok rfl) DenL.nil)) (DenT.name (i := 6) cx_divmod_pos_ok rfl) (DenSs.cons (DenS.assignT (Den.call cx_divmod_pos_ok (by kernel_rfl) (fun P => by kernel_rfl) (fun P => ⟨_, _, _, _, by with_unfolding_all rfl⟩) (ok_div2n1n g) (DenL.cons (Den.bin (by decide) (Den.bin (by decide) (Den.var (i := 4) cx_divmod_pos_ok rfl) (Den.var (i := 2) cx_divmod_pos_ok rfl) (shl_op g)) (Den.var (i := 6) cx_divmod_pos_ok rfl) (add_op g)) (DenL.cons (Den.var (i := 1) cx_divmod_pos_ok rfl) (DenL.cons (Den.var (i := 2) cx_divmod_pos_ok rfl) DenL.nil))) DenK.nil lenK_nil) (DenT.tuple (DenTs.cons (DenT.name (i := 7) cx_divmod_pos_ok rfl) (DenTs.cons (DenT.name (i := 4) cx_divmod_pos_ok rfl) DenTs.nil))) (fun env h => by obtain ⟨sc, e1, e2, e3, e4, e5, e6, e7, e8⟩ := env; have h2 : sc = _ := h; subst h2; first | rfl | exact ⟨rfl, rfl⟩ | with_unfolding_all rfl | with_unfolding_all exact ⟨rfl, rfl⟩))
  (DenSs.cons (DenS.own cx_divmod_pos_ok rfl slot_list_append type_list_append (DenL.cons (Den.var (i := 7) cx_divmod_pos_ok rfl) DenL.nil) append_own (by decide) _)
  DenSs.nil)))
  (DenSs.cons (DenS.own0 cx_divmod_pos_ok rfl PySem.F.slot_list_reverse PySem.F.type_list_reverse reverse_own (by decide) _)
  (DenSs.freeze rfl (DenSs.cons (DenS.assign (i := 8) cx_divmod_pos_ok rfl (Den.call cx_divmod_pos_ok (by kernel_rfl) (fun P => by kernel_rfl) (fun P => ⟨_, _, _, _, by with_unfolding_all rfl⟩) (ok_d2i g) (DenL.cons (Den.var (i := 5) cx_divmod_pos_ok rfl) (DenL.cons (Den.var (i := 2) cx_divmod_pos_ok rfl) DenL.nil)) DenK.nil lenK_nil)) (DenSs.cons (DenS.ret (Den.tuple (DenL.cons (Den.var (i := 8) cx_divmod_pos_ok rfl) (DenL.cons (Den.var (i := 4) cx_divmod_pos_ok rfl) DenL.nil)) (by decide) (lenL_cons (lenL_cons lenL_nil))))
  DenSs.nil)))))))))
noncomputable def fn_divmod_pos : List PV → List (Str × PV) → Option PV := fnF 2 7 fb_divmod_pos
theorem ok_divmod_pos (g : GC) : FnS g 70 31 fn_divmod_pos := FnS.plain (C := cx_divmod_pos) [(Str.ofString "a"), (Str.ofString "b")] 7
  ⟨_, _, _, _, fun P => by with_unfolding_all rfl, fun P => by kernel_rfl, by rfl, by rfl, by rfl, by rfl, by rfl, by with_unfolding_all rfl, by with_unfolding_all rfl, fun s vs h => by
    match vs, h with
    | [v0, v1], _ => exact BindsTo.of_eq (by with_unfolding_all rfl)⟩
  cx_divmod_pos_ok (by kernel_rfl) (by unfold isTab; decide) (by decide +kernel) (fun ps h => by
    match ps, h with
    | [v0, v1], _ => kernel_rfl) (D_divmod_pos g)
noncomputable def fn_idm0 : List PV → List (Str × PV) → Option PV := fun _ _ => none
theorem ok_idm0 (g : GC) : FnS g 77 32 fn_idm0 := by
  intro A s H ps vs ks kvs Q E r hr st hps hkn hks hF hq
  cases hF
noncomputable def cx_idm1 : Cx := { sc := scopeOf (fstmt 11), ns := [((Str.ofString "a"), VK.loc), ((Str.ofString "b"), VK.loc), ((Str.ofString "q"), VK.loc), ((Str.ofString "r"), VK.loc)], mu := 4, lv := 32 }
theorem cx_idm1_ok : cx_idm1.ok = true := by decide +kernel
noncomputable def fb_idm1 : DS := (dSeq (sIf (bCmp pEq (dVar 1) (kC (.int 0))) (dSeq sDead
  sNil) (dSeq (sIf (bCmp pLt (dVar 1) (kC (.int 0))) (dSeq (sTup (kCall fn_idm0 [] (lCons (kUn pNeg (dVar 0)) (lCons (kUn pNeg (dVar 1)) lNil)) lNil) (ftTup 2 (ftCons (tSet 2) (ftCons (tSet 3) ftNil))))
  (dSeq (sRet (kTup (lCons (dVar 2) (lCons (kUn pNeg (dVar 3)) lNil))))
  sNil)) (dSeq (sIf (bCmp pLt (dVar 0) (kC (.int 0))) (dSeq (sTup (kCall fn_idm0 [] (lCons (kUn pInv (dVar 0)) (lCons (dVar 1) lNil)) lNil) (ftTup 2 (ftCons (tSet 2) (ftCons (tSet 3) ftNil))))
  (dSeq (sRet (kTup (lCons (kUn pInv (dVar 2)) (lCons (kBin pAdd (dVar 1) (kUn pInv (dVar 3))) lNil))))
  sNil)) (dSeq (sRet (kCall fn_divmod_pos [] (lCons (dVar 0) (lCons (dVar 1) lNil)) lNil))
  sNil))
  sNil))
  sNil))
  sNil)
theorem D_idm1 (g : GC) : DenSs g cx_idm1 (bodyOf (fstmt 11)) fb_idm1 := (DenSs.cons (DenS.ite (DenB.cmp (by decide) (Den.var (i := 1) cx_idm1_ok rfl) Den.int (eq_op g)) (DenSs.cons DenS.dead
  DenSs.nil) (DenSs.cons (DenS.ite (DenB.cmp (by decide) (Den.var (i := 1) cx_idm1_ok rfl) Den.int (lt_op g)) (DenSs.cons (DenS.assignT (Den.call cx_idm1_ok (by kernel_rfl) (fun P => by kernel_rfl) (fun P => ⟨_, _, _, _, by with_unfolding_all rfl⟩) (ok_idm0 g) (DenL.cons (Den.un (by decide) (Den.var (i := 0) cx_idm1_ok rfl) (neg_op g)) (DenL.cons (Den.un (by decide) (Den.var (i := 1) cx_idm1_ok rfl) (neg_op g)) DenL.nil)) DenK.nil lenK_nil) (DenT.tuple (DenTs.cons (DenT.name (i := 2) cx_idm1_ok rfl) (DenTs.cons (DenT.name (i := 3) cx_idm1_ok rfl) DenTs.nil))) (fun env h => by obtain ⟨sc, e1, e2, e3, e4, e5, e6, e7, e8⟩ := env; have h2 : sc = _ := h; subst h2; first | rfl | exact ⟨rfl, rfl⟩ | with_unfolding_all rfl | with_unfolding_all exact ⟨rfl, rfl⟩))
  (DenSs.cons (DenS.ret (Den.tuple (DenL.cons (Den.var (i := 2) cx_idm1_ok rfl) (DenL.cons (Den.un (by decide) (Den.var (i := 3) cx_idm1_ok rfl) (neg_op g)) DenL.nil)) (by decide) (lenL_cons (lenL_cons lenL_nil))))
  DenSs.nil)) (DenSs.cons (DenS.ite (DenB.cmp (by decide) (Den.var (i := 0) cx_idm1_ok rfl) Den.int (lt_op g)) (DenSs.cons (DenS.assignT (Den.call cx_idm1_ok (by kernel_rfl) (fun P => by kernel_rfl) (fun P => ⟨_, _, _, _, by with_unfolding_all rfl⟩) (ok_idm0 g) (DenL.cons (Den.un (by decide) (Den.var (i := 0) cx_idm1_ok rfl) (inv_op g)) (DenL.cons (Den.var (i := 1) cx_idm1_ok rfl) DenL.nil)) DenK.nil lenK_nil) (DenT.tuple (DenTs.cons (DenT.name (i := 2) cx_idm1_ok rfl) (DenTs.cons (DenT.name (i := 3) cx_idm1_ok rfl) DenTs.nil))) (fun env h => by obtain ⟨sc, e1, e2, e3, e4, e5, e6, e7, e8⟩ := env; have h2 : sc = _ := h; subst h2; first | rfl | exact ⟨rfl, rfl⟩ | with_unfolding_all rfl | with_unfolding_all exact ⟨rfl, rfl⟩))
  (DenSs.cons (DenS.ret (Den.tuple (DenL.cons (Den.un (by decide) (Den.var (i := 2) cx_idm1_ok rfl) (inv_op g)) (DenL.cons (Den.bin (by decide) (Den.var (i := 1) cx_idm1_ok rfl) (Den.un (by decide) (Den.var (i := 3) cx_idm1_ok rfl) (inv_op g)) (add_op g)) DenL.nil)) (by decide) (lenL_cons (lenL_cons lenL_nil))))
  DenSs.nil)) (DenSs.cons (DenS.ret (Den.call cx_idm1_ok (by kernel_rfl) (fun P => by kernel_rfl) (fun P => ⟨_, _, _, _, by with_unfolding_all rfl⟩) (ok_divmod_pos g) (DenL.cons (Den.var (i := 0) cx_idm1_ok rfl) (DenL.cons (Den.var (i := 1) cx_idm1_ok rfl) DenL.nil)) DenK.nil lenK_nil))
  DenSs.nil))
  DenSs.nil))
  DenSs.nil))
  DenSs.nil)
noncomputable def fn_idm1 : List PV → List (Str × PV) → Option PV := fnF 2 2 fb_idm1
theorem ok_idm1 (g : GC) : FnS g 77 33 fn_idm1 := FnS.plain (C := cx_idm1) [(Str.ofString "a"), (Str.ofString "b")] 2
  ⟨_, _, _, _, fun P => by with_unfolding_all rfl, fun P => by kernel_rfl, by rfl, by rfl, by rfl, by rfl, by rfl, by with_unfolding_all rfl, by with_unfolding_all rfl, fun s vs h => by
    match vs, h with
    | [v0, v1], _ => exact BindsTo.of_eq (by with_unfolding_all rfl)⟩
  cx_idm1_ok (by kernel_rfl) (by unfold isTab; decide) (by decide +kernel) (fun ps h => by
    match ps, h with
    | [v0, v1], _ => kernel_rfl) (D_idm1 g)
noncomputable def cx_idm2 : Cx := { sc := scopeOf (fstmt 11), ns := [((Str.ofString "a"), VK.loc), ((Str.ofString "b"), VK.loc), ((Str.ofString "q"), VK.loc), ((Str.ofString "r"), VK.loc)], mu := 4, lv := 33 }
theorem cx_idm2_ok : cx_idm2.ok = true := by decide +kernel
noncomputable def fb_idm2 : DS := (dSeq (sIf (bCmp pEq (dVar 1) (kC (.int 0))) (dSeq sDead
  sNil) (dSeq (sIf (bCmp pLt (dVar 1) (kC (.int 0))) (dSeq (sTup (kCall fn_idm1 [] (lCons (kUn pNeg (dVar 0)) (lCons (kUn pNeg (dVar 1)) lNil)) lNil) (ftTup 2 (ftCons (tSet 2) (ftCons (tSet 3) ftNil))))
  (dSeq (sRet (kTup (lCons (dVar 2) (lCons (kUn pNeg (dVar 3)) lNil))))
  sNil)) (dSeq (sIf (bCmp pLt (dVar 0) (kC (.int 0))) (dSeq (sTup (kCall fn_idm1 [] (lCons (kUn pInv (dVar 0)) (lCons (dVar 1) lNil)) lNil) (ftTup 2 (ftCons (tSet 2) (ftCons (tSet 3) ftNil))))
  (dSeq (sRet (kTup (lCons (kUn pInv (dVar 2)) (lCons (kBin pAdd (dVar 1) (kUn pInv (dVar 3))) lNil))))
  sNil)) (dSeq (sRet (kCall fn_divmod_pos [] (lCons (dVar 0) (lCons (dVar 1) lNil)) lNil))
  sNil))
  sNil))
  sNil))
  sNil)
theorem D_idm2 (g : GC) : DenSs g cx_idm2 (bodyOf (fstmt 11)) fb_idm2 := (DenSs.cons (DenS.ite (DenB.cmp (by decide) (Den.var (i := 1) cx_idm2_ok rfl) Den.int (eq_op g)) (DenSs.cons DenS.dead
  DenSs.nil) (DenSs.cons (DenS.ite (DenB.cmp (by decide) (Den.var (i := 1) cx_idm2_ok rfl) Den.int (lt_op g)) (DenSs.cons (DenS.assignT (Den.call cx_idm2_ok (by kernel_rfl) (fun P => by kernel_rfl) (fun P => ⟨_, _, _, _, by with_unfolding_all rfl⟩) (ok_idm1 g) (DenL.cons (Den.un (by decide) (Den.var (i := 0) cx_idm2_ok rfl) (neg_op g)) (DenL.cons (Den.un (by decide) (Den.var (i := 1) cx_idm2_ok rfl) (neg_op g)) DenL.nil)) DenK.nil lenK_nil) (DenT.tuple (DenTs.cons (DenT.name (i := 2) cx_idm2_ok rfl) (DenTs.cons (DenT.name (i := 3) cx_idm2_ok rfl) DenTs.nil))) (fun env h => by obtain ⟨sc, e1, e2, e3, e4, e5, e6, e7, e8⟩ := env; have h2 : sc = _ := h; subst h2; first | rfl | exact ⟨rfl, rfl⟩ | with_unfolding_all rfl | with_unfolding_all exact ⟨rfl, rfl⟩))
  (DenSs.cons (DenS.ret (Den.tuple (DenL.cons (Den.var (i := 2) cx_idm2_ok rfl) (DenL.cons (Den.un (by decide) (Den.var (i := 3) cx_idm2_ok rfl) (neg_op g)) DenL.nil)) (by decide) (lenL_cons (lenL_cons lenL_nil))))
  DenSs.nil)) (DenSs.cons (DenS.ite (DenB.cmp (by decide) (Den.var (i := 0) cx_idm2_ok rfl) Den.int (lt_op g)) (DenSs.cons (DenS.assignT (Den.call cx_idm2_ok (by kernel_rfl) (fun P => by kernel_rfl) (fun P => ⟨_, _, _, _, by with_unfolding_all rfl⟩) (ok_idm1 g) (DenL.cons (Den.un (by decide) (Den.var (i := 0) cx_idm2_ok rfl) (inv_op g)) (DenL.cons (Den.var (i := 1) cx_idm2_ok rfl) DenL.nil)) DenK.nil lenK_nil) (DenT.tuple (DenTs.cons (DenT.name (i := 2) cx_idm2_ok rfl) (DenTs.cons (DenT.name (i := 3) cx_idm2_ok rfl) DenTs.nil))) (fun env h => by obtain ⟨sc, e1, e2, e3, e4, e5, e6, e7, e8⟩ := env; have h2 : sc = _ := h; subst h2; first | rfl | exact ⟨rfl, rfl⟩ | with_unfolding_all rfl | with_unfolding_all exact ⟨rfl, rfl⟩))
  (DenSs.cons (DenS.ret (Den.tuple (DenL.cons (Den.un (by decide) (Den.var (i := 2) cx_idm2_ok rfl) (inv_op g)) (DenL.cons (Den.bin (by decide) (Den.var (i := 1) cx_idm2_ok rfl) (Den.un (by decide) (Den.var (i := 3) cx_idm2_ok rfl) (inv_op g)) (add_op g)) DenL.nil)) (by decide) (lenL_cons (lenL_cons lenL_nil))))
  DenSs.nil)) (DenSs.cons (DenS.ret (Den.call cx_idm2_ok (by kernel_rfl) (fun P => by kernel_rfl) (fun P => ⟨_, _, _, _, by with_unfolding_all rfl⟩) (ok_divmod_pos g) (DenL.cons (Den.var (i := 0) cx_idm2_ok rfl) (DenL.cons (Den.var (i := 1) cx_idm2_ok rfl) DenL.nil)) DenK.nil lenK_nil))
  DenSs.nil))
  DenSs.nil))
  DenSs.nil))
  DenSs.nil)
noncomputable def fn_idm2 : List PV → List (Str × PV) → Option PV := fnF 2 2 fb_idm2
theorem ok_idm2 (g : GC) : FnS g 77 34 fn_idm2 := FnS.plain (C := cx_idm2) [(Str.ofString "a"), (Str.ofString "b")] 2
  ⟨_, _, _, _, fun P => by with_unfolding_all rfl, fun P => by kernel_rfl, by rfl, by rfl, by rfl, by rfl, by rfl, by with_unfolding_all rfl, by with_unfolding_all rfl, fun s vs h => by
    match vs, h with
    | [v0, v1], _ => exact BindsTo.of_eq (by with_unfolding_all rfl)⟩
  cx_idm2_ok (by kernel_rfl) (by unfold isTab; decide) (by decide +kernel) (fun ps h => by
    match ps, h with
    | [v0, v1], _ => kernel_rfl) (D_idm2 g)
noncomputable def cx_idm3 : Cx := { sc := scopeOf (fstmt 11), ns := [((Str.ofString "a"), VK.loc), ((Str.ofString "b"), VK.loc), ((Str.ofString "q"), VK.loc), ((Str.ofString "r"), VK.loc)], mu := 4, lv := 34 }
theorem cx_idm3_ok : cx_idm3.ok = true := by decide +kernel
noncomputable def fb_idm3 : DS := (dSeq (sIf (bCmp pEq (dVar 1) (kC (.int 0))) (dSeq sDead
  sNil) (dSeq (sIf (bCmp pLt (dVar 1) (kC (.int 0))) (dSeq (sTup (kCall fn_idm2 [] (lCons (kUn pNeg (dVar 0)) (lCons (kUn pNeg (dVar 1)) lNil)) lNil) (ftTup 2 (ftCons (tSet 2) (ftCons (tSet 3) ftNil))))
  (dSeq (sRet (kTup (lCons (dVar 2) (lCons (kUn pNeg (dVar 3)) lNil))))
  sNil)) (dSeq (sIf (bCmp pLt (dVar 0) (kC (.int 0))) (dSeq (sTup (kCall fn_idm2 [] (lCons (kUn pInv (dVar 0)) (lCons (dVar 1) lNil)) lNil) (ftTup 2 (ftCons (tSet 2) (ftCons (tSet 3) ftNil))))
  (dSeq (sRet (kTup (lCons (kUn pInv (dVar 2)) (lCons (kBin pAdd (dVar 1) (kUn pInv (dVar 3))) lNil))))
  sNil)) (dSeq (sRet (kCall fn_divmod_pos [] (lCons (dVar 0) (lCons (dVar 1) lNil)) lNil))
  sNil))
  sNil))
  sNil))
  sNil)
theorem D_idm3 (g : GC) : DenSs g cx_idm3 (bodyOf (fstmt 11)) fb_idm3 := (DenSs.cons (DenS.ite (DenB.cmp (by decide) (Den.var (i := 1) cx_idm3_ok rfl) Den.int (eq_op g)) (DenSs.cons DenS.dead
  DenSs.nil) (DenSs.cons (DenS.ite (DenB.cmp (by decide) (Den.var (i := 1) cx_idm3_ok rfl) Den.int (lt_op g)) (DenSs.cons (DenS.assignT (Den.call cx_idm3_ok (by kernel_rfl) (fun P => by kernel_rfl) (fun P => ⟨_, _, _, _, by with_unfolding_all rfl⟩) (ok_idm2 g) (DenL.cons (Den.un (by decide) (Den.var (i := 0) cx_idm3_ok rfl) (neg_op g)) (DenL.cons (Den.un (by decide) (Den.var (i := 1) cx_idm3_ok rfl) (neg_op g)) DenL.nil)) DenK.nil lenK_nil) (DenT.tuple (DenTs.cons (DenT.name (i := 2) cx_idm3_ok rfl) (DenTs.cons (DenT.name (i := 3) cx_idm3_ok rfl) DenTs.nil))) (fun env h => by obtain ⟨sc, e1, e2, e3, e4, e5, e6, e7, e8⟩ := env; have h2 : sc = _ := h; subst h2; first | rfl | exact ⟨rfl, rfl⟩ | with_unfolding_all rfl | with_unfolding_all exact ⟨rfl, rfl⟩))
  (DenSs.cons (DenS.ret (Den.tuple (DenL.cons (Den.var (i := 2) cx_idm3_ok rfl) (DenL.cons (Den.un (by decide) (Den.var (i := 3) cx_idm3_ok rfl) (neg_op g)) DenL.nil)) (by decide) (lenL_cons (lenL_cons lenL_nil))))
  DenSs.nil)) (DenSs.cons (DenS.ite (DenB.cmp (by decide) (Den.var (i := 0) cx_idm3_ok rfl) Den.int (lt_op g)) (DenSs.cons (DenS.assignT (Den.call cx_idm3_ok (by kernel_rfl) (fun P => by kernel_rfl) (fun P => ⟨_, _, _, _, by with_unfolding_all rfl⟩) (ok_idm2 g) (DenL.cons (Den.un (by decide) (Den.var (i := 0) cx_idm3_ok rfl) (inv_op g)) (DenL.cons (Den.var (i := 1) cx_idm3_ok rfl) DenL.nil)) DenK.nil lenK_nil) (DenT.tuple (DenTs.cons (DenT.name (i := 2) cx_idm3_ok rfl) (DenTs.cons (DenT.name (i := 3) cx_idm3_ok rfl) DenTs.nil))) (fun env h => by obtain ⟨sc, e1, e2, e3, e4, e5, e6, e7, e8⟩ := env; have h2 : sc = _ := h; subst h2; first | rfl | exact ⟨rfl, rfl⟩ | with_unfolding_all rfl | with_unfolding_all exact ⟨rfl, rfl⟩))
  (DenSs.cons (DenS.ret (Den.tuple (DenL.cons (Den.un (by decide) (Den.var (i := 2) cx_idm3_ok rfl) (inv_op g)) (DenL.cons (Den.bin (by decide) (Den.var (i := 1) cx_idm3_ok rfl) (Den.un (by decide) (Den.var (i := 3) cx_idm3_ok rfl) (inv_op g)) (add_op g)) DenL.nil)) (by decide) (lenL_cons (lenL_cons lenL_nil))))
  DenSs.nil)) (DenSs.cons (DenS.ret (Den.call cx_idm3_ok (by kernel_rfl) (fun P => by kernel_rfl) (fun P => ⟨_, _, _, _, by with_unfolding_all rfl⟩) (ok_divmod_pos g) (DenL.cons (Den.var (i := 0) cx_idm3_ok rfl) (DenL.cons (Den.var (i := 1) cx_idm3_ok rfl) DenL.nil)) DenK.nil lenK_nil))
  DenSs.nil))
  DenSs.nil))
  DenSs.nil))
  DenSs.nil)
noncomputable def fn_idm3 : List PV → List (Str × PV) → Option PV := fnF 2 2 fb_idm3
theorem ok_idm3 (g : GC) : FnS g 77 35 fn_idm3 := FnS.plain (C := cx_idm3) [(Str.ofString "a"), (Str.ofString "b")] 2
  ⟨_, _, _, _, fun P => by with_unfolding_all rfl, fun P => by kernel_rfl, by rfl, by rfl, by rfl, by rfl, by rfl, by with_unfolding_all rfl, by with_unfolding_all rfl, fun s vs h => by
    match vs, h with
    | [v0, v1], _ => exact BindsTo.of_eq (by with_unfolding_all rfl)⟩
  cx_idm3_ok (by kernel_rfl) (by unfold isTab; decide) (by decide +kernel) (fun ps h => by
    match ps, h with
    | [v0, v1], _ => kernel_rfl) (D_idm3 g)
noncomputable def cx_law_above : Cx := { sc := scopeOf (fstmt 23), ns := [((Str.ofString "covers"), VK.loc), ((Str.ofString "above"), VK.loc), ((Str.ofString "i"), VK.loc), ((Str.ofString "reach"), VK.loc), ((Str.ofString "place"), VK.loc), ((Str.ofString "one"), VK.loc)], mu := 1, lv := 20 }
theorem cx_law_above_ok : cx_law_above.ok = true := by decide +kernel
noncomputable def fb_law_above : DS := (dSeq (sOwnNew 1 lNil)
  (dSeq (sFor (iCall pRange (lCons (kCallB pLen (lCons (dVar 0) lNil)) lNil)) (tSet 2) (dSeq (sAssign 3 (fun ρ => ((lCons (dVar 2) lNil) ρ).map .list))
  (dSeq (sFor (iVal (kBin pItem (dVar 0) (dVar 2))) (tSet 4) (dSeq (sFor (iVal (kItemOwn cx_law_above (dVar 4))) (tSet 5) (dSeq (sAssign 3 (kBin pAdd (dVar 3) (kIf (bCmp pNotIn (dVar 5) (dVar 3)) (fun ρ => ((lCons (dVar 5) lNil) ρ).map .list) (fun ρ => (lNil ρ).map .list))))
  sNil))
  sNil))
  (dSeq (fOwn cx_law_above (lCons (kCallB pSortI (lCons (dVar 3) lNil)) lNil) pAppend)
  sNil))))
  (sFrz cx_law_above (dSeq (sRet (dVar 1)) sNil))))
theorem D_law_above (g : GC) : DenSs g cx_law_above (bodyOf (fstmt 23)) fb_law_above := (DenSs.cons (DenS.assignOwn cx_law_above_ok rfl (DenNew.list DenL.nil (by decide) lenL_nil))
  (DenSs.cons (DenS.for (DenI.call cx_law_above_ok (by kernel_rfl) (fun P => by kernel_rfl) (by kernel_rfl) (range_op _) (DenL.cons (Den.callB cx_law_above_ok (by kernel_rfl) (fun P => by kernel_rfl) (by kernel_rfl) (len_op g) (DenL.cons (Den.var (i := 0) cx_law_above_ok rfl) DenL.nil)) DenL.nil)) (DenT.name (i := 2) cx_law_above_ok rfl) (DenSs.cons (DenS.assign (i := 3) cx_law_above_ok rfl (DenNew.den (DenNew.list (DenL.cons (Den.var (i := 2) cx_law_above_ok rfl) DenL.nil) (by decide) (lenL_cons lenL_nil))))
  (DenSs.cons (DenS.for (DenI.val (Den.item (Den.var (i := 0) cx_law_above_ok rfl) (Den.var (i := 2) cx_law_above_ok rfl))) (DenT.name (i := 4) cx_law_above_ok rfl) (DenSs.cons (DenS.for (DenI.val (Den.itemOwn cx_law_above_ok rfl (Den.var (i := 4) cx_law_above_ok rfl))) (DenT.name (i := 5) cx_law_above_ok rfl) (DenSs.cons (DenS.assign (i := 3) cx_law_above_ok rfl (Den.bin (by decide) (Den.var (i := 3) cx_law_above_ok rfl) (Den.ifexp (DenB.cmp (by decide) (Den.var (i := 5) cx_law_above_ok rfl) (Den.var (i := 3) cx_law_above_ok rfl) (notIn_op g)) (DenNew.den (DenNew.list (DenL.cons (Den.var (i := 5) cx_law_above_ok rfl) DenL.nil) (by decide) (lenL_cons lenL_nil))) (DenNew.den (DenNew.list DenL.nil (by decide) lenL_nil))) (add_op g)))
  DenSs.nil))
  DenSs.nil))
  (DenSs.cons (DenS.own cx_law_above_ok rfl slot_list_append type_list_append (DenL.cons (Den.callB cx_law_above_ok (by kernel_rfl) (fun P => by kernel_rfl) (by kernel_rfl) (sortI_op g) (DenL.cons (Den.var (i := 3) cx_law_above_ok rfl) DenL.nil)) DenL.nil) append_own (by decide) _)
  DenSs.nil))))
  (DenSs.freeze rfl (DenSs.cons (DenS.ret (Den.var (i := 1) cx_law_above_ok rfl)) DenSs.nil))))
noncomputable def fn_law_above : List PV → List (Str × PV) → Option PV := fnF 1 5 fb_law_above
theorem ok_law_above (g : GC) : FnS g 147 21 fn_law_above := FnS.plain (C := cx_law_above) [(Str.ofString "covers")] 5
  ⟨_, _, _, _, fun P => by with_unfolding_all rfl, fun P => by kernel_rfl, by rfl, by rfl, by rfl, by rfl, by rfl, by with_unfolding_all rfl, by with_unfolding_all rfl, fun s vs h => by
    match vs, h with
    | [v0], _ => exact BindsTo.of_eq (by with_unfolding_all rfl)⟩
  cx_law_above_ok (by kernel_rfl) (by unfold isTab; decide) (by decide +kernel) (fun ps h => by
    match ps, h with
    | [v0], _ => kernel_rfl) (D_law_above g)
section
variable {M : Model} {A : Around} {R : GenEnd} {Y : Protocol} {n : Nat} {s₀ : Shared} {c : Code} {fs : List Frame} {s : Shared} {env : Env}
  {K : Flow → Sem Fin} {K1 : Unit → Sem Fin} {H : Value → Sem Fin} {gd : Bool → Bool} {lv : List Value → List Value}
theorem seg_If {test : Expr} {body orelse : List Stmt} {pos : Pos}
    (h : wpAny M (A.over c fs) (isTrue test env (eval test env)) (fun b s' => if b = true then Seg M A R Y n s₀ c ((execs body env).wrap K H gd lv) fs s' else Seg M A R Y n s₀ c ((execs orelse env).wrap K H gd lv) fs s')
      (fun x s' => Seg M A R Y n s₀ c (H x) fs s') s) : Seg M A R Y n s₀ c ((exec (.If test body orelse pos) env).wrap K H gd lv) fs s := by
  rw [exec_If]
  show Seg M A R Y n s₀ c (.at pos fun _ => (isTrue test env (eval test env) >>= fun b => if b = true then execs body env else execs orelse env).wrap K H gd lv) fs s
  refine seg_at ?_
  rw [Sem.bind_eq_wrap', Sem.wrap_wrap]
  refine seg_wrap (wpAny_mono h (fun b s' hb => ?_) fun _ _ x => x)
  cases b <;> exact hb
theorem seg_For {target iter : Expr} {body orelse : List Stmt} {pos : Pos}
    (h : wpAny M (A.over c fs) (eval iter env) (fun x s₁ => wpAny M (A.over c fs) (pyIter x) (fun it s₂ => ∀ p, Seg M A R Y n s₀ (.forLoop target it body orelse env) (M.den (.forLoop target it body orelse env))
      (.ret (fun r => ((match r with | .ok f => (.pure f : Sem Flow) | .error e => .raise e).onRaise fun (x : Value) => do
        if (← field x 1) == Value.none then unsupported "frame.own-activation:exception-without-traceback"
        setFlight x env.frame).wrap K H gd lv) none (gd false) (lv []) c p [] :: fs) s₂) (fun x s' => Seg M A R Y n s₀ c (H x) fs s') s₁) (fun x s' => Seg M A R Y n s₀ c (H x) fs s') s)
    (hs : ∀ x, foldedSetIterable iter env x = pure x := by intro _; rfl) : Seg M A R Y n s₀ c ((exec (.For target iter body orelse pos) env).wrap K H gd lv) fs s := by
  rw [exec_For]
  simp only [hs]
  show Seg M A R Y n s₀ c (.at pos fun _ => (eval iter env >>= fun x => (pure x : Sem Value) >>= fun x => standAt iter.pos >>= fun _ => holding [x] (pyIter x) >>= fun it => runOwn (.forLoop target it body orelse env) env).wrap K H gd lv) fs s
  refine seg_at ?_
  rw [Sem.bind_eq_wrap', Sem.wrap_wrap]
  refine seg_wrap (wpAny_mono h (fun x s' hx => ?_) fun _ _ x => x)
  show Seg M A R Y n s₀ c (.at iter.pos fun _ => (holding [x] (pyIter x) >>= fun it => runOwn (.forLoop target it body orelse env) env).wrap K H gd lv) fs s'
  refine seg_at ?_
  rw [Sem.bind_eq_wrap', Sem.wrap_wrap]
  refine seg_wrap (wpAny_holding (wpAny_mono hx (fun it s2 h2 => ?_) fun _ _ x => x))
  exact seg_call h2
end
section
variable {prog : Program} {w : World} {A : Around} {R : GenEnd} {Y : Protocol} {n : Nat} {s₀ : Shared} {fs : List Frame} {s : Shared} {env : Env}
noncomputable def hFrame (env : Env) : Value → Sem Fin := fun e => (do noteFrame e env; theTreesLotGoes e : Sem Unit).wrap (fun _ => .raise e) .raise id id
noncomputable def kLoop (c : Code) : Flow → Sem Fin := fun f => match f with
  | .next | .cont => .pure (.again c)
  | .brk => .pure (.done .next)
  | .ret v => .pure (.done (.ret v))
theorem seg_forLoop {target : Expr} {it : Value} {body orelse : List Stmt}
    (h : wpAny (model prog w) (A.over (.forLoop target it body orelse env) fs) (pyNext it) (fun r s1 => match r with
        | none => Seg (model prog w) A R Y n s₀ (.block orelse env) ((model prog w).den (.block orelse env)) fs s1
        | some v => wpAny (model prog w) (A.over (.forLoop target it body orelse env) fs) (letOwnedTupleGo target it v) (fun _ s2 => wpAny (model prog w) (A.over (.forLoop target it body orelse env) fs) (assign target env v) (fun _ s3 =>
            Seg (model prog w) A R Y n s₀ (.forLoop target it body orelse env) ((execs body env).wrap (kLoop (.forLoop target it body orelse env)) (hFrame env) id id) fs s3)
            (fun x s' => Seg (model prog w) A R Y n s₀ (.forLoop target it body orelse env) (hFrame env x) fs s') s2) (fun x s' => Seg (model prog w) A R Y n s₀ (.forLoop target it body orelse env) (hFrame env x) fs s') s1)
      (fun x s' => Seg (model prog w) A R Y n s₀ (.forLoop target it body orelse env) (hFrame env x) fs s') s) :
    Seg (model prog w) A R Y n s₀ (.forLoop target it body orelse env) ((model prog w).den (.forLoop target it body orelse env)) fs s := by
  show Seg _ A R Y n s₀ _ ((forTurn target it body orelse env).onRaise (fun x => do noteFrame x env; theTreesLotGoes x)) fs s
  have hH : (fun e => ((do noteFrame e env; theTreesLotGoes e : Sem Unit).bind fun _ => (.raise e : Sem Fin))) = hFrame env := by
    funext e; rw [Sem.bind_eq_wrap]; rfl
  rw [Sem.onRaise_eq_wrap, hH]
  unfold forTurn
  show Seg _ A R Y n s₀ _ (.at target.pos fun _ => (((pyNext it).onRaise (fun _ => standAt { target.pos with line := 0 })) >>= _).wrap _ _ _ _) fs s
  refine seg_at ?_
  rw [Sem.bind_eq_wrap', Sem.wrap_wrap]
  refine seg_wrap (wpAny_onRaise (wpAny_mono h (fun r s1 h1 => ?_) fun x s' hx => wpAny_standAt hx))
  cases r with
  | none => exact seg_again rfl h1
  | some v =>
    show Seg _ A R Y n s₀ _ ((letOwnedTupleGo target it v >>= fun _ => assign target env v >>= fun _ => execs body env >>= _).wrap _ _ _ _) fs s1
    rw [Sem.bind_eq_wrap', Sem.wrap_wrap]
    refine seg_wrap (wpAny_mono h1 (fun _ s2 h2 => ?_) fun _ _ x => x)
    rw [Sem.bind_eq_wrap', Sem.wrap_wrap]
    refine seg_wrap (wpAny_mono h2 (fun _ s3 h3 => ?_) fun _ _ x => x)
    rw [Sem.bind_eq_wrap', Sem.wrap_wrap]
    exact cast (congrArg (fun t => Seg (model prog w) A R Y n s₀ (.forLoop target it body orelse env) t fs s3) (Sem.wrap_congr (execs body env) id id (fun f => by cases f <;> rfl) (fun e => rfl))) h3
theorem seg_blockNil {k h g l c₁ p₁ kp} (hk : Seg (model prog w) A R Y n s₀ c₁ (k (.ok .next)) fs s) : Seg (model prog w) A R Y n s₀ (.block [] env) ((model prog w).den (.block [] env)) (.ret k h g l c₁ p₁ kp :: fs) s :=
  seg_leaf (.ok .next) hk
end
section
variable {prog : Program} {w : World} {A : Around} {E : Value → Shared → Prop} {s : Shared}
theorem pyNext_genQ {a : Addr} {g n : Nat} {gs : GenState} {P : Nat → Shared → Shared → Prop} {Y : Protocol} {Q : Option Value → Shared → Prop} (hh : A.handled = none)
    (hl : s.heap.NoLimit) (hroom : A.depth < recursionLimit) (hg : s.heap.IsGen a g) (hgs : s.gens[g]? = some gs)
    (hgo : gs.Goes (model prog w) A.in1 (fun n s₀ r s₁ => r = .ok (.ret .none) ∧ P n s₀ s₁) Y n (.send .none) (s.setGen g .running))
    (hY : ∀ v s₁ gs', gs'.bare = true → Y (n - 1) (s.setGen g .running) v s₁ (fun r' s'' => match n with
        | 0 => False
        | m + 1 => gs'.Goes (model prog w) A.in1 (fun n s₀ r s₁ => r = .ok (.ret .none) ∧ P n s₀ s₁) Y m r' s'') → Q (some v) (s₁.setGen g gs'))
    (hP : ∀ s₁, P n (s.setGen g .running) s₁ → ∀ h', (∀ b o, s₁.heap.get? b = some o → h'.get? b = some o) → Q none { s₁.setGen g .finished with heap := h' }) :
    wpAny (model prog w) A (pyNext (.ref a)) Q E s := by
  have fresh : (∃ c, gs = .fresh c) ∨ (∃ k l c p fs cl, gs = .suspended k l c p fs cl) := by
    cases gs with
    | running => exact hgo.elim
    | finished => exact hgo.elim
    | fresh c => exact .inl ⟨c, rfl⟩
    | suspended k l c p fs cl => exact .inr ⟨k, l, c, p, fs, cl, rfl⟩
  have stop : ∀ s2, P n (s.setGen g .running) s2 → wpAny (model prog w) A.in1 (newExc (.type "StopIteration") []) (fun e s3 => s3.TypeIs e "StopIteration" ∧ Q none s3) (fun _ _ => False) (s2.setGen g .finished) := by
    intro s2 hp
    simp only [newExc, newTuple]
    refine wpAny_bind (wpAny_newObj_type ?_ (by size_fits))
    refine wpAny_bind (m := firstArgMember _ _) (wpAny_of_eq (a := Value.none) (by first | rfl | (simp only [firstArgMember]; rfl)) ?_)
    refine wpAny_newObj_type ⟨⟨_, Heap.get?_push_size _ rfl, rfl⟩, ?_⟩ (by size_fits)
    exact hP s2 hp _ fun b o hb => Heap.get?_push_of_some _ (Heap.get?_push_of_some _ hb)
  unfold pyNext
  refine wpAny_bind (wpAny_attempt (wpAny_callSpecial?_slot (name := Str.ofString "__next__") hg.typeIs slot_gen_next
    (wpAny_call_entry slot_gen_next hg.typeIs entry_gen_next ?_ (args_gen_next _))))
  show wpAny _ A.in1 (Builtin.Generator.genWake (.ref a) (.send .none)) _ _ s
  unfold Builtin.Generator.genWake
  refine wpAny_bind (wpAny_holding (wpAny_genNumber hg (wpAny_bind (wpAny_genState hgs ?_))))
  have step : ∀ {k : GenResult → Sem Fin} {Qf : Fin → Shared → Prop} {Ef : Value → Shared → Prop}, (∀ v s1, Q (some v) s1 → wpAny (model prog w) A.in1 (k (.yielded v)) Qf Ef s1) →
      (∀ s2, P n (s.setGen g .running) s2 → wpAny (model prog w) A.in1 (k (.returned .none)) Qf Ef (s2.setGen g .finished)) → wpAny (model prog w) A.in1 (resume g (.send .none) >>= k) Qf Ef s := by
    intro k Qf Ef hy hr
    show wpAny (model prog w) A.in1 (.resume g (.send .none) [] _) Qf Ef s
    refine wpAny_resumeQ hgs hgo (fun x s₁ hx => ?_) fun v s₁ gs' hb hv => hy v _ (hY v s₁ gs' hb hv)
    obtain ⟨rfl, hp⟩ := hx
    exact hr s₁ hp
  have fin : ∀ {Qf : Fin → Shared → Prop} {Ef : Value → Shared → Prop} {rest : Unit → Sem Fin} (s2 : Shared), P n (s.setGen g .running) s2 → (∀ e s3, s3.TypeIs e "StopIteration" → Q none s3 → Ef e s3) →
      wpAny (model prog w) A.in1 (newExc (.type "StopIteration") [] >>= fun x => raiseNew x >>= rest) Qf Ef (s2.setGen g .finished) := by
    intro Qf Ef rest s2 hp hE
    refine wpAny_bind (wpAny_mono (stop s2 hp) (fun e s3 h3 => ?_) fun _ _ h => h.elim)
    simp only [raiseNew]
    refine wpAny_bind (wpAny_bind (wpAny_handled ?_))
    first | rw [show A.in1.handled = none from hh] | rw [hh]
    cases e <;> exact wpAny_throw (hE _ s3 h3.1 h3.2)
  rcases fresh with ⟨c, rfl⟩ | ⟨k0, l0, c0, p0, f0, cl0, rfl⟩
  all_goals
    refine wpAny_bind (wpAny_roomToWake hl hroom ?_)
    refine step (fun v s1 hv => wpAny_pure ⟨v, rfl, wpAny_pure hv⟩) fun s2 hp => ?_
    refine fin s2 hp fun e s3 ht hq => ?_
    exact wpAny_bind (wpAny_isInstance (T := "StopIteration") (b := true) ht isSubtype_stop (wpAny_pure hq))
end
structure Since (wr : List Addr) (s₀ s : Shared) : Prop where
  same : ∃ h' tk, s = { s₀ with heap := h', toks := tk }
  old : ∀ b o, b ∉ wr → s₀.heap.get? b = some o → s.heap.get? b = some o
theorem Since.refl (wr : List Addr) (s : Shared) : Since wr s s := ⟨⟨s.heap, s.toks, rfl⟩, fun _ _ _ e => e⟩
theorem Since.trans {wr : List Addr} {s s' s'' : Shared} (x : Since wr s s') (y : Since wr s' s'') : Since wr s s'' := by
  refine ⟨?_, fun b o hb e => y.old b o hb (x.old b o hb e)⟩
  obtain ⟨h1, t1, rfl⟩ := x.same
  obtain ⟨h2, t2, rfl⟩ := y.same
  exact ⟨h2, t2, rfl⟩
theorem Since.of {wr : List Addr} {s : Shared} {h' : Heap} {tk : Nat} (k : ∀ b o, b ∉ wr → s.heap.get? b = some o → h'.get? b = some o) : Since wr s { s with heap := h', toks := tk } := ⟨⟨h', tk, rfl⟩, k⟩
noncomputable def cx_esc : Cx := { sc := scopeOf (fstmt 1), ns := [(Str.ofString "addr", VK.loc), (Str.ofString "pos", VK.loc), (Str.ofString "escape", VK.loc), (Str.ofString "ch", VK.loc)], mu := 4, lv := 20 }
theorem cx_esc_ok : cx_esc.ok = true := by decide +kernel
noncomputable def forS : Stmt := nthS (bodyOf (fstmt 1)) 2
noncomputable def forBody : Stmt → List Stmt
  | .For _ _ body _ _ => body
  | _ => []
noncomputable def forTgt : Stmt → Expr
  | .For t _ _ _ _ => t
  | _ => .Name (Str.ofString "") ⟨0, 0, 0, 0⟩
noncomputable def escG (p : Int) (i : Nat) : Bool → List Nat → List (Int × List Nat)
  | b, [] => if b then [(p, [92])] else []
  | true, c :: r => ((i : Int), [92, c]) :: escG i (i + 1) false r
  | false, c :: r => if c == 92 then escG i (i + 1) true r else ((i : Int), [c]) :: escG i (i + 1) false r
section
variable {prog : Program} {w : World} {A : Around} {E : Value → Shared → Prop} {s : Shared} {env : Env}
theorem rawName {x : Str} {v : Value} {m : Str → Option Value} {pos : Pos} {Q : Value → Shared → Prop} (he : EnvOk cx_esc env) (hi : (x, VK.loc) ∈ cx_esc.ns) (hn : s.heap.Ns env.locals m) (hm : m x = some v) (h : Q v s) : wpAny (model prog w) A (eval (.Name x pos) env) Q E s :=
  wpAny_Name (wpAny_loadName_local (by rw [he.scope]; exact Cx.kind cx_esc_ok) (by rw [kindOf_of he]; exact kindFits_loc (Cx.at cx_esc_ok hi).2.2) hn hm h) (Cx.at cx_esc_ok hi).1
theorem rawStore {x : Str} {v : Value} {m : Str → Option Value} {Q : Unit → Shared → Prop} (he : EnvOk cx_esc env) (hi : (x, VK.loc) ∈ cx_esc.ns) (hn : s.heap.Ns env.locals m)
    (h : ∀ h', h'.Ns env.locals (fun y => if y = x then some v else m y) → Heap.SameBut env.locals s.heap h' → Q () { s with heap := h', toks := s.toks + 1 }) : wpAny (model prog w) A (storeName env x v) Q E s :=
  wpAny_storeName_local (by rw [kindOf_of he]; exact kindFits_loc (Cx.at cx_esc_ok hi).2.2) hn h (by rw [he.scope, Cx.kind cx_esc_ok]; rfl)
theorem rawEq {a b : List Nat} {t u : Tok} {Q : Value → Shared → Prop} (ha : a.all (· < 128) = true) (hb : b.all (· < 128) = true) (hu : A.units + 6 < cLine) (h : Q (.bool (a == b)) s) : wpAny (model prog w) A (compareOp .Eq (.str ⟨a.toArray⟩ t) (.str ⟨b.toArray⟩ u)) Q E s := by
  obtain ⟨as, ra⟩ := reads_of (H := fun _ => none) (h := s.heap) (fun _ _ e => by cases e) 0 (.str a) (.str ⟨a.toArray⟩ t) ha ⟨t, rfl⟩
  obtain ⟨bs, rb⟩ := reads_of (H := fun _ => none) (h := s.heap) (fun _ _ e => by cases e) 0 (.str b) (.str ⟨b.toArray⟩ u) hb ⟨u, rfl⟩
  have la := lay_of 0 (.str a) ha
  have lb := lay_of 0 (.str b) hb
  refine PySem.SeqAt.compareEq_reads ra rb la.1 lb.1 (by have := la.2; omega) ?_
  rw [eqv_of 0 (.str a) (.str b) ha hb]
  exact h
noncomputable def EscAt (env : Env) (x : List Nat) (p : Int) (b : Bool) (s : Shared) : Prop :=
  ∃ m, s.heap.Ns env.locals m ∧ (∃ t, m (Str.ofString "addr") = some (.str ⟨x.toArray⟩ t)) ∧ (∃ t, m (Str.ofString "pos") = some (.int p t)) ∧ m (Str.ofString "escape") = some (.bool b)
end
noncomputable def EscY (wr : Nat → List Addr) (I : Addr) (oI : Obj) (items : List (Int × List Nat)) : Protocol := fun m s₀ v s' kap =>
  ∃ i p T t t', i + (m + 1) = items.length ∧ items[i]? = some p ∧ v = .ref T ∧ s'.heap.get? T = some { cls := .type "tuple", data := .seq #[.int p.1 t, .str ⟨p.2.toArray⟩ t'] } ∧ s₀.heap.get? T = none ∧ T ∉ wr 0 ∧ Since (wr 0) s₀ s' ∧
    s'.heap.get? I = some oI ∧ (∀ b ∈ wr (i + 1), ∃ o, s'.heap.get? b = some o) ∧ ∀ s'', (∀ b ∈ wr (i + 1), ∀ o, s'.heap.get? b = some o → s''.heap.get? b = some o) → kap (.send .none) s''
structure EscLoop (env : Env) (x : List Nat) (tx : Tok) (I : Addr) (oI : Obj) (e it : Addr) (j : Nat) (p : Int) (b : Bool) (s : Shared) : Prop where
  fr : EscAt env x p b s
  walk : (∃ old, IsEnum s.heap e it j old) ∧ s.heap.IsStrIter it "str_ascii_iterator" ⟨x.toArray⟩ tx j
  self : s.heap.get? I = some oI
theorem EscAt.at {env : Env} {x : List Nat} {p : Int} {b : Bool} {s s' : Shared} (y : EscAt env x p b s) (k : ∀ o, s.heap.get? env.locals = some o → s'.heap.get? env.locals = some o) : EscAt env x p b s' :=
  let ⟨m, hn, r⟩ := y; ⟨m, hn.at' k, r⟩
theorem EscLoop.live {env : Env} {x : List Nat} {tx : Tok} {I : Addr} {oI : Obj} {e it : Addr} {j : Nat} {p : Int} {b : Bool} {s : Shared} (y : EscLoop env x tx I oI e it j p b s) : ∀ a ∈ [I, env.locals, it, e], ∃ o, s.heap.get? a = some o := by
  intro a ha
  obtain ⟨m, ⟨o, _, _, ho, _⟩, _⟩ := y.fr
  obtain ⟨⟨old, he⟩, o2, ho2, _⟩ := y.walk
  simp only [List.mem_cons, List.not_mem_nil, or_false] at ha
  rcases ha with rfl | rfl | rfl | rfl
  · exact ⟨oI, y.self⟩
  · exact ⟨o, ho⟩
  · exact ⟨o2, ho2⟩
  · exact ⟨_, he⟩
theorem EscLoop.at {env : Env} {x : List Nat} {tx : Tok} {I : Addr} {oI : Obj} {e it : Addr} {j : Nat} {p : Int} {b : Bool} {s s' : Shared} (y : EscLoop env x tx I oI e it j p b s) (k : ∀ a ∈ [I, env.locals, it, e], ∀ o, s.heap.get? a = some o → s'.heap.get? a = some o) : EscLoop env x tx I oI e it j p b s' := by
  refine ⟨y.fr.at fun o => k _ (by simp) o, ⟨?_, ?_⟩, ?_⟩
  · obtain ⟨⟨old, he⟩, _⟩ := y.walk; exact ⟨old, k _ (by simp) _ he⟩
  · obtain ⟨_, o2, ho2, r⟩ := y.walk; exact ⟨o2, k _ (by simp) _ ho2, r⟩
  · exact k _ (by simp) _ y.self
section
variable {prog : Program} {w : World} {A : Around} {R : GenEnd} {n : Nat} {s₀ s : Shared} {c : Code} {fs : List Frame} {env : Env} {K : Flow → Sem Fin} {H : Value → Sem Fin} {items : List (Int × List Nat)} {x : List Nat} {tx : Tok} {I : Addr} {oI : Obj} {e it : Addr}
theorem esc_set {j : Nat} {p : Int} {b b' : Bool} {k : Nat} {q1 q2 q3 : Pos} {Q : Flow → Shared → Prop} {E : Value → Shared → Prop} (he : EnvOk cx_esc env) (hLi : env.locals ≠ it) (hLe : env.locals ≠ e) (hLI : env.locals ≠ I) (y : EscLoop env x tx I oI e it j p b s)
    (h : ∀ s', Since [I, env.locals, it, e] s s' → EscLoop env x tx I oI e it j p b' s' → Q .next s') : wpAny (model prog w) A (exec (.Assign [.Name (Str.ofString "escape") q1] (.Constant (.bool b') k q2) q3) env) Q E s := by
  obtain ⟨m, hn, h1, h2, h3⟩ := y.fr
  refine wpAny_Assign_Name (wpAny_Constant_bool (rawStore he (by decide +kernel) hn fun h' hn' hsb => h _ (Since.of fun b o hb e => ?_) ⟨⟨_, hn', ?_, ?_, ?_⟩, ⟨?_, ?_⟩, ?_⟩))
  · exact (hsb.2 b fun q => hb (by simp [q])).trans e
  · exact h1
  · exact h2
  · rfl
  · obtain ⟨⟨old, ho⟩, _⟩ := y.walk; exact ⟨old, (hsb.2 e (Ne.symm hLe)).trans ho⟩
  · obtain ⟨_, o2, ho2, r⟩ := y.walk; exact ⟨o2, (hsb.2 it (Ne.symm hLi)).trans ho2, r⟩
  · exact (hsb.2 I (Ne.symm hLI)).trans y.self
theorem esc_yield {wr : Nat → List Addr} {p : Int} {y : List Nat} {e1 e2 : Expr} {k : Nat} {q1 q2 q3 : Pos} {gd : Bool → Bool} {lv : List Value → List Value} (hfs : splitAtGen fs = none) (hgd : gd false = false) (hfg : fs.any Frame.guarded = false) (he : EnvOk cx_esc env)
    (h1 : ∀ (Q : Value → Shared → Prop) E, (∀ t tk, Q (.int p t) { s with toks := tk }) → wpAny (model prog w) (A.over c fs) (eval e1 env) Q E s)
    (h2 : ∀ tk (Q : Value → Shared → Prop) E, (∀ t tk', Q (.str ⟨y.toArray⟩ t) { s with toks := tk' }) → wpAny (model prog w) (A.over c fs) (eval e2 env) Q E { s with toks := tk })
    (hlen : n + 1 ≤ items.length) (hit : items[items.length - (n + 1)]? = some (p, y)) (hs : Since (wr 0) s₀ s) (hT : s.heap.objs.size ∉ wr 0) (hself : s.heap.get? I = some oI) (hlive : ∀ b ∈ wr (items.length - n), ∃ o, s.heap.get? b = some o)
    (hc : ∀ s'', (∀ b ∈ wr (items.length - n), ∀ o, s.heap.get? b = some o → s''.heap.get? b = some o) → Seg (model prog w) A R (EscY wr I oI items) n s'' c (K .next) fs s'')
    (hst1 : ∀ env, starEach [e1, e2] env = (false, eval e1 env) :: starEach [e2] env := by intro _; rfl) (hst2 : ∀ env, starEach [e2] env = (false, eval e2 env) :: starEach [] env := by intro _; rfl) :
    Seg (model prog w) A R (EscY wr I oI items) (n + 1) s₀ c ((exec (.Expr (.Yield (some (.Tuple [e1, e2] k q1)) q2) q3) env).wrap K H gd lv) fs s := by
  have hi : items.length - (n + 1) + 1 = items.length - n := by omega
  refine seg_Expr_Yield hfs hgd hfg (wpAny_Tuple ?_) (by rw [he.scope]; rfl) (interactive_no cx_esc_ok he)
  refine wpAny_items_cons (h1 _ _ fun t tk => ?_) (hst1 env)
  refine wpAny_items_cons (h2 tk _ _ fun t2 tk2 => wpAny_items_nil ⟨by show 2 ≤ sizeLine; decide, ?_⟩) (hst2 env)
  intro kap hk
  have hold : ∀ b o, b ∉ wr 0 → s.heap.get? b = some o → (s.heap.push { cls := .type "tuple", data := .seq [Value.int p t, .str ⟨y.toArray⟩ t2].toArray }).get? b = some o := fun b o _ ho => Heap.get?_push_of_some _ ho
  refine ⟨items.length - (n + 1), (p, y), s.heap.objs.size, t, t2, by omega, hit, rfl, Heap.get?_push_size _ rfl, ?_, hT, hs.trans (Since.of hold), Heap.get?_push_of_some _ hself, fun b hb => ?_, fun s'' hk2 => ?_⟩
  · cases q : s₀.heap.get? s.heap.objs.size with
    | none => rfl
    | some o => exact absurd (Heap.lt_size (hs.old _ o hT q)) (Nat.lt_irrefl _)
  · rw [hi] at hb
    obtain ⟨o, ho⟩ := hlive b hb; exact ⟨o, Heap.get?_push_of_some _ ho⟩
  · exact hk .none s'' (hc s'' fun b hb o ho => hk2 b (by rw [hi]; exact hb) o (Heap.get?_push_of_some _ ho))
end
noncomputable def escCode (e : Addr) (env : Env) : Code := .forLoop (forTgt forS) (.ref e) (forBody forS) [] env
theorem at_drop {α : Type} {items pre l : List α} {q : α} (h : items = pre ++ q :: l) : items[items.length - (l.length + 1)]? = some q := by
  subst h
  have : (pre ++ q :: l).length - (l.length + 1) = pre.length := by simp
  rw [this]; simp
noncomputable def escEnd : Bool → List Nat → Bool
  | b, [] => b
  | true, _ :: r => escEnd false r
  | false, c :: r => if c == 92 then escEnd true r else escEnd false r
theorem escG_pos : ∀ (r : List Nat) (p : Int) (j : Nat) (b : Bool), escEnd b r = true → 0 < (escG p j b r).length
  | [], p, j, b, h => by
    have h' : b = true := h
    subst h'; exact Nat.one_pos
  | c :: r, p, j, true, h => Nat.succ_pos _
  | c :: r, p, j, false, h => by
    unfold escEnd at h
    unfold escG
    split
    · rename_i hc; rw [if_pos hc] at h; exact escG_pos r _ _ _ h
    · exact Nat.succ_pos _
noncomputable def wrE (I L it e : Addr) (N : Nat) (tl : Bool) (i : Nat) : List Addr := if tl = true ∧ i = N then [I, L] else [I, L, it, e]
theorem wrE_lt {I L it e : Addr} {N i : Nat} {tl : Bool} (h : i < N) : wrE I L it e N tl i = [I, L, it, e] := if_neg (by omega)
theorem wrE_sub {I L it e : Addr} {N i : Nat} {tl : Bool} {b : Addr} (h : b ∈ wrE I L it e N tl i) : b ∈ [I, L, it, e] := by
  unfold wrE at h
  split at h
  · simp only [List.mem_cons, List.not_mem_nil, or_false] at h ⊢
    rcases h with rfl | rfl
    · exact .inl rfl
    · exact .inr (.inl rfl)
  · exact h
theorem wrE_next {I L it e : Addr} {N n j : Nat} {p : Int} {b : Bool} {r : List Nat} (hn : n = (escG p j b r).length) (hN : n < N) : wrE I L it e N (escEnd b r) (N - n) = [I, L, it, e] := by
  unfold wrE
  rw [if_neg]
  rintro ⟨h1, h2⟩
  have := escG_pos r p j b h1
  omega
section
variable {prog : Program} {w : World} {A : Around} {R : GenEnd} {env : Env} {items : List (Int × List Nat)} {x : List Nat} {tx : Tok} {I : Addr} {oI : Obj} {e it : Addr} {k : Result → Sem Fin} {c₁ : Code} {p₁ : Pos}
noncomputable def Above (I L it e : Addr) (s : Shared) : Prop := ∃ Z o, Z ∉ [I, L, it, e] ∧ e < Z ∧ it < Z ∧ s.heap.get? Z = some o
theorem esc_loop (hh : (A.over (escCode e env) [.ret k none false [] c₁ p₁ []]).handled = none) (hu : (A.over (escCode e env) [.ret k none false [] c₁ p₁ []]).units + 6 < cLine) (hx : x.all (· < 128) = true)
    (he : EnvOk cx_esc env) (hei : e ≠ it) (hLi : env.locals ≠ it) (hLe : env.locals ≠ e) (hLI : env.locals ≠ I) (hIi : I ≠ it) (hIe : I ≠ e) {tl : Bool}
    (tail : ∀ s₀ s p b, b = tl → (b = true → Above I env.locals it e s) → EscAt env x p b s → s.heap.get? I = some oI → Since [I, env.locals, it, e] s₀ s → (∃ pre, items = pre ++ escG p 0 b []) → Seg (model prog w) A R (EscY (wrE I env.locals it e items.length tl) I oI items) (escG p 0 b []).length s₀ c₁ (k (.ok .next)) [] s) :
    ∀ (rest : List Nat) (j : Nat) (p : Int) (b : Bool) (s₀ s : Shared), x.drop j = rest → j ≤ x.length → EscLoop env x tx I oI e it j p b s → Since [I, env.locals, it, e] s₀ s → (∃ pre, items = pre ++ escG p j b rest) → tl = escEnd b rest → (b = true → Above I env.locals it e s) →
      Seg (model prog w) A R (EscY (wrE I env.locals it e items.length tl) I oI items) (escG p j b rest).length s₀ (escCode e env) ((model prog w).den (escCode e env)) [.ret k none false [] c₁ p₁ []] s := by
  have D := Draws.strAscii (prog := prog) (w := w) (A := (A.over (escCode e env) [.ret k none false [] c₁ p₁ []]).in1) hh it ⟨x.toArray⟩ tx
  have W := WalksT.enumerateD D e hei (by simpa using hei) (List.mem_singleton.mpr rfl)
  have hwr : ∀ b, b ∉ [I, env.locals, it, e] → b ∉ [e, it] := fun b hb q => hb (by
    simp only [List.mem_cons, List.not_mem_nil, or_false] at q ⊢
    rcases q with rfl | rfl
    · exact .inr (.inr (.inr rfl))
    · exact .inr (.inr (.inl rfl)))
  have hLw : env.locals ∉ [e, it] := by simp [hLe, hLi]
  have hIw : I ∉ [e, it] := by simp [hIe, hIi]
  intro rest
  induction rest with
  | nil =>
    intro j p b s₀ s hd hj y hs hp ht hz
    have hjl : j = x.length := by
      have := congrArg List.length hd
      simp at this; omega
    refine seg_forLoop (W.done s _ _ (by have hw := y.walk; rw [hjl] at hw; exact hw) fun h2 tk hk2 => ?_)
    refine seg_blockNil ?_
    refine tail s₀ _ p b ht.symm (fun hb => ?_) (y.fr.at fun o ho => hk2 _ o hLw ho) ?_ (hs.trans (Since.of fun b o hb ho => hk2 b o (hwr b hb) ho)) hp
    · obtain ⟨Z, o, h1, h3, h4, h5⟩ := hz hb
      exact ⟨Z, o, h1, h3, h4, hk2 Z o (hwr Z h1) h5⟩
    · exact hk2 _ _ hIw y.self
  | cons ch r ih =>
    intro j p b s₀ s hd hj y hs hp ht hz
    have hjl : j < x.length := by
      have := congrArg List.length hd
      simp at this; omega
    have hch : x[j]? = some ch := by
      have := congrArg (fun l => l[0]?) hd
      simpa using this
    have hdr : x.drop (j + 1) = r := by
      have := congrArg (List.drop 1) hd
      simpa [List.drop_drop] using this
    have hc128 : ch < 128 := by
      have := List.all_eq_true.mp hx ch (List.mem_of_getElem? hch)
      simpa using this
    refine seg_forLoop (W.item j s _ _ (by simpa using hjl) y.walk fun T vals h2 tk hPt hT hTt hm hk2 => ?_)
    obtain ⟨t0, v, ⟨c', u, hc', rfl⟩, rfl⟩ := hPt
    have hcc : c' = ch := by simp at hc'; rw [hch] at hc'; exact (Option.some.inj hc').symm
    subst hcc
    refine W.go _ _ _ j T _ _ _ hm fun h3 t3 hk3 => ?_
    have hTw := W.apart j T h2 hm
    obtain ⟨oT, hoT, hcT, nT, hdT⟩ := hTt
    have hoT3 := hk3 T oT hTw hoT
    refine assign_Tuple_tuple (items := #[.int j t0, .str ⟨#[c']⟩ u]) hh ⟨oT, hoT3, hcT, nT, hdT⟩ (by rfl) (by rfl) fun h4 hb4 => ?_
    have k4 : ∀ b o, b ∉ [e, it] → s.heap.get? b = some o → h4.get? b = some o := fun b o hb ho => by
      have h5 := hk3 b o hb (hk2 b o hb ho)
      exact hb4 b o (Nat.ne_of_lt (Heap.lt_size h5)) h5
    have k34 : ∀ b o, h3.get? b = some o → h4.get? b = some o := fun b o ho => hb4 b o (Nat.ne_of_lt (Heap.lt_size ho)) ho
    obtain ⟨m, hn, ha, hp0, hb0⟩ := y.fr
    have hn4 : h4.Ns env.locals m := hn.at' fun o ho => k4 _ o hLw ho
    show wpAny _ _ (do holding _ (assign (.Name (Str.ofString "pos") _) env (.int j t0)); assignInOrder _ _) _ _ _
    refine wpAny_bind (wpAny_holding (wpAny_assign_Name (rawStore he (by decide +kernel) hn4 fun h5 hn5 hsb5 => ?_)))
    show wpAny _ _ (do holding _ (assign (.Name (Str.ofString "ch") _) env (.str ⟨#[c']⟩ u)); assignInOrder _ _) _ _ _
    refine wpAny_bind (wpAny_holding (wpAny_assign_Name (rawStore he (by decide +kernel) hn5 fun h6 hn6 hsb6 => wpAny_pure ?_)))
    have k56 : ∀ b o, b ≠ env.locals → h4.get? b = some o → h6.get? b = some o := fun b o hb ho => (hsb6.2 b hb).trans ((hsb5.2 b hb).trans ho)
    have keep : ∀ b o, b ∉ [I, env.locals, it, e] → s.heap.get? b = some o → h6.get? b = some o := fun b o hb ho => k56 b o (fun q => hb (by simp [q])) (k4 b o (hwr b hb) ho)
    generalize hs6 : ({ s with heap := h6, toks := _ } : Shared) = s6
    have hs6h : s6.heap = h6 := by rw [← hs6]
    have hsince : Since [I, env.locals, it, e] s₀ s6 := hs.trans (by rw [← hs6]; exact Since.of keep)
    have y6 : EscLoop env x tx I oI e it (j + 1) j b s6 := by
      refine ⟨?_, ?_, ?_⟩
      · unfold EscAt; rw [hs6h]; exact ⟨_, hn6, ha, ⟨t0, rfl⟩, hb0⟩
      · rw [hs6h]
        obtain ⟨⟨old, h7⟩, o8, h8, r8⟩ := t3
        exact ⟨⟨old, k56 e _ (Ne.symm hLe) (k34 _ _ h7)⟩, o8, k56 it _ (Ne.symm hLi) (k34 _ _ h8), r8⟩
      · rw [hs6h]; exact k56 I _ (Ne.symm hLI) (k4 I _ hIw y.self)
    have hname : ∀ {tk' : Nat} {z : Str} {v : Value} {ps : Pos} {Q : Value → Shared → Prop} {E : Value → Shared → Prop}, (z, VK.loc) ∈ cx_esc.ns → (if z = Str.ofString "ch" then some (Value.str ⟨#[c']⟩ u) else if z = Str.ofString "pos" then some (Value.int j t0) else m z) = some v → Q v { s6 with toks := tk' } → wpAny (model prog w) (A.over (escCode e env) [.ret k none false [] c₁ p₁ []]) (eval (.Name z ps) env) Q E { s6 with toks := tk' } := by
      intro tk' z v ps Q E hz hv hq
      refine rawName (m := fun z => if z = Str.ofString "ch" then some (Value.str ⟨#[c']⟩ u) else if z = Str.ofString "pos" then some (Value.int j t0) else m z) he hz ?_ hv hq
      show s6.heap.Ns env.locals _
      rw [hs6h]; exact hn6
    have hz6 : Above I env.locals it e s6 := by
      have hTn : T ∉ [I, env.locals, it, e] := fun q => by obtain ⟨o, ho⟩ := y.live T q; exact Nat.lt_irrefl _ (Nat.lt_of_lt_of_le (Heap.lt_size ho) hT)
      obtain ⟨o1, h7⟩ := y.live it (by simp)
      obtain ⟨o2, h8⟩ := y.live e (by simp)
      refine ⟨T, oT, hTn, Nat.lt_of_lt_of_le (Heap.lt_size h8) hT, Nat.lt_of_lt_of_le (Heap.lt_size h7) hT, ?_⟩
      rw [hs6h]; exact k56 T oT (fun q => hTn (by simp [q])) (k34 T oT hoT3)
    clear hs6
    refine seg_execs_cons (seg_If ?_)
    refine wpAny_isTrue_value (hname (tk' := s6.toks) (by decide +kernel) hb0 (wpAny_truthy_bool ?_)) rfl
    have next : ∀ (b' : Bool) (s7 : Shared) (sz : Shared), EscLoop env x tx I oI e it (j + 1) j b' s7 → Since [I, env.locals, it, e] sz s7 → (∃ pre, items = pre ++ escG j (j + 1) b' r) → tl = escEnd b' r → (b' = true → Above I env.locals it e s7) →
        Seg (model prog w) A R (EscY (wrE I env.locals it e items.length tl) I oI items) (escG j (j + 1) b' r).length sz (escCode e env) (.pure (.again (escCode e env))) [.ret k none false [] c₁ p₁ []] s7 := fun b' s7 sz y7 h7 hp7 ht7 hz7 =>
      seg_again rfl (ih (j + 1) j b' sz s7 hdr hjl y7 h7 hp7 ht7 hz7)
    obtain ⟨pre, hpre⟩ := hp
    have hpos : ∀ (q : Int × List Nat) (l : List (Int × List Nat)), items = pre ++ q :: l → l.length + 1 ≤ items.length := fun q l h => by rw [h]; simp
    have hT : ∀ i, s6.heap.objs.size ∉ wrE I env.locals it e items.length tl i := fun i hm => by
      obtain ⟨o, ho⟩ := y6.live _ (wrE_sub hm)
      exact Nat.lt_irrefl _ (Heap.lt_size ho)
    cases b with
    | true =>
      simp only [if_true]
      have hpre' : items = pre ++ ((j : Int), [92, c']) :: escG j (j + 1) false r := hpre
      have ht' : tl = escEnd false r := ht
      have hlen := hpos _ _ hpre'
      have hl : (escG p j true (c' :: r)).length = (escG j (j + 1) false r).length + 1 := rfl
      rw [hl]
      refine seg_execs_cons (esc_yield (p := j) (y := [92, c']) rfl rfl rfl he (fun Q E hq => hname (tk' := s6.toks) (v := .int j t0) (by decide +kernel) rfl (hq _ _)) (fun tk Q E hq => ?_) hlen (at_drop hpre') (by rw [wrE_lt (by omega)]; exact hsince) (hT 0) y6.self (fun b hb => y6.live b (wrE_sub hb)) fun s'' hk => ?_)
      · refine wpAny_BinOp (wpAny_Constant_str ?_)
        refine hname (tk' := tk + 1) (v := .str ⟨#[c']⟩ u) (by decide +kernel) rfl ?_
        exact PyProof.Rows.add_str (x := Str.ofString "\\") (fun t' tk' => hq t' tk') (by show 1 + 1 ≤ sizeLine; decide)
      · rw [ht', wrE_next rfl (by omega)] at hk
        have y7 := y6.at hk
        refine seg_execs_cons (seg_wrap (esc_set he hLi hLe hLI y7 fun s8 h8 y8 => ?_))
        exact next false s8 s'' y8 h8 ⟨pre ++ [((j : Int), [92, c'])], by rw [hpre']; simp⟩ ht' (fun h => by cases h)
    | false =>
      simp only [Bool.false_eq_true, if_false]
      refine seg_execs_cons (seg_If (wpAny_isTrue_Compare1 (hname (tk' := s6.toks) (v := .str ⟨#[c']⟩ u) (by decide +kernel) rfl (wpAny_Constant_str ?_))))
      refine rawEq (a := [c']) (b := [92]) (by simp [hc128]) rfl hu (wpAny_truthy_bool ?_)
      have hbq : ([c'] == [92]) = (c' == 92) := by simp [List.cons_beq_cons]
      rw [hbq]
      cases hc9 : (c' == 92) with
      | true =>
        simp only [if_true]
        have hg : escG p j false (c' :: r) = escG j (j + 1) true r := by
          rw [escG]; rw [if_pos hc9]
        have ht' : tl = escEnd true r := by rw [ht, escEnd, if_pos hc9]
        rw [hg] at hpre ⊢
        have y6' : EscLoop env x tx I oI e it (j + 1) j false { s6 with toks := s6.toks + 1 } := y6.at fun _ _ _ ho => ho
        refine seg_execs_cons (seg_wrap (esc_set he hLi hLe hLI y6' fun s8 h8 y8 => ?_))
        exact next true s8 s₀ y8 ((hsince.trans (Since.of (h' := s6.heap) fun _ _ _ ho => ho)).trans h8) ⟨pre, hpre⟩ ht' fun _ => by
          obtain ⟨Z, o, h1, h3, h4, h5⟩ := hz6
          exact ⟨Z, o, h1, h3, h4, h8.old Z o h1 h5⟩
      | false =>
        simp only [Bool.false_eq_true, if_false]
        have hg : escG p j false (c' :: r) = ((j : Int), [c']) :: escG j (j + 1) false r := by
          rw [escG]; rw [if_neg (by rw [hc9]; decide)]
        have ht' : tl = escEnd false r := by rw [ht, escEnd, if_neg (by rw [hc9]; decide)]
        rw [hg] at hpre ⊢
        have hlen := hpos _ _ hpre
        have hl : (((j : Int), [c']) :: escG j (j + 1) false r).length = (escG j (j + 1) false r).length + 1 := rfl
        rw [hl]
        have y6' : EscLoop env x tx I oI e it (j + 1) j false { s6 with toks := s6.toks + 1 } := y6.at fun _ _ _ ho => ho
        refine seg_execs_cons (esc_yield (s := { s6 with toks := s6.toks + 1 }) (p := j) (y := [c']) rfl rfl rfl he (fun Q E hq => hname (v := .int j t0) (by decide +kernel) rfl (hq _ _)) (fun tk Q E hq => hname (tk' := tk) (v := .str ⟨#[c']⟩ u) (by decide +kernel) rfl (hq _ _)) hlen (at_drop hpre) (by rw [wrE_lt (by omega)]; exact hsince.trans (Since.of (h' := s6.heap) fun _ _ _ ho => ho)) (hT 0) y6'.self (fun b hb => y6'.live b (wrE_sub hb)) fun s'' hk => ?_)
        rw [ht', wrE_next rfl (by omega)] at hk
        exact next false s'' s'' (y6'.at hk) (Since.refl _ _) ⟨pre ++ [((j : Int), [c'])], by rw [hpre]; simp⟩ ht' (fun h => by cases h)
end
noncomputable def EscR (wr : Nat → List Addr) (N : Nat) : GenEnd := fun n s₀ r s₁ => r = .ok (.ret .none) ∧ n = 0 ∧ Since (wr N) s₀ s₁
section
variable {prog : Program} {w : World} {A : Around} {env : Env} {s : Shared} {x : List Nat} {I : Addr} {oI : Obj}
theorem over_handled (hA : A.handled = none) (e : Addr) (env : Env) (k : Result → Sem Fin) (body : List Stmt) (p : Pos) : (A.over (escCode e env) [.ret k none false [] (.func body env) p []]).handled = none := by
  show (marksOver [Frame.ret k none false [] (.func body env) p []] (A.handled, A.handled)).1 = none
  rw [hA]; rfl
theorem over_units (hA : A.units + 100 < cLine) (e : Addr) (env : Env) (k : Result → Sem Fin) (body : List Stmt) (p : Pos) : (A.over (escCode e env) [.ret k none false [] (.func body env) p []]).units + 6 < cLine := by
  have h1 : (Code.func body env).cUnits ≤ 40 := by show 3 * 1 ≤ 40; decide
  have h2 : (escCode e env).cUnits ≤ 40 := by show 3 * 0 ≤ 40; decide
  show A.units + ((Code.func body env).cUnits + 0) + (escCode e env).cUnits + 6 < cLine
  omega
theorem esc_goes {mg mb : Str → Option Value} (hA : A.handled = none) (hu : A.units + 100 < cLine) (he : EnvOk cx_esc env) (hx : x.all (· < 128) = true) (hLI : env.locals ≠ I) (hI : s.heap.get? I = some oI)
    {m : Str → Option Value} (hn : s.heap.Ns env.locals m) {t : Tok} (ha : m (Str.ofString "addr") = some (.str ⟨x.toArray⟩ t))
    (hg : s.heap.Ns mainGlobals mg) (hLg : env.locals ≠ mainGlobals) (hmg : mg (Str.ofString "enumerate") = none) (hb : s.heap.Ns builtinsNs mb) (hLb : env.locals ≠ builtinsNs) (hmb : mb (Str.ofString "enumerate") = some (.type "enumerate")) :
    Seg (model prog w) A (EscR (wrE I env.locals s.heap.objs.size (s.heap.objs.size + 1) (escG 0 0 false x).length (escEnd false x)) (escG 0 0 false x).length)
      (EscY (wrE I env.locals s.heap.objs.size (s.heap.objs.size + 1) (escG 0 0 false x).length (escEnd false x)) I oI (escG 0 0 false x)) (escG 0 0 false x).length s (.func (bodyOf (fstmt 1)) env) ((model prog w).den (.func (bodyOf (fstmt 1)) env)) [] s := by
  have hLlt : env.locals < s.heap.objs.size := by obtain ⟨o, _, _, ho, _⟩ := hn; exact Heap.lt_size ho
  have hIlt : I < s.heap.objs.size := Heap.lt_size hI
  have hAf : (A.over (.func (bodyOf (fstmt 1)) env) []).handled = none := by show (marksOver [] (A.handled, A.handled)).1 = none; exact hA
  refine seg_func ?_
  refine seg_execs_cons (seg_wrap (wpAny_Assign_Name (wpAny_Constant_int (rawStore he (by decide +kernel) hn fun h1 hn1 hsb1 => ?_))))
  refine seg_execs_cons (seg_wrap (wpAny_Assign_Name (wpAny_Constant_bool (rawStore he (by decide +kernel) hn1 fun h2 hn2 hsb2 => ?_))))
  have hsz2 : h2.objs.size = s.heap.objs.size := by rw [hsb2.1, hsb1.1]
  have k2 : ∀ b o, b ≠ env.locals → s.heap.get? b = some o → h2.get? b = some o := fun b o hb ho => (hsb2.2 b hb).trans ((hsb1.2 b hb).trans ho)
  refine seg_execs_cons (seg_For ?_)
  refine wpAny_Call_Name_kw (Calls.Name_function_global (by rw [he.scope]; exact Cx.kind cx_esc_ok) (by rw [kindOf_of he]; kernel_rfl)
    (Calls.loadGlobal_builtin (mg := mg) (mb := mb) (v := .type "enumerate") (by rw [he.globals]; exact hg.at' fun o ho => k2 _ o (Ne.symm hLg) ho) hmg (by rw [he.builtins]; exact hb.at' fun o ho => k2 _ o (Ne.symm hLb) ho) hmb ?_) (by decide))
  refine PyProof.Rows.callWith_type1 (wpAny_items_cons (rawName he (by decide +kernel) hn2 (v := .str ⟨x.toArray⟩ t) ha (wpAny_items_nil ?_)) rfl) rfl rfl
  refine call_enumerate_str fun h3 hen hit hsz3 hk3 => ?_
  refine wpAny_pyIter_enum hen fun p => ?_
  have hh3 : (⟨h2, s.gens, s.drawn, s.toks + 1 + 1, s.os⟩ : Shared).heap.objs.size = s.heap.objs.size := hsz2
  replace hen : IsEnum h3 (s.heap.objs.size + 1) s.heap.objs.size 0 .none := by rw [← hsz2]; exact hen
  replace hit : h3.IsStrIter s.heap.objs.size (strIterType ⟨x.toArray⟩) ⟨x.toArray⟩ t 0 := by rw [← hsz2]; exact hit
  replace hk3 : ∀ b o, h2.get? b = some o → h3.get? b = some o := hk3
  have hit' : h3.IsStrIter s.heap.objs.size "str_ascii_iterator" ⟨x.toArray⟩ t 0 := by
    have h5 : strIterType ⟨x.toArray⟩ = "str_ascii_iterator" := by unfold strIterType; rw [if_pos (by simpa using hx)]
    rw [h5] at hit; exact hit
  have hn3 := hn2.at' (h' := h3) fun o ho => hk3 _ o ho
  rw [show (⟨h2, s.gens, s.drawn, s.toks + 1 + 1, s.os⟩ : Shared).heap.objs.size = s.heap.objs.size from hsz2]
  refine esc_loop (tx := t) (over_handled hA _ _ _ _ _) (over_units hu _ _ _ _ _) hx he (Nat.succ_ne_self _) (Nat.ne_of_lt hLlt) (Nat.ne_of_lt (Nat.lt_succ_of_lt hLlt)) hLI (Nat.ne_of_lt hIlt) (Nat.ne_of_lt (Nat.lt_succ_of_lt hIlt)) ?_ x 0 0 false s _ rfl (Nat.zero_le _) ?_ ?_ ⟨[], rfl⟩ rfl (fun h => by cases h)
  · intro s₀ s4 p4 b hbt hz hat hI4 hs4 hpre
    show Seg _ _ _ _ _ s₀ _ ((execs _ env).wrap _ _ id id) [] s4
    refine seg_execs_cons (seg_If ?_)
    obtain ⟨m4, hn4, h5, ⟨t6, h6⟩, h7⟩ := hat
    refine wpAny_isTrue_value (rawName he (by decide +kernel) hn4 h7 (wpAny_truthy_bool ?_)) rfl
    cases b with
    | false =>
      simp only [Bool.false_eq_true, if_false]
      refine seg_end (.ok (.ret .none)) ⟨rfl, rfl, ?_⟩
      rw [← hbt]
      unfold wrE
      rw [if_neg (fun h => by cases h.1)]
      exact hs4
    | true =>
      simp only [if_true]
      obtain ⟨pre, hpre⟩ := hpre
      have hpre' : escG 0 0 false x = pre ++ [(p4, [92])] := hpre
      have hN : 0 < (escG 0 0 false x).length := by rw [hpre']; simp
      have hw0 : wrE I env.locals s.heap.objs.size (s.heap.objs.size + 1) (escG 0 0 false x).length (escEnd false x) 0 = [I, env.locals, s.heap.objs.size, s.heap.objs.size + 1] := wrE_lt hN
      have hwN : wrE I env.locals s.heap.objs.size (s.heap.objs.size + 1) (escG 0 0 false x).length (escEnd false x) (escG 0 0 false x).length = [I, env.locals] := if_pos ⟨hbt.symm, rfl⟩
      obtain ⟨Z, oZ, hz1, hz2, hz3, hz4⟩ := hz rfl
      have hoI := hI4
      obtain ⟨oL, _, _, hoL, _⟩ := id hn4
      have hZl := Heap.lt_size hz4
      refine seg_execs_cons (esc_yield (n := 0) (p := p4) (y := [92]) rfl rfl rfl he (fun Q E hq => rawName he (by decide +kernel) hn4 h6 (hq t6 s4.toks)) (fun tk Q E hq => wpAny_Constant_str (hq _ _)) hN (at_drop (l := []) hpre') (by rw [hw0]; exact hs4) ?_ hI4 (fun b hb => ?_) fun s5 hk5 => ?_)
      · rw [hw0]
        simp only [List.mem_cons, List.not_mem_nil, or_false, not_or]
        exact ⟨Nat.ne_of_gt (Heap.lt_size hoI), Nat.ne_of_gt (Heap.lt_size hoL), Nat.ne_of_gt (Nat.lt_trans hz3 hZl), Nat.ne_of_gt (Nat.lt_trans hz2 hZl)⟩
      · rw [Nat.sub_zero, hwN] at hb
        rcases List.mem_cons.mp hb with rfl | hb
        · exact ⟨oI, hoI⟩
        · rw [List.mem_singleton.mp hb]; exact ⟨oL, hoL⟩
      · exact seg_end (.ok (.ret .none)) ⟨rfl, rfl, Since.refl _ _⟩
  · refine ⟨⟨_, hn3, ⟨t, ha⟩, ⟨s.toks, rfl⟩, rfl⟩, ⟨⟨_, hen⟩, hit'⟩, ?_⟩
    exact hk3 I _ (k2 I _ (Ne.symm hLI) hI)
  · exact Since.of (h' := h3) fun b o hb ho => hk3 b o (k2 b o (fun q => hb (by simp [q])) ho)
end
theorem ExtW.stepG {g : GC} {wr : List Addr} {gi : Nat} {s : Shared} {H : HP} {h' : Heap} {tk : Nat} {gs2 : Array GenState} (st : St g s H) (hw : WrOk wr H) (k : ∀ b o, b ∉ wr → s.heap.get? b = some o → h'.get? b = some o)
    (hb : AllBare gs2) (hg : ∀ j x, j ≠ gi → s.gens[j]? = some x → gs2[j]? = some x) : ExtW g wr [gi] s H { s with heap := h', toks := tk, gens := gs2 } H :=
  ⟨⟨fun a o e => k a o (fun q => by rw [hw.none a q] at e; cases e) (st.keep a o e), st.base, st.tab.moves (.refl _) fun a o t e => k a o (fun q => hw.notab a q t) e, st.notab, hb⟩, .refl _, fun a o h _ e => k a o h e, fun _ _ e => .inl e, ⟨_, _, _, rfl⟩, fun j x hj e => hg j x (fun q => hj (by simp [q])) e⟩
theorem ExtW.wider {g : GC} {wr wr' : List Addr} {gw : List Nat} {s s' : Shared} {H H' : HP} (x : ExtW g wr gw s H s' H') (h : ∀ b ∈ wr, b ∈ wr') : ExtW g wr' gw s H s' H' :=
  ⟨x.st, x.le, fun a o hn ht e => x.old a o (fun q => hn (h a q)) ht e, x.fresh, x.same, x.gens⟩
structure IterOk1 (g : GC) (A : Around) (I : Addr) (wr : Nat → List Addr) (gi : Nat) (tgt : Expr) (T : Nat → HP → Shared → Prop) (items : List PV) : Prop where
  sub0 : ∀ i, ∀ b ∈ wr i, b ∈ wr 0
  sub : ∀ i, i < items.length → ∀ b ∈ wr (i + 1), b ∈ wr i
  frame : ∀ i H H' (s s' : Shared), T (i + 1) H s → HLe H H' → (∀ b ∈ wr (i + 1), ∀ o, s.heap.get? b = some o → s'.heap.get? b = some o) → (∀ x, s.gens[gi]? = some x → s'.gens[gi]? = some x) → St g s' H' → T (i + 1) H' s'
  live : ∀ i H (s : Shared), T (i + 1) H s → ∀ b ∈ wr (i + 1), ∃ o, s.heap.get? b = some o
  turn : ∀ i (s : Shared) H (Q : Value → Shared → Prop) (E : Value → Shared → Prop) p, items[i]? = some p → St g s H → T i H s → WrOk (wr i) H →
    (∀ v s' H', ExtW g (wr i) [gi] s H s' H' → T (i + 1) H' s' → WrOk (wr (i + 1)) H' → VRel H' p v → Q v s') →
    wpAny (model g.prog g.w) A (pyNext (.ref I)) (fun r s₁ => ∃ v, r = some v ∧ wpAny (model g.prog g.w) A (letOwnedTupleGo tgt (.ref I) v) (fun _ s₂ => Q v s₂) E s₁) E s
  done : ∀ (s : Shared) H (Q : Option Value → Shared → Prop) (E : Value → Shared → Prop), St g s H → T items.length H s → WrOk (wr items.length) H →
    (∀ s' H', ExtW g (wr items.length) [gi] s H s' H' → Q none s') → wpAny (model g.prog g.w) A (pyNext (.ref I)) Q E s
noncomputable def DenI1 (g : GC) (C : Cx) (iter tgt : Expr) (f : List PV → Option (List PV)) : Prop :=
  ∀ env A s H ρ oa Q E items, EnvOk C env → Room A C.lv → Rel g C env s H ρ oa → f ρ = some items →
    (∀ I wr gi T s' H', Ext g s H s' H' → IterOk1 g A I wr gi tgt T items → T 0 H' s' → (∀ b ∈ wr 0, s.heap.get? b = none) → WrOk (wr 0) H' → s.gens[gi]? = none → Q (.ref I) s') →
    wpAny (model g.prog g.w) A (eval iter env) (fun x s₁ => wpAny (model g.prog g.w) A (pyIter x) Q E s₁) E s
structure LoopI1 (g : GC) (C : Cx) (env : Env) (B : Shared → HP → Option Addr → Prop) (wr : Nat → List Addr) (gi : Nat) (T : Nat → HP → Shared → Prop) (i : Nat) (ρ : List PV) (s : Shared) (H : HP) (oa : Option Addr) : Prop where
  ext : B s H oa
  rel : Rel g C env s H ρ oa
  it : T i H s
  no : ∀ b ∈ wr 0, b ≠ env.locals ∧ ∀ (z : Str) (c : Addr) (k : VK) (i : Nat), C.ns[i]? = some (z, k) → k ≠ VK.loc → env.cells.lookup z = some c → c ≠ b
  wok : WrOk (wr i) H
  noa : ∀ b ∈ wr i, oa ≠ some b
section
variable {g : GC} {C : Cx} {env : Env} {B : Shared → HP → Option Addr → Prop} {wr : Nat → List Addr} {gi : Nat} {A : Around} {I : Addr} {tgt : Expr} {T : Nat → HP → Shared → Prop} {items : List PV}
theorem LoopI1.after {s s' : Shared} {H H' : HP} {oa oa' : Option Addr} {i : Nat} {ρ ρ' : List PV}
    (hB : BaseOk g C env (wr 0) [gi] B) (hO : IterOk1 g A I wr gi tgt T items) (L : LoopI1 g C env B wr gi T (i + 1) ρ s H oa) (e : ExtS g C env s H oa s' H' oa') (y : Rel g C env s' H' ρ' oa') : LoopI1 g C env B wr gi T (i + 1) ρ' s' H' oa' := by
  have hno : ∀ b ∈ wr (i + 1), ¬ Own C env oa b := fun b hb q => by
    rcases q with q | ⟨z, hz, q⟩ | q
    · exact (L.no b (hO.sub0 _ b hb)).1 q
    · obtain ⟨j, hj⟩ := List.getElem?_of_mem hz
      exact (L.no b (hO.sub0 _ b hb)).2 z b .cel j hj (by decide) q rfl
    · exact L.noa b hb q
  refine ⟨hB.s _ _ _ _ _ _ _ L.ext L.rel e, y, ?_, L.no, ⟨fun b hb => ?_, L.wok.notab⟩, fun b hb q => ?_⟩
  · exact hO.frame i H H' s s' L.it e.le (fun b hb o ho => e.old b o (L.wok.notab b hb) ho (hno b hb)) (fun x hx => e.gens gi x hx) e.st
  · obtain ⟨o, ho⟩ := hO.live i H s L.it b hb
    cases q : H' b with
    | none => rfl
    | some o' =>
      rcases e.fresh b o' q with r | r | r
      · rw [L.wok.none b hb] at r; cases r
      · rw [ho] at r; cases r
      · exact absurd r (L.noa b hb)
  · obtain ⟨o, ho⟩ := hO.live i H s L.it b hb
    rcases e.oa b q with r | r
    · exact L.noa b hb r
    · rw [ho] at r; cases r
theorem LoopI1.relW {s s' : Shared} {H H' : HP} {oa : Option Addr} {i : Nat} {ρ : List PV} (hO : IterOk1 g A I wr gi tgt T items) (L : LoopI1 g C env B wr gi T i ρ s H oa) (he : EnvOk C env) (e : ExtW g (wr i) [gi] s H s' H') : Rel g C env s' H' ρ oa :=
  L.rel.extW he e (fun q => (L.no _ (hO.sub0 _ _ q)).1 rfl) (fun z c k j hj hk hc q => (L.no _ (hO.sub0 _ _ q)).2 z c k j hj hk hc rfl) L.noa
theorem LoopI1.turn {s : Shared} {H : HP} {oa : Option Addr} {i : Nat} {ρ : List PV} {p : PV} {Q : Value → Shared → Prop} {E : Value → Shared → Prop}
    (he : EnvOk C env) (hB : BaseOk g C env (wr 0) [gi] B) (hO : IterOk1 g A I wr gi tgt T items) (L : LoopI1 g C env B wr gi T i ρ s H oa) (hp : items[i]? = some p)
    (h : ∀ v s' H', LoopI1 g C env B wr gi T (i + 1) ρ s' H' oa → VRel H' p v → Q v s') :
    wpAny (model g.prog g.w) A (pyNext (.ref I)) (fun r s₁ => ∃ v, r = some v ∧ wpAny (model g.prog g.w) A (letOwnedTupleGo tgt (.ref I) v) (fun _ s₂ => Q v s₂) E s₁) E s :=
  hO.turn i s H Q E p hp L.rel.st L.it L.wok fun v s' H' e t hw hv => h v s' H' ⟨hB.w _ _ _ _ _ L.ext (e.wider (hO.sub0 i)), L.relW hO he e, t, L.no, hw, fun b hb => L.noa b (hO.sub i (List.getElem?_eq_some_iff.mp hp).1 b hb)⟩ hv
theorem LoopI1.done {s : Shared} {H : HP} {oa : Option Addr} {ρ : List PV} {Q : Option Value → Shared → Prop} {E : Value → Shared → Prop}
    (he : EnvOk C env) (hB : BaseOk g C env (wr 0) [gi] B) (hO : IterOk1 g A I wr gi tgt T items) (L : LoopI1 g C env B wr gi T items.length ρ s H oa)
    (h : ∀ s' H', B s' H' oa → Rel g C env s' H' ρ oa → Q none s') : wpAny (model g.prog g.w) A (pyNext (.ref I)) Q E s :=
  hO.done s H Q E L.rel.st L.it L.wok fun s' H' e => h s' H' (hB.w _ _ _ _ _ L.ext (e.wider (hO.sub0 _))) (L.relW hO he e)
theorem LoopI1.start {s s' : Shared} {H H' : HP} {oa : Option Addr} {ρ : List PV} (he : EnvOk C env) (y : Rel g C env s H ρ oa) (e : Ext g s H s' H') (t : T 0 H' s') (hf : ∀ b ∈ wr 0, s.heap.get? b = none) (hw : WrOk (wr 0) H') :
    LoopI1 g C env (ExtS g C env s H oa) wr gi T 0 ρ s' H' oa :=
  ⟨.of e, y.ext e, t, fun b hb => Rel.ne_of_fresh (s := s) (H := H) (ρ := ρ) (oa := oa) he y (hf b hb), hw, fun b hb q => by obtain ⟨_, its, n, ho⟩ := y.oall b q; rw [hf b hb] at ho; cases ho⟩
end
theorem DenS.for1 {g : GC} {C : Cx} {tgt iter : Expr} {body : List Stmt} {pos : Pos} {fi : List PV → Option (List PV)} {ft : List PV → PV → Option (List PV)} {fb : DS} (hI : DenI1 g C iter tgt fi) (hT : DenT g C tgt ft) (hB : DenSs g C body fb)
    (hs : ∀ env x, foldedSetIterable iter env x = pure x := by intro _ _; rfl) :
    DenS g C (.For tgt iter body [] pos) (fun ρ => (fi ρ).bind fun items => forF ft fb items ρ) := by
  intro env A s H ρ oa Q E fl ρ' he hr y hf hp
  obtain ⟨items, hit, hf2⟩ := Option.bind_eq_some_iff.mp hf
  clear hf
  refine wpAny_For (hI env A s H ρ oa _ E items he hr y hit fun I wr gi T s1 H1 e1 hO t hfr hw hgf => ?_) (hs env)
  have hBs := BaseOk.of (gw := [gi]) he y hfr (fun j hj => by rw [List.mem_singleton.mp hj]; exact hgf)
  refine codeAny_forLoop_any (fun n s' => ∃ H' oa' ρ1 i, LoopI1 g C env (ExtS g C env s H oa) wr gi T i ρ1 s' H' oa' ∧ i ≤ items.length ∧ n = items.length - i ∧ forF ft fb (items.drop i) ρ1 = some (fl, ρ')) ?_ items.length
    ⟨H1, oa, ρ, 0, LoopI1.start he y e1 t hfr hw, Nat.zero_le _, rfl, by simpa using hf2⟩
  rintro n s' ⟨H', oa', ρ1, i, L, hi, rfl, hfi⟩
  by_cases hlt : i < items.length
  · have hd : items.drop i = items[i] :: items.drop (i + 1) := List.drop_eq_getElem_cons hlt
    rw [hd] at hfi
    obtain ⟨ρ2, hρ2, hfi2⟩ := Option.bind_eq_some_iff.mp hfi
    obtain ⟨⟨fl3, ρ3⟩, hρ3, hfi3⟩ := Option.bind_eq_some_iff.mp hfi2
    clear hfi hfi2
    refine wpAny_mono (L.turn (Q := fun v s2 => wpAny (model g.prog g.w) A (PySem.assign tgt env v) (fun _ s3 => wpAny (model g.prog g.w) A (execs body env) (fun f s4 => match f with
          | .next | .cont => ∃ m, m < items.length - i ∧ ∃ H' oa' ρ1 j, LoopI1 g C env (ExtS g C env s H oa) wr gi T j ρ1 s4 H' oa' ∧ j ≤ items.length ∧ m = items.length - j ∧ forF ft fb (items.drop j) ρ1 = some (fl, ρ')
          | .brk => Q .next s4
          | .ret v => Q (.ret v) s4) (notedBy (model g.prog g.w) A env fun e s' => cameBackBy (model g.prog g.w) A env E e s') s3) (notedBy (model g.prog g.w) A env fun e s' => cameBackBy (model g.prog g.w) A env E e s') s2)
        he hBs hO (List.getElem?_eq_getElem hlt) fun v s2 H2 L2 hv => ?_) (fun r s2 h2 => ?_) fun _ _ e => e
    · refine hT env A s2 H2 ρ1 oa' _ _ items[i] v ρ2 he hr L2.rel hv hρ2 fun s3 e3 y3 _ => ?_
      have L3 := LoopI1.after hBs hO L2 e3 y3
      refine hB env A s3 H2 ρ2 oa' _ _ fl3 ρ3 he hr y3 hρ3 fun f s4 H4 oa4 e4 y4 hfl => ?_
      have L4 := LoopI1.after hBs hO L3 e4 y4
      cases fl3 with
      | next =>
        obtain rfl := hfl
        exact ⟨items.length - (i + 1), by omega, H4, oa4, ρ3, i + 1, L4, hlt, rfl, hfi3⟩
      | ret w =>
        obtain ⟨v', rfl, hv'⟩ := hfl
        cases hfi3
        exact hp _ _ _ _ L4.ext y4 ⟨v', rfl, hv'⟩
    · obtain ⟨v, rfl, h3⟩ := h2
      exact h3
  · have hin : i = items.length := by omega
    subst hin
    rw [List.drop_length] at hfi
    cases hfi
    exact L.done he hBs hO fun s3 _ e3 y3 => wpAny_execs_nil (hp.nx e3 y3)
noncomputable def escP (x : List Nat) : List PV := (escG 0 0 false x).map fun p => .tup [.int p.1, .str p.2]
noncomputable def EscT (g : GC) (A : Around) (x : List Nat) (I L it e : Addr) (oI : Obj) (gi : Nat) (i : Nat) (H : HP) (s : Shared) : Prop :=
  s.heap.get? I = some oI ∧ ∃ gs, s.gens[gi]? = some gs ∧
    (i = 0 → gs.Goes (model g.prog g.w) A.in1 (EscR (wrE I L it e (escG 0 0 false x).length (escEnd false x)) (escG 0 0 false x).length) (EscY (wrE I L it e (escG 0 0 false x).length (escEnd false x)) I oI (escG 0 0 false x)) (escG 0 0 false x).length (.send .none) (s.setGen gi .running)) ∧
    (0 < i → (∀ b ∈ wrE I L it e (escG 0 0 false x).length (escEnd false x) i, ∃ o, s.heap.get? b = some o) ∧
      ∀ s'' : Shared, (∀ b ∈ wrE I L it e (escG 0 0 false x).length (escEnd false x) i, ∀ o, s.heap.get? b = some o → s''.heap.get? b = some o) →
        gs.Goes (model g.prog g.w) A.in1 (EscR (wrE I L it e (escG 0 0 false x).length (escEnd false x)) (escG 0 0 false x).length) (EscY (wrE I L it e (escG 0 0 false x).length (escEnd false x)) I oI (escG 0 0 false x)) ((escG 0 0 false x).length - i) (.send .none) s'')
theorem bare_set {gens : Array GenState} {gi : Nat} {x : GenState} (h : AllBare gens) (hx : x.bare = true) : AllBare (gens.setIfInBounds gi x) := by
  intro y hy
  obtain ⟨i, hi, rfl⟩ := Array.mem_iff_getElem.mp hy
  have hi' : i < gens.size := by simpa using hi
  rw [Array.getElem_setIfInBounds hi']
  split
  · exact hx
  · exact h _ (Array.getElem_mem hi')
theorem set_other {gens : Array GenState} {gi j : Nat} {x y : GenState} (hj : j ≠ gi) (h : gens[j]? = some y) : (gens.setIfInBounds gi x)[j]? = some y := by
  rw [Array.getElem?_setIfInBounds_ne (Ne.symm hj)]; exact h
theorem esc_iter {g : GC} {A : Around} {x : List Nat} {I L it e : Addr} {oI : Obj} {gi : Nat} {tgt : Expr} (hA : A.handled = none) (hroom : A.depth < recursionLimit)
    (hcls : oI.cls = .type "generator") (hdat : ∃ nm qn, oI.data = .fields #[.int gi 0, nm, qn]) (hsl : oI.slots = #[]) (hIw : I ∈ wrE I L it e (escG 0 0 false x).length (escEnd false x) 0) :
    IterOk1 g A I (wrE I L it e (escG 0 0 false x).length (escEnd false x)) gi tgt (EscT g A x I L it e oI gi) (escP x) := by
  have hlen : (escP x).length = (escG 0 0 false x).length := by unfold escP; simp
  have hpos := escG_pos x 0 0 false
  have hgen : ∀ s : Shared, s.heap.get? I = some oI → s.heap.IsGen I gi := fun s h => by
    obtain ⟨nm, qn, hd⟩ := hdat; exact ⟨oI, nm, qn, h, hcls, hd, hsl⟩
  have hI : ∀ i, I ∈ wrE I L it e (escG 0 0 false x).length (escEnd false x) i := fun i => by unfold wrE; split <;> simp
  have goes : ∀ i H (s : Shared), EscT g A x I L it e oI gi i H s → ∃ gs, s.gens[gi]? = some gs ∧ gs.Goes (model g.prog g.w) A.in1 (EscR (wrE I L it e (escG 0 0 false x).length (escEnd false x)) (escG 0 0 false x).length) (EscY (wrE I L it e (escG 0 0 false x).length (escEnd false x)) I oI (escG 0 0 false x)) ((escG 0 0 false x).length - i) (.send .none) (s.setGen gi .running) := by
    intro i H s ⟨_, gs, hgs, h0, h1⟩
    refine ⟨gs, hgs, ?_⟩
    cases i with
    | zero => exact h0 rfl
    | succ i => exact (h1 (Nat.succ_pos _)).2 _ fun _ _ _ h => h
  constructor
  · intro i b hb
    have := wrE_sub hb
    by_cases hN : 0 < (escG 0 0 false x).length
    · rw [wrE_lt hN]; exact this
    · have htl : escEnd false x = false := by
        cases hq : escEnd false x with
        | false => rfl
        | true => exact absurd (hpos hq) hN
      unfold wrE; rw [htl, if_neg (fun h => by cases h.1)]; exact this
  · intro i hi b hb
    rw [hlen] at hi
    rw [wrE_lt hi]; exact wrE_sub hb
  · intro i H H' s s' ⟨h1, gs, hgs, _, h3⟩ hle hk hg st
    obtain ⟨h4, h5⟩ := h3 (Nat.succ_pos _)
    refine ⟨hk I (hI _) _ h1, gs, hg _ hgs, fun h => absurd h (Nat.succ_ne_zero _), fun _ => ⟨fun b hb => ?_, fun s'' hs => h5 s'' fun b hb o ho => hs b hb o (hk b hb o ho)⟩⟩
    obtain ⟨o, ho⟩ := h4 b hb; exact ⟨o, hk b hb o ho⟩
  · intro i H s ⟨_, gs, _, _, h3⟩
    exact (h3 (Nat.succ_pos _)).1
  · intro i s H Q E p hp st ht hw hq
    have hi : i < (escG 0 0 false x).length := by rw [← hlen]; exact (List.getElem?_eq_some_iff.mp hp).1
    obtain ⟨gs, hgs, hgo⟩ := goes i H s ht
    have hoI := ht.1
    obtain ⟨m, hm⟩ : ∃ m, (escG 0 0 false x).length - i = m + 1 := ⟨(escG 0 0 false x).length - i - 1, by omega⟩
    rw [hm] at hgo
    have hgl : gi < s.gens.size := (Array.getElem?_eq_some_iff.mp hgs).1
    refine pyNext_genQ (n := m + 1) hA st.nolimit hroom (hgen s hoI) hgs hgo (fun v s₁ gs' hb hy => ?_) (fun s₁ hp => absurd hp.1 (Nat.succ_ne_zero _))
    obtain ⟨i', q, T, t, t', hi', hq', rfl, hT, hTn, hTw, hs, hI1, hlv, hk⟩ := hy
    have hii : i' = i := by
      have h5 : m + 1 - 1 = m := rfl
      rw [h5] at hi'
      omega
    subst hii
    refine ⟨_, rfl, letGo_by (s := s₁.setGen gi gs') hI1 hcls hdat.choose_spec.choose_spec (by decide) ?_⟩
    have hpq : p = .tup [.int q.1, .str q.2] := by
      unfold escP at hp
      rw [List.getElem?_map, hq'] at hp
      exact (Option.some.inj hp).symm
    have hwr := wrE_lt (I := I) (L := L) (it := it) (e := e) (tl := escEnd false x) hi
    have hw0 : ∀ b, b ∈ wrE I L it e (escG 0 0 false x).length (escEnd false x) 0 ↔ b ∈ wrE I L it e (escG 0 0 false x).length (escEnd false x) i' := fun b => by
      rw [hwr, wrE_lt (by omega)]
    obtain ⟨h', tk, hs1⟩ := hs.same
    have hold := hs.old
    have e0 : s₁.setGen gi gs' = { s with heap := h', toks := tk, gens := (s.gens.setIfInBounds gi .running).setIfInBounds gi gs' } := by rw [hs1]; rfl
    have hh : s₁.heap = h' := by rw [hs1]
    have ew : ExtW g (wrE I L it e (escG 0 0 false x).length (escEnd false x) i') [gi] s H (s₁.setGen gi gs') H := by
      rw [e0]
      exact ExtW.stepG st hw (fun b o hb ho => by rw [← hh]; exact hold b o (fun q => hb ((hw0 b).mp q)) ho) (bare_set (bare_set st.bare rfl) hb) fun j y hj hy => set_other hj (set_other hj hy)
    have ef := ew.freeze st hTn hT
    refine hq _ _ _ ef ⟨hI1, gs', ?_, fun h => absurd h (Nat.succ_ne_zero _), fun _ => ⟨hlv, fun s'' hs'' => ?_⟩⟩ ⟨fun b hb => ?_, fun b hb => ?_⟩ ?_
    · rw [e0]
      show ((s.gens.setIfInBounds gi .running).setIfInBounds gi gs')[gi]? = some gs'
      simp [hgl]
    · have := hk s'' hs''
      rw [show (escG 0 0 false x).length - (i' + 1) = m by omega]
      exact this
    · have hb0 : b ∈ wrE I L it e (escG 0 0 false x).length (escEnd false x) i' := by rw [hwr]; exact wrE_sub hb
      show (if b = T then some _ else H b) = none
      rw [if_neg (fun q : b = T => hTw (q ▸ (hw0 b).mpr hb0))]
      exact hw.none b hb0
    · exact hw.notab b (by rw [hwr]; exact wrE_sub hb)
    · rw [hpq]
      exact ⟨T, _, _, _, rfl, hput_self .., rfl, rfl, VRelL.cons ⟨t, rfl⟩ (VRelL.cons ⟨t', rfl⟩ rfl)⟩
  · intro s H Q E st ht hw hq
    rw [hlen] at ht hw hq
    obtain ⟨gs, hgs, hgo⟩ := goes _ H s ht
    rw [Nat.sub_self] at hgo
    refine pyNext_genQ (n := 0) hA st.nolimit hroom (hgen s ht.1) hgs hgo (fun v s₁ gs' hb hy => ?_) (fun s₁ hp h' hk => ?_)
    · obtain ⟨i', q, T, t, t', hi', hq', rfl, hT, hTn, hTw, hs, hI1, hlv, hk⟩ := hy
      exact (hk s₁ fun _ _ _ h => h).elim
    · obtain ⟨_, hs⟩ := hp
      obtain ⟨h1, tk, hs1⟩ := hs.same
      have hold := hs.old
      have e0 : ({ s₁.setGen gi .finished with heap := h' } : Shared) = { s with heap := h', toks := tk, gens := (s.gens.setIfInBounds gi .running).setIfInBounds gi .finished } := by rw [hs1]; rfl
      refine hq _ H ?_
      rw [e0]
      exact ExtW.stepG st hw (fun b o hb ho => hk b o (hold b o hb ho)) (bare_set (bare_set st.bare rfl) rfl) fun j y hj hy => set_other hj (set_other hj hy)
section
variable {g : GC} {C : Cx}
theorem esc_call {A : Around} {s : Shared} {H : HP} {x : List Nat} {v : Value} {Q : Value → Shared → Prop} {E : Value → Shared → Prop} (hr : Room A 30) (st : St g s H) (hx : x.all (· < 128) = true) (hv : VRel H (.str x) v) (B : Around) (hB : Room B 30)
    (h : ∀ I L it e oI gi s' , Ext g s H s' H → s'.heap.IsGen I gi → oI.cls = .type "generator" → (∃ nm qn, oI.data = .fields #[.int gi 0, nm, qn]) → oI.slots = #[] → s.gens[gi]? = none → (∀ b ∈ [I, L, it, e], s.heap.get? b = none) → EscT g B x I L it e oI gi 0 H s' → Q (.ref I) s') :
    wpAny (model g.prog g.w) A (call (.ref 21) [v] []) Q E s := by
  have hK : ∃ oc od fd osl, (∀ P, (K0 P).lookup 21 = some ⟨oc, od, .func fd, osl⟩) ∧ (∀ P, codeIn (K0 P) fd.code fd.qualname = true) ∧ fd.globals = mainGlobals ∧ fd.closure = [] ∧ fd.builtins = builtinsNs ∧
      fd.scope.isGenerator = true ∧ fd.scope.isCoroutine = false ∧ fd.body = .stmts (bodyOf (fstmt 1)) ∧ fd.scope = cx_esc.sc ∧ ∀ (s : Shared) v, BindsTo s fd ⟨[v], []⟩ [(Str.ofString "addr", v)] :=
    ⟨_, _, _, _, fun P => by with_unfolding_all rfl, fun P => by kernel_rfl, by rfl, by rfl, by rfl, by rfl, by rfl, by with_unfolding_all rfl, by with_unfolding_all rfl, fun s v => BindsTo.of_eq (by with_unfolding_all rfl)⟩
  obtain ⟨oc, od, fd, osl, h1, h2, h3, h4, h5, h6, h7, h8, h9, h10⟩ := hK
  have hkin := kin_s st
  have ho : s.heap.get? 21 = some ⟨oc, od, .func fd, osl⟩ := hkin _ _ (h1 _)
  have hcr : s.heap.CodeRec fd.code fd.qualname := codeRec_of hkin (h2 g.w.params)
  refine wpAny_call (codeAny_call_generator hr.lim ho rfl h7 h6 h8 hcr (h10 _ _ _ _ _ _ ?_))
  rw [h4, h3, h5]
  refine wpAny_newFunctionEnv_cells (by rw [h9]; exact Cx.kind cx_esc_ok) (fun y hy => ?_) fun env henv s2 X => ⟨?_, ?_⟩
  · rw [List.mem_singleton.mp hy, h9]; exact .inl (by kernel_rfl)
  · exact (St.nolimit st).keeps X.toInCall.keep
  have hnb : ([(Str.ofString "addr", v)] : List (Str × Value)).map (·.1) = ([(Str.ofString "addr", PV.str x)] : List (Str × PV)).map (·.1) := rfl
  obtain ⟨he, e1, y1⟩ := enter_rel (C := cx_esc) (bs := [(Str.ofString "addr", PV.str x)]) st cx_esc_ok (fun y hm => by
    have h15 : cx_esc.ns.all (fun x => x.2 != .fre) = true := by decide +kernel
    have := List.all_eq_true.mp h15 _ hm; simp at this) h9 henv X hnb (VRelL.cons hv rfl) (by simp) (fun z p hz => by
    have : p = .str x := by
      simp only [List.lookup_cons, List.lookup_nil] at hz
      split at hz
      · exact (Option.some.inj hz).symm
      · cases hz
    subst this; rfl)
  obtain ⟨m, hn, hsl⟩ := y1.ns
  have h11 : SlotV H s2.heap none (PV.str x) (m (Str.ofString "addr")) := hsl 0 (Str.ofString "addr") rfl
  obtain ⟨vv, h12, t, h13⟩ := h11
  subst h13
  have hel : env.locals = s.heap.objs.size := by rw [henv]; rfl
  have hLn : s.heap.get? env.locals = none := freshAt (by rw [hel]; exact Nat.le_refl _)
  have hLlt : env.locals < s2.heap.objs.size := by obtain ⟨o, _, _, ho, _⟩ := hn; exact Heap.lt_size ho
  generalize hoI : ({ cls := .type "generator", data := .fields #[.int s2.gens.size 0, .str fd.name s2.toks, .str fd.qualname (s2.toks + 1)] } : Obj) = oI
  have hgI : (s2.heap.push oI).get? s2.heap.objs.size = some oI := Heap.get?_push_size _ (by rw [← hoI]; rfl)
  have hkp : ∀ b o, s2.heap.get? b = some o → (s2.heap.push oI).get? b = some o := fun b o hb => Heap.get?_push_of_some _ hb
  have hgs : s.gens = s2.gens := by obtain ⟨h', tk, e⟩ := X.toInCall.same; rw [e]
  have e2 : Ext g s2 H { s2 with heap := s2.heap.push oI, toks := s2.toks + 1 + 1, gens := s2.gens.push (.fresh (.func (bodyOf (fstmt 1)) env)) } H :=
    ⟨⟨fun a o q => hkp a o (e1.st.keep a o q), e1.st.base, e1.st.tab.moves (.refl _) fun a o _ q => hkp a o q, e1.st.notab, e1.st.bare.push rfl⟩, .refl _, fun a o _ q => hkp a o q, fun _ _ q => .inl q, ⟨_, _, _, rfl⟩, fun i z q => by
      show (s2.gens.push _)[i]? = some z
      have := (Array.getElem?_eq_some_iff.mp q).1
      rw [Array.getElem?_push_lt this, ← Array.getElem?_eq_getElem this]; exact q⟩
  have fresh : ∀ b, s2.heap.objs.size ≤ b → s.heap.get? b = none := fun b hb => fresh_wr e1 (freshAt hb)
  have hlt : ∀ a m, s.heap.Ns a m → ¬ isTab a → env.locals ≠ a := fun a m hm ht q => by
    obtain ⟨o, _, _, ho, _⟩ := hm
    rw [← q, hLn] at ho; cases ho
  have hmg := St.ns st g.hg (by unfold isTab; decide)
  have hmb := St.ns st g.hb (by unfold isTab; decide)
  have hcls : oI.cls = .type "generator" := by rw [← hoI]
  have hdat : ∃ nm qn, oI.data = .fields #[.int s2.gens.size 0, nm, qn] := ⟨_, _, by rw [← hoI]⟩
  have hslo : oI.slots = #[] := by rw [← hoI]
  refine h s2.heap.objs.size env.locals (s2.heap.objs.size + 1) (s2.heap.objs.size + 2) oI s2.gens.size _ (e1.trans e2) ?_ hcls hdat hslo (by rw [hgs]; simp) (fun b hb => ?_) ⟨hgI, .fresh (.func (bodyOf (fstmt 1)) env), by simp, fun _ => ⟨rfl, ?_⟩, fun q => absurd q (Nat.lt_irrefl _)⟩
  · obtain ⟨nm, qn, hd⟩ := hdat
    exact ⟨oI, nm, qn, hgI, hcls, hd, hslo⟩
  · simp only [List.mem_cons, List.not_mem_nil, or_false] at hb
    rcases hb with rfl | rfl | rfl | rfl
    · exact fresh _ (Nat.le_refl _)
    · exact hLn
    · exact fresh _ (Nat.le_succ _)
    · exact fresh _ (Nat.le_add_right _ 2)
  · have hsz : (s2.heap.push oI).objs.size = s2.heap.objs.size + 1 := Heap.size_push ..
    have hge := esc_goes (prog := g.prog) (w := g.w) (A := B.in1) (s := ({ s2 with heap := s2.heap.push oI, toks := s2.toks + 1 + 1, gens := s2.gens.push (.fresh (.func (bodyOf (fstmt 1)) env)) } : Shared).setGen s2.gens.size .running) (env := env) (x := x) (I := s2.heap.objs.size) (oI := oI) (mg := g.mg) (mb := g.mb) (t := t) (m := m)
      hB.hh (by have := hB.units; show B.units + 1 + 100 < 9900; omega) he hx (Nat.ne_of_lt hLlt) hgI (hn.at' fun o q => hkp _ o q) h12
      (hmg.at' fun o q => hkp _ o (e1.old _ o (by unfold isTab; decide) q)) (hlt _ _ hmg (by unfold isTab; decide)) (mg_none_of g.kin g.hg (by kernel_rfl))
      (hmb.at' fun o q => hkp _ o (e1.old _ o (by unfold isTab; decide) q)) (hlt _ _ hmb (by unfold isTab; decide)) ((g.blt _ (by decide +kernel)).trans (by kernel_rfl))
    have h14 : (({ s2 with heap := s2.heap.push oI, toks := s2.toks + 1 + 1, gens := s2.gens.push (.fresh (.func (bodyOf (fstmt 1)) env)) } : Shared).setGen s2.gens.size .running).heap.objs.size = s2.heap.objs.size + 1 := hsz
    rw [h14] at hge
    exact hge
end
noncomputable def pEsc : PV → Option (List PV)
  | .str x => if x.all (· < 128) then some (escP x) else none
  | _ => none
noncomputable def iEsc (f : DE) : DLs := fun ρ => (f ρ).bind pEsc
theorem DenI1.esc {g : GC} {C : Cx} {x : Str} {tgt e : Expr} {f1 : DE} {p pos : Pos}
    (hC : C.ok = true) (hk : C.sc.names.lookup x = some .globalImplicit) (hn : ∀ P, nsIn (K0 P) mainGlobals x = some (some (.ref 21)))
    (h1 : Den g C e f1) (hlv : 30 ≤ C.lv := by decide)
    (hs : ∀ env, starEach [e] env = (false, eval e env) :: starEach [] env := by intro _; rfl) (hd : (x == ("__debug__" : Str)) = false := by decide) :
    DenI1 g C (.Call (.Name x p) [e] [] pos) tgt (iEsc f1) := by
  intro env A s H ρ oa Q E items he hr y hf h
  obtain ⟨pv, hpv, hf⟩ := Option.bind_eq_some_iff.mp hf
  unfold pEsc at hf
  split at hf
  · rename_i z
    split at hf
    · rename_i hz
      cases hf
      refine wpAny_Call_Name_kw (glob_load hC he y.st hk hn ?_ hd)
      obtain ⟨oc, od, fd, osl, hK⟩ : ∃ oc od fd osl, (K0 g.w.params).lookup 21 = some ⟨oc, od, .func fd, osl⟩ := ⟨_, _, _, _, by with_unfolding_all rfl⟩
      have hb : backTo pos (starEach [e] env) = (false, eval e env) :: backTo pos (starEach [] env) := by rw [hs]; rfl
      have hDL := DenL.cons h1 DenL.nil hs
      have h0 := hDL env A s H ρ oa (fun vs s1 => wpAny (model g.prog g.w) A (evalAll ((backToKw pos (keywordEach [] env)).map (·.2))) (fun ks s₂ => (s₂.heap.get? 21 = some ⟨oc, od, .func fd, osl⟩ ∧ Data.func fd = .func fd) ∧ wpAny (model g.prog g.w) A (call (.ref 21) ([] ++ vs) (((backToKw pos (keywordEach [] env)).filterMap (·.1)).zip ks)) (fun x s₁ => wpAny (model g.prog g.w) A (pyIter x) Q E s₁) E s₂) E s1) E [.str z] pos he hr y (by simp [hpv]) (fun vs s1 H1 e1 hv1 => by
        refine wpAny_evalAll_nil ⟨⟨e1.st.keep _ _ (e1.st.base _ _ (by unfold isTab; decide) (g.kin _ _ hK)), rfl⟩, ?_⟩
        obtain ⟨v, rfl, hv⟩ := hv1.one
        refine esc_call (hr.le hlv) e1.st hz hv A (hr.le hlv) fun I L it ee oI gi s' e2 hg hc hdt hsl hgi hfr ht => ?_
        refine wpAny_pyIter_gen hg ?_
        have hI0 : I ∈ wrE I L it ee (escG 0 0 false z).length (escEnd false z) 0 := by unfold wrE; split <;> simp
        exact h I _ gi _ s' H1 (e1.trans e2) (esc_iter hr.hh hr.lim hc hdt hsl hI0) ht (fun b hb => fresh_wr e1 (hfr b (wrE_sub hb))) (wrOk_new e1.st fun b hb => hfr b (wrE_sub hb)) (fresh_gen e1 hgi))
      have hall : (backToKw pos (keywordEach [] env)).all (·.1.isSome) = true := rfl
      rw [hb] at h0 ⊢
      exact callWith_function_kw (o := ⟨oc, od, .func fd, osl⟩) (fd := fd) (evalArgs_kw hall h0)
    · cases hf
  · cases hf
noncomputable def pNotInS : PV → PV → Option PV
  | .str [c], .str x => some (.bool (!(x.elem c)))
  | _, _ => none
noncomputable def pIAdd : PV → PV → Option PV
  | .int a, .int b => some (.int (a + b))
  | _, _ => none
noncomputable def pISub : PV → PV → Option PV
  | .int a, .int b => some (.int (a - b))
  | _, _ => none
section
variable (g : GC)
theorem notInS_op : Op2 g (compareOp .NotIn) pNotInS := by
  intro A s H va vb a b Q E r hr st ha hb hf hq
  unfold pNotInS at hf
  split at hf
  · rename_i c x
    cases hf
    obtain ⟨t, rfl⟩ := ha
    obtain ⟨u, rfl⟩ := hb
    refine PySem.P.notIn_str ?_
    rw [show (⟨[c].toArray⟩ : Str) = ⟨#[c]⟩ from rfl, empty_one ⟨x.toArray⟩ c]
    have e : (!(!(!decide (c ∈ (⟨x.toArray⟩ : Str).cps.toList)))) = !(x.elem c) := by simp
    rw [e]
    exact hq _ _ _ (.refl st) rfl
  · cases hf
theorem iadd_op : Op2 g (inplaceOp .Add) pIAdd := by
  intro A s H va vb a b Q E r hr st ha hb hf hq
  unfold pIAdd at hf
  split at hf
  · obtain ⟨t, rfl⟩ := ha; obtain ⟨u, rfl⟩ := hb; cases hf
    exact PySem.P.iadd_int (hq _ _ _ (.toks st) ⟨_, rfl⟩)
  · cases hf
theorem isub_op : Op2 g (inplaceOp .Sub) pISub := by
  intro A s H va vb a b Q E r hr st ha hb hf hq
  unfold pISub at hf
  split at hf
  · obtain ⟨t, rfl⟩ := ha; obtain ⟨u, rfl⟩ := hb; cases hf
    exact PySem.P.isub_int (hq _ _ _ (.toks st) ⟨_, rfl⟩)
  · cases hf
end
noncomputable def sAug (i : Nat) (F : PV → PV → Option PV) (f : DE) : DS := fun ρ => (dVar i ρ).bind fun a => (f ρ).bind fun b => (F a b).map fun v => (.next, ρ.set i v)
theorem DenS.aug {g : GC} {C : Cx} {x : Str} {i : Nat} {k : VK} {p pos : Pos} {op : Operator} {value : Expr} {F : PV → PV → Option PV} {f : DE} (hC : C.ok = true) (hi : C.ns[i]? = some (x, k)) (hF : Op2 g (inplaceOp op) F) (h1 : Den g C value f) (hk : k ≠ .fre := by decide) (hlv : 8 ≤ C.lv := by decide) :
    DenS g C (.AugAssign (.Name x p) op value pos) (sAug i F f) := by
  intro env A s H ρ oa Q E fl ρ' he hr y hf hp
  obtain ⟨a, ha, hf⟩ := Option.bind_eq_some_iff.mp hf
  obtain ⟨b, hb, hf⟩ := Option.bind_eq_some_iff.mp hf
  obtain ⟨r, hr1, hf⟩ := Option.map_eq_some_iff.mp hf
  cases hf
  refine wpAny_AugAssign_Name (loadName_rel hC he y hi ha fun va hva => ?_)
  refine h1.bind he hr y hb fun vb s1 H1 e1 y1 hvb => ?_
  refine hF A s1 H1 va vb a b _ E r (hr.le hlv) e1.st (VRel.mono e1.le _ _ hva) hvb hr1 fun v s2 H2 e2 hv => ?_
  exact storeName_den hC he (y1.ext e2) hi hk hv fun s' e3 y3 _ => hp.nx (ExtS.trans (y.there he).1 (y.there he).2 (.of (e1.trans e2)) e3) y3
noncomputable def cellNames (names : List (Str × NameKind)) : List Str := (names.filter fun x => x.2 == .cell).map (·.1)
theorem cells_none : ∀ (names : List (Str × NameKind)) (n : Nat) (acc : List (Str × Addr)) (h : Heap), cellNames names = [] → cellsFrom n names acc = acc ∧ pushCells h names = h
  | [], _, _, _, _ => ⟨rfl, rfl⟩
  | (x, k) :: r, n, acc, h, e => by
    unfold cellNames at e
    rw [List.filter_cons] at e
    unfold cellsFrom pushCells
    cases hk : (k == NameKind.cell) with
    | true =>
      have : ((x, k).2 == NameKind.cell) = true := hk
      rw [this] at e; cases e
    | false =>
      have : ((x, k).2 == NameKind.cell) = false := hk
      rw [this] at e
      exact cells_none r n acc h e
theorem cells_one : ∀ (names : List (Str × NameKind)) (n : Nat) (acc : List (Str × Addr)) (h : Heap) (z : Str), cellNames names = [z] → cellsFrom n names acc = (z, n) :: acc ∧ pushCells h names = h.push { cls := .type "cell", data := .cell none }
  | [], _, _, _, _, e => by cases e
  | (x, k) :: r, n, acc, h, z, e => by
    unfold cellNames at e
    rw [List.filter_cons] at e
    unfold cellsFrom pushCells
    cases hk : (k == NameKind.cell) with
    | true =>
      have : ((x, k).2 == NameKind.cell) = true := hk
      rw [this] at e
      simp only [if_true, List.map_cons, List.cons.injEq] at e ⊢
      obtain ⟨e1, e2⟩ := e
      have e3 : x = z := e1
      subst e3
      exact cells_none r (n + 1) _ _ e2
    | false =>
      have : ((x, k).2 == NameKind.cell) = false := hk
      rw [this] at e
      exact cells_one r n acc h z e
theorem newFunctionEnv_one {M : Model} {A : Around} {E : Value → Shared → Prop} {s : Shared} {scope : Scope} {globals : Addr} {cl : List (Str × Addr)} {qual : Str} {outer : Env} {z : Str} {Q : Env → Shared → Prop} (hz : cellNames scope.names = [z])
    (hQ : Q { scope, locals := s.heap.objs.size, globals, cells := (z, s.heap.objs.size + 1) :: cl, qual, func := none, code := outer.code, frame := outer.frame, builtins := outer.builtins }
      { s with heap := (s.heap.push { cls := .type "dict", data := .dict #[] }).push { cls := .type "cell", data := .cell none } }) :
    wpAny M A (newFunctionEnv scope globals cl [] qual none .none (some outer)) Q E s := by
  simp only [newFunctionEnv, Option.isSome_some, if_true]
  refine wpAny_bind (wpAny_alloc ?_)
  refine wpAny_bind (wpAny_layCells _ (fun name kind cells => by cases hkc : kind == NameKind.cell <;> simp [hkc]) _ _ _ _ ?_)
  obtain ⟨e1, e2⟩ := cells_one scope.names (({ s with heap := s.heap.push { cls := .type "dict", data := .dict #[] } } : Shared).heap.objs.size) cl (s.heap.push { cls := .type "dict", data := .dict #[] }) z hz
  rw [e1]
  have e3 : ({ s with heap := s.heap.push { cls := .type "dict", data := .dict #[] } } : Shared).heap.objs.size = s.heap.objs.size + 1 := Heap.size_push ..
  rw [e3]
  show wpAny M A (forIn ([] : List (Str × Value)) PUnit.unit _ >>= _) Q E ({ s with heap := pushCells (s.heap.push { cls := .type "dict", data := .dict #[] }) scope.names } : Shared)
  rw [e2, List.forIn_nil]
  exact wpAny_bind (wpAny_pure (wpAny_pure hQ))
noncomputable def inCxC (C : Cx) (scope : Scope) (fr : List (Str × Nat)) (tg : List Str) (z : Str) : Cx :=
  { sc := relS scope C.sc, ns := fr.map (fun x => (x.1, VK.fre)) ++ tg.map (fun x => (x, if x == z then VK.cel else VK.loc)), mu := fr.length + tg.length, lv := C.lv }
noncomputable def inOkC (C : Cx) (scope : Scope) (fr : List (Str × Nat)) (tg : List Str) (z : Str) : Bool :=
  (inCxC C scope fr tg z).ok && scope.kind == .function && (cellNames scope.names == [z]) && scope.names.all (fun x => x.2 != .local || scope.names.lookup x.1 == some .local) &&
  scope.names.all (fun x => x.2 != .free || (C.ns.any (fun y => y.1 == x.1 && y.2 != .loc) && x.1 != z)) &&
  fr.all (fun x => scope.names.contains (x.1, .free) && (match C.ns[x.2]? with | some (y, k) => y == x.1 && k != .loc | none => false))
structure InOkC (C : Cx) (scope : Scope) (fr : List (Str × Nat)) (tg : List Str) (z : Str) : Prop where
  ok : (inCxC C scope fr tg z).ok = true
  kind : scope.kind = .function
  one : cellNames scope.names = [z]
  loc : ∀ x ∈ scope.names, x.2 = .local → scope.names.lookup x.1 = some .local
  free : ∀ n k, (n, k) ∈ scope.names → k = .free → (∃ k', (n, k') ∈ C.ns ∧ k' ≠ .loc) ∧ n ≠ z
  fr : ∀ x ∈ fr, (x.1, NameKind.free) ∈ scope.names ∧ ∃ k, C.ns[x.2]? = some (x.1, k) ∧ k ≠ .loc
theorem InOkC.of {C : Cx} {scope : Scope} {fr : List (Str × Nat)} {tg : List Str} {z : Str} (h : inOkC C scope fr tg z = true) : InOkC C scope fr tg z := by
  unfold inOkC at h
  simp only [Bool.and_eq_true] at h
  obtain ⟨⟨⟨⟨⟨h1, h2⟩, h3⟩, h4⟩, h5⟩, h6⟩ := h
  refine ⟨h1, eq_of_beq h2, eq_of_beq h3, fun x hx e => ?_, fun n k hx e => ?_, fun x hx => ?_⟩
  · have := List.all_eq_true.mp h4 x hx
    rw [e] at this
    simpa using this
  · have := List.all_eq_true.mp h5 (n, k) hx
    rw [e] at this
    simp only [bne_self_eq_false, Bool.false_or, Bool.and_eq_true, bne_iff_ne] at this
    obtain ⟨h7, h8⟩ := this
    obtain ⟨⟨y, k'⟩, hy, hyk⟩ := List.any_eq_true.mp h7
    simp only [Bool.and_eq_true, beq_iff_eq, bne_iff_ne] at hyk
    exact ⟨⟨k', by rw [← hyk.1]; exact hy, hyk.2⟩, h8⟩
  · have := List.all_eq_true.mp h6 x hx
    simp only [Bool.and_eq_true] at this
    refine ⟨by simpa using this.1, ?_⟩
    have h7 := this.2
    split at h7
    · rename_i y k hk
      simp only [Bool.and_eq_true, beq_iff_eq, bne_iff_ne] at h7
      exact ⟨k, by rw [← h7.1]; exact hk, h7.2⟩
    · cases h7
theorem clFrom_free {cells : List (Str × Addr)} : ∀ (names : List (Str × NameKind)) (acc : List (Str × Addr)) (n : Str) (c : Addr), (n, c) ∈ clFrom cells names acc → (n, NameKind.free) ∈ names ∨ (n, c) ∈ acc
  | [], _, _, _, h => .inr h
  | (m, k) :: r, acc, n, c, h => by
    unfold clFrom at h
    rcases clFrom_free r _ n c h with q | q
    · exact .inl (List.mem_cons_of_mem _ q)
    · split at q
      · rename_i hk
        have := eq_of_beq hk
        subst this
        rcases List.mem_cons.mp q with e | q
        · cases e; exact .inl (List.mem_cons_self ..)
        · exact .inr q
      · exact .inr q
section
variable {g : GC} {C : Cx}
theorem inner_startC {scope : Scope} {fr : List (Str × Nat)} {tg : List Str} {z : Str} (ok : InOkC C scope fr tg z) {env cenv : Env} {s s1 s2 : Shared} {H H1 : HP} {ρ : List PV} {oa : Option Addr} {Cl K D : Addr} {m : Str → Option Value}
    (he : EnvOk C env) (y : Rel g C env s H ρ oa) (e1 : Ext g s H s1 H1) (e2 : Ext g s1 H1 s2 H1)
    (hcenv : cenv = compEnvC scope ((z, K) :: clFrom env.cells scope.names []) Cl env) (hns : s2.heap.Ns Cl m) (hCl : s1.heap.get? Cl = none) (hK1 : s1.heap.get? K = none) (hK : s2.heap.IsCell K none) (hD1 : s1.heap.get? D = none) (hD : s2.heap.PlainList D #[]) (hm : ∀ x, m x = none) :
    EnvOk (inCxC C scope fr tg z) cenv ∧ Rel g (inCxC C scope fr tg z) cenv s2 H1 (inR fr tg ρ) (some D) ∧
    (∀ (x : Str) (c : Addr) (k : VK) (i : Nat), (inCxC C scope fr tg z).ns[i]? = some (x, k) → k ≠ VK.loc → cenv.cells.lookup x = some c → (k = .fre ∧ ∃ o, s.heap.get? c = some o) ∨ (k = .cel ∧ c = K)) := by
  have hlk : ∀ n k, (n, k) ∈ scope.names → k = .free → ∃ c, env.cells.lookup n = some c := fun n k hx hk => by
    obtain ⟨⟨k', h1, h2⟩, _⟩ := ok.free n k hx hk
    exact he.cel n k' h1 h2
  have hnone : ∀ {a}, s1.heap.get? a = none → H1 a = none := fun {a} h => by
    cases q : H1 a with
    | none => rfl
    | some o => have := e1.st.keep a o q; rw [h] at this; cases this
  have y1 := (y.ext e1).ext e2
  have hlen : (inR fr tg ρ).length = (inCxC C scope fr tg z).ns.length := by unfold inR inCxC; simp
  have hval : ∀ i x k, (inCxC C scope fr tg z).ns[i]? = some (x, k) → (k = .loc ∧ (inR fr tg ρ).getD i .undef = .undef) ∨ (k = .cel ∧ x = z ∧ (inR fr tg ρ).getD i .undef = .undef) ∨ (k = .fre ∧ ∃ j, (x, j) ∈ fr ∧ (inR fr tg ρ).getD i .undef = ρ.getD j .undef) := fun i x k hi => by
    unfold inCxC at hi
    simp only at hi
    by_cases hlt : i < fr.length
    · rw [List.getElem?_append_left (by simpa using hlt)] at hi
      simp only [List.getElem?_map, Option.map_eq_some_iff] at hi
      obtain ⟨⟨z', j⟩, h1, h2⟩ := hi
      cases h2
      right; right
      refine ⟨rfl, j, List.mem_of_getElem? h1, ?_⟩
      unfold inR
      simp only [List.getD]
      rw [List.getElem?_append_left (by simpa using hlt)]
      simp [h1]
    · rw [List.getElem?_append_right (by simpa using hlt)] at hi
      simp only [List.getElem?_map, Option.map_eq_some_iff] at hi
      obtain ⟨z', h1, h2⟩ := hi
      have hu : (inR fr tg ρ).getD i .undef = .undef := by
        unfold inR
        simp only [List.getD]
        rw [List.getElem?_append_right (by simpa using hlt)]
        simp only [List.length_map] at h1 ⊢
        simp [h1]
      obtain ⟨h3, h4⟩ := Prod.mk.inj h2
      by_cases hz : (z' == z) = true
      · rw [if_pos hz] at h4
        exact .inr (.inl ⟨h4.symm, h3.symm.trans (eq_of_beq hz), hu⟩)
      · rw [if_neg hz] at h4
        exact .inl ⟨h4.symm, hu⟩
  have hloc : cenv.locals = Cl := by rw [hcenv]; rfl
  have hcells : cenv.cells = (z, K) :: clFrom env.cells scope.names [] := by rw [hcenv]; rfl
  have hzl : ∀ c, cenv.cells.lookup z = some c → c = K := fun c h => by
    rw [hcells, List.lookup_cons] at h; simp at h; exact h.symm
  have hfl : ∀ x c, x ≠ z → cenv.cells.lookup x = some c → (clFrom env.cells scope.names []).lookup x = some c := fun x c hx h => by
    rw [hcells, List.lookup_cons] at h
    have : (x == z) = false := by simpa using hx
    rw [this] at h; exact h
  have hold : ∀ x c, (clFrom env.cells scope.names []).lookup x = some c → ∃ o, s.heap.get? c = some o := fun x c h => by
    rcases clFrom_free _ _ _ _ (mem_of_lookup h) with q | q
    · obtain ⟨⟨k', h1, h2⟩, _⟩ := ok.free x _ q rfl
      obtain ⟨j, hj⟩ := List.getElem?_of_mem h1
      obtain ⟨_, vo, ⟨o, h3, _⟩, _⟩ := y.ce j x k' c hj h2 (clFrom_lookup' hlk h)
      exact ⟨o, h3⟩
    · cases q
  have hKs : s.heap.get? K = none := fresh_wr e1 hK1
  refine ⟨⟨?_, ?_, ?_, fun x k hx hk => ?_, fun x x' c h1 h2 => ?_⟩, ⟨y1.st, hlen, ?_, ⟨m, by rw [hloc]; exact hns, fun i x hi => ?_⟩, fun i x k c hi hk hc => ?_, fun i xs h => ?_, fun a ha => ?_⟩, fun x c k i hi hk hc => ?_⟩
  · rw [hcenv]; show relabel scope env = relS scope C.sc; exact relS_eq he.scope
  · rw [hcenv]; exact he.globals
  · rw [hcenv]; exact he.builtins
  · obtain ⟨i, hi⟩ := List.getElem?_of_mem hx
    rcases hval i x k hi with h | ⟨_, rfl, _⟩ | ⟨_, j, hj, _⟩
    · exact absurd h.1 hk
    · exact ⟨K, by rw [hcells]; simp⟩
    · have hf := (ok.fr (x, j) hj).1
      have hne : x ≠ z := (ok.free x _ hf rfl).2
      obtain ⟨c, h1, _⟩ := clFrom_lookup (cells := env.cells) hlk hf
      refine ⟨c, ?_⟩
      rw [hcells, List.lookup_cons]
      have : (x == z) = false := by simpa using hne
      rw [this]; exact h1
  · by_cases hx : x = z
    · by_cases hx' : x' = z
      · rw [hx, hx']
      · exfalso
        subst hx
        have := hzl c h1
        subst this
        obtain ⟨o, ho⟩ := hold x' _ (hfl x' _ hx' h2)
        rw [hKs] at ho; cases ho
    · by_cases hx' : x' = z
      · exfalso
        subst hx'
        have := hzl c h2
        subst this
        obtain ⟨o, ho⟩ := hold x _ (hfl x _ hx h1)
        rw [hKs] at ho; cases ho
      · exact he.apart x x' c (clFrom_lookup' hlk (hfl x c hx h1)) (clFrom_lookup' hlk (hfl x' c hx' h2))
  · rw [hloc]; exact hnone hCl
  · rcases hval i x .loc hi with h | ⟨h, _⟩ | ⟨h, _⟩
    · rw [h.2]; trivial
    · cases h
    · cases h
  · rcases hval i x k hi with h | ⟨hkc, rfl, hv⟩ | ⟨hkf, j, hj, hv⟩
    · exact absurd h.1 hk
    · have := hzl c hc
      subst this
      exact ⟨fun _ => hnone hK1, none, hK, by rw [hv]; trivial⟩
    · subst hkf
      have hf := (ok.fr (x, j) hj).1
      have hne : x ≠ z := (ok.free x _ hf rfl).2
      obtain ⟨k', h1, h2⟩ := (ok.fr (x, j) hj).2
      obtain ⟨_, vo, h3, h4⟩ := y1.ce j x k' c h1 h2 (clFrom_lookup' hlk (hfl x c hne hc))
      exact ⟨fun q => (by cases q), vo, h3, by rw [hv]; exact h4⟩
  · exfalso
    cases hq : (inCxC C scope fr tg z).ns[i]? with
    | none =>
      have : (inR fr tg ρ)[i]? = none := by rw [List.getElem?_eq_none_iff] at hq ⊢; omega
      simp [List.getD, this] at h
    | some p =>
      obtain ⟨x, k⟩ := p
      rcases hval i x k hq with h1 | ⟨_, _, h1⟩ | ⟨hkf, j, hj, hv⟩
      · rw [h1.2] at h; cases h
      · rw [h1] at h; cases h
      · rw [hv] at h
        obtain ⟨k', h1, h2⟩ := (ok.fr (x, j) hj).2
        have h3 := y.mu j xs h
        obtain ⟨c, hc⟩ := he.cel x k' (List.mem_of_getElem? h1) h2
        obtain ⟨_, vo, h4, h5⟩ := y.ce j x k' c h1 h2 hc
        rw [h] at h5
        obtain ⟨a, its, h6, h7, _⟩ := h5
        cases h7
  · cases ha
    refine ⟨?_, #[], hD⟩
    exact hnone hD1
  · rcases hval i x k hi with h | ⟨hkc, rfl, hv⟩ | ⟨hkf, j, hj, hv⟩
    · exact absurd h.1 hk
    · exact .inr ⟨hkc, hzl c hc⟩
    · have hf := (ok.fr (x, j) hj).1
      have hne : x ≠ z := (ok.free x _ hf rfl).2
      exact .inl ⟨hkf, hold x c (hfl x c hne hc)⟩
theorem baseOutC {C' : Cx} {cenv : Env} {s : Shared} {H : HP} {wr : List Addr} {gw : List Nat} (hCl : s.heap.get? cenv.locals = none) (hKs : ∀ x a, (x, VK.cel) ∈ C'.ns → cenv.cells.lookup x = some a → s.heap.get? a = none) (hw : ∀ b ∈ wr, s.heap.get? b = none) (hg : ∀ j ∈ gw, s.gens[j]? = none) :
    BaseOk g C' cenv wr gw (OutB g s H) := by
  refine ⟨fun s1 H1 oa1 s2 H2 ⟨x, h⟩ e => ⟨⟨e.st, x.le.trans e.le, fun a o t ho => ?_, fun a o ho => ?_, ?_, fun i z hz => e.gens i z (fun q => by rw [hg i q] at hz; cases hz) (x.gens i z hz)⟩, h⟩, fun s1 H1 oa1 s2 H2 oa2 ρ ⟨x, h⟩ y e => ?_⟩
  · exact e.old a o (fun q => by rw [hw a q] at ho; cases ho) t (x.old a o t ho)
  · rcases e.fresh a o ho with q | q
    · exact x.fresh a o q
    · exact .inr (fresh_wr x q)
  · obtain ⟨h1, g1, t1, rfl⟩ := x.same
    obtain ⟨h2, g2, t2, rfl⟩ := e.same
    exact ⟨h2, g2, t2, rfl⟩
  · refine ⟨⟨e.st, x.le.trans e.le, fun a o t ho => ?_, fun a o ho => ?_, ?_, fun i z hz => e.gens i z (x.gens i z hz)⟩, fun a ha => ?_⟩
    · refine e.old a o t (x.old a o t ho) fun q => ?_
      rcases q with q | ⟨z, hz, q⟩ | q
      · rw [q, hCl] at ho; cases ho
      · rw [hKs z a hz q] at ho; cases ho
      · rw [h a q] at ho; cases ho
    · rcases e.fresh a o ho with q | q | q
      · exact x.fresh a o q
      · exact .inr (fresh_wr x q)
      · exact .inr (h a q)
    · obtain ⟨h1, g1, t1, rfl⟩ := x.same
      obtain ⟨h2, g2, t2, rfl⟩ := e.same
      exact ⟨h2, g2, t2, rfl⟩
    · rcases e.oa a ha with q | q
      · exact h a q
      · exact fresh_wr x q
theorem comp_runC {elt tgt iter : Expr} {ifs : List Expr} {rest : List Comprehension} {scope : Scope} {pos : Pos} {fr : List (Str × Nat)} {tg : List Str} {z : Str} {m : EM} {ft : List PV → PV → Option (List PV)} {tst : List PV → Option Bool} {em : DC}
    (ok : InOkC C scope fr tg z) (hT : DenT g (inCxC C scope fr tg z) tgt ft) (hI : DenTest g (inCxC C scope fr tg z) ifs tst) (hE : DenE g (inCxC C scope fr tg z) m em)
    (heq : ∀ it acc env, compTurn (.ListComp elt (⟨tgt, iter, ifs, 0⟩ :: rest) scope pos) 0 it acc env = turnM tgt iter ifs m (.compLoop (.ListComp elt (⟨tgt, iter, ifs, 0⟩ :: rest) scope pos) 0 it acc env) it acc env)
    {env : Env} {A : Around} {s s1 : Shared} {H H1 : HP} {ρ : List PV} {oa : Option Addr} {I : Addr} {wr : List Addr} {gw : List Nat} {T : Nat → HP → Shared → Prop} {items ρ' acc' : List PV} {RR : Value → Addr → Result → Shared → Prop} {E : Value → Shared → Prop}
    (he : EnvOk C env) (hr : Room A C.lv) (y : Rel g C env s H ρ oa) (e1 : Ext g s H s1 H1) (hO : IterOk g A I wr gw tgt T items) (t : T 0 H1 s1) (hfr : ∀ b ∈ wr, s.heap.get? b = none) (hw : WrOk wr H1) (hgf : ∀ j ∈ gw, s.gens[j]? = none)
    (hf : compF ft tst em items (inR fr tg ρ) [] = some (ρ', acc'))
    (h : ∀ D Cl its s' H' m', Ext g s H s' H' → VRelL H' acc' its.toList → s'.heap.PlainList D its → s.heap.get? D = none → H' D = none → s.heap.get? Cl = none → H' Cl = none → D ≠ Cl → s'.heap.Ns Cl m' → RR (.ref D) Cl (.ok .next) s') :
    wpAny (model g.prog g.w) A (newList []) (fun acc s₃ => wpAny (model g.prog g.w) A (newFunctionEnv scope env.globals (clFrom env.cells scope.names []) [] env.qual none .none (some env)) (fun cenv s₄ =>
      codeAny (model g.prog g.w) A (.compStart (.ListComp elt (⟨tgt, iter, ifs, 0⟩ :: rest) scope pos) 0 (.ref I) acc { cenv with scope := relabel scope env }) (RR acc cenv.locals) s₄) E s₃) E s1 := by
  refine wpAny_newObj_type (newFunctionEnv_one ok.one ?_)
  dsimp only
  generalize hH2 : s1.heap.push { cls := .type "list", dict := none, data := .seq ([] : List Value).toArray } = H2
  generalize hh₁ : (H2.push { cls := .type "dict", data := .dict #[] }).push { cls := .type "cell", data := .cell none } = h₁
  have hC : H2.objs.size = s1.heap.objs.size + 1 := by rw [← hH2, Heap.size_push]
  have hDC : s1.heap.objs.size ≠ H2.objs.size := by rw [hC]; exact Nat.ne_of_lt (Nat.lt_succ_self _)
  have hCle : s1.heap.objs.size ≤ H2.objs.size := by rw [hC]; exact Nat.le_succ _
  have up : ∀ b o, H2.get? b = some o → h₁.get? b = some o := fun b o e => hh₁ ▸ Heap.get?_push_of_some _ (Heap.get?_push_of_some _ e)
  have old : ∀ b o, s1.heap.get? b = some o → h₁.get? b = some o := fun b o e => up b o (hH2 ▸ Heap.get?_push_of_some _ e)
  have hacc : h₁.PlainList s1.heap.objs.size #[] := ⟨_, up _ _ (hH2 ▸ Heap.get?_push_size _ rfl)⟩
  have hns₁ : h₁.Ns H2.objs.size (fun _ => none) := (Heap.Ns.new H2 (.type "dict")).keeps fun b o e => hh₁ ▸ Heap.get?_push_of_some _ e
  have hKc : h₁.IsCell (H2.objs.size + 1) none := by
    refine ⟨{ cls := .type "cell", data := .cell none }, ?_, rfl⟩
    rw [← hh₁]
    have := Heap.get?_push_size (H2.push { cls := .type "dict", data := .dict #[] }) (o := { cls := .type "cell", data := .cell none }) rfl
    rw [Heap.size_push] at this
    exact this
  have e2 : Ext g s1 H1 { s1 with heap := h₁, toks := s1.toks } H1 := Ext.kept e1.st old
  have hCl1 : s1.heap.get? H2.objs.size = none := freshAt hCle
  have hK1 : s1.heap.get? (H2.objs.size + 1) = none := freshAt (Nat.le_succ_of_le hCle)
  have hD1 : s1.heap.get? s1.heap.objs.size = none := freshAt (Nat.le_refl _)
  obtain ⟨he', y', hcex⟩ := inner_startC (cenv := compEnvC scope ((z, H2.objs.size + 1) :: clFrom env.cells scope.names []) H2.objs.size env) ok he y e1 e2 rfl hns₁ hCl1 hK1 hKc hD1 hacc (fun x => rfl)
  have hB : BaseOk g (inCxC C scope fr tg z) (compEnvC scope ((z, H2.objs.size + 1) :: clFrom env.cells scope.names []) H2.objs.size env) wr gw (OutB g s H) := baseOutC (fresh_wr e1 hCl1) (fun x a hx ha => by
    obtain ⟨i, hi⟩ := List.getElem?_of_mem hx
    rcases hcex x a .cel i hi (by decide) ha with ⟨q, _⟩ | ⟨_, rfl⟩
    · cases q
    · exact fresh_wr e1 hK1) hfr hgf
  have hlive := fun b hb => hO.live 0 H1 s1 t b hb
  have L : LoopI g (inCxC C scope fr tg z) (compEnvC scope ((z, H2.objs.size + 1) :: clFrom env.cells scope.names []) H2.objs.size env) (OutB g s H) wr gw T 0 (inR fr tg ρ) { s1 with heap := h₁, toks := s1.toks } H1 (some s1.heap.objs.size) := by
    refine ⟨⟨e1.trans e2, fun a ha => ?_⟩, y', hO.frame 0 H1 H1 s1 _ t (.refl _) (fun b _ o ho => old b o ho) (fun _ _ _ e => e) e2.st, fun b hb => ⟨fun q => ?_, fun x c k i hi hk hc q => ?_⟩, hw, fun b hb q => ?_⟩
    · cases ha; exact fresh_wr e1 hD1
    · obtain ⟨o, ho⟩ := hlive b hb
      rw [show b = H2.objs.size from q, hCl1] at ho; cases ho
    · rcases hcex x c k i hi hk hc with ⟨_, o, ho⟩ | ⟨_, rfl⟩
      · rw [q, hfr b hb] at ho; cases ho
      · obtain ⟨o, ho⟩ := hlive b hb
        rw [← q, hK1] at ho; cases ho
    · obtain ⟨o, ho⟩ := hlive b hb
      cases q; rw [hD1] at ho; cases ho
  have loop : ∀ s₃ : Shared, s₃ = { s1 with heap := h₁, toks := s1.toks } →
      codeAny (model g.prog g.w) A (.compLoop (.ListComp elt (⟨tgt, iter, ifs, 0⟩ :: rest) scope pos) 0 (.ref I) (.ref s1.heap.objs.size) (compEnvC scope ((z, H2.objs.size + 1) :: clFrom env.cells scope.names []) H2.objs.size env)) (RR (.ref s1.heap.objs.size) H2.objs.size) s₃ := by
    rintro s₃ rfl
    refine compLoop_den (acc := []) heq (fun _ _ _ => rfl) (fun _ _ _ => rfl) hT hI hE (fun _ _ _ => rfl) he' hr hB hO L ⟨#[], hacc, rfl⟩ hf fun s' H' hb y5 hD5 => ?_
    obtain ⟨its, hp, hx⟩ := hD5
    obtain ⟨m', hn', _⟩ := y5.ns
    exact h s1.heap.objs.size H2.objs.size its s' H' m' hb.1 hx hp (fresh_wr e1 hD1) (y5.oall _ rfl).1 (fresh_wr e1 hCl1) y5.fz hDC hn'
  exact codeAny_compStart_list (loop _ rfl) (hO.self _ H1 _ _ e2.st (L.it) (loop _ rfl))
theorem DenNew.cmp1c {elt tgt iter : Expr} {ifs : List Expr} {scope : Scope} {pos : Pos} (fr : List (Str × Nat)) (tg : List Str) (z : Str) {fi : List PV → Option (List PV)} {ft : List PV → PV → Option (List PV)} {tst : List PV → Option Bool} {fe : DE}
    (hIt : DenI g C iter tgt fi) (ok0 : inOkC C scope fr tg z = true) (hT0 : (inCxC C scope fr tg z).ok = true → DenT g (inCxC C scope fr tg z) tgt ft) (hI0 : (inCxC C scope fr tg z).ok = true → DenTest g (inCxC C scope fr tg z) ifs tst) (hE0 : (inCxC C scope fr tg z).ok = true → Den g (inCxC C scope fr tg z) elt fe)
    (hs : ∀ env x, foldedSetIterable iter env x = pure x := by intro _ _; rfl) :
    DenNew g C (.ListComp elt [⟨tgt, iter, ifs, 0⟩] scope pos) (lComp fr tg fi ft tst (eElt fe)) := by
  have ok := InOkC.of ok0
  have hT := hT0 ok.ok
  have hI := hI0 ok.ok
  have hE := DenE.elt (by simp [inCxC]) (hE0 ok.ok)
  intro env A s H ρ oa Q E l he hr y hf hq
  obtain ⟨items, hit, hf2⟩ := Option.bind_eq_some_iff.mp hf
  obtain ⟨⟨ρ', acc'⟩, hco, hl⟩ := Option.map_eq_some_iff.mp hf2
  clear hf hf2
  cases hl
  rw [eval_ListComp]
  have hlk : ∀ n k, (n, k) ∈ scope.names → k = .free → ∃ c, env.cells.lookup n = some c := fun n k hx hk => by
    obtain ⟨⟨k', h1, h2⟩, _⟩ := ok.free n k hx hk
    exact he.cel n k' h1 h2
  refine wpAny_comprehension_free (use := none) rfl (hs env) (closureFor_cl hlk) ok.kind ok.loc ?_
  refine (show wpAny _ A (eval iter env) _ E s from hIt env A s H ρ oa _ E items he hr y hit fun I wr gw T s1 H1 e1 hO t hfr hw hgf => ?_)
  refine comp_runC (RR := fun acc Cl => compPost (model g.prog g.w) A E none Q acc Cl) ok hT hI hE (fun _ _ _ => rfl) he hr y e1 hO t hfr hw hgf hco fun D Cl its s' H' m' x hx hp hD hHD hCl hHCl hne hn => ?_
  refine ⟨m', hn, fun h' hsb => ?_⟩
  obtain ⟨n, ho⟩ := hp
  exact hq D its _ H' (out_let x hCl hHCl hsb (notTab_fresh y.st hCl)) hx ⟨n, (hsb.2 D hne).trans ho⟩ hD hHD
end
noncomputable def cx_sqr : Cx := { sc := scopeOf (fstmt 2), ns := [((Str.ofString "addr"), VK.loc), ((Str.ofString "start"), VK.loc), ((Str.ofString "open_pos"), VK.loc), ((Str.ofString "result"), VK.loc), ((Str.ofString "pos"), VK.loc), ((Str.ofString "ch"), VK.loc)], mu := 3, lv := 30 }
theorem cx_sqr_ok : cx_sqr.ok = true := by decide +kernel
noncomputable def fb_sqr : DS := (dSeq (sIf (bCmp pNotInS (kC (.str [34])) (dVar 0)) (dSeq (sRet (dVar 0))
  sNil) sNil)
  (dSeq (sAssign 1 (kC (.int 0)))
  (dSeq (sAssign 2 (kC .none))
  (dSeq (sOwnNew 3 lNil)
  (dSeq (sFor (iEsc (dVar 0)) (ftTup 2 (ftCons (tSet 4) (ftCons (tSet 5) ftNil))) (dSeq (sIf (bCmp pEq (dVar 5) (kC (.str [34]))) (dSeq (sIf (bCmp pIs (dVar 2) (kC .none)) (dSeq (sAssign 2 (dVar 4))
  sNil) (dSeq (sIf (bCmp pNe (dVar 1) (dVar 2)) (dSeq (fOwn cx_sqr (lCons (kSlice (dVar 0) (dVar 1) (dVar 2)) lNil) pAppend)
  sNil) sNil)
  (dSeq (sAssign 1 (kBin pAdd (dVar 4) (kC (.int 1))))
  (dSeq (sAssign 2 (kC .none))
  sNil))))
  sNil) sNil)
  sNil))
  (dSeq (sIf (bCmp pLt (dVar 1) (kCallB pLen (lCons (dVar 0) lNil))) (dSeq (fOwn cx_sqr (lCons (kSlice (dVar 0) (dVar 1) (kC .none)) lNil) pAppend)
  sNil) sNil)
  (sFrz cx_sqr (dSeq (sRet (kMeth isStrP pJoin (kC (.str [])) (lCons (dVar 3) lNil))) sNil))))))))
theorem D_sqr (g : GC) : DenSs g cx_sqr (bodyOf (fstmt 2)) fb_sqr := (DenSs.cons (DenS.ite (DenB.cmp (by decide) (Den.str (l := [34]) (by kernel_rfl)) (Den.var (i := 0) cx_sqr_ok rfl) (notInS_op g)) (DenSs.cons (DenS.ret (Den.var (i := 0) cx_sqr_ok rfl))
  DenSs.nil) DenSs.nil)
  (DenSs.cons (DenS.assign (i := 1) cx_sqr_ok rfl Den.int)
  (DenSs.cons (DenS.assign (i := 2) cx_sqr_ok rfl Den.kNone)
  (DenSs.cons (DenS.assignOwn cx_sqr_ok rfl (DenNew.list DenL.nil (by decide) lenL_nil))
  (DenSs.cons (DenS.for1 (DenI1.esc cx_sqr_ok (by kernel_rfl) (fun P => by kernel_rfl) (Den.var (i := 0) cx_sqr_ok rfl)) (DenT.tuple (DenTs.cons (DenT.name (i := 4) cx_sqr_ok rfl) (DenTs.cons (DenT.name (i := 5) cx_sqr_ok rfl) DenTs.nil))) (DenSs.cons (DenS.ite (DenB.cmp (by decide) (Den.var (i := 5) cx_sqr_ok rfl) (Den.str (l := [34]) (by kernel_rfl)) (eq_op g)) (DenSs.cons (DenS.ite (DenB.cmp (by decide) (Den.var (i := 2) cx_sqr_ok rfl) Den.kNone (is_op g)) (DenSs.cons (DenS.assign (i := 2) cx_sqr_ok rfl (Den.var (i := 4) cx_sqr_ok rfl))
  DenSs.nil) (DenSs.cons (DenS.ite (DenB.cmp (by decide) (Den.var (i := 1) cx_sqr_ok rfl) (Den.var (i := 2) cx_sqr_ok rfl) (ne_op g)) (DenSs.cons (DenS.own cx_sqr_ok rfl slot_list_append type_list_append (DenL.cons (Den.slice (Den.var (i := 0) cx_sqr_ok rfl) (DenP.some (Den.var (i := 1) cx_sqr_ok rfl)) (DenP.some (Den.var (i := 2) cx_sqr_ok rfl))) DenL.nil) append_own (by decide) _)
  DenSs.nil) DenSs.nil)
  (DenSs.cons (DenS.assign (i := 1) cx_sqr_ok rfl (Den.bin (by decide) (Den.var (i := 4) cx_sqr_ok rfl) Den.int (add_op g)))
  (DenSs.cons (DenS.assign (i := 2) cx_sqr_ok rfl Den.kNone)
  DenSs.nil))))
  DenSs.nil) DenSs.nil)
  DenSs.nil))
  (DenSs.cons (DenS.ite (DenB.cmp (by decide) (Den.var (i := 1) cx_sqr_ok rfl) (Den.callB cx_sqr_ok (by kernel_rfl) (fun P => by kernel_rfl) (by kernel_rfl) (len_op g) (DenL.cons (Den.var (i := 0) cx_sqr_ok rfl) DenL.nil)) (lt_op g)) (DenSs.cons (DenS.own cx_sqr_ok rfl slot_list_append type_list_append (DenL.cons (Den.slice (Den.var (i := 0) cx_sqr_ok rfl) (DenP.some (Den.var (i := 1) cx_sqr_ok rfl)) DenP.none) DenL.nil) append_own (by decide) _)
  DenSs.nil) DenSs.nil)
  (DenSs.freeze rfl (DenSs.cons (DenS.ret (Den.meth (Den.str (l := []) (by kernel_rfl)) (DenL.cons (Den.var (i := 3) cx_sqr_ok rfl) DenL.nil) join_get join_op _)) DenSs.nil))))))))
noncomputable def fn_sqr : List PV → List (Str × PV) → Option PV := fnF 1 5 fb_sqr
theorem ok_sqr (g : GC) : FnS g 28 31 fn_sqr := FnS.plain (C := cx_sqr) [(Str.ofString "addr")] 5
  ⟨_, _, _, _, fun P => by with_unfolding_all rfl, fun P => by kernel_rfl, by rfl, by rfl, by rfl, by rfl, by rfl, by with_unfolding_all rfl, by with_unfolding_all rfl, fun s vs h => by
    match vs, h with
    | [v0], _ => exact BindsTo.of_eq (by with_unfolding_all rfl)⟩
  cx_sqr_ok (by kernel_rfl) (by unfold isTab; decide) (by decide +kernel) (fun ps h => by
    match ps, h with
    | [v0], _ => kernel_rfl) (D_sqr g)
noncomputable def cx_ckp : Cx := { sc := scopeOf (fstmt 3), ns := [((Str.ofString "addr"), VK.loc), ((Str.ofString "opens"), VK.loc), ((Str.ofString "pos"), VK.loc), ((Str.ofString "ch"), VK.loc)], mu := 4, lv := 31 }
theorem cx_ckp_ok : cx_ckp.ok = true := by decide +kernel
noncomputable def fb_ckp : DS := (dSeq (sAssign 0 (kCall fn_sqr [] (lCons (dVar 0) lNil) lNil))
  (dSeq (sAssign 1 (kC (.int 0)))
  (dSeq (sFor (iEsc (dVar 0)) (ftTup 2 (ftCons (tSet 2) (ftCons (tSet 3) ftNil))) (dSeq (sIf (bCmp pEq (dVar 3) (kC (.str [40]))) (dSeq (sAug 1 pIAdd (kC (.int 1)))
  sNil) (dSeq (sIf (bCmp pEq (dVar 3) (kC (.str [41]))) (dSeq (sAug 1 pISub (kC (.int 1)))
  (dSeq (sIf (bCmp pLt (dVar 1) (kC (.int 0))) (dSeq (sRet (kC (.bool false)))
  sNil) sNil)
  sNil)) sNil)
  sNil))
  sNil))
  (dSeq (sRet (kBin pEq (dVar 1) (kC (.int 0))))
  sNil))))
theorem D_ckp (g : GC) : DenSs g cx_ckp (bodyOf (fstmt 3)) fb_ckp := (DenSs.cons (DenS.assign (i := 0) cx_ckp_ok rfl (Den.call cx_ckp_ok (by kernel_rfl) (fun P => by kernel_rfl) (fun P => ⟨_, _, _, _, by with_unfolding_all rfl⟩) (ok_sqr g) (DenL.cons (Den.var (i := 0) cx_ckp_ok rfl) DenL.nil) DenK.nil lenK_nil))
  (DenSs.cons (DenS.assign (i := 1) cx_ckp_ok rfl Den.int)
  (DenSs.cons (DenS.for1 (DenI1.esc cx_ckp_ok (by kernel_rfl) (fun P => by kernel_rfl) (Den.var (i := 0) cx_ckp_ok rfl)) (DenT.tuple (DenTs.cons (DenT.name (i := 2) cx_ckp_ok rfl) (DenTs.cons (DenT.name (i := 3) cx_ckp_ok rfl) DenTs.nil))) (DenSs.cons (DenS.ite (DenB.cmp (by decide) (Den.var (i := 3) cx_ckp_ok rfl) (Den.str (l := [40]) (by kernel_rfl)) (eq_op g)) (DenSs.cons (DenS.aug (i := 1) cx_ckp_ok rfl (iadd_op g) Den.int)
  DenSs.nil) (DenSs.cons (DenS.ite (DenB.cmp (by decide) (Den.var (i := 3) cx_ckp_ok rfl) (Den.str (l := [41]) (by kernel_rfl)) (eq_op g)) (DenSs.cons (DenS.aug (i := 1) cx_ckp_ok rfl (isub_op g) Den.int)
  (DenSs.cons (DenS.ite (DenB.cmp (by decide) (Den.var (i := 1) cx_ckp_ok rfl) Den.int (lt_op g)) (DenSs.cons (DenS.ret Den.bool)
  DenSs.nil) DenSs.nil)
  DenSs.nil)) DenSs.nil)
  DenSs.nil))
  DenSs.nil))
  (DenSs.cons (DenS.ret (Den.cmp (by decide) (Den.var (i := 1) cx_ckp_ok rfl) Den.int (eq_op g)))
  DenSs.nil))))
noncomputable def fn_ckp : List PV → List (Str × PV) → Option PV := fnF 1 3 fb_ckp
theorem ok_ckp (g : GC) : FnS g 35 32 fn_ckp := FnS.plain (C := cx_ckp) [(Str.ofString "addr")] 3
  ⟨_, _, _, _, fun P => by with_unfolding_all rfl, fun P => by kernel_rfl, by rfl, by rfl, by rfl, by rfl, by rfl, by with_unfolding_all rfl, by with_unfolding_all rfl, fun s vs h => by
    match vs, h with
    | [v0], _ => exact BindsTo.of_eq (by with_unfolding_all rfl)⟩
  cx_ckp_ok (by kernel_rfl) (by unfold isTab; decide) (by decide +kernel) (fun ps h => by
    match ps, h with
    | [v0], _ => kernel_rfl) (D_ckp g)
noncomputable def cx_law_spans : Cx := { sc := scopeOf (fstmt 19), ns := [((Str.ofString "row"), VK.cel), ((Str.ofString "pieces"), VK.cel), ((Str.ofString "cells"), VK.loc), ((Str.ofString "spans"), VK.loc), ((Str.ofString "i"), VK.loc), ((Str.ofString "span"), VK.loc), ((Str.ofString "j"), VK.loc)], mu := 3, lv := 32 }
theorem cx_law_spans_ok : cx_law_spans.ok = true := by decide +kernel
noncomputable def fb_law_spans : DS := (dSeq (sTup2b 2 3 (fun ρ => ((lComp [((Str.ofString "row"), 0), ((Str.ofString "pieces"), 1)] [(Str.ofString "k")] (iCall pRange (lCons (kCallB pLen (lCons (dVar 0) lNil)) lNil)) (tSet 2) bT (eElt (kBin pAdd (kBin pItem (dVar 0) (dVar 2)) (kBin pItem (dVar 1) (dVar 2))))) ρ).map .list) lNil)
  (dSeq (sFor (iCall pRange (lCons (kCallB pLen (lCons (dVar 0) lNil)) lNil)) (tSet 4) (dSeq (sAssign 5 (kC (.int 0)))
  (dSeq (sFor (iCall pRange (lCons (kBin pAdd (dVar 4) (kC (.int 1))) (lCons (kCallB pLen (lCons (dVar 0) lNil)) (lCons (kC (.int 2)) lNil)))) (tSet 6) (dSeq (sIf (bAnd (bCmp pEq (kBin pItem (dVar 0) (dVar 4)) (kC (.str [40]))) (bAnd (bCmp pEq (dVar 5) (kC (.int 0))) (bAnd (bCmp pIs (kCall fn_ckp [] (lCons (kMeth isStrP pJoin (kC (.str [])) (lCons (kSlice (dVar 2) (dVar 4) (kBin pAdd (dVar 6) (kC (.int 1)))) lNil)) lNil) lNil) (kC (.bool true))) bT))) (dSeq (sAssign 5 (kBin pSub (kBin pAdd (dVar 6) (kC (.int 1))) (dVar 4)))
  sNil) sNil)
  sNil))
  (dSeq (fOwn cx_law_spans (lCons (dVar 5) lNil) pAppend)
  sNil))))
  (sFrz cx_law_spans (dSeq (sRet (dVar 3)) sNil))))
theorem D_law_spans (g : GC) : DenSs g cx_law_spans (bodyOf (fstmt 19)) fb_law_spans := (DenSs.cons (DenS.assignT2b (i1 := 2) cx_law_spans_ok rfl rfl (by decide) (DenNew.den (DenNew.cmp1 [((Str.ofString "row"), 0), ((Str.ofString "pieces"), 1)] [(Str.ofString "k")] (DenI.call cx_law_spans_ok (by kernel_rfl) (fun P => by kernel_rfl) (by kernel_rfl) (range_op _) (DenL.cons (Den.callB cx_law_spans_ok (by kernel_rfl) (fun P => by kernel_rfl) (by kernel_rfl) (len_op g) (DenL.cons (Den.var (i := 0) cx_law_spans_ok rfl) DenL.nil)) DenL.nil)) (by decide +kernel) (fun h1 => (DenT.name (i := 2) h1 rfl)) (fun h1 => DenTest.nil) (fun h1 => (Den.bin (by decide) (Den.item (Den.var (i := 0) h1 rfl) (Den.var (i := 2) h1 rfl)) (Den.item (Den.var (i := 1) h1 rfl) (Den.var (i := 2) h1 rfl)) (add_op g))))) (DenNew.list DenL.nil (by decide) lenL_nil) (fun _ => rfl) (fun _ => rfl) (fun env h => by obtain ⟨sc, e1, e2, e3, e4, e5, e6, e7, e8⟩ := env; have h2 : sc = _ := h; subst h2; first | rfl | exact ⟨rfl, rfl⟩ | with_unfolding_all rfl | with_unfolding_all exact ⟨rfl, rfl⟩))
  (DenSs.cons (DenS.for (DenI.call cx_law_spans_ok (by kernel_rfl) (fun P => by kernel_rfl) (by kernel_rfl) (range_op _) (DenL.cons (Den.callB cx_law_spans_ok (by kernel_rfl) (fun P => by kernel_rfl) (by kernel_rfl) (len_op g) (DenL.cons (Den.var (i := 0) cx_law_spans_ok rfl) DenL.nil)) DenL.nil)) (DenT.name (i := 4) cx_law_spans_ok rfl) (DenSs.cons (DenS.assign (i := 5) cx_law_spans_ok rfl Den.int)
  (DenSs.cons (DenS.for (DenI.call cx_law_spans_ok (by kernel_rfl) (fun P => by kernel_rfl) (by kernel_rfl) (range_op _) (DenL.cons (Den.bin (by decide) (Den.var (i := 4) cx_law_spans_ok rfl) Den.int (add_op g)) (DenL.cons (Den.callB cx_law_spans_ok (by kernel_rfl) (fun P => by kernel_rfl) (by kernel_rfl) (len_op g) (DenL.cons (Den.var (i := 0) cx_law_spans_ok rfl) DenL.nil)) (DenL.cons Den.int DenL.nil)))) (DenT.name (i := 6) cx_law_spans_ok rfl) (DenSs.cons (DenS.ite (DenB.boolop (DenAll.and_cons (DenB.cmp (by decide) (Den.item (Den.var (i := 0) cx_law_spans_ok rfl) (Den.var (i := 4) cx_law_spans_ok rfl)) (Den.str (l := [40]) (by kernel_rfl)) (eq_op g)) (DenAll.and_cons (DenB.cmp (by decide) (Den.var (i := 5) cx_law_spans_ok rfl) Den.int (eq_op g)) (DenAll.and_cons (DenB.cmp (by decide) (Den.call cx_law_spans_ok (by kernel_rfl) (fun P => by kernel_rfl) (fun P => ⟨_, _, _, _, by with_unfolding_all rfl⟩) (ok_ckp g) (DenL.cons (Den.meth (Den.str (l := []) (by kernel_rfl)) (DenL.cons (Den.slice (Den.var (i := 2) cx_law_spans_ok rfl) (DenP.some (Den.var (i := 4) cx_law_spans_ok rfl)) (DenP.some (Den.bin (by decide) (Den.var (i := 6) cx_law_spans_ok rfl) Den.int (add_op g)))) DenL.nil) join_get join_op _) DenL.nil) DenK.nil lenK_nil) Den.bool (is_op g)) DenAll.and_nil)))) (DenSs.cons (DenS.assign (i := 5) cx_law_spans_ok rfl (Den.bin (by decide) (Den.bin (by decide) (Den.var (i := 6) cx_law_spans_ok rfl) Den.int (add_op g)) (Den.var (i := 4) cx_law_spans_ok rfl) (sub_op g)))
  DenSs.nil) DenSs.nil)
  DenSs.nil))
  (DenSs.cons (DenS.own cx_law_spans_ok rfl slot_list_append type_list_append (DenL.cons (Den.var (i := 5) cx_law_spans_ok rfl) DenL.nil) append_own (by decide) _)
  DenSs.nil))))
  (DenSs.freeze rfl (DenSs.cons (DenS.ret (Den.var (i := 3) cx_law_spans_ok rfl)) DenSs.nil))))
noncomputable def fn_law_spans : List PV → List (Str × PV) → Option PV := fnF 2 5 fb_law_spans
theorem ok_law_spans (g : GC) : FnS g 121 33 fn_law_spans := FnS.plain (C := cx_law_spans) [(Str.ofString "row"), (Str.ofString "pieces")] 5
  ⟨_, _, _, _, fun P => by with_unfolding_all rfl, fun P => by kernel_rfl, by rfl, by rfl, by rfl, by rfl, by rfl, by with_unfolding_all rfl, by with_unfolding_all rfl, fun s vs h => by
    match vs, h with
    | [v0, v1], _ => exact BindsTo.of_eq (by with_unfolding_all rfl)⟩
  cx_law_spans_ok (by kernel_rfl) (by unfold isTab; decide) (by decide +kernel) (fun ps h => by
    match ps, h with
    | [v0, v1], _ => kernel_rfl) (D_law_spans g)
noncomputable def cx_law_answers : Cx := { sc := scopeOf (fstmt 21), ns := [((Str.ofString "row"), VK.cel), ((Str.ofString "pieces"), VK.cel), ((Str.ofString "cells"), VK.loc), ((Str.ofString "text"), VK.loc), ((Str.ofString "answers"), VK.loc)], mu := 5, lv := 32 }
theorem cx_law_answers_ok : cx_law_answers.ok = true := by decide +kernel
noncomputable def fb_law_answers : DS := (dSeq (sComp 2 [((Str.ofString "row"), 0), ((Str.ofString "pieces"), 1)] [(Str.ofString "k")] (iCall pRange (lCons (kCallB pLen (lCons (dVar 0) lNil)) lNil)) (tSet 2) bT (eElt (kBin pAdd (kBin pItem (dVar 0) (dVar 2)) (kBin pItem (dVar 1) (dVar 2)))))
  (dSeq (sAssign 3 (kMeth isStrP pJoin (kC (.str [])) (lCons (dVar 2) lNil)))
  (dSeq (sComp 4 [] [(Str.ofString "one")] (iVal (kTup (lCons (dVar 3) (lCons (kBin pAdd (kC (.str [40])) (dVar 3)) (lCons (kBin pAdd (kC (.str [41])) (dVar 3)) (lCons (kMeth isStrP pJoin (kC (.str [])) (lCons (kBin pAdd (kSlice (dVar 2) (kC (.int 1)) (kC .none)) (kSlice (dVar 2) (kC .none) (kC (.int 1)))) lNil)) lNil)))))) (tSet 0) bT (eElt (kCall fn_ckp [] (lCons (dVar 0) lNil) lNil)))
  (dSeq (sRet (kBin pAdd (fun ρ => ((lComp [] [(Str.ofString "answer")] (iVal (dVar 4)) (tSet 0) bT (eElt (kBin pIs (dVar 0) (kC (.bool true))))) ρ).map .list) (fun ρ => ((lComp [] [(Str.ofString "answer")] (iVal (dVar 4)) (tSet 0) bT (eElt (kBin pIs (dVar 0) (kC (.bool false))))) ρ).map .list)))
  sNil))))
theorem D_law_answers (g : GC) : DenSs g cx_law_answers (bodyOf (fstmt 21)) fb_law_answers := (DenSs.cons (DenS.asC1 (i := 2) [((Str.ofString "row"), 0), ((Str.ofString "pieces"), 1)] [(Str.ofString "k")] cx_law_answers_ok rfl (DenI.call cx_law_answers_ok (by kernel_rfl) (fun P => by kernel_rfl) (by kernel_rfl) (range_op _) (DenL.cons (Den.callB cx_law_answers_ok (by kernel_rfl) (fun P => by kernel_rfl) (by kernel_rfl) (len_op g) (DenL.cons (Den.var (i := 0) cx_law_answers_ok rfl) DenL.nil)) DenL.nil)) (by decide +kernel) (fun h1 => (DenT.name (i := 2) h1 rfl)) (fun h1 => DenTest.nil) (fun h1 => (Den.bin (by decide) (Den.item (Den.var (i := 0) h1 rfl) (Den.var (i := 2) h1 rfl)) (Den.item (Den.var (i := 1) h1 rfl) (Den.var (i := 2) h1 rfl)) (add_op g))) (fun env h => by obtain ⟨sc, e1, e2, e3, e4, e5, e6, e7, e8⟩ := env; have h2 : sc = _ := h; subst h2; first | rfl | exact ⟨rfl, rfl⟩ | with_unfolding_all rfl | with_unfolding_all exact ⟨rfl, rfl⟩))
  (DenSs.cons (DenS.assign (i := 3) cx_law_answers_ok rfl (Den.meth (Den.str (l := []) (by kernel_rfl)) (DenL.cons (Den.var (i := 2) cx_law_answers_ok rfl) DenL.nil) join_get join_op _))
  (DenSs.cons (DenS.asC1 (i := 4) [] [(Str.ofString "one")] cx_law_answers_ok rfl (DenI.val (Den.tuple (DenL.cons (Den.var (i := 3) cx_law_answers_ok rfl) (DenL.cons (Den.bin (by decide) (Den.str (l := [40]) (by kernel_rfl)) (Den.var (i := 3) cx_law_answers_ok rfl) (add_op g)) (DenL.cons (Den.bin (by decide) (Den.str (l := [41]) (by kernel_rfl)) (Den.var (i := 3) cx_law_answers_ok rfl) (add_op g)) (DenL.cons (Den.meth (Den.str (l := []) (by kernel_rfl)) (DenL.cons (Den.bin (by decide) (Den.slice (Den.var (i := 2) cx_law_answers_ok rfl) (DenP.some Den.int) DenP.none) (Den.slice (Den.var (i := 2) cx_law_answers_ok rfl) DenP.none (DenP.some Den.int)) (add_op g)) DenL.nil) join_get join_op _) DenL.nil)))) (by decide) (lenL_cons (lenL_cons (lenL_cons (lenL_cons lenL_nil)))))) (by decide +kernel) (fun h2 => (DenT.name (i := 0) h2 rfl)) (fun h2 => DenTest.nil) (fun h2 => (Den.call h2 (by kernel_rfl) (fun P => by kernel_rfl) (fun P => ⟨_, _, _, _, by with_unfolding_all rfl⟩) (ok_ckp g) (DenL.cons (Den.var (i := 0) h2 rfl) DenL.nil) DenK.nil lenK_nil)) (fun env h => by obtain ⟨sc, e1, e2, e3, e4, e5, e6, e7, e8⟩ := env; have h2 : sc = _ := h; subst h2; first | rfl | exact ⟨rfl, rfl⟩ | with_unfolding_all rfl | with_unfolding_all exact ⟨rfl, rfl⟩))
  (DenSs.cons (DenS.ret (Den.bin (by decide) (DenNew.den (DenNew.cmp1 [] [(Str.ofString "answer")] (DenI.val (Den.var (i := 4) cx_law_answers_ok rfl)) (by decide +kernel) (fun h3 => (DenT.name (i := 0) h3 rfl)) (fun h3 => DenTest.nil) (fun h3 => (Den.cmp (by decide) (Den.var (i := 0) h3 rfl) Den.bool (is_op g))))) (DenNew.den (DenNew.cmp1 [] [(Str.ofString "answer")] (DenI.val (Den.var (i := 4) cx_law_answers_ok rfl)) (by decide +kernel) (fun h4 => (DenT.name (i := 0) h4 rfl)) (fun h4 => DenTest.nil) (fun h4 => (Den.cmp (by decide) (Den.var (i := 0) h4 rfl) Den.bool (is_op g))))) (add_op g)))
  DenSs.nil))))
noncomputable def fn_law_answers : List PV → List (Str × PV) → Option PV := fnF 2 3 fb_law_answers
theorem ok_law_answers (g : GC) : FnS g 133 33 fn_law_answers := FnS.plain (C := cx_law_answers) [(Str.ofString "row"), (Str.ofString "pieces")] 3
  ⟨_, _, _, _, fun P => by with_unfolding_all rfl, fun P => by kernel_rfl, by rfl, by rfl, by rfl, by rfl, by rfl, by with_unfolding_all rfl, by with_unfolding_all rfl, fun s vs h => by
    match vs, h with
    | [v0, v1], _ => exact BindsTo.of_eq (by with_unfolding_all rfl)⟩
  cx_law_answers_ok (by kernel_rfl) (by unfold isTab; decide) (by decide +kernel) (fun ps h => by
    match ps, h with
    | [v0, v1], _ => kernel_rfl) (D_law_answers g)
noncomputable def cx_law : Cx := { sc := scopeOf (fstmt 24), ns := [((Str.ofString "script"), VK.loc), ((Str.ofString "told"), VK.cel), ((Str.ofString "total"), VK.loc), ((Str.ofString "pairs"), VK.cel), ((Str.ofString "part"), VK.cel), ((Str.ofString "menu"), VK.cel), ((Str.ofString "pieces"), VK.cel), ((Str.ofString "rows"), VK.cel), ((Str.ofString "low"), VK.loc), ((Str.ofString "plain"), VK.cel), ((Str.ofString "spans"), VK.cel), ((Str.ofString "ups"), VK.loc), ((Str.ofString "covers"), VK.loc), ((Str.ofString "above"), VK.cel), ((Str.ofString "sizes"), VK.cel), ((Str.ofString "wide"), VK.loc), ((Str.ofString "guard"), VK.cel), ((Str.ofString "great"), VK.loc), ((Str.ofString "digits"), VK.cel), ((Str.ofString "shelf"), VK.loc), ((Str.ofString "mark"), VK.loc), ((Str.ofString "i"), VK.cel), ((Str.ofString "j"), VK.cel), ((Str.ofString "least"), VK.loc), ((Str.ofString "place"), VK.loc), ((Str.ofString "behind"), VK.loc), ((Str.ofString "both"), VK.loc), ((Str.ofString "upper"), VK.loc), ((Str.ofString "lower"), VK.loc), ((Str.ofString "side"), VK.loc), ((Str.ofString "factor"), VK.loc), ((Str.ofString "k"), VK.loc), ((Str.ofString "more"), VK.loc)], mu := 19, lv := 36 }
theorem cx_law_ok : cx_law.ok = true := by decide +kernel
noncomputable def fb_law : DS := (dSeq (sAssign 1 (kSlice (dVar 0) (kC .none) (kC (.int 60))))
  (dSeq (sAssign 2 (kBin pAdd (kC (.int 1)) (kCallB pSum (lCons (dVar 1) lNil))))
  (dSeq (sTup (kTup (lCons (kBin pAdd (kC (.int 2)) (kBin pMod (dVar 2) (kC (.int 3)))) (lCons (kBin pFloorDiv (dVar 2) (kC (.int 3))) lNil))) (ftTup 2 (ftCons (tSet 3) (ftCons (tSet 4) ftNil))))
  (dSeq (sAssign 5 (fun ρ => ((lCons (kC (.str [])) (lCons (kC (.str [34, 41, 34])) (lCons (kC (.str [92, 41])) (lCons (kC (.str [92, 40])) (lCons (kC (.str [92, 34])) lNil))))) ρ).map .list))
  (dSeq (sAssign 6 (kBin pAdd (fun ρ => ((lComp [((Str.ofString "menu"), 5), ((Str.ofString "told"), 1)] [(Str.ofString "k"), (Str.ofString "one")] (iCall pEnum (lCons (fun ρ => ((lCons (kC (.int 1)) (lCons (kC (.int 2)) (lCons (kC (.int 3)) lNil))) ρ).map .list) lNil)) (ftTup 2 (ftCons (tSet 2) (ftCons (tSet 3) ftNil))) bT (eElt (kBin pItem (dVar 0) (kBin pMod (kBin pAdd (dVar 3) (kCallB pSum (lCons (kSliceSt (dVar 1) (dVar 2) (kC .none) 5) lNil))) (kC (.int 5)))))) ρ).map .list) (fun ρ => ((lCons (kC (.str [])) (lCons (kC (.str [])) (lCons (kC (.str [])) (lCons (kC (.str [])) (lCons (kC (.str [])) lNil))))) ρ).map .list)))
  (dSeq (sAssign 7 (kCall fn_law_rows [] (lCons (dVar 3) lNil) lNil))
  (dSeq (sAssign 8 (kBin pMod (dVar 4) (kCallB pLen (lCons (dVar 7) lNil))))
  (dSeq (sIf (bCmp pNe (kCall fn_law_answers [] (lCons (kBin pItem (dVar 7) (dVar 8)) (lCons (dVar 6) lNil)) lNil) (fun ρ => ((lCons (kC (.bool true)) (lCons (kC (.bool false)) (lCons (kC (.bool false)) (lCons (kC (.bool false)) (lCons (kC (.bool false)) (lCons (kC (.bool true)) (lCons (kC (.bool true)) (lCons (kC (.bool true)) lNil)))))))) ρ).map .list)) (dSeq (sRet (kC (.bool false)))
  sNil) sNil)
  (dSeq (sAssign 9 (fun ρ => ((lComp [] [(Str.ofString "row")] (iVal (dVar 7)) (tSet 0) bT (eElt (kCall fn_law_plain [] (lCons (dVar 0) lNil) lNil))) ρ).map .list))
  (dSeq (sAssign 10 (fun ρ => ((lComp [((Str.ofString "part"), 4), ((Str.ofString "rows"), 7), ((Str.ofString "pieces"), 6), ((Str.ofString "plain"), 9)] [(Str.ofString "i")] (iCall pRange (lCons (kCallB pLen (lCons (dVar 7) lNil)) lNil)) (tSet 4) bT (eElt (kIf (bCmp pEq (kBin pMod (kBin pAdd (dVar 4) (dVar 0)) (kC (.int 2))) (kC (.int 0))) (kCall fn_law_spans [] (lCons (kBin pItem (dVar 1) (dVar 4)) (lCons (dVar 2) lNil)) lNil) (kBin pItem (dVar 3) (dVar 4))))) ρ).map .list))
  (dSeq (sIf (bCmp pNe (dVar 10) (dVar 9)) (dSeq (sRet (kC (.bool false)))
  sNil) sNil)
  (dSeq (sComp 11 [((Str.ofString "rows"), 7), ((Str.ofString "spans"), 10)] [(Str.ofString "i")] (iCall pRange (lCons (kCallB pLen (lCons (dVar 7) lNil)) lNil)) (tSet 2) bT (eElt (kCall fn_law_ups [] (lCons (kBin pItem (dVar 0) (dVar 2)) (lCons (kBin pItem (dVar 1) (dVar 2)) lNil)) lNil)))
  (dSeq (sComp 12 [((Str.ofString "rows"), 7)] [(Str.ofString "line")] (iVal (dVar 11)) (tSet 1) bT (eElt (fun ρ => ((lComp [((Str.ofString "rows"), 0)] [(Str.ofString "up")] (iVal (dVar 1)) (tSet 1) bT (eElt (kCall fn_bisect_left [] (lCons (dVar 0) (lCons (dVar 1) lNil)) lNil))) ρ).map .list)))
  (dSeq (sIf (bCmp pNe (fun ρ => ((lComp [((Str.ofString "rows"), 7)] [(Str.ofString "line")] (iVal (dVar 12)) (tSet 1) bT (eElt (fun ρ => ((lComp [((Str.ofString "rows"), 0)] [(Str.ofString "place")] (iVal (dVar 1)) (tSet 1) bT (eElt (kSlice (dVar 0) (dVar 1) (kBin pAdd (dVar 1) (kC (.int 1)))))) ρ).map .list))) ρ).map .list) (fun ρ => ((lComp [] [(Str.ofString "line")] (iVal (dVar 11)) (tSet 0) bT (eElt (fun ρ => ((lComp [] [(Str.ofString "up")] (iVal (dVar 0)) (tSet 0) bT (eElt (fun ρ => ((lCons (dVar 0) lNil) ρ).map .list))) ρ).map .list))) ρ).map .list)) (dSeq (sRet (kC (.bool false)))
  sNil) sNil)
  (dSeq (sAssign 13 (kCall fn_law_above [] (lCons (dVar 12) lNil) lNil))
  (dSeq (sAssign 14 (fun ρ => ((lComp [] [(Str.ofString "line")] (iVal (dVar 10)) (tSet 0) bT (eElt (fun ρ => ((lComp [] [(Str.ofString "span")] (iVal (dVar 0)) (tSet 0) (bCmp pGt (dVar 0) (kC (.int 0))) (eElt (dVar 0))) ρ).map .list))) ρ).map .list))
  (dSeq (sAssign 15 (kBin pAdd (kC (.int 5)) (kBin pMod (dVar 4) (kC (.int 60)))))
  (dSeq (sAssign 16 (kBin pPow (kC (.int 2)) (kBin pSub (dVar 15) (kC (.int 1)))))
  (dSeq (sAssign 17 (kCall fn_d2i [] (lCons (fun ρ => ((lComp [((Str.ofString "guard"), 16)] [(Str.ofString "line"), (Str.ofString "span")] (iVal (dVar 14)) (tSet 1) bT (eIn (iVal (dVar 1)) (tSet 2) bT (eElt (kBin pAdd (dVar 0) (dVar 2))))) ρ).map .list) (lCons (dVar 15) lNil)) lNil))
  (dSeq (sAssign 18 (kCall fn_i2d [] (lCons (kBin pSub (dVar 17) (kCall fn_d2i [] (lCons (kBin pMul (kBin pItem (dVar 14) (dVar 8)) (kCallB pLen (lCons (dVar 7) lNil))) (lCons (dVar 15) lNil)) lNil)) (lCons (dVar 15) lNil)) lNil))
  (dSeq (sIf (bOr (bCmp pNe (kCallB pLen (lCons (dVar 18) lNil)) (kBin pMul (dVar 3) (kCallB pLen (lCons (dVar 7) lNil)))) (bOr (bCmp pNe (fun ρ => ((lComp [((Str.ofString "digits"), 18), ((Str.ofString "pairs"), 3), ((Str.ofString "guard"), 16)] [(Str.ofString "j")] (iCall pRange (lCons (kCallB pLen (lCons (dVar 7) lNil)) lNil)) (tSet 3) (bCmp pGe (kCallB pMin (lCons (kSlice (dVar 0) (kBin pMul (dVar 3) (dVar 1)) (kBin pMul (kBin pAdd (dVar 3) (kC (.int 1))) (dVar 1))) lNil)) (dVar 2)) (eElt (dVar 3))) ρ).map .list) (kBin pItem (dVar 13) (dVar 8))) bF)) (dSeq (sRet (kC (.bool false)))
  sNil) sNil)
  (dSeq (sOwnNew 19 lNil)
  (dSeq (sFor (iVal (kTup (lCons (kC (.int 1)) (lCons (kC (.int 0)) lNil)))) (tSet 20) (dSeq (sFor (iCall pRange (lCons (kCallB pLen (lCons (dVar 7) lNil)) lNil)) (tSet 21) (dSeq (fOwnCall cx_law (lCons (kTup (lCons (kBin pItem (dVar 14) (dVar 21)) (lCons (dVar 20) (lCons (dVar 21) lNil)))) lNil) (lOne (kC (.fn 111))) [(Str.ofString "key")] fn_insort)
  sNil))
  sNil))
  (sFrz cx_law (dSeq (sIf (bCmp pNe (dVar 19) (fun ρ => ((lComp [] [(Str.ofString "line"), (Str.ofString "i"), (Str.ofString "mark")] (iVal (kCallB pSortT (lCons (fun ρ => ((lComp [((Str.ofString "sizes"), 14)] [(Str.ofString "i")] (iCall pRange (lCons (kCallB pLen (lCons (dVar 7) lNil)) lNil)) (tSet 1) bT (eElt (kTup (lCons (kBin pItem (dVar 0) (dVar 1)) (lCons (dVar 1) lNil))))) ρ).map .list) lNil))) (ftTup 2 (ftCons (tSet 0) (ftCons (tSet 1) ftNil))) bT (eIn (iVal (kTup (lCons (kC (.int 1)) (lCons (kC (.int 0)) lNil)))) (tSet 2) bT (eElt (kTup (lCons (dVar 0) (lCons (dVar 2) (lCons (dVar 1) lNil))))))) ρ).map .list)) (dSeq (sRet (kC (.bool false)))
  sNil) sNil) (dSeq (sFor (iCall pRange (lCons (kBin pMod (kBin pFloorDiv (dVar 4) (kC (.int 4))) (kC (.int 2))) (lCons (kCallB pLen (lCons (dVar 7) lNil)) (lCons (kC (.int 2)) lNil)))) (tSet 21) (dSeq (sAssign 22 (kBin pMod (kBin pAdd (kBin pAdd (dVar 21) (kC (.int 1))) (kBin pMod (dVar 4) (kBin pSub (kCallB pLen (lCons (dVar 7) lNil)) (kC (.int 1))))) (kCallB pLen (lCons (dVar 7) lNil))))
  (dSeq (sComp 23 [((Str.ofString "sizes"), 14), ((Str.ofString "i"), 21), ((Str.ofString "j"), 22)] [(Str.ofString "k")] (iCall pRange (lCons (dVar 3) lNil)) (tSet 3) bT (eElt (kCallB pMin (lCons (kBin pItem (kBin pItem (dVar 0) (dVar 1)) (dVar 3)) (lCons (kBin pItem (kBin pItem (dVar 0) (dVar 2)) (dVar 3)) lNil)))))
  (dSeq (sTup2 24 25 (kTup (lCons (kCall fn_bisect_left [(Str.ofString "key")] (lCons (dVar 19) (lCons (dVar 23) lNil)) (lOne (kC (.fn 111)))) (lCons (kCall fn_bisect_right [(Str.ofString "key")] (lCons (dVar 19) (lCons (dVar 23) lNil)) (lOne (kC (.fn 111)))) lNil))))
  (dSeq (sComp 26 [((Str.ofString "i"), 21), ((Str.ofString "j"), 22)] [(Str.ofString "one")] (iVal (dVar 13)) (tSet 2) bT (eElt (kAnd2 (kBin pIn (dVar 0) (dVar 2)) (kBin pIn (dVar 1) (dVar 2)))))
  (dSeq (sIf (bCmp pNe (fun ρ => ((lComp [((Str.ofString "above"), 13)] [(Str.ofString "line"), (Str.ofString "mark"), (Str.ofString "meet")] (iVal (kBin pAdd (kSlice (dVar 19) (dVar 24) (kBin pAdd (dVar 24) (kC (.int 1)))) (kSlice (dVar 19) (kBin pSub (dVar 25) (kC (.int 1))) (dVar 25)))) (ftTup 3 (ftCons (tSet 1) (ftCons (tSet 2) (ftCons (tSet 3) ftNil)))) bT (eElt (kTup (lCons (dVar 2) (lCons (fun ρ => ((lComp [((Str.ofString "meet"), 3)] [(Str.ofString "one")] (iVal (dVar 0)) (tSet 1) bT (eElt (kBin pIn (dVar 0) (dVar 1)))) ρ).map .list) lNil))))) ρ).map .list) (fun ρ => ((lCons (kTup (lCons (kC (.int 1)) (lCons (dVar 26) lNil))) (lCons (kTup (lCons (kC (.int 0)) (lCons (dVar 26) lNil))) lNil)) ρ).map .list)) (dSeq (sRet (kC (.bool false)))
  sNil) sNil)
  sNil))))))
  (dSeq (sTup2 27 28 (kTup (lCons (kBin pItem (fun ρ => ((lCons (kC (.int 1)) (lCons (kUn pNeg (kC (.int 1))) lNil)) ρ).map .list) (kBin pMod (kBin pFloorDiv (dVar 2) (kC (.int 6))) (kC (.int 2)))) (lCons (kBin pItem (fun ρ => ((lCons (kC (.int 1)) (lCons (kUn pNeg (kC (.int 1))) lNil)) ρ).map .list) (kBin pMod (kBin pFloorDiv (dVar 2) (kC (.int 12))) (kC (.int 2)))) lNil))))
  (dSeq (sTup2 29 30 (kTup (lCons (kBin pMul (dVar 27) (dVar 28)) (lCons (kBin pAdd (kC (.int 1)) (kBin pMod (dVar 4) (kBin pPow (kC (.int 10)) (kC (.int 9))))) lNil))))
  (dSeq (sTup2 27 28 (kTup (lCons (kBin pMul (kBin pMul (kC (.int 2)) (dVar 30)) (dVar 27)) (lCons (kBin pMul (dVar 30) (dVar 28)) lNil))))
  (dSeq (sFor (iCall pRange (lCons (kBin pAdd (kBin pMul (kC (.int 3)) (dVar 3)) (kC (.int 3))) (lCons (kBin pAdd (kBin pMul (kC (.int 4)) (dVar 3)) (kC (.int 2))) lNil))) (tSet 31) (dSeq (sAssign 27 (kBin pMul (dVar 27) (dVar 31)))
  sNil))
  (dSeq (sFor (iCall pRange (lCons (kC (.int 2)) (lCons (kBin pAdd (dVar 3) (kC (.int 2))) lNil))) (tSet 31) (dSeq (sAssign 28 (kBin pMul (dVar 28) (dVar 31)))
  sNil))
  (dSeq (sAssign 32 (kBin pMul (kBin pFloorDivBig (dVar 28) (kC (.int 2))) (kBin pMod (kBin pAdd (kC (.int 1)) (dVar 4)) (kC (.int 2)))))
  (dSeq (sRet (kBin pEq (kCall fn_idm3 [] (lCons (kBin pAdd (dVar 27) (dVar 32)) (lCons (dVar 28) lNil)) lNil) (kTup (lCons (kBin pMul (dVar 29) (kCallB pSum (lCons (fun ρ => ((lComp [] [(Str.ofString "one")] (iVal (dVar 13)) (tSet 0) bT (eElt (kCallB pLen (lCons (dVar 0) lNil)))) ρ).map .list) lNil))) (lCons (dVar 32) lNil)))))
  sNil)))))))))))))))))))))))))))))))))
theorem D_law (g : GC) : DenSs g cx_law (bodyOf (fstmt 24)) fb_law := (DenSs.cons (DenS.assign (i := 1) cx_law_ok rfl (Den.slice (Den.var (i := 0) cx_law_ok rfl) DenP.none (DenP.some Den.int)))
  (DenSs.cons (DenS.assign (i := 2) cx_law_ok rfl (Den.bin (by decide) Den.int (Den.callB cx_law_ok (by kernel_rfl) (fun P => by kernel_rfl) (by kernel_rfl) (sum_op g) (DenL.cons (Den.var (i := 1) cx_law_ok rfl) DenL.nil)) (add_op g)))
  (DenSs.cons (DenS.assignT (Den.tuple (DenL.cons (Den.bin (by decide) Den.int (Den.bin (by decide) (Den.var (i := 2) cx_law_ok rfl) Den.int (mod_op g)) (add_op g)) (DenL.cons (Den.bin (by decide) (Den.var (i := 2) cx_law_ok rfl) Den.int (floordiv_op g)) DenL.nil)) (by decide) (lenL_cons (lenL_cons lenL_nil))) (DenT.tuple (DenTs.cons (DenT.name (i := 3) cx_law_ok rfl) (DenTs.cons (DenT.name (i := 4) cx_law_ok rfl) DenTs.nil))) (fun env h => by obtain ⟨sc, e1, e2, e3, e4, e5, e6, e7, e8⟩ := env; have h2 : sc = _ := h; subst h2; first | rfl | exact ⟨rfl, rfl⟩ | with_unfolding_all rfl | with_unfolding_all exact ⟨rfl, rfl⟩))
  (DenSs.cons (DenS.assign (i := 5) cx_law_ok rfl (DenNew.den (DenNew.list (DenL.cons (Den.str (l := []) (by kernel_rfl)) (DenL.cons (Den.str (l := [34, 41, 34]) (by kernel_rfl)) (DenL.cons (Den.str (l := [92, 41]) (by kernel_rfl)) (DenL.cons (Den.str (l := [92, 40]) (by kernel_rfl)) (DenL.cons (Den.str (l := [92, 34]) (by kernel_rfl)) DenL.nil))))) (by decide) (lenL_cons (lenL_cons (lenL_cons (lenL_cons (lenL_cons lenL_nil))))))))
  (DenSs.cons (DenS.assign (i := 6) cx_law_ok rfl (Den.bin (by decide) (DenNew.den (DenNew.cmp1 [((Str.ofString "menu"), 5), ((Str.ofString "told"), 1)] [(Str.ofString "k"), (Str.ofString "one")] (DenI.call cx_law_ok (by kernel_rfl) (fun P => by kernel_rfl) (by kernel_rfl) (enum_op) (DenL.cons (DenNew.den (DenNew.list (DenL.cons Den.int (DenL.cons Den.int (DenL.cons Den.int DenL.nil))) (by decide) (lenL_cons (lenL_cons (lenL_cons lenL_nil))))) DenL.nil)) (by decide +kernel) (fun h1 => (DenT.tuple (DenTs.cons (DenT.name (i := 2) h1 rfl) (DenTs.cons (DenT.name (i := 3) h1 rfl) DenTs.nil)))) (fun h1 => DenTest.nil) (fun h1 => (Den.item (Den.var (i := 0) h1 rfl) (Den.bin (by decide) (Den.bin (by decide) (Den.var (i := 3) h1 rfl) (Den.callB h1 (by kernel_rfl) (fun P => by kernel_rfl) (by kernel_rfl) (sum_op g) (DenL.cons (Den.sliceSt (Den.var (i := 1) h1 rfl) (DenP.some (Den.var (i := 2) h1 rfl)) DenP.none) DenL.nil)) (add_op g)) Den.int (mod_op g)))))) (DenNew.den (DenNew.list (DenL.cons (Den.str (l := []) (by kernel_rfl)) (DenL.cons (Den.str (l := []) (by kernel_rfl)) (DenL.cons (Den.str (l := []) (by kernel_rfl)) (DenL.cons (Den.str (l := []) (by kernel_rfl)) (DenL.cons (Den.str (l := []) (by kernel_rfl)) DenL.nil))))) (by decide) (lenL_cons (lenL_cons (lenL_cons (lenL_cons (lenL_cons lenL_nil))))))) (add_op g)))
  (DenSs.cons (DenS.assign (i := 7) cx_law_ok rfl (Den.call cx_law_ok (by kernel_rfl) (fun P => by kernel_rfl) (fun P => ⟨_, _, _, _, by with_unfolding_all rfl⟩) (ok_law_rows g) (DenL.cons (Den.var (i := 3) cx_law_ok rfl) DenL.nil) DenK.nil lenK_nil))
  (DenSs.cons (DenS.assign (i := 8) cx_law_ok rfl (Den.bin (by decide) (Den.var (i := 4) cx_law_ok rfl) (Den.callB cx_law_ok (by kernel_rfl) (fun P => by kernel_rfl) (by kernel_rfl) (len_op g) (DenL.cons (Den.var (i := 7) cx_law_ok rfl) DenL.nil)) (mod_op g)))
  (DenSs.cons (DenS.ite (DenB.cmp (by decide) (Den.call cx_law_ok (by kernel_rfl) (fun P => by kernel_rfl) (fun P => ⟨_, _, _, _, by with_unfolding_all rfl⟩) (ok_law_answers g) (DenL.cons (Den.item (Den.var (i := 7) cx_law_ok rfl) (Den.var (i := 8) cx_law_ok rfl)) (DenL.cons (Den.var (i := 6) cx_law_ok rfl) DenL.nil)) DenK.nil lenK_nil) (DenNew.den (DenNew.list (DenL.cons Den.bool (DenL.cons Den.bool (DenL.cons Den.bool (DenL.cons Den.bool (DenL.cons Den.bool (DenL.cons Den.bool (DenL.cons Den.bool (DenL.cons Den.bool DenL.nil)))))))) (by decide) (lenL_cons (lenL_cons (lenL_cons (lenL_cons (lenL_cons (lenL_cons (lenL_cons (lenL_cons lenL_nil)))))))))) (ne_op g)) (DenSs.cons (DenS.ret Den.bool)
  DenSs.nil) DenSs.nil)
  (DenSs.cons (DenS.assign (i := 9) cx_law_ok rfl (DenNew.den (DenNew.cmp1 [] [(Str.ofString "row")] (DenI.val (Den.var (i := 7) cx_law_ok rfl)) (by decide +kernel) (fun h2 => (DenT.name (i := 0) h2 rfl)) (fun h2 => DenTest.nil) (fun h2 => (Den.call h2 (by kernel_rfl) (fun P => by kernel_rfl) (fun P => ⟨_, _, _, _, by with_unfolding_all rfl⟩) (ok_law_plain g) (DenL.cons (Den.var (i := 0) h2 rfl) DenL.nil) DenK.nil lenK_nil)))) (by decide) (fun env h => by obtain ⟨sc, e1, e2, e3, e4, e5, e6, e7, e8⟩ := env; have h2 : sc = _ := h; subst h2; first | rfl | exact ⟨rfl, rfl⟩ | with_unfolding_all rfl | with_unfolding_all exact ⟨rfl, rfl⟩))
  (DenSs.cons (DenS.assign (i := 10) cx_law_ok rfl (DenNew.den (DenNew.cmp1 [((Str.ofString "part"), 4), ((Str.ofString "rows"), 7), ((Str.ofString "pieces"), 6), ((Str.ofString "plain"), 9)] [(Str.ofString "i")] (DenI.call cx_law_ok (by kernel_rfl) (fun P => by kernel_rfl) (by kernel_rfl) (range_op _) (DenL.cons (Den.callB cx_law_ok (by kernel_rfl) (fun P => by kernel_rfl) (by kernel_rfl) (len_op g) (DenL.cons (Den.var (i := 7) cx_law_ok rfl) DenL.nil)) DenL.nil)) (by decide +kernel) (fun h3 => (DenT.name (i := 4) h3 rfl)) (fun h3 => DenTest.nil) (fun h3 => (Den.ifexp (DenB.cmp (by decide) (Den.bin (by decide) (Den.bin (by decide) (Den.var (i := 4) h3 rfl) (Den.var (i := 0) h3 rfl) (add_op g)) Den.int (mod_op g)) Den.int (eq_op g)) (Den.call h3 (by kernel_rfl) (fun P => by kernel_rfl) (fun P => ⟨_, _, _, _, by with_unfolding_all rfl⟩) (ok_law_spans g) (DenL.cons (Den.item (Den.var (i := 1) h3 rfl) (Den.var (i := 4) h3 rfl)) (DenL.cons (Den.var (i := 2) h3 rfl) DenL.nil)) DenK.nil lenK_nil) (Den.item (Den.var (i := 3) h3 rfl) (Den.var (i := 4) h3 rfl)))))) (by decide) (fun env h => by obtain ⟨sc, e1, e2, e3, e4, e5, e6, e7, e8⟩ := env; have h2 : sc = _ := h; subst h2; first | rfl | exact ⟨rfl, rfl⟩ | with_unfolding_all rfl | with_unfolding_all exact ⟨rfl, rfl⟩))
  (DenSs.cons (DenS.ite (DenB.cmp (by decide) (Den.var (i := 10) cx_law_ok rfl) (Den.var (i := 9) cx_law_ok rfl) (ne_op g)) (DenSs.cons (DenS.ret Den.bool)
  DenSs.nil) DenSs.nil)
  (DenSs.cons (DenS.asC1 (i := 11) [((Str.ofString "rows"), 7), ((Str.ofString "spans"), 10)] [(Str.ofString "i")] cx_law_ok rfl (DenI.call cx_law_ok (by kernel_rfl) (fun P => by kernel_rfl) (by kernel_rfl) (range_op _) (DenL.cons (Den.callB cx_law_ok (by kernel_rfl) (fun P => by kernel_rfl) (by kernel_rfl) (len_op g) (DenL.cons (Den.var (i := 7) cx_law_ok rfl) DenL.nil)) DenL.nil)) (by decide +kernel) (fun h4 => (DenT.name (i := 2) h4 rfl)) (fun h4 => DenTest.nil) (fun h4 => (Den.call h4 (by kernel_rfl) (fun P => by kernel_rfl) (fun P => ⟨_, _, _, _, by with_unfolding_all rfl⟩) (ok_law_ups g) (DenL.cons (Den.item (Den.var (i := 0) h4 rfl) (Den.var (i := 2) h4 rfl)) (DenL.cons (Den.item (Den.var (i := 1) h4 rfl) (Den.var (i := 2) h4 rfl)) DenL.nil)) DenK.nil lenK_nil)) (fun env h => by obtain ⟨sc, e1, e2, e3, e4, e5, e6, e7, e8⟩ := env; have h2 : sc = _ := h; subst h2; first | rfl | exact ⟨rfl, rfl⟩ | with_unfolding_all rfl | with_unfolding_all exact ⟨rfl, rfl⟩))
  (DenSs.cons (DenS.asC1 (i := 12) [((Str.ofString "rows"), 7)] [(Str.ofString "line")] cx_law_ok rfl (DenI.val (Den.var (i := 11) cx_law_ok rfl)) (by decide +kernel) (fun h5 => (DenT.name (i := 1) h5 rfl)) (fun h5 => DenTest.nil) (fun h5 => (DenNew.den (DenNew.cmp1 [((Str.ofString "rows"), 0)] [(Str.ofString "up")] (DenI.val (Den.var (i := 1) h5 rfl)) (by decide +kernel) (fun h6 => (DenT.name (i := 1) h6 rfl)) (fun h6 => DenTest.nil) (fun h6 => (Den.call h6 (by kernel_rfl) (fun P => by kernel_rfl) (fun P => ⟨_, _, _, _, by with_unfolding_all rfl⟩) (ok_bisect_left g) (DenL.cons (Den.var (i := 0) h6 rfl) (DenL.cons (Den.var (i := 1) h6 rfl) DenL.nil)) DenK.nil lenK_nil))))) (fun env h => by obtain ⟨sc, e1, e2, e3, e4, e5, e6, e7, e8⟩ := env; have h2 : sc = _ := h; subst h2; first | rfl | exact ⟨rfl, rfl⟩ | with_unfolding_all rfl | with_unfolding_all exact ⟨rfl, rfl⟩))
  (DenSs.cons (DenS.ite (DenB.cmp (by decide) (DenNew.den (DenNew.cmp1 [((Str.ofString "rows"), 7)] [(Str.ofString "line")] (DenI.val (Den.var (i := 12) cx_law_ok rfl)) (by decide +kernel) (fun h7 => (DenT.name (i := 1) h7 rfl)) (fun h7 => DenTest.nil) (fun h7 => (DenNew.den (DenNew.cmp1 [((Str.ofString "rows"), 0)] [(Str.ofString "place")] (DenI.val (Den.var (i := 1) h7 rfl)) (by decide +kernel) (fun h8 => (DenT.name (i := 1) h8 rfl)) (fun h8 => DenTest.nil) (fun h8 => (Den.slice (Den.var (i := 0) h8 rfl) (DenP.some (Den.var (i := 1) h8 rfl)) (DenP.some (Den.bin (by decide) (Den.var (i := 1) h8 rfl) Den.int (add_op g)))))))))) (DenNew.den (DenNew.cmp1 [] [(Str.ofString "line")] (DenI.val (Den.var (i := 11) cx_law_ok rfl)) (by decide +kernel) (fun h9 => (DenT.name (i := 0) h9 rfl)) (fun h9 => DenTest.nil) (fun h9 => (DenNew.den (DenNew.cmp1 [] [(Str.ofString "up")] (DenI.val (Den.var (i := 0) h9 rfl)) (by decide +kernel) (fun h10 => (DenT.name (i := 0) h10 rfl)) (fun h10 => DenTest.nil) (fun h10 => (DenNew.den (DenNew.list (DenL.cons (Den.var (i := 0) h10 rfl) DenL.nil) (by decide) (lenL_cons lenL_nil))))))))) (ne_op g)) (DenSs.cons (DenS.ret Den.bool)
  DenSs.nil) DenSs.nil)
  (DenSs.cons (DenS.assign (i := 13) cx_law_ok rfl (Den.call cx_law_ok (by kernel_rfl) (fun P => by kernel_rfl) (fun P => ⟨_, _, _, _, by with_unfolding_all rfl⟩) (ok_law_above g) (DenL.cons (Den.var (i := 12) cx_law_ok rfl) DenL.nil) DenK.nil lenK_nil))
  (DenSs.cons (DenS.assign (i := 14) cx_law_ok rfl (DenNew.den (DenNew.cmp1 [] [(Str.ofString "line")] (DenI.val (Den.var (i := 10) cx_law_ok rfl)) (by decide +kernel) (fun h11 => (DenT.name (i := 0) h11 rfl)) (fun h11 => DenTest.nil) (fun h11 => (DenNew.den (DenNew.cmp1 [] [(Str.ofString "span")] (DenI.val (Den.var (i := 0) h11 rfl)) (by decide +kernel) (fun h12 => (DenT.name (i := 0) h12 rfl)) (fun h12 => (DenTest.one (DenB.cmp (by decide) (Den.var (i := 0) h12 rfl) Den.int (gt_op g)))) (fun h12 => (Den.var (i := 0) h12 rfl))))))) (by decide) (fun env h => by obtain ⟨sc, e1, e2, e3, e4, e5, e6, e7, e8⟩ := env; have h2 : sc = _ := h; subst h2; first | rfl | exact ⟨rfl, rfl⟩ | with_unfolding_all rfl | with_unfolding_all exact ⟨rfl, rfl⟩))
  (DenSs.cons (DenS.assign (i := 15) cx_law_ok rfl (Den.bin (by decide) Den.int (Den.bin (by decide) (Den.var (i := 4) cx_law_ok rfl) Den.int (mod_op g)) (add_op g)))
  (DenSs.cons (DenS.assign (i := 16) cx_law_ok rfl (Den.bin (by decide) Den.int (Den.bin (by decide) (Den.var (i := 15) cx_law_ok rfl) Den.int (sub_op g)) (pow_op g)))
  (DenSs.cons (DenS.assign (i := 17) cx_law_ok rfl (Den.call cx_law_ok (by kernel_rfl) (fun P => by kernel_rfl) (fun P => ⟨_, _, _, _, by with_unfolding_all rfl⟩) (ok_d2i g) (DenL.cons (DenNew.den (DenNew.cmp2 [((Str.ofString "guard"), 16)] [(Str.ofString "line"), (Str.ofString "span")] (DenI.val (Den.var (i := 14) cx_law_ok rfl)) (by decide +kernel) (fun h13 => (DenT.name (i := 1) h13 rfl)) (fun h13 => DenTest.nil) (fun h13 => (DenI.val (Den.var (i := 1) h13 rfl))) (fun h13 => (DenT.name (i := 2) h13 rfl)) (fun h13 => DenTest.nil) (fun h13 => (Den.bin (by decide) (Den.var (i := 0) h13 rfl) (Den.var (i := 2) h13 rfl) (add_op g))))) (DenL.cons (Den.var (i := 15) cx_law_ok rfl) DenL.nil)) DenK.nil lenK_nil))
  (DenSs.cons (DenS.assign (i := 18) cx_law_ok rfl (Den.call cx_law_ok (by kernel_rfl) (fun P => by kernel_rfl) (fun P => ⟨_, _, _, _, by with_unfolding_all rfl⟩) (ok_i2d g) (DenL.cons (Den.bin (by decide) (Den.var (i := 17) cx_law_ok rfl) (Den.call cx_law_ok (by kernel_rfl) (fun P => by kernel_rfl) (fun P => ⟨_, _, _, _, by with_unfolding_all rfl⟩) (ok_d2i g) (DenL.cons (Den.bin (by decide) (Den.item (Den.var (i := 14) cx_law_ok rfl) (Den.var (i := 8) cx_law_ok rfl)) (Den.callB cx_law_ok (by kernel_rfl) (fun P => by kernel_rfl) (by kernel_rfl) (len_op g) (DenL.cons (Den.var (i := 7) cx_law_ok rfl) DenL.nil)) (mul_op g)) (DenL.cons (Den.var (i := 15) cx_law_ok rfl) DenL.nil)) DenK.nil lenK_nil) (sub_op g)) (DenL.cons (Den.var (i := 15) cx_law_ok rfl) DenL.nil)) DenK.nil lenK_nil))
  (DenSs.cons (DenS.ite (DenB.boolop (DenAll.or_cons (DenB.cmp (by decide) (Den.callB cx_law_ok (by kernel_rfl) (fun P => by kernel_rfl) (by kernel_rfl) (len_op g) (DenL.cons (Den.var (i := 18) cx_law_ok rfl) DenL.nil)) (Den.bin (by decide) (Den.var (i := 3) cx_law_ok rfl) (Den.callB cx_law_ok (by kernel_rfl) (fun P => by kernel_rfl) (by kernel_rfl) (len_op g) (DenL.cons (Den.var (i := 7) cx_law_ok rfl) DenL.nil)) (mul_op g)) (ne_op g)) (DenAll.or_cons (DenB.cmp (by decide) (DenNew.den (DenNew.cmp1 [((Str.ofString "digits"), 18), ((Str.ofString "pairs"), 3), ((Str.ofString "guard"), 16)] [(Str.ofString "j")] (DenI.call cx_law_ok (by kernel_rfl) (fun P => by kernel_rfl) (by kernel_rfl) (range_op _) (DenL.cons (Den.callB cx_law_ok (by kernel_rfl) (fun P => by kernel_rfl) (by kernel_rfl) (len_op g) (DenL.cons (Den.var (i := 7) cx_law_ok rfl) DenL.nil)) DenL.nil)) (by decide +kernel) (fun h14 => (DenT.name (i := 3) h14 rfl)) (fun h14 => (DenTest.one (DenB.cmp (by decide) (Den.callB h14 (by kernel_rfl) (fun P => by kernel_rfl) (by kernel_rfl) (min_op g) (DenL.cons (Den.slice (Den.var (i := 0) h14 rfl) (DenP.some (Den.bin (by decide) (Den.var (i := 3) h14 rfl) (Den.var (i := 1) h14 rfl) (mul_op g))) (DenP.some (Den.bin (by decide) (Den.bin (by decide) (Den.var (i := 3) h14 rfl) Den.int (add_op g)) (Den.var (i := 1) h14 rfl) (mul_op g)))) DenL.nil)) (Den.var (i := 2) h14 rfl) (ge_op g)))) (fun h14 => (Den.var (i := 3) h14 rfl)))) (Den.item (Den.var (i := 13) cx_law_ok rfl) (Den.var (i := 8) cx_law_ok rfl)) (ne_op g)) DenAll.or_nil))) (DenSs.cons (DenS.ret Den.bool)
  DenSs.nil) DenSs.nil)
  (DenSs.cons (DenS.assignOwn cx_law_ok rfl (DenNew.list DenL.nil (by decide) lenL_nil))
  (DenSs.cons (DenS.for (DenI.val (Den.tuple (DenL.cons Den.int (DenL.cons Den.int DenL.nil)) (by decide) (lenL_cons (lenL_cons lenL_nil)))) (DenT.name (i := 20) cx_law_ok rfl) (DenSs.cons (DenS.for (DenI.call cx_law_ok (by kernel_rfl) (fun P => by kernel_rfl) (by kernel_rfl) (range_op _) (DenL.cons (Den.callB cx_law_ok (by kernel_rfl) (fun P => by kernel_rfl) (by kernel_rfl) (len_op g) (DenL.cons (Den.var (i := 7) cx_law_ok rfl) DenL.nil)) DenL.nil)) (DenT.name (i := 21) cx_law_ok rfl) (DenSs.cons (DenS.ownCall cx_law_ok (by kernel_rfl) (fun P => by kernel_rfl) (fun P => ⟨_, _, _, _, by with_unfolding_all rfl⟩) (ok_insort g) rfl (DenL.cons (Den.tuple (DenL.cons (Den.item (Den.var (i := 14) cx_law_ok rfl) (Den.var (i := 21) cx_law_ok rfl)) (DenL.cons (Den.var (i := 20) cx_law_ok rfl) (DenL.cons (Den.var (i := 21) cx_law_ok rfl) DenL.nil))) (by decide) (lenL_cons (lenL_cons (lenL_cons lenL_nil)))) DenL.nil) (DenK.one (Den.gfn (a := 111) cx_law_ok (by kernel_rfl) (fun P => by kernel_rfl))) lenK_one)
  DenSs.nil))
  DenSs.nil))
  (DenSs.freeze rfl (DenSs.cons (DenS.ite (DenB.cmp (by decide) (Den.var (i := 19) cx_law_ok rfl) (DenNew.den (DenNew.cmp2 [] [(Str.ofString "line"), (Str.ofString "i"), (Str.ofString "mark")] (DenI.val (Den.callB cx_law_ok (by kernel_rfl) (fun P => by kernel_rfl) (by kernel_rfl) (sortT_op g) (DenL.cons (DenNew.den (DenNew.cmp1 [((Str.ofString "sizes"), 14)] [(Str.ofString "i")] (DenI.call cx_law_ok (by kernel_rfl) (fun P => by kernel_rfl) (by kernel_rfl) (range_op _) (DenL.cons (Den.callB cx_law_ok (by kernel_rfl) (fun P => by kernel_rfl) (by kernel_rfl) (len_op g) (DenL.cons (Den.var (i := 7) cx_law_ok rfl) DenL.nil)) DenL.nil)) (by decide +kernel) (fun h16 => (DenT.name (i := 1) h16 rfl)) (fun h16 => DenTest.nil) (fun h16 => (Den.tuple (DenL.cons (Den.item (Den.var (i := 0) h16 rfl) (Den.var (i := 1) h16 rfl)) (DenL.cons (Den.var (i := 1) h16 rfl) DenL.nil)) (by decide) (lenL_cons (lenL_cons lenL_nil)))))) DenL.nil))) (by decide +kernel) (fun h15 => (DenT.tuple (DenTs.cons (DenT.name (i := 0) h15 rfl) (DenTs.cons (DenT.name (i := 1) h15 rfl) DenTs.nil)))) (fun h15 => DenTest.nil) (fun h15 => (DenI.val (Den.tuple (DenL.cons Den.int (DenL.cons Den.int DenL.nil)) (by decide) (lenL_cons (lenL_cons lenL_nil))))) (fun h15 => (DenT.name (i := 2) h15 rfl)) (fun h15 => DenTest.nil) (fun h15 => (Den.tuple (DenL.cons (Den.var (i := 0) h15 rfl) (DenL.cons (Den.var (i := 2) h15 rfl) (DenL.cons (Den.var (i := 1) h15 rfl) DenL.nil))) (by decide) (lenL_cons (lenL_cons (lenL_cons lenL_nil))))))) (ne_op g)) (DenSs.cons (DenS.ret Den.bool)
  DenSs.nil) DenSs.nil) (DenSs.cons (DenS.for (DenI.call cx_law_ok (by kernel_rfl) (fun P => by kernel_rfl) (by kernel_rfl) (range_op _) (DenL.cons (Den.bin (by decide) (Den.bin (by decide) (Den.var (i := 4) cx_law_ok rfl) Den.int (floordiv_op g)) Den.int (mod_op g)) (DenL.cons (Den.callB cx_law_ok (by kernel_rfl) (fun P => by kernel_rfl) (by kernel_rfl) (len_op g) (DenL.cons (Den.var (i := 7) cx_law_ok rfl) DenL.nil)) (DenL.cons Den.int DenL.nil)))) (DenT.name (i := 21) cx_law_ok rfl) (DenSs.cons (DenS.assign (i := 22) cx_law_ok rfl (Den.bin (by decide) (Den.bin (by decide) (Den.bin (by decide) (Den.var (i := 21) cx_law_ok rfl) Den.int (add_op g)) (Den.bin (by decide) (Den.var (i := 4) cx_law_ok rfl) (Den.bin (by decide) (Den.callB cx_law_ok (by kernel_rfl) (fun P => by kernel_rfl) (by kernel_rfl) (len_op g) (DenL.cons (Den.var (i := 7) cx_law_ok rfl) DenL.nil)) Den.int (sub_op g)) (mod_op g)) (add_op g)) (Den.callB cx_law_ok (by kernel_rfl) (fun P => by kernel_rfl) (by kernel_rfl) (len_op g) (DenL.cons (Den.var (i := 7) cx_law_ok rfl) DenL.nil)) (mod_op g)))
  (DenSs.cons (DenS.asC1 (i := 23) [((Str.ofString "sizes"), 14), ((Str.ofString "i"), 21), ((Str.ofString "j"), 22)] [(Str.ofString "k")] cx_law_ok rfl (DenI.call cx_law_ok (by kernel_rfl) (fun P => by kernel_rfl) (by kernel_rfl) (range_op _) (DenL.cons (Den.var (i := 3) cx_law_ok rfl) DenL.nil)) (by decide +kernel) (fun h17 => (DenT.name (i := 3) h17 rfl)) (fun h17 => DenTest.nil) (fun h17 => (Den.callB h17 (by kernel_rfl) (fun P => by kernel_rfl) (by kernel_rfl) (min_op g) (DenL.cons (Den.item (Den.item (Den.var (i := 0) h17 rfl) (Den.var (i := 1) h17 rfl)) (Den.var (i := 3) h17 rfl)) (DenL.cons (Den.item (Den.item (Den.var (i := 0) h17 rfl) (Den.var (i := 2) h17 rfl)) (Den.var (i := 3) h17 rfl)) DenL.nil)))) (fun env h => by obtain ⟨sc, e1, e2, e3, e4, e5, e6, e7, e8⟩ := env; have h2 : sc = _ := h; subst h2; first | rfl | exact ⟨rfl, rfl⟩ | with_unfolding_all rfl | with_unfolding_all exact ⟨rfl, rfl⟩))
  (DenSs.cons (DenS.assignT2 (i1 := 24) (i2 := 25) cx_law_ok rfl rfl (Den.tuple (DenL.cons (Den.call cx_law_ok (by kernel_rfl) (fun P => by kernel_rfl) (fun P => ⟨_, _, _, _, by with_unfolding_all rfl⟩) (ok_bisect_left g) (DenL.cons (Den.var (i := 19) cx_law_ok rfl) (DenL.cons (Den.var (i := 23) cx_law_ok rfl) DenL.nil)) (DenK.one (Den.gfn (a := 111) cx_law_ok (by kernel_rfl) (fun P => by kernel_rfl))) lenK_one) (DenL.cons (Den.call cx_law_ok (by kernel_rfl) (fun P => by kernel_rfl) (fun P => ⟨_, _, _, _, by with_unfolding_all rfl⟩) (ok_bisect_right g) (DenL.cons (Den.var (i := 19) cx_law_ok rfl) (DenL.cons (Den.var (i := 23) cx_law_ok rfl) DenL.nil)) (DenK.one (Den.gfn (a := 111) cx_law_ok (by kernel_rfl) (fun P => by kernel_rfl))) lenK_one) DenL.nil)) (by decide) (lenL_cons (lenL_cons lenL_nil))) (fun env h => by obtain ⟨sc, e1, e2, e3, e4, e5, e6, e7, e8⟩ := env; have h2 : sc = _ := h; subst h2; first | rfl | exact ⟨rfl, rfl⟩ | with_unfolding_all rfl | with_unfolding_all exact ⟨rfl, rfl⟩))
  (DenSs.cons (DenS.asC1 (i := 26) [((Str.ofString "i"), 21), ((Str.ofString "j"), 22)] [(Str.ofString "one")] cx_law_ok rfl (DenI.val (Den.var (i := 13) cx_law_ok rfl)) (by decide +kernel) (fun h18 => (DenT.name (i := 2) h18 rfl)) (fun h18 => DenTest.nil) (fun h18 => (Den.and2 (by decide) (Den.cmp (by decide) (Den.var (i := 0) h18 rfl) (Den.var (i := 2) h18 rfl) (in_op g)) (Den.cmp (by decide) (Den.var (i := 1) h18 rfl) (Den.var (i := 2) h18 rfl) (in_op g)))) (fun env h => by obtain ⟨sc, e1, e2, e3, e4, e5, e6, e7, e8⟩ := env; have h2 : sc = _ := h; subst h2; first | rfl | exact ⟨rfl, rfl⟩ | with_unfolding_all rfl | with_unfolding_all exact ⟨rfl, rfl⟩))
  (DenSs.cons (DenS.ite (DenB.cmp (by decide) (DenNew.den (DenNew.cmp1c [((Str.ofString "above"), 13)] [(Str.ofString "line"), (Str.ofString "mark"), (Str.ofString "meet")] (Str.ofString "meet") (DenI.val (Den.bin (by decide) (Den.slice (Den.var (i := 19) cx_law_ok rfl) (DenP.some (Den.var (i := 24) cx_law_ok rfl)) (DenP.some (Den.bin (by decide) (Den.var (i := 24) cx_law_ok rfl) Den.int (add_op g)))) (Den.slice (Den.var (i := 19) cx_law_ok rfl) (DenP.some (Den.bin (by decide) (Den.var (i := 25) cx_law_ok rfl) Den.int (sub_op g))) (DenP.some (Den.var (i := 25) cx_law_ok rfl))) (add_op g))) (by decide +kernel) (fun h19 => (DenT.tuple (DenTs.cons (DenT.name (i := 1) h19 rfl) (DenTs.cons (DenT.name (i := 2) h19 rfl) (DenTs.cons (DenT.name (i := 3) h19 rfl) DenTs.nil))))) (fun h19 => DenTest.nil) (fun h19 => (Den.tuple (DenL.cons (Den.var (i := 2) h19 rfl) (DenL.cons (DenNew.den (DenNew.cmp1 [((Str.ofString "meet"), 3)] [(Str.ofString "one")] (DenI.val (Den.var (i := 0) h19 rfl)) (by decide +kernel) (fun h20 => (DenT.name (i := 1) h20 rfl)) (fun h20 => DenTest.nil) (fun h20 => (Den.cmp (by decide) (Den.var (i := 0) h20 rfl) (Den.var (i := 1) h20 rfl) (in_op g))))) DenL.nil)) (by decide) (lenL_cons (lenL_cons lenL_nil)))))) (DenNew.den (DenNew.list (DenL.cons (Den.tuple (DenL.cons Den.int (DenL.cons (Den.var (i := 26) cx_law_ok rfl) DenL.nil)) (by decide) (lenL_cons (lenL_cons lenL_nil))) (DenL.cons (Den.tuple (DenL.cons Den.int (DenL.cons (Den.var (i := 26) cx_law_ok rfl) DenL.nil)) (by decide) (lenL_cons (lenL_cons lenL_nil))) DenL.nil)) (by decide) (lenL_cons (lenL_cons lenL_nil)))) (ne_op g)) (DenSs.cons (DenS.ret Den.bool)
  DenSs.nil) DenSs.nil)
  DenSs.nil))))))
  (DenSs.cons (DenS.assignT2 (i1 := 27) (i2 := 28) cx_law_ok rfl rfl (Den.tuple (DenL.cons (Den.item (DenNew.den (DenNew.list (DenL.cons Den.int (DenL.cons (Den.un (by decide) Den.int (neg_op g)) DenL.nil)) (by decide) (lenL_cons (lenL_cons lenL_nil)))) (Den.bin (by decide) (Den.bin (by decide) (Den.var (i := 2) cx_law_ok rfl) Den.int (floordiv_op g)) Den.int (mod_op g))) (DenL.cons (Den.item (DenNew.den (DenNew.list (DenL.cons Den.int (DenL.cons (Den.un (by decide) Den.int (neg_op g)) DenL.nil)) (by decide) (lenL_cons (lenL_cons lenL_nil)))) (Den.bin (by decide) (Den.bin (by decide) (Den.var (i := 2) cx_law_ok rfl) Den.int (floordiv_op g)) Den.int (mod_op g))) DenL.nil)) (by decide) (lenL_cons (lenL_cons lenL_nil))) (fun env h => by obtain ⟨sc, e1, e2, e3, e4, e5, e6, e7, e8⟩ := env; have h2 : sc = _ := h; subst h2; first | rfl | exact ⟨rfl, rfl⟩ | with_unfolding_all rfl | with_unfolding_all exact ⟨rfl, rfl⟩))
  (DenSs.cons (DenS.assignT2 (i1 := 29) (i2 := 30) cx_law_ok rfl rfl (Den.tuple (DenL.cons (Den.bin (by decide) (Den.var (i := 27) cx_law_ok rfl) (Den.var (i := 28) cx_law_ok rfl) (mul_op g)) (DenL.cons (Den.bin (by decide) Den.int (Den.bin (by decide) (Den.var (i := 4) cx_law_ok rfl) (Den.bin (by decide) Den.int Den.int (pow_op g)) (mod_op g)) (add_op g)) DenL.nil)) (by decide) (lenL_cons (lenL_cons lenL_nil))) (fun env h => by obtain ⟨sc, e1, e2, e3, e4, e5, e6, e7, e8⟩ := env; have h2 : sc = _ := h; subst h2; first | rfl | exact ⟨rfl, rfl⟩ | with_unfolding_all rfl | with_unfolding_all exact ⟨rfl, rfl⟩))
  (DenSs.cons (DenS.assignT2 (i1 := 27) (i2 := 28) cx_law_ok rfl rfl (Den.tuple (DenL.cons (Den.bin (by decide) (Den.bin (by decide) Den.int (Den.var (i := 30) cx_law_ok rfl) (mul_op g)) (Den.var (i := 27) cx_law_ok rfl) (mul_op g)) (DenL.cons (Den.bin (by decide) (Den.var (i := 30) cx_law_ok rfl) (Den.var (i := 28) cx_law_ok rfl) (mul_op g)) DenL.nil)) (by decide) (lenL_cons (lenL_cons lenL_nil))) (fun env h => by obtain ⟨sc, e1, e2, e3, e4, e5, e6, e7, e8⟩ := env; have h2 : sc = _ := h; subst h2; first | rfl | exact ⟨rfl, rfl⟩ | with_unfolding_all rfl | with_unfolding_all exact ⟨rfl, rfl⟩))
  (DenSs.cons (DenS.for (DenI.call cx_law_ok (by kernel_rfl) (fun P => by kernel_rfl) (by kernel_rfl) (range_op _) (DenL.cons (Den.bin (by decide) (Den.bin (by decide) Den.int (Den.var (i := 3) cx_law_ok rfl) (mul_op g)) Den.int (add_op g)) (DenL.cons (Den.bin (by decide) (Den.bin (by decide) Den.int (Den.var (i := 3) cx_law_ok rfl) (mul_op g)) Den.int (add_op g)) DenL.nil))) (DenT.name (i := 31) cx_law_ok rfl) (DenSs.cons (DenS.assign (i := 27) cx_law_ok rfl (Den.bin (by decide) (Den.var (i := 27) cx_law_ok rfl) (Den.var (i := 31) cx_law_ok rfl) (mul_op g)))
  DenSs.nil))
  (DenSs.cons (DenS.for (DenI.call cx_law_ok (by kernel_rfl) (fun P => by kernel_rfl) (by kernel_rfl) (range_op _) (DenL.cons Den.int (DenL.cons (Den.bin (by decide) (Den.var (i := 3) cx_law_ok rfl) Den.int (add_op g)) DenL.nil))) (DenT.name (i := 31) cx_law_ok rfl) (DenSs.cons (DenS.assign (i := 28) cx_law_ok rfl (Den.bin (by decide) (Den.var (i := 28) cx_law_ok rfl) (Den.var (i := 31) cx_law_ok rfl) (mul_op g)))
  DenSs.nil))
  (DenSs.cons (DenS.assign (i := 32) cx_law_ok rfl (Den.bin (by decide) (Den.bin (by decide) (Den.var (i := 28) cx_law_ok rfl) Den.int (floordiv_big_op g)) (Den.bin (by decide) (Den.bin (by decide) Den.int (Den.var (i := 4) cx_law_ok rfl) (add_op g)) Den.int (mod_op g)) (mul_op g)))
  (DenSs.cons (DenS.ret (Den.cmp (by decide) (Den.call cx_law_ok (by kernel_rfl) (fun P => by kernel_rfl) (fun P => ⟨_, _, _, _, by with_unfolding_all rfl⟩) (ok_idm3 g) (DenL.cons (Den.bin (by decide) (Den.var (i := 27) cx_law_ok rfl) (Den.var (i := 32) cx_law_ok rfl) (add_op g)) (DenL.cons (Den.var (i := 28) cx_law_ok rfl) DenL.nil)) DenK.nil lenK_nil) (Den.tuple (DenL.cons (Den.bin (by decide) (Den.var (i := 29) cx_law_ok rfl) (Den.callB cx_law_ok (by kernel_rfl) (fun P => by kernel_rfl) (by kernel_rfl) (sum_op g) (DenL.cons (DenNew.den (DenNew.cmp1 [] [(Str.ofString "one")] (DenI.val (Den.var (i := 13) cx_law_ok rfl)) (by decide +kernel) (fun h21 => (DenT.name (i := 0) h21 rfl)) (fun h21 => DenTest.nil) (fun h21 => (Den.callB h21 (by kernel_rfl) (fun P => by kernel_rfl) (by kernel_rfl) (len_op g) (DenL.cons (Den.var (i := 0) h21 rfl) DenL.nil))))) DenL.nil)) (mul_op g)) (DenL.cons (Den.var (i := 32) cx_law_ok rfl) DenL.nil)) (by decide) (lenL_cons (lenL_cons lenL_nil))) (eq_op g)))
  DenSs.nil)))))))))))))))))))))))))))))))))
theorem dStep {f1 f2 : DS} {ρ ρ1 : List PV} {X : Option (Fl × List PV)} (h : f1 ρ = some (.next, ρ1)) (k : f2 ρ1 = X) : dSeq f1 f2 ρ = X := by
  show (f1 ρ).bind _ = X
  rw [h]; exact k
theorem sForStep {fi : DLs} {ft : List PV → PV → Option (List PV)} {fb : DS} {ρ : List PV} {items : List PV} {X : Option (Fl × List PV)} (h : fi ρ = some items) (k : forF ft fb items ρ = X) : sFor fi ft fb ρ = X := by
  show (fi ρ).bind _ = X
  rw [h]; exact k
theorem forCons {ft : List PV → PV → Option (List PV)} {fb : DS} {p : PV} {ps ρ ρ1 ρ2 : List PV} {X : Option (Fl × List PV)} (h1 : ft ρ p = some ρ1) (h2 : fb ρ1 = some (.next, ρ2)) (k : forF ft fb ps ρ2 = X) : forF ft fb (p :: ps) ρ = X := by
  show (ft ρ p).bind _ = X
  rw [h1]
  show (fb ρ1).bind _ = X
  rw [h2]; exact k
theorem forRet {ft : List PV → PV → Option (List PV)} {fb : DS} {p v : PV} {ps ρ ρ1 ρ2 : List PV} (h1 : ft ρ p = some ρ1) (h2 : fb ρ1 = some (.ret v, ρ2)) : forF ft fb (p :: ps) ρ = some (.ret v, ρ2) := by
  show (ft ρ p).bind _ = _
  rw [h1]
  show (fb ρ1).bind _ = _
  rw [h2]; rfl
theorem forMap {α : Type} {ft : List PV → PV → Option (List PV)} {fb : DS} (a : α → PV) (Inv : List α → List PV → Prop) :
    ∀ (l done : List α) (ρ : List PV), (∀ d x r ρ, done ++ l = d ++ x :: r → Inv d ρ → ∃ ρ1 ρ2, ft ρ (a x) = some ρ1 ∧ fb ρ1 = some (.next, ρ2) ∧ Inv (d ++ [x]) ρ2) → Inv done ρ → ∃ ρ', forF ft fb (l.map a) ρ = some (.next, ρ') ∧ Inv (done ++ l) ρ'
  | [], done, ρ, h, hi => ⟨ρ, rfl, by rw [List.append_nil]; exact hi⟩
  | x :: l, done, ρ, h, hi => by
    obtain ⟨ρ1, ρ2, h1, h2, h3⟩ := h done x l ρ rfl hi
    obtain ⟨ρ', h4, h5⟩ := forMap a Inv l (done ++ [x]) ρ2 (fun d y r ρ e => h d y r ρ (by rw [← e]; simp)) h3
    exact ⟨ρ', by rw [List.map_cons]; exact forCons h1 h2 h4, by rw [show done ++ x :: l = done ++ [x] ++ l by simp]; exact h5⟩
theorem compMap {α : Type} {ft : List PV → PV → Option (List PV)} {tst : DB} {fe : DE} (a : α → PV) (b : α → List PV) (Inv : List PV → Prop) :
    ∀ (l : List α) (acc ρ : List PV), (∀ x ∈ l, ∀ ρ, Inv ρ → ∃ ρ1, ft ρ (a x) = some ρ1 ∧ Inv ρ1 ∧ ((b x = [] ∧ tst ρ1 = some false) ∨ ∃ v, b x = [v] ∧ tst ρ1 = some true ∧ fe ρ1 = some v)) → acc.length + l.length ≤ 1000000 → Inv ρ →
      ∃ ρ', compF ft tst (eElt fe) (l.map a) ρ acc = some (ρ', acc ++ (l.map b).flatten)
  | [], acc, ρ, h, hl, hi => ⟨ρ, by simp [compF]⟩
  | x :: l, acc, ρ, h, hl, hi => by
    obtain ⟨ρ1, h1, h2, h3⟩ := h x (List.mem_cons_self ..) ρ hi
    simp only [List.length_cons] at hl
    have hc : ∀ acc', compF ft tst (eElt fe) ((x :: l).map a) ρ acc' = (tst ρ1).bind fun c => if c then (eElt fe ρ1 acc').bind fun r => compF ft tst (eElt fe) (l.map a) r.1 r.2 else compF ft tst (eElt fe) (l.map a) ρ1 acc' := fun acc' => by
      rw [List.map_cons]
      show (ft ρ (a x)).bind _ = _
      rw [h1]; rfl
    rcases h3 with ⟨h4, h5⟩ | ⟨v, h4, h5, h6⟩
    · obtain ⟨ρ', h7⟩ := compMap a b Inv l acc ρ1 (fun y hy => h y (List.mem_cons_of_mem _ hy)) (by omega) h2
      refine ⟨ρ', ?_⟩
      rw [hc, h5]
      simp only [Option.bind_some, Bool.false_eq_true, if_false]
      rw [h7, List.map_cons, h4]; simp
    · obtain ⟨ρ', h7⟩ := compMap a b Inv l (acc ++ [v]) ρ1 (fun y hy => h y (List.mem_cons_of_mem _ hy)) (by simp; omega) h2
      refine ⟨ρ', ?_⟩
      have h8 : eElt fe ρ1 acc = some (ρ1, acc ++ [v]) := by
        show (fe ρ1).bind _ = _
        rw [h6]
        show (if acc.length ≤ 1000000 then _ else _) = _
        rw [if_pos (by omega)]
      rw [hc, h5]
      simp only [Option.bind_some, if_true]
      rw [h8]
      simp only [Option.bind_some]
      rw [h7, List.map_cons, h4]; simp
theorem lCompMap {α : Type} {fr : List (Str × Nat)} {tg : List Str} {fi : DLs} {ft : List PV → PV → Option (List PV)} {tst : DB} {fe : DE} {ρ : List PV} (l : List α) (a : α → PV) (b : α → List PV) (Inv : List PV → Prop) (hfi : fi ρ = some (l.map a))
    (h : ∀ x ∈ l, ∀ ρ, Inv ρ → ∃ ρ1, ft ρ (a x) = some ρ1 ∧ Inv ρ1 ∧ ((b x = [] ∧ tst ρ1 = some false) ∨ ∃ v, b x = [v] ∧ tst ρ1 = some true ∧ fe ρ1 = some v)) (hl : l.length ≤ 1000000) (hi : Inv (inR fr tg ρ)) :
    lComp fr tg fi ft tst (eElt fe) ρ = some (l.map b).flatten := by
  obtain ⟨ρ', h1⟩ := compMap a b Inv l [] (inR fr tg ρ) h (by simpa using hl) hi
  show (fi ρ).bind _ = _
  rw [hfi]
  show (compF ft tst (eElt fe) (l.map a) (inR fr tg ρ) []).map _ = _
  rw [h1]; simp
theorem rangeN (n : Nat) (h : n ≤ 1000000) : pRange [.int n] = some ((List.range n).map fun (k : Nat) => PV.int k) := by
  show (if isSmallI n then some (rangeL 0 1 (Int.toNat n)) else none) = _
  have : isSmallI n = true := by unfold isSmallI; simp; omega
  rw [if_pos this]
  unfold rangeL
  simp
theorem pItemS {x : List Nat} {k : Nat} {c : Nat} (h : x[k]? = some c) (hk : x.length ≤ 1000000) : pItem (.str x) (.int k) = some (.str [c]) := by
  have hlt : k < x.length := (List.getElem?_eq_some_iff.mp h).1
  have h2 : seqIndex? k x.length = some k := by unfold seqIndex?; simp; omega
  simp only [pItem, h2]
  rw [if_pos (by omega)]
  simp [h]
theorem pItemL {x : List PV} {k : Nat} {c : PV} (h : x[k]? = some c) (hk : x.length ≤ 1000000) : pItem (.list x) (.int k) = some c := by
  have hlt : k < x.length := (List.getElem?_eq_some_iff.mp h).1
  have h2 : seqIndex? k x.length = some k := by unfold seqIndex?; simp; omega
  simp only [pItem, h2]
  rw [if_pos (by omega)]
  simp [h]
theorem clip_nat {n i : Nat} (h : i ≤ n) : clipAt n i = i := by
  unfold clipAt
  rw [if_neg (by omega), Int.min_eq_left (by omega), Int.max_eq_right (by omega)]
  exact Int.toNat_natCast i
theorem cut_nat {α : Type} {xs : List α} {a b : Nat} (hb : b ≤ xs.length) (hab : a ≤ b) : cut xs (some a) (some b) = (xs.drop a).take (b - a) := by
  unfold cut
  simp only [Option.elim]
  rw [clip_nat hb, clip_nat (Nat.le_trans hab hb)]
theorem cut_from {α : Type} {xs : List α} {a : Nat} (ha : a ≤ xs.length) : cut xs (some a) none = xs.drop a := by
  unfold cut
  simp only [Option.elim]
  rw [clip_nat ha]
  exact List.take_of_length_le (by simp)
theorem cut_to {α : Type} {xs : List α} {b : Nat} (hb : b ≤ xs.length) : cut xs none (some b) = xs.take b := by
  unfold cut
  simp only [Option.elim]
  rw [clip_nat hb]; simp
theorem sIfT {ft : DB} {f1 f2 : DS} {ρ : List PV} {X : Option (Fl × List PV)} (h : ft ρ = some true) (k : f1 ρ = X) : sIf ft f1 f2 ρ = X := by
  show (ft ρ).bind _ = X
  rw [h]; exact k
theorem sIfF {ft : DB} {f1 f2 : DS} {ρ : List PV} {X : Option (Fl × List PV)} (h : ft ρ = some false) (k : f2 ρ = X) : sIf ft f1 f2 ρ = X := by
  show (ft ρ).bind _ = X
  rw [h]; exact k
inductive Tk where | op | cl | q | ec | eo | eq
  deriving DecidableEq
noncomputable def Tk.t : Tk → List Nat
  | .op => [40]
  | .cl => [41]
  | .q => [34, 41, 34]
  | .ec => [92, 41]
  | .eo => [92, 40]
  | .eq => [92, 34]
noncomputable def flat (ts : List Tk) : List Nat := (ts.map Tk.t).flatten
theorem flat_cons (t : Tk) (ts : List Tk) : flat (t :: ts) = t.t ++ flat ts := rfl
theorem flat_append (a b : List Tk) : flat (a ++ b) = flat a ++ flat b := by unfold flat; simp
theorem flat_ascii : ∀ ts : List Tk, (flat ts).all (· < 128) = true
  | [] => rfl
  | t :: ts => by rw [flat_cons, List.all_append, flat_ascii ts, Bool.and_true]; cases t <;> rfl
theorem flat_quote : ∀ ts : List Tk, (flat ts).elem 34 = false → ts.filter (· ≠ .q) = ts
  | [], _ => rfl
  | t :: ts, h => by
    rw [flat_cons] at h
    have h1 : (flat ts).elem 34 = false := by
      cases q : (flat ts).elem 34 with
      | false => rfl
      | true =>
        have : 34 ∈ t.t ++ flat ts := List.mem_append_right _ (List.elem_iff.mp q)
        rw [List.elem_iff.mpr this] at h; cases h
    have h2 : t ≠ .q := fun e => by subst e; cases h
    rw [List.filter_cons, if_pos (by simpa using h2), flat_quote ts h1]
noncomputable def itP (p : Int × List Nat) : PV := .tup [.int p.1, .str p.2]
theorem escG_p (p p' : Int) (i : Nat) (r : List Nat) : escG p i false r = escG p' i false r := by cases r <;> rfl
theorem take_ext {x u v : List Nat} {s i : Nat} (hs : s ≤ i) (h : x.drop i = u ++ v) : (x.drop s).take (i + u.length - s) = (x.drop s).take (i - s) ++ u := by
  have e : x.drop s = (x.drop s).take (i - s) ++ x.drop i := by
    have := (List.take_append_drop (i - s) (x.drop s)).symm
    rw [List.drop_drop, show s + (i - s) = i by omega] at this
    exact this
  by_cases hi : i ≤ x.length
  · have hl : ((x.drop s).take (i - s)).length = i - s := by simp; omega
    rw [show i + u.length - s = (i - s) + u.length by omega]
    conv => lhs; rw [e, h]
    rw [List.take_append, hl, List.take_of_length_le (by rw [hl]; omega)]
    simp
  · have h0 : x.drop i = [] := List.drop_eq_nil_iff.mpr (by omega)
    rw [h0] at h
    have : u = [] := (List.append_eq_nil_iff.mp h.symm).1
    subst this; simp
theorem drop_next {x u v : List Nat} {i : Nat} (h : x.drop i = u ++ v) : x.drop (i + u.length) = v := by
  rw [← List.drop_drop, h]; simp
noncomputable def ftS : List PV → PV → Option (List PV) := ftTup 2 (ftCons (tSet 4) (ftCons (tSet 5) ftNil))
noncomputable def fbS : DS := (dSeq (sIf (bCmp pEq (dVar 5) (kC (.str [34]))) (dSeq (sIf (bCmp pIs (dVar 2) (kC .none)) (dSeq (sAssign 2 (dVar 4))
  sNil) (dSeq (sIf (bCmp pNe (dVar 1) (dVar 2)) (dSeq (fOwn cx_sqr (lCons (kSlice (dVar 0) (dVar 1) (dVar 2)) lNil) pAppend)
  sNil) sNil)
  (dSeq (sAssign 1 (kBin pAdd (dVar 4) (kC (.int 1))))
  (dSeq (sAssign 2 (kC .none))
  sNil))))
  sNil) sNil)
  sNil)
theorem strip_skip {x acc : List PV} {a st op q1 q2 : PV} {p : Int} {c : List Nat} (hc : pEq (.str c) (.str [34]) = some (.bool false)) :
    ∃ ρ1, ftS [a, st, op, .own acc, q1, q2] (itP (p, c)) = some ρ1 ∧ fbS ρ1 = some (.next, [a, st, op, .own acc, .int p, .str c]) := by
  refine ⟨[a, st, op, .own acc, .int p, .str c], rfl, ?_⟩
  refine dStep (ρ1 := [a, st, op, .own acc, .int p, .str c]) ?_ rfl
  show ((pEq (.str c) (.str [34])).bind pTruth).bind _ = _
  rw [hc]; rfl
theorem ne_int (a b : Int) : pNe (.int a) (.int b) = some (.bool (!(a == b))) := rfl
theorem strip_loop {x : List Nat} (hx : x.length ≤ 1000) : ∀ (ts : List Tk) (i start : Nat) (acc : List (List Nat)) (q1 q2 : PV), x.drop i = flat ts → start ≤ i → i ≤ x.length → acc.length + ts.length ≤ 1000000 →
    ∃ (start' : Nat) (acc' : List (List Nat)) (q1' q2' : PV), forF ftS fbS ((escG 0 i false (flat ts)).map itP) [.str x, .int start, .none, .own (acc.map .str), q1, q2] = some (.next, [.str x, .int start', .none, .own (acc'.map .str), q1', q2']) ∧
      start' ≤ x.length ∧ acc'.length ≤ acc.length + ts.length ∧ acc'.flatten ++ x.drop start' = acc.flatten ++ (x.drop start).take (i - start) ++ flat (ts.filter (· ≠ .q))
  | [], i, start, acc, q1, q2, hd, hs, hi, hl => by
    refine ⟨start, acc, q1, q2, rfl, by omega, by simp, ?_⟩
    have : x.length ≤ i := List.drop_eq_nil_iff.mp hd
    rw [List.take_of_length_le (by simp; omega)]
    simp [flat]
  | t :: ts, i, start, acc, q1, q2, hd, hs, hi, hl => by
    rw [flat_cons] at hd
    have hd' := drop_next hd
    have hlen : i + t.t.length ≤ x.length := by
      have := congrArg List.length hd
      simp at this; omega
    simp only [List.length_cons] at hl
    have one : ∀ (p : Int) (c : List Nat) (e : escG 0 i false (flat (t :: ts)) = (p, c) :: escG 0 (i + t.t.length) false (flat ts)), t ≠ .q → pEq (.str c) (.str [34]) = some (.bool false) →
        ∃ (start' : Nat) (acc' : List (List Nat)) (q1' q2' : PV), forF ftS fbS ((escG 0 i false (flat (t :: ts))).map itP) [.str x, .int start, .none, .own (acc.map .str), q1, q2] = some (.next, [.str x, .int start', .none, .own (acc'.map .str), q1', q2']) ∧
          start' ≤ x.length ∧ acc'.length ≤ acc.length + (ts.length + 1) ∧ acc'.flatten ++ x.drop start' = acc.flatten ++ (x.drop start).take (i - start) ++ flat ((t :: ts).filter (· ≠ .q)) := by
      intro p c e hq hc
      obtain ⟨ρ1, h1, h2⟩ := strip_skip (acc := acc.map .str) (a := .str x) (st := .int start) (op := .none) (q1 := q1) (q2 := q2) (p := p) (x := []) hc
      obtain ⟨s', a', r1, r2, h3, h4, h5, h6⟩ := strip_loop hx ts (i + t.t.length) start acc (.int p) (.str c) hd' (by omega) hlen (by omega)
      refine ⟨s', a', r1, r2, ?_, h4, by omega, ?_⟩
      · rw [e, List.map_cons]; exact forCons h1 h2 h3
      · rw [h6, take_ext hs hd, List.filter_cons, if_pos (by simpa using hq), flat_cons]; simp
    cases t with
    | op => exact one i [40] (by show (_, _) :: escG _ _ _ _ = _; rw [escG_p]; rfl) (by decide) rfl
    | cl => exact one i [41] (by show (_, _) :: escG _ _ _ _ = _; rw [escG_p]; rfl) (by decide) rfl
    | ec => exact one (i + 1 : Nat) [92, 41] (by show (_, _) :: escG _ _ _ _ = _; rw [escG_p]; rfl) (by decide) rfl
    | eo => exact one (i + 1 : Nat) [92, 40] (by show (_, _) :: escG _ _ _ _ = _; rw [escG_p]; rfl) (by decide) rfl
    | eq => exact one (i + 1 : Nat) [92, 34] (by show (_, _) :: escG _ _ _ _ = _; rw [escG_p]; rfl) (by decide) rfl
    | q =>
      have e : escG 0 i false (flat (.q :: ts)) = ((i : Int), [34]) :: (((i + 1 : Nat) : Int), [41]) :: (((i + 2 : Nat) : Int), [34]) :: escG 0 (i + 3) false (flat ts) := by
        show (_, _) :: (_, _) :: (_, _) :: escG _ _ _ _ = _
        rw [escG_p]; rfl
      have hlen3 : i + 3 ≤ x.length := hlen
      obtain ⟨acc2, hacc2, hfl, hln⟩ : ∃ acc2 : List (List Nat), acc2 = (if start = i then acc else acc ++ [(x.drop start).take (i - start)]) ∧ acc2.flatten = acc.flatten ++ (x.drop start).take (i - start) ∧ acc2.length ≤ acc.length + 1 := by
        refine ⟨_, rfl, ?_, ?_⟩
        · split
          · rename_i h; subst h; simp
          · simp
        · split <;> simp
      obtain ⟨s', a', r1, r2, h3, h4, h5, h6⟩ := strip_loop hx ts (i + 3) (i + 3) acc2 (.int (i + 2 : Nat)) (.str [34]) hd' (Nat.le_refl _) hlen3 (by omega)
      refine ⟨s', a', r1, r2, ?_, h4, by simp only [List.length_cons]; omega, ?_⟩
      · rw [e, List.map_cons, List.map_cons, List.map_cons]
        refine forCons (ρ1 := [.str x, .int start, .none, .own (acc.map .str), .int i, .str [34]]) (ρ2 := [.str x, .int start, .int i, .own (acc.map .str), .int i, .str [34]]) rfl rfl ?_
        obtain ⟨ρ1, h7, h8⟩ := strip_skip (acc := acc.map .str) (a := .str x) (st := .int start) (op := .int i) (q1 := .int i) (q2 := .str [34]) (p := (i + 1 : Nat)) (c := [41]) (x := []) rfl
        refine forCons h7 h8 ?_
        refine forCons (ρ1 := [.str x, .int start, .int i, .own (acc.map .str), .int (i + 2 : Nat), .str [34]]) (ρ2 := [.str x, .int (i + 3 : Nat), .none, .own (acc2.map .str), .int (i + 2 : Nat), .str [34]]) rfl ?_ h3
        refine dStep (ρ1 := [.str x, .int (i + 3 : Nat), .none, .own (acc2.map .str), .int (i + 2 : Nat), .str [34]]) ?_ rfl
        show dSeq _ sNil _ = _
        refine dStep (ρ1 := [.str x, .int (i + 3 : Nat), .none, .own (acc2.map .str), .int (i + 2 : Nat), .str [34]]) ?_ rfl
        show dSeq _ (dSeq _ (dSeq _ sNil)) _ = _
        refine dStep (ρ1 := [.str x, .int start, .int i, .own (acc2.map .str), .int (i + 2 : Nat), .str [34]]) ?_ (dStep (ρ1 := [.str x, .int (i + 3 : Nat), .int i, .own (acc2.map .str), .int (i + 2 : Nat), .str [34]]) rfl rfl)
        show ((pNe (.int start) (.int i)).bind pTruth).bind _ = _
        rw [ne_int, hacc2]
        by_cases hsi : start = i
        · subst hsi
          have : (((start : Nat) : Int) == (start : Nat)) = true := beq_self_eq_true _
          rw [this, if_pos rfl]; rfl
        · have : (((start : Nat) : Int) == (i : Nat)) = false := by simpa using fun h => hsi (by omega)
          rw [this, if_neg hsi]
          show dSeq (fOwn _ _ _) sNil _ = _
          refine dStep (ρ1 := [.str x, .int start, .int i, .own ((acc ++ [(x.drop start).take (i - start)]).map .str), .int (i + 2 : Nat), .str [34]]) ?_ rfl
          have hsl : (lCons (kSlice (dVar 0) (dVar 1) (dVar 2)) lNil) [.str x, .int start, .int i, .own (acc.map .str), .int (i + 2 : Nat), .str [34]] = some [.str ((x.drop start).take (i - start))] := by
            show (pSlice (.str x) (.int start) (.int i)).bind _ = _
            have : pSlice (.str x) (.int start) (.int i) = some (.str ((x.drop start).take (i - start))) := by
              show (if x.length ≤ 1000000 then some (PV.str (cut x (some (start : Int)) (some (i : Int)))) else none) = _
              rw [if_pos (by omega), cut_nat hi hs]
            rw [this]; rfl
          show ((lCons (kSlice (dVar 0) (dVar 1) (dVar 2)) lNil) [.str x, .int start, .int i, .own (acc.map .str), .int (i + 2 : Nat), .str [34]]).bind _ = _
          rw [hsl]
          show (if (acc.map PV.str).length ≤ 1000000 then some (acc.map PV.str ++ [PV.str ((x.drop start).take (i - start))]) else none).map _ = _
          rw [if_pos (by simp; omega), List.map_append]
          rfl
      · rw [h6, hfl, List.filter_cons, if_neg (by decide)]; simp
theorem dStepM {f1 f2 : DS} {ρ ρ1 : List PV} {X : Option PV} (h : f1 ρ = some (.next, ρ1)) (k : (f2 ρ1).map flOut = X) : (dSeq f1 f2 ρ).map flOut = X := by rw [dStep h rfl]; exact k
theorem strs_map : ∀ l : List (List Nat), strs? (l.map .str) = some l
  | [] => rfl
  | x :: l => by
    show (strs? (l.map .str)).map _ = _
    rw [strs_map l]; rfl
theorem strip_fn {ts : List Tk} (hl : (flat ts).length ≤ 1000) (hl2 : ts.length ≤ 1000) : fn_sqr [.str (flat ts)] [] = some (.str (flat (ts.filter (· ≠ .q)))) := by
  show (fb_sqr [.str (flat ts), .undef, .undef, .undef, .undef, .undef]).map flOut = _
  unfold fb_sqr
  cases hq : (flat ts).elem 34 with
  | false =>
    have h1 : (sIf (bCmp pNotInS (kC (.str [34])) (dVar 0)) (dSeq (sRet (dVar 0)) sNil) sNil) [.str (flat ts), .undef, .undef, .undef, .undef, .undef] = some (.ret (.str (flat ts)), [.str (flat ts), .undef, .undef, .undef, .undef, .undef]) := by
      show ((some (PV.bool (!(flat ts).elem 34))).bind pTruth).bind _ = _
      rw [hq]; rfl
    show (((sIf (bCmp pNotInS (kC (.str [34])) (dVar 0)) (dSeq (sRet (dVar 0)) sNil) sNil) [.str (flat ts), .undef, .undef, .undef, .undef, .undef]).bind _).map flOut = _
    rw [h1, flat_quote ts hq]; rfl
  | true =>
    have h1 : (sIf (bCmp pNotInS (kC (.str [34])) (dVar 0)) (dSeq (sRet (dVar 0)) sNil) sNil) [.str (flat ts), .undef, .undef, .undef, .undef, .undef] = some (.next, [.str (flat ts), .undef, .undef, .undef, .undef, .undef]) := by
      show ((some (PV.bool (!(flat ts).elem 34))).bind pTruth).bind _ = _
      rw [hq]; rfl
    obtain ⟨st, acc, q1, q2, h2, h3, h4, h5⟩ := strip_loop (x := flat ts) hl ts 0 0 [] .undef .undef rfl (Nat.le_refl _) (Nat.zero_le _) (by simp; omega)
    have hfin : acc.flatten ++ (flat ts).drop st = flat (ts.filter (· ≠ .q)) := by rw [h5]; simp
    have hflen : (flat (ts.filter (· ≠ .q))).length ≤ 100000 := by
      have : ∀ l : List Tk, (flat l).length ≤ 3 * l.length := fun l => by
        induction l with
        | nil => simp [flat]
        | cons t l ih => rw [flat_cons, List.length_append, List.length_cons]; cases t <;> (simp [Tk.t]; omega)
      have h6 := this (ts.filter (· ≠ .q))
      have h7 := List.length_filter_le (· ≠ .q) ts
      have h7 : (ts.filter (· ≠ .q)).length ≤ ts.length := List.length_filter_le _ _
      omega
    refine dStepM h1 ?_
    refine dStepM (ρ1 := [.str (flat ts), .int 0, .undef, .undef, .undef, .undef]) rfl ?_
    refine dStepM (ρ1 := [.str (flat ts), .int 0, .none, .undef, .undef, .undef]) rfl ?_
    refine dStepM (ρ1 := [.str (flat ts), .int 0, .none, .own [], .undef, .undef]) rfl ?_
    have hfi : (iEsc (dVar 0)) [.str (flat ts), .int 0, .none, .own [], .undef, .undef] = some ((escG 0 0 false (flat ts)).map itP) := by
      show (if (flat ts).all (· < 128) then some (escP (flat ts)) else none) = _
      rw [if_pos (flat_ascii ts)]; rfl
    refine dStepM (sForStep hfi h2) ?_
    obtain ⟨acc2, h6, h7⟩ : ∃ acc2 : List (List Nat), (sIf (bCmp pLt (dVar 1) (kCallB pLen (lCons (dVar 0) lNil))) (dSeq (fOwn cx_sqr (lCons (kSlice (dVar 0) (dVar 1) (kC .none)) lNil) pAppend) sNil) sNil) [.str (flat ts), .int st, .none, .own (acc.map .str), q1, q2] = some (.next, [.str (flat ts), .int st, .none, .own (acc2.map .str), q1, q2]) ∧ acc2.flatten = flat (ts.filter (· ≠ .q)) := by
      have hlen : pLen [.str (flat ts)] = some (.int (flat ts).length) := by
        show (if (flat ts).length < 2 ^ 60 then some (PV.int (flat ts).length) else none) = _
        rw [if_pos (by omega)]
      by_cases hst : st < (flat ts).length
      · refine ⟨acc ++ [(flat ts).drop st], ?_, by rw [← hfin]; simp⟩
        show ((pLen [.str (flat ts)]).bind fun b => (pLt (.int st) b).bind pTruth).bind _ = _
        rw [hlen]
        show (some (decide ((st : Int) < (flat ts).length))).bind _ = _
        rw [decide_eq_true (by omega)]
        show dSeq (fOwn _ _ _) sNil _ = _
        refine dStep (ρ1 := [.str (flat ts), .int st, .none, .own ((acc ++ [(flat ts).drop st]).map .str), q1, q2]) ?_ rfl
        have hsl : (lCons (kSlice (dVar 0) (dVar 1) (kC .none)) lNil) [.str (flat ts), .int st, .none, .own (acc.map .str), q1, q2] = some [.str ((flat ts).drop st)] := by
          show ((if (flat ts).length ≤ 1000000 then some (PV.str (cut (flat ts) (some (st : Int)) none)) else none)).bind _ = _
          rw [if_pos (by omega), cut_from h3]; rfl
        show ((lCons (kSlice (dVar 0) (dVar 1) (kC .none)) lNil) [.str (flat ts), .int st, .none, .own (acc.map .str), q1, q2]).bind _ = _
        rw [hsl]
        show (if (acc.map PV.str).length ≤ 1000000 then some (acc.map PV.str ++ [PV.str ((flat ts).drop st)]) else none).map _ = _
        simp only [List.length_nil, Nat.zero_add] at h4
        rw [if_pos (by simp; omega), List.map_append]
        rfl
      · refine ⟨acc, ?_, ?_⟩
        · show ((pLen [.str (flat ts)]).bind fun b => (pLt (.int st) b).bind pTruth).bind _ = _
          rw [hlen]
          show (some (decide ((st : Int) < (flat ts).length))).bind _ = _
          rw [decide_eq_false (by omega)]; rfl
        · rw [← hfin, List.drop_eq_nil_iff.mpr (by omega), List.append_nil]
    refine dStepM h6 ?_
    show ((dSeq (sRet (kMeth isStrP pJoin (kC (.str [])) (lCons (dVar 3) lNil))) sNil) [.str (flat ts), .int st, .none, .list (acc2.map .str), q1, q2]).map flOut = _
    show ((((((strs? (acc2.map .str)).bind fun ts => if ts.flatten.length ≤ 100000 then some (PV.str ts.flatten) else none)).map _).bind _).map flOut) = _
    rw [strs_map]
    simp only [Option.bind_some]
    rw [h7, if_pos hflen]
    rfl
noncomputable def runK : Int → List Tk → Option Int
  | o, [] => some o
  | o, .op :: r => runK (o + 1) r
  | o, .cl :: r => if o - 1 < 0 then none else runK (o - 1) r
  | o, _ :: r => runK o r
noncomputable def ftK : List PV → PV → Option (List PV) := ftTup 2 (ftCons (tSet 2) (ftCons (tSet 3) ftNil))
noncomputable def fbK : DS := (dSeq (sIf (bCmp pEq (dVar 3) (kC (.str [40]))) (dSeq (sAug 1 pIAdd (kC (.int 1)))
  sNil) (dSeq (sIf (bCmp pEq (dVar 3) (kC (.str [41]))) (dSeq (sAug 1 pISub (kC (.int 1)))
  (dSeq (sIf (bCmp pLt (dVar 1) (kC (.int 0))) (dSeq (sRet (kC (.bool false)))
  sNil) sNil)
  sNil)) sNil)
  sNil))
  sNil)
theorem dRet {f1 f2 : DS} {ρ ρ1 : List PV} {v : PV} (h : f1 ρ = some (.ret v, ρ1)) : dSeq f1 f2 ρ = some (.ret v, ρ1) := by
  show (f1 ρ).bind _ = _
  rw [h]; rfl
theorem check_loop (y : PV) : ∀ (ts : List Tk) (i : Nat) (o : Int) (q1 q2 : PV), ts.filter (· ≠ .q) = ts →
    (runK o ts = none → ∃ ρ', forF ftK fbK ((escG 0 i false (flat ts)).map itP) [y, .int o, q1, q2] = some (.ret (.bool false), ρ')) ∧
    (∀ o', runK o ts = some o' → ∃ q1' q2', forF ftK fbK ((escG 0 i false (flat ts)).map itP) [y, .int o, q1, q2] = some (.next, [y, .int o', q1', q2']))
  | [], i, o, q1, q2, _ => ⟨fun h => (by cases h), fun o' h => (by cases h; exact ⟨q1, q2, rfl⟩)⟩
  | t :: ts, i, o, q1, q2, hq => by
    have hq1 : t ≠ .q ∧ ts.filter (· ≠ .q) = ts := by
      rw [List.filter_cons] at hq
      split at hq
      · rename_i h
        exact ⟨by simpa using h, (List.cons.inj hq).2⟩
      · exfalso
        have := congrArg List.length hq
        have h7 : (ts.filter (· ≠ .q)).length ≤ ts.length := List.length_filter_le _ _
        simp only [List.length_cons] at this
        omega
    have skip : ∀ (p : Int) (c : List Nat), escG 0 i false (flat (t :: ts)) = (p, c) :: escG 0 (i + t.t.length) false (flat ts) → runK o (t :: ts) = runK o ts → (∀ a : PV, fbK [y, .int o, a, .str c] = some (.next, [y, .int o, a, .str c])) →
        (runK o (t :: ts) = none → ∃ ρ', forF ftK fbK ((escG 0 i false (flat (t :: ts))).map itP) [y, .int o, q1, q2] = some (.ret (.bool false), ρ')) ∧
        (∀ o', runK o (t :: ts) = some o' → ∃ q1' q2', forF ftK fbK ((escG 0 i false (flat (t :: ts))).map itP) [y, .int o, q1, q2] = some (.next, [y, .int o', q1', q2'])) := by
      intro p c e hr hb
      have ih := check_loop y ts (i + t.t.length) o (.int p) (.str c) hq1.2
      rw [hr, e, List.map_cons]
      refine ⟨fun h => ?_, fun o' h => ?_⟩
      · obtain ⟨ρ', h1⟩ := ih.1 h
        exact ⟨ρ', forCons (ρ1 := [y, .int o, .int p, .str c]) rfl (hb _) h1⟩
      · obtain ⟨a, b, h1⟩ := ih.2 o' h
        exact ⟨a, b, forCons (ρ1 := [y, .int o, .int p, .str c]) rfl (hb _) h1⟩
    cases t with
    | q => exact absurd rfl hq1.1
    | ec => exact skip (i + 1 : Nat) [92, 41] (by show (_, _) :: escG _ _ _ _ = _; rw [escG_p]; rfl) rfl fun _ => rfl
    | eo => exact skip (i + 1 : Nat) [92, 40] (by show (_, _) :: escG _ _ _ _ = _; rw [escG_p]; rfl) rfl fun _ => rfl
    | eq => exact skip (i + 1 : Nat) [92, 34] (by show (_, _) :: escG _ _ _ _ = _; rw [escG_p]; rfl) rfl fun _ => rfl
    | op =>
      have e : escG 0 i false (flat (.op :: ts)) = ((i : Int), [40]) :: escG 0 (i + 1) false (flat ts) := by show (_, _) :: escG _ _ _ _ = _; rw [escG_p]; rfl
      have ih := check_loop y ts (i + 1) (o + 1) (.int i) (.str [40]) hq1.2
      rw [e, List.map_cons]
      refine ⟨fun h => ?_, fun o' h => ?_⟩
      · obtain ⟨ρ', h1⟩ := ih.1 h
        exact ⟨ρ', forCons (ρ1 := [y, .int o, .int i, .str [40]]) (ρ2 := [y, .int (o + 1), .int i, .str [40]]) rfl rfl h1⟩
      · obtain ⟨a, b, h1⟩ := ih.2 o' h
        exact ⟨a, b, forCons (ρ1 := [y, .int o, .int i, .str [40]]) (ρ2 := [y, .int (o + 1), .int i, .str [40]]) rfl rfl h1⟩
    | cl =>
      have e : escG 0 i false (flat (.cl :: ts)) = ((i : Int), [41]) :: escG 0 (i + 1) false (flat ts) := by show (_, _) :: escG _ _ _ _ = _; rw [escG_p]; rfl
      have hb : ∀ b : Bool, decide (o - 1 < 0) = b → fbK [y, .int o, .int i, .str [41]] = some (if b then .ret (.bool false) else .next, [y, .int (o - 1), .int i, .str [41]]) := by
        intro b hb
        have hlt : (sIf (bCmp pLt (dVar 1) (kC (.int 0))) (dSeq (sRet (kC (.bool false))) sNil) sNil) [y, .int (o - 1), .int i, .str [41]] = some (if b then .ret (.bool false) else .next, [y, .int (o - 1), .int i, .str [41]]) := by
          show (some (decide (o - 1 < 0))).bind _ = _
          rw [hb]
          cases b <;> rfl
        cases b with
        | false =>
          refine dStep (ρ1 := [y, .int (o - 1), .int i, .str [41]]) ?_ rfl
          refine sIfF rfl ?_
          refine dStep (ρ1 := [y, .int (o - 1), .int i, .str [41]]) ?_ rfl
          refine sIfT rfl ?_
          exact dStep (ρ1 := [y, .int (o - 1), .int i, .str [41]]) rfl (dStep hlt rfl)
        | true =>
          refine dRet ?_
          refine sIfF rfl ?_
          refine dRet ?_
          refine sIfT rfl ?_
          exact dStep (ρ1 := [y, .int (o - 1), .int i, .str [41]]) rfl (dRet hlt)
      rw [e, List.map_cons]
      by_cases ho : o - 1 < 0
      · have h1 := hb true (decide_eq_true ho)
        refine ⟨fun _ => ⟨_, forRet (ρ1 := [y, .int o, .int i, .str [41]]) rfl h1⟩, fun o' h => ?_⟩
        rw [runK, if_pos ho] at h; cases h
      · have h1 := hb false (decide_eq_false ho)
        have ih := check_loop y ts (i + 1) (o - 1) (.int i) (.str [41]) hq1.2
        have hr : runK o (.cl :: ts) = runK (o - 1) ts := by rw [runK, if_neg ho]
        rw [hr]
        refine ⟨fun h => ?_, fun o' h => ?_⟩
        · obtain ⟨ρ', h2⟩ := ih.1 h
          exact ⟨ρ', forCons (ρ1 := [y, .int o, .int i, .str [41]]) rfl h1 h2⟩
        · obtain ⟨a, b, h2⟩ := ih.2 o' h
          exact ⟨a, b, forCons (ρ1 := [y, .int o, .int i, .str [41]]) rfl h1 h2⟩
theorem runK_filter : ∀ (ts : List Tk) (o : Int), runK o (ts.filter (· ≠ .q)) = runK o ts
  | [], _ => rfl
  | t :: ts, o => by
    rw [List.filter_cons]
    cases t with
    | q => exact runK_filter ts o
    | op => exact runK_filter ts (o + 1)
    | cl =>
      show (if o - 1 < 0 then none else runK (o - 1) (ts.filter (· ≠ .q))) = if o - 1 < 0 then none else runK (o - 1) ts
      rw [runK_filter ts (o - 1)]
    | ec => exact runK_filter ts o
    | eo => exact runK_filter ts o
    | eq => exact runK_filter ts o
noncomputable def balT (ts : List Tk) : Bool := match runK 0 ts with
  | none => false
  | some o => o == 0
theorem check_fn {ts : List Tk} (hl : (flat ts).length ≤ 1000) (hl2 : ts.length ≤ 1000) : fn_ckp [.str (flat ts)] [] = some (.bool (balT ts)) := by
  show (fb_ckp [.str (flat ts), .undef, .undef, .undef]).map flOut = _
  unfold fb_ckp
  have h1 : (sAssign 0 (kCall fn_sqr [] (lCons (dVar 0) lNil) lNil)) [.str (flat ts), .undef, .undef, .undef] = some (.next, [.str (flat (ts.filter (· ≠ .q))), .undef, .undef, .undef]) := by
    show (fn_sqr [.str (flat ts)] []).map _ = _
    rw [strip_fn hl hl2]; rfl
  refine dStepM h1 ?_
  refine dStepM (ρ1 := [.str (flat (ts.filter (· ≠ .q))), .int 0, .undef, .undef]) rfl ?_
  have hfi : (iEsc (dVar 0)) [.str (flat (ts.filter (· ≠ .q))), .int 0, .undef, .undef] = some ((escG 0 0 false (flat (ts.filter (· ≠ .q)))).map itP) := by
    show (if (flat (ts.filter (· ≠ .q))).all (· < 128) then some (escP (flat (ts.filter (· ≠ .q)))) else none) = _
    rw [if_pos (flat_ascii _)]; rfl
  have hff : (ts.filter (· ≠ .q)).filter (· ≠ .q) = ts.filter (· ≠ .q) := by simp
  have h2 := check_loop (.str (flat (ts.filter (· ≠ .q)))) (ts.filter (· ≠ .q)) 0 0 .undef .undef hff
  rw [runK_filter] at h2
  unfold balT
  cases hr : runK 0 ts with
  | none =>
    obtain ⟨ρ', h3⟩ := h2.1 hr
    show ((sFor (iEsc (dVar 0)) ftK fbK [.str (flat (ts.filter (· ≠ .q))), .int 0, .undef, .undef]).bind _).map flOut = _
    rw [sForStep hfi h3]; rfl
  | some o =>
    obtain ⟨a, b, h3⟩ := h2.2 o hr
    refine dStepM (sForStep hfi h3) ?_
    rfl
theorem kBinE {F : PV → PV → Option PV} {f1 f2 : DE} {ρ : List PV} {a b : PV} {r : Option PV} (h1 : f1 ρ = some a) (h2 : f2 ρ = some b) (h3 : F a b = r) : kBin F f1 f2 ρ = r := by
  show (f1 ρ).bind _ = r
  rw [h1]
  show (f2 ρ).bind _ = r
  rw [h2]; exact h3
noncomputable def tkB (b : Bool) : Tk := if b then .op else .cl
noncomputable def rowN (bs : List Bool) : List Nat := bs.map fun b => if b then 40 else 41
noncomputable def pcV (pcs : List (List Tk)) : PV := .list (pcs.map fun p => .str (flat p))
noncomputable def cellT (bs : List Bool) (pcs : List (List Tk)) : List (List Tk) := List.zipWith (fun b p => tkB b :: p) bs pcs
noncomputable def ign (p : List Tk) : Bool := p.all fun t => t != .op && t != .cl
theorem runK_ign : ∀ (p r : List Tk) (o : Int), ign p = true → runK o (p ++ r) = runK o r
  | [], _, _, _ => rfl
  | t :: p, r, o, h => by
    unfold ign at h
    rw [List.all_cons, Bool.and_eq_true] at h
    cases t with
    | op => cases h.1
    | cl => cases h.1
    | q => exact runK_ign p r o h.2
    | ec => exact runK_ign p r o h.2
    | eo => exact runK_ign p r o h.2
    | eq => exact runK_ign p r o h.2
theorem runK_cells : ∀ (bs : List Bool) (pcs : List (List Tk)) (r : List Tk) (o : Int), bs.length ≤ pcs.length → pcs.all ign = true → (∀ o, runK o r = runK o r) → runK o ((cellT bs pcs).flatten ++ r) = runK o (bs.map tkB ++ r)
  | [], pcs, r, o, h, hi, _ => by unfold cellT; simp
  | b :: bs, [], r, o, h, hi, _ => by simp at h
  | b :: bs, p :: pcs, r, o, h, hi, hr => by
    rw [List.all_cons, Bool.and_eq_true] at hi
    have e : (cellT (b :: bs) (p :: pcs)).flatten ++ r = tkB b :: (p ++ ((cellT bs pcs).flatten ++ r)) := by unfold cellT; simp
    have ih := fun o => runK_cells bs pcs r o (by simpa using h) hi.2 hr
    rw [e]
    cases b with
    | true =>
      show runK (o + 1) (p ++ _) = runK (o + 1) (bs.map tkB ++ r)
      rw [runK_ign p _ _ hi.1, ih]
    | false =>
      show (if o - 1 < 0 then none else runK (o - 1) (p ++ _)) = if o - 1 < 0 then none else runK (o - 1) (bs.map tkB ++ r)
      rw [runK_ign p _ _ hi.1, ih]
noncomputable def balB (bs : List Bool) : Bool := balT (bs.map tkB)
theorem bal_cells {bs : List Bool} {pcs : List (List Tk)} (h : bs.length ≤ pcs.length) (hi : pcs.all ign = true) : balT (cellT bs pcs).flatten = balB bs := by
  have := runK_cells bs pcs [] 0 h hi (fun _ => rfl)
  rw [List.append_nil, List.append_nil] at this
  unfold balB balT
  rw [this]
theorem runK_append (a b c : List Tk) (h : ∀ o, runK o b = runK o c) : ∀ o, runK o (a ++ b) = runK o (a ++ c) := by
  induction a with
  | nil => exact h
  | cons t a ih =>
    intro o
    cases t with
    | op => exact ih (o + 1)
    | cl =>
      show (if o - 1 < 0 then none else runK (o - 1) (a ++ b)) = if o - 1 < 0 then none else runK (o - 1) (a ++ c)
      rw [ih]
    | q => exact ih o
    | ec => exact ih o
    | eo => exact ih o
    | eq => exact ih o
theorem all_drop {pcs : List (List Tk)} (n : Nat) (h : pcs.all ign = true) : (pcs.drop n).all ign = true := List.all_eq_true.mpr fun x hx => List.all_eq_true.mp h x (List.mem_of_mem_drop hx)
theorem all_take {pcs : List (List Tk)} (n : Nat) (h : pcs.all ign = true) : (pcs.take n).all ign = true := List.all_eq_true.mpr fun x hx => List.all_eq_true.mp h x (List.mem_of_mem_take hx)
theorem flat_len : ∀ l : List Tk, (flat l).length ≤ 3 * l.length := fun l => by
  induction l with
  | nil => simp [flat]
  | cons t l ih => rw [flat_cons, List.length_append, List.length_cons]; cases t <;> (simp [Tk.t]; omega)
theorem flat_flatten : ∀ cs : List (List Tk), (cs.map flat).flatten = flat cs.flatten
  | [] => rfl
  | c :: cs => by rw [List.map_cons, List.flatten_cons, List.flatten_cons, flat_append, flat_flatten cs]
theorem join_cells {cs : List (List Tk)} (h : cs.flatten.length ≤ 300) : pJoin (.str []) [.list (cs.map fun c => .str (flat c))] = some (.str (flat cs.flatten)) := by
  show ((strs? (cs.map fun c => PV.str (flat c))).bind fun ts => if ts.flatten.length ≤ 100000 then some (PV.str ts.flatten) else none) = _
  have : (cs.map fun c => PV.str (flat c)) = (cs.map flat).map .str := by simp
  rw [this, strs_map]
  simp only [Option.bind_some]
  rw [flat_flatten, if_pos (by have := flat_len cs.flatten; omega)]
theorem ck_join {cs : List (List Tk)} (h : cs.flatten.length ≤ 300) : fn_ckp [.str (flat cs.flatten)] [] = some (.bool (balT cs.flatten)) :=
  check_fn (by have := flat_len cs.flatten; omega) (by omega)
theorem len_str {x : List Nat} (h : x.length ≤ 1000000) : pLen [.str x] = some (.int x.length) := by
  show (if x.length < 2 ^ 60 then some (PV.int x.length) else none) = _
  rw [if_pos (by omega)]
theorem len_list {x : List PV} (h : x.length ≤ 1000000) : pLen [.list x] = some (.int x.length) := by
  show (if x.length < 2 ^ 60 then some (PV.int x.length) else none) = _
  rw [if_pos (by omega)]
theorem flatten_single {α β : Type} (f : α → β) : ∀ l : List α, (l.map fun x => [f x]).flatten = l.map f
  | [] => rfl
  | x :: l => by rw [List.map_cons, List.flatten_cons, flatten_single f l]; rfl
structure RowOk (bs : List Bool) (pcs : List (List Tk)) : Prop where
  len : bs.length ≤ pcs.length
  small : bs.length ≤ 20
  ign : pcs.all ign = true
  one : ∀ p ∈ pcs, p.length ≤ 1
theorem cell_len {bs : List Bool} {pcs : List (List Tk)} (h1 : bs.length ≤ 20) (h2 : ∀ p ∈ pcs, p.length ≤ 1) : (cellT bs pcs).flatten.length ≤ 2 * bs.length := by
  clear h1
  induction bs generalizing pcs with
  | nil => unfold cellT; simp
  | cons b bs ih =>
    cases pcs with
    | nil => unfold cellT; simp
    | cons p pcs =>
      have e : (cellT (b :: bs) (p :: pcs)).flatten.length = 1 + p.length + (cellT bs pcs).flatten.length := by unfold cellT; simp; omega
      have := ih (pcs := pcs) (fun p hp => h2 p (List.mem_cons_of_mem _ hp))
      have := h2 p (List.mem_cons_self ..)
      rw [e, List.length_cons]; omega
noncomputable def cellsV (bs : List Bool) (pcs : List (List Tk)) : PV := .list ((cellT bs pcs).map fun c => .str (flat c))
theorem cells_comp {bs : List Bool} {pcs : List (List Tk)} {ρ : List PV} (ok : RowOk bs pcs) (h0 : ρ.getD 0 .undef = .str (rowN bs)) (h1 : ρ.getD 1 .undef = pcV pcs) :
    lComp [((Str.ofString "row"), 0), ((Str.ofString "pieces"), 1)] [(Str.ofString "k")] (iCall pRange (lCons (kCallB pLen (lCons (dVar 0) lNil)) lNil)) (tSet 2) bT (eElt (kBin pAdd (kBin pItem (dVar 0) (dVar 2)) (kBin pItem (dVar 1) (dVar 2)))) ρ = some ((cellT bs pcs).map fun c => .str (flat c)) := by
  have hs := ok.small
  have hl : (rowN bs).length = bs.length := by unfold rowN; simp
  have hv0 : dVar 0 ρ = some (.str (rowN bs)) := by unfold dVar; rw [h0]
  have hfi : (iCall pRange (lCons (kCallB pLen (lCons (dVar 0) lNil)) lNil)) ρ = some ((List.range bs.length).map fun (k : Nat) => PV.int k) := by
    show ((((((dVar 0 ρ).bind fun a => some [a])).bind pLen).bind fun a => some [a]).bind pRange) = _
    rw [hv0]
    show (((pLen [.str (rowN bs)]).bind fun a => some [a]).bind pRange) = _
    rw [len_str (by omega), hl]
    exact rangeN _ (by omega)
  have hb : ∀ k < bs.length, ∃ b p, bs[k]? = some b ∧ pcs[k]? = some p := fun k hk => ⟨bs[k], pcs[k]'(by have := ok.len; omega), List.getElem?_eq_getElem hk, List.getElem?_eq_getElem _⟩
  refine (lCompMap (List.range bs.length) (fun k => .int k) (fun k => [.str (flat (tkB (bs.getD k true) :: pcs.getD k []))]) (fun r => ∃ q, r = [.str (rowN bs), pcV pcs, q]) hfi ?_ (by simp; omega) ⟨.undef, ?_⟩).trans ?_
  · rintro k hk r ⟨q, rfl⟩
    obtain ⟨b, p, hbk, hpk⟩ := hb k (List.mem_range.mp hk)
    refine ⟨[.str (rowN bs), pcV pcs, .int k], rfl, ⟨_, rfl⟩, .inr ⟨_, rfl, rfl, ?_⟩⟩
    have e1 : (rowN bs)[k]? = some (if b then 40 else 41) := by unfold rowN; simp [hbk]
    have e2 : (pcs.map fun p => PV.str (flat p))[k]? = some (.str (flat p)) := by simp [hpk]
    have e3 : pItem (pcV pcs) (.int k) = some (.str (flat p)) := by
      have hlt : k < pcs.length := (List.getElem?_eq_some_iff.mp hpk).1
      have hk2 := List.mem_range.mp hk
      have h2 : seqIndex? k (pcs.map fun p => PV.str (flat p)).length = some k := by unfold seqIndex?; simp; omega
      show pItem (.list (pcs.map fun p => PV.str (flat p))) (.int k) = _
      simp only [pItem, h2]
      rw [if_pos (by omega)]
      simp [hpk]
    have hpl1 := ok.one p (List.mem_of_getElem? hpk)
    have hfl := flat_len p
    refine kBinE (kBinE rfl rfl (pItemS e1 (by omega))) (kBinE rfl rfl e3) ?_
    show (if [if b = true then 40 else 41].length + (flat p).length ≤ 100000 then some (PV.str ([if b = true then 40 else 41] ++ flat p)) else none) = _
    rw [if_pos (by simp; omega), List.getD_eq_getElem?_getD, hbk, List.getD_eq_getElem?_getD, hpk]
    cases b <;> rfl
  · show [ρ.getD 0 .undef, ρ.getD 1 .undef, .undef] = _
    rw [h0, h1]
  · congr 1
    rw [flatten_single]
    have hle := ok.len
    refine List.ext_getElem (by unfold cellT; simp; omega) fun i h2 h3 => ?_
    unfold cellT at h3 ⊢
    simp at h2 h3 ⊢
    rw [List.getElem?_eq_getElem h2, List.getElem?_eq_getElem (by omega)]
    rfl
theorem kCallE {F : List PV → List (Str × PV) → Option PV} {f : DLs} {ρ l : List PV} {r : Option PV} (h1 : f ρ = some l) (h2 : F l [] = r) : kCall F [] f lNil ρ = r := by
  show (f ρ).bind _ = r
  rw [h1]; exact h2
theorem kCallBE {F : List PV → Option PV} {f : DLs} {ρ l : List PV} {r : Option PV} (h1 : f ρ = some l) (h2 : F l = r) : kCallB F f ρ = r := by
  show (f ρ).bind _ = r
  rw [h1]; exact h2
theorem kJoinE {f2 : DLs} {ρ l : List PV} {r : Option PV} (h1 : f2 ρ = some l) (h2 : pJoin (.str []) l = r) : kMeth isStrP pJoin (kC (.str [])) f2 ρ = r := by
  show (f2 ρ).bind _ = r
  rw [h1]; exact h2
theorem lCons1 {f : DE} {ρ : List PV} {a : PV} (h : f ρ = some a) : lCons f lNil ρ = some [a] := by
  show (f ρ).bind _ = _
  rw [h]; rfl
theorem lConsE {f : DE} {fs : DLs} {ρ l : List PV} {a : PV} (h : f ρ = some a) (h2 : fs ρ = some l) : lCons f fs ρ = some (a :: l) := by
  show (f ρ).bind _ = _
  rw [h]
  show (fs ρ).bind _ = _
  rw [h2]; rfl
theorem sAssignE {i : Nat} {f : DE} {ρ : List PV} {v : PV} (h : f ρ = some v) : sAssign i f ρ = some (.next, ρ.set i v) := by
  show (f ρ).map _ = _
  rw [h]; rfl
theorem slice_both {xs : List PV} {a b : Nat} (hx : xs.length ≤ 1000000) (hb : b ≤ xs.length) (hab : a ≤ b) : pSlice (.list xs) (.int a) (.int b) = some (.list ((xs.drop a).take (b - a))) := by
  show (if xs.length ≤ 1000000 then some (PV.list (cut xs (some (a : Int)) (some (b : Int)))) else none) = _
  rw [if_pos hx, cut_nat hb hab]
theorem slice_from {xs : List PV} {a : Nat} (hx : xs.length ≤ 1000000) (ha : a ≤ xs.length) : pSlice (.list xs) (.int a) .none = some (.list (xs.drop a)) := by
  show (if xs.length ≤ 1000000 then some (PV.list (cut xs (some (a : Int)) none)) else none) = _
  rw [if_pos hx, cut_from ha]
theorem slice_to {xs : List PV} {b : Nat} (hx : xs.length ≤ 1000000) (hb : b ≤ xs.length) : pSlice (.list xs) .none (.int b) = some (.list (xs.take b)) := by
  show (if xs.length ≤ 1000000 then some (PV.list (cut xs none (some (b : Int)))) else none) = _
  rw [if_pos hx, cut_to hb]
theorem cellT_drop (bs : List Bool) (pcs : List (List Tk)) (n : Nat) : (cellT bs pcs).drop n = cellT (bs.drop n) (pcs.drop n) := by unfold cellT; exact List.drop_zipWith
theorem cellT_take (bs : List Bool) (pcs : List (List Tk)) (n : Nat) : (cellT bs pcs).take n = cellT (bs.take n) (pcs.take n) := by unfold cellT; exact List.take_zipWith
theorem cellT_len {bs : List Bool} {pcs : List (List Tk)} (h : bs.length ≤ pcs.length) : (cellT bs pcs).length = bs.length := by unfold cellT; simp; omega
noncomputable def ansB (bs : List Bool) : List Bool := [balB bs, balB (true :: bs), balB (false :: bs), balB (bs.drop 1 ++ bs.take 1)]
theorem answers_fn {bs : List Bool} {pcs : List (List Tk)} (ok : RowOk bs pcs) (hne : 1 ≤ bs.length) :
    fn_law_answers [.str (rowN bs), pcV pcs] [] = some (.list (((ansB bs).map fun b => PV.bool (b == true)) ++ ((ansB bs).map fun b => PV.bool (b == false)))) := by
  have hs := ok.small
  have hcl := cellT_len ok.len
  have hfl := cell_len ok.small ok.one
  show (fb_law_answers [.str (rowN bs), pcV pcs, .undef, .undef, .undef]).map flOut = _
  unfold fb_law_answers
  refine dStepM (ρ1 := [.str (rowN bs), pcV pcs, cellsV bs pcs, .undef, .undef]) ?_ ?_
  · have := cells_comp (ρ := [.str (rowN bs), pcV pcs, .undef, .undef, .undef]) ok rfl rfl
    show ((iCall pRange (lCons (kCallB pLen (lCons (dVar 0) lNil)) lNil)) _).bind _ = _
    have h2 : ((iCall pRange (lCons (kCallB pLen (lCons (dVar 0) lNil)) lNil)) [.str (rowN bs), pcV pcs, .undef, .undef, .undef]).bind (fun items => (compF (tSet 2) bT (eElt (kBin pAdd (kBin pItem (dVar 0) (dVar 2)) (kBin pItem (dVar 1) (dVar 2)))) items (inR [((Str.ofString "row"), 0), ((Str.ofString "pieces"), 1)] [(Str.ofString "k")] [.str (rowN bs), pcV pcs, .undef, .undef, .undef]) []).map (·.2)) = _ := this
    obtain ⟨items, h3, h4⟩ := Option.bind_eq_some_iff.mp h2
    obtain ⟨r, h5, h6⟩ := Option.map_eq_some_iff.mp h4
    rw [h3]
    simp only [Option.bind_some]
    rw [h5]
    simp only [Option.map_some]
    rw [h6]; rfl
  have hjoin : pJoin (.str []) [cellsV bs pcs] = some (.str (flat (cellT bs pcs).flatten)) := join_cells (by omega)
  refine dStepM (ρ1 := [.str (rowN bs), pcV pcs, cellsV bs pcs, .str (flat (cellT bs pcs).flatten), .undef]) (sAssignE (kJoinE (lCons1 rfl) hjoin)) ?_
  have b1 := bal_cells ok.len ok.ign
  have e1 : balT (.op :: (cellT bs pcs).flatten) = balB (true :: bs) := by
    have := runK_append [.op] (cellT bs pcs).flatten (bs.map tkB) (fun o => by
      have := runK_cells bs pcs [] o ok.len ok.ign (fun _ => rfl)
      rw [List.append_nil, List.append_nil] at this; exact this) 0
    unfold balB balT
    have h2 : runK 0 (.op :: (cellT bs pcs).flatten) = runK 0 ((true :: bs).map tkB) := this
    rw [h2]
  have e2 : balT (.cl :: (cellT bs pcs).flatten) = balB (false :: bs) := by
    have := runK_append [.cl] (cellT bs pcs).flatten (bs.map tkB) (fun o => by
      have := runK_cells bs pcs [] o ok.len ok.ign (fun _ => rfl)
      rw [List.append_nil, List.append_nil] at this; exact this) 0
    unfold balB balT
    have h2 : runK 0 (.cl :: (cellT bs pcs).flatten) = runK 0 ((false :: bs).map tkB) := this
    rw [h2]
  have e3 : balT (((cellT bs pcs).drop 1 ++ (cellT bs pcs).take 1).flatten) = balB (bs.drop 1 ++ bs.take 1) := by
    rw [List.flatten_append, cellT_drop, cellT_take]
    unfold balB balT
    have h1 : ∀ o, runK o ((cellT (bs.take 1) (pcs.take 1)).flatten) = runK o ((bs.take 1).map tkB) := fun o => by
      have := runK_cells (bs.take 1) (pcs.take 1) [] o (by have := ok.len; simp; omega) (all_take 1 ok.ign) (fun _ => rfl)
      rw [List.append_nil, List.append_nil] at this; exact this
    have h2 := runK_append (cellT (bs.drop 1) (pcs.drop 1)).flatten _ _ h1 0
    have h3 := runK_cells (bs.drop 1) (pcs.drop 1) ((bs.take 1).map tkB) 0 (by have := ok.len; simp; omega) (all_drop 1 ok.ign) (fun _ => rfl)
    rw [h2, h3, List.map_append]
  have hl1 := flat_len (cellT bs pcs).flatten
  have c1 := ck_join (cs := cellT bs pcs) (by omega)
  have c2 : fn_ckp [.str (40 :: flat (cellT bs pcs).flatten)] [] = some (.bool (balT (.op :: (cellT bs pcs).flatten))) := check_fn (ts := .op :: (cellT bs pcs).flatten) (by rw [flat_cons]; simp [Tk.t]; omega) (by rw [List.length_cons]; omega)
  have c3 : fn_ckp [.str (41 :: flat (cellT bs pcs).flatten)] [] = some (.bool (balT (.cl :: (cellT bs pcs).flatten))) := check_fn (ts := .cl :: (cellT bs pcs).flatten) (by rw [flat_cons]; simp [Tk.t]; omega) (by rw [List.length_cons]; omega)
  have hl4 : ((cellT bs pcs).drop 1 ++ (cellT bs pcs).take 1).flatten.length ≤ 300 := by
    have h1 : ((cellT bs pcs).take 1 ++ (cellT bs pcs).drop 1).flatten.length ≤ 2 * bs.length := by rw [List.take_append_drop]; exact hfl
    rw [List.flatten_append, List.length_append] at h1 ⊢; omega
  have c4 := ck_join hl4
  have j4 := join_cells hl4
  rw [b1] at c1
  rw [e1] at c2
  rw [e2] at c3
  rw [e3] at c4
  have a2 : pAdd (.str [40]) (.str (flat (cellT bs pcs).flatten)) = some (.str (40 :: flat (cellT bs pcs).flatten)) := by
    show (if [40].length + (flat (cellT bs pcs).flatten).length ≤ 100000 then some (PV.str ([40] ++ flat (cellT bs pcs).flatten)) else none) = _
    rw [if_pos (by simp; omega)]; rfl
  have a3 : pAdd (.str [41]) (.str (flat (cellT bs pcs).flatten)) = some (.str (41 :: flat (cellT bs pcs).flatten)) := by
    show (if [41].length + (flat (cellT bs pcs).flatten).length ≤ 100000 then some (PV.str ([41] ++ flat (cellT bs pcs).flatten)) else none) = _
    rw [if_pos (by simp; omega)]; rfl
  have hcv : ((cellT bs pcs).map fun c => PV.str (flat c)).length = bs.length := by simp [hcl]
  have a4 : (kBin pAdd (kSlice (dVar 2) (kC (.int 1)) (kC .none)) (kSlice (dVar 2) (kC .none) (kC (.int 1)))) [.str (rowN bs), pcV pcs, cellsV bs pcs, .str (flat (cellT bs pcs).flatten), .undef] = some (.list (((cellT bs pcs).drop 1 ++ (cellT bs pcs).take 1).map fun c => .str (flat c))) := by
    have h1 := slice_from (xs := (cellT bs pcs).map fun c => PV.str (flat c)) (a := 1) (by omega) (by omega)
    have h2 := slice_to (xs := (cellT bs pcs).map fun c => PV.str (flat c)) (b := 1) (by omega) (by omega)
    refine kBinE h1 h2 ?_
    show (if _ + _ ≤ 100000 then some (PV.list _) else none) = _
    rw [if_pos (by simp; omega), List.map_append, List.map_drop, List.map_take]
  refine dStepM (ρ1 := [.str (rowN bs), pcV pcs, cellsV bs pcs, .str (flat (cellT bs pcs).flatten), .list ((ansB bs).map .bool)]) ?_ ?_
  · have hit : (iVal (kTup (lCons (dVar 3) (lCons (kBin pAdd (kC (.str [40])) (dVar 3)) (lCons (kBin pAdd (kC (.str [41])) (dVar 3)) (lCons (kMeth isStrP pJoin (kC (.str [])) (lCons (kBin pAdd (kSlice (dVar 2) (kC (.int 1)) (kC .none)) (kSlice (dVar 2) (kC .none) (kC (.int 1)))) lNil)) lNil)))))) [.str (rowN bs), pcV pcs, cellsV bs pcs, .str (flat (cellT bs pcs).flatten), .undef] =
        some ([flat (cellT bs pcs).flatten, 40 :: flat (cellT bs pcs).flatten, 41 :: flat (cellT bs pcs).flatten, flat ((cellT bs pcs).drop 1 ++ (cellT bs pcs).take 1).flatten].map .str) := by
      have : (lCons (dVar 3) (lCons (kBin pAdd (kC (.str [40])) (dVar 3)) (lCons (kBin pAdd (kC (.str [41])) (dVar 3)) (lCons (kMeth isStrP pJoin (kC (.str [])) (lCons (kBin pAdd (kSlice (dVar 2) (kC (.int 1)) (kC .none)) (kSlice (dVar 2) (kC .none) (kC (.int 1)))) lNil)) lNil)))) [.str (rowN bs), pcV pcs, cellsV bs pcs, .str (flat (cellT bs pcs).flatten), .undef] = _ :=
        lConsE rfl (lConsE (kBinE rfl rfl a2) (lConsE (kBinE rfl rfl a3) (lCons1 (kJoinE (lCons1 a4) j4))))
      show ((Option.map PV.tup (lCons _ _ _)).bind pIter) = _
      rw [this]; rfl
    show (iVal _ _).bind _ = _
    rw [hit]
    have ev : ∀ (x : List Nat) (b : Bool) (r acc : List PV), fn_ckp [.str x] [] = some (.bool b) → acc.length ≤ 1000000 → eElt (kCall fn_ckp [] (lCons (dVar 0) lNil) lNil) [.str x] acc = some ([.str x], acc ++ [.bool b]) := by
      intro x b r acc h1 h2
      have : (kCall fn_ckp [] (lCons (dVar 0) lNil) lNil) [.str x] = some (.bool b) := kCallE (lCons1 rfl) h1
      show ((kCall fn_ckp [] (lCons (dVar 0) lNil) lNil) [.str x]).bind _ = _
      rw [this]
      show (if acc.length ≤ 1000000 then _ else _) = _
      rw [if_pos h2]
    have turn : ∀ (x : List Nat) (b : Bool) (q : PV) (ps acc : List PV), fn_ckp [.str x] [] = some (.bool b) → acc.length ≤ 1000000 → compF (tSet 0) bT (eElt (kCall fn_ckp [] (lCons (dVar 0) lNil) lNil)) (.str x :: ps) [q] acc = compF (tSet 0) bT (eElt (kCall fn_ckp [] (lCons (dVar 0) lNil) lNil)) ps [.str x] (acc ++ [.bool b]) := by
      intro x b q ps acc h1 h2
      show (eElt (kCall fn_ckp [] (lCons (dVar 0) lNil) lNil) [.str x] acc).bind _ = _
      rw [ev x b [] acc h1 h2]; rfl
    simp only [Option.bind_some, List.map_cons, List.map_nil]
    show (compF _ _ _ _ [.undef] []).map _ = _
    rw [turn _ _ _ _ _ c1 (by simp), turn _ _ _ _ _ c2 (by simp), turn _ _ _ _ _ c3 (by simp), turn _ _ _ _ _ c4 (by simp)]
    rfl
  unfold ansB
  rfl
noncomputable def jsB (i n : Nat) : List Nat := (List.range ((n - i) / 2)).map fun k => i + 1 + 2 * k
theorem range2 {i n : Nat} (hn : n ≤ 1000) (hi : i < n) : pRange [.int ((i : Int) + 1), .int n, .int 2] = some ((jsB i n).map fun (j : Nat) => PV.int j) := by
  show (if isSmallI ((i : Int) + 1) ∧ isSmallI n ∧ (2 : Int) = 2 then some (rangeL ((i : Int) + 1) 2 (Builtin.Range.rangeSize ((i : Int) + 1) n 2).toNat) else none) = _
  have h1 : isSmallI ((i : Int) + 1) = true := by unfold isSmallI; simp; omega
  have h2 : isSmallI (n : Int) = true := by unfold isSmallI; simp; omega
  rw [if_pos ⟨h1, h2, rfl⟩, rangeSize_two]
  have h3 : (if (i : Int) + 1 < n then ((n : Int) - ((i : Int) + 1) + 1) / 2 else 0).toNat = (n - i) / 2 := by
    split
    · omega
    · omega
  rw [h3]
  unfold rangeL jsB
  rw [List.map_map]
  refine congrArg some (List.map_congr_left fun k _ => ?_)
  have e : ((i : Int) + 1 + (k : Int) * 2) = ((i + 1 + 2 * k : Nat) : Int) := by omega
  exact congrArg PV.int e
noncomputable def stepB (bs : List Bool) (i : Nat) (s : Int) (j : Nat) : Int := if bs.getD i true && ((s == 0) && balB ((bs.drop i).take (j + 1 - i))) then (j : Int) + 1 - i else s
noncomputable def spanB (bs : List Bool) (i : Nat) : Int := (jsB i bs.length).foldl (stepB bs i) 0
noncomputable def spansB (bs : List Bool) : List Int := (List.range bs.length).map (spanB bs)
theorem bAndE {f1 f2 : DB} {ρ : List PV} {a b : Bool} (h1 : f1 ρ = some a) (h2 : a = true → f2 ρ = some b) : bAnd f1 f2 ρ = some (a && b) := by
  show (f1 ρ).bind _ = _
  rw [h1]
  cases a with
  | false => rfl
  | true => exact h2 rfl
theorem bCmpE {F : PV → PV → Option PV} {f1 f2 : DE} {ρ : List PV} {a b : PV} {c : Bool} (h1 : f1 ρ = some a) (h2 : f2 ρ = some b) (h3 : F a b = some (.bool c)) : bCmp F f1 f2 ρ = some c := by
  show (f1 ρ).bind _ = _
  rw [h1]
  show (f2 ρ).bind _ = _
  rw [h2]
  show (F a b).bind _ = _
  rw [h3]; rfl
theorem fOwnE {C : Cx} {f : DLs} {F : List PV → List PV → Option (List PV)} {ρ xs ps ys : List PV} (h0 : ρ.getD C.mu .undef = .own xs) (h1 : f ρ = some ps) (h2 : F xs ps = some ys) : fOwn C f F ρ = some (.next, ρ.set C.mu (.own ys)) := by
  unfold fOwn
  rw [h0]
  show (f ρ).bind _ = _
  rw [h1]
  show (F xs ps).map _ = _
  rw [h2]; rfl
theorem spans_fn {bs : List Bool} {pcs : List (List Tk)} (ok : RowOk bs pcs) : fn_law_spans [.str (rowN bs), pcV pcs] [] = some (.list ((spansB bs).map .int)) := by
  have hs := ok.small
  have hcl := cellT_len ok.len
  have hfl := cell_len ok.small ok.one
  have hrl : (rowN bs).length = bs.length := by unfold rowN; simp
  show (fb_law_spans [.str (rowN bs), pcV pcs, .undef, .undef, .undef, .undef, .undef]).map flOut = _
  unfold fb_law_spans
  refine dStepM (ρ1 := [.str (rowN bs), pcV pcs, cellsV bs pcs, .own [], .undef, .undef, .undef]) ?_ ?_
  · have := cells_comp (ρ := [.str (rowN bs), pcV pcs, .undef, .undef, .undef, .undef, .undef]) ok rfl rfl
    show (Option.map PV.list (lComp _ _ _ _ _ _ _)).bind _ = _
    rw [this]; rfl
  have hlen : (iCall pRange (lCons (kCallB pLen (lCons (dVar 0) lNil)) lNil)) [.str (rowN bs), pcV pcs, cellsV bs pcs, .own [], .undef, .undef, .undef] = some ((List.range bs.length).map fun (k : Nat) => PV.int k) := by
    show (((pLen [.str (rowN bs)]).bind fun a => some [a]).bind pRange) = _
    rw [len_str (by omega), hrl]
    exact rangeN _ (by omega)
  have hrow : ∀ i < bs.length, (rowN bs)[i]? = some (if bs.getD i true then 40 else 41) := fun i hi => by
    unfold rowN
    rw [List.getElem?_map, List.getElem?_eq_getElem hi, List.getD_eq_getElem?_getD, List.getElem?_eq_getElem hi]; rfl
  have hcv : ((cellT bs pcs).map fun c => PV.str (flat c)).length = bs.length := by simp [hcl]
  have inner : ∀ (i : Nat), i < bs.length → ∀ (acc q : PV), ∃ q', forF (tSet 6) (dSeq (sIf (bAnd (bCmp pEq (kBin pItem (dVar 0) (dVar 4)) (kC (.str [40]))) (bAnd (bCmp pEq (dVar 5) (kC (.int 0))) (bAnd (bCmp pIs (kCall fn_ckp [] (lCons (kMeth isStrP pJoin (kC (.str [])) (lCons (kSlice (dVar 2) (dVar 4) (kBin pAdd (dVar 6) (kC (.int 1)))) lNil)) lNil) lNil) (kC (.bool true))) bT))) (dSeq (sAssign 5 (kBin pSub (kBin pAdd (dVar 6) (kC (.int 1))) (dVar 4)))
      sNil) sNil) sNil) ((jsB i bs.length).map fun (j : Nat) => PV.int j) [.str (rowN bs), pcV pcs, cellsV bs pcs, acc, .int i, .int 0, q] = some (.next, [.str (rowN bs), pcV pcs, cellsV bs pcs, acc, .int i, .int (spanB bs i), q']) := by
    intro i hi acc q
    obtain ⟨r', h1, q', h2⟩ := forMap (fun (j : Nat) => PV.int j) (fun d r => ∃ q', r = [.str (rowN bs), pcV pcs, cellsV bs pcs, acc, .int i, .int (d.foldl (stepB bs i) 0), q']) (jsB i bs.length) [] [.str (rowN bs), pcV pcs, cellsV bs pcs, acc, .int i, .int 0, q] (ft := tSet 6) (fb := (dSeq (sIf (bAnd (bCmp pEq (kBin pItem (dVar 0) (dVar 4)) (kC (.str [40]))) (bAnd (bCmp pEq (dVar 5) (kC (.int 0))) (bAnd (bCmp pIs (kCall fn_ckp [] (lCons (kMeth isStrP pJoin (kC (.str [])) (lCons (kSlice (dVar 2) (dVar 4) (kBin pAdd (dVar 6) (kC (.int 1)))) lNil)) lNil) lNil) (kC (.bool true))) bT))) (dSeq (sAssign 5 (kBin pSub (kBin pAdd (dVar 6) (kC (.int 1))) (dVar 4)))
      sNil) sNil) sNil)) (by
      rintro d j rest r hd ⟨q2, rfl⟩
      rw [List.nil_append] at hd
      have hj : j ∈ jsB i bs.length := by rw [hd]; simp
      obtain ⟨k, hk, rfl⟩ := List.mem_map.mp hj
      have hk := List.mem_range.mp hk
      have hjn : i + 1 + 2 * k < bs.length := by omega
      generalize hjj : i + 1 + 2 * k = j at hjn
      have hij : i + 1 ≤ j := by omega
      generalize hsv : d.foldl (stepB bs i) 0 = sv
      have hsl : (kSlice (dVar 2) (dVar 4) (kBin pAdd (dVar 6) (kC (.int 1)))) [.str (rowN bs), pcV pcs, cellsV bs pcs, acc, .int i, .int sv, .int j] = some (.list (((cellT bs pcs).drop i |>.take (j + 1 - i)).map fun c => .str (flat c))) := by
        have h1 := slice_both (xs := (cellT bs pcs).map fun c => PV.str (flat c)) (a := i) (b := j + 1) (by omega) (by omega) (by omega)
        rw [← List.map_drop, ← List.map_take] at h1
        exact h1
      have hsub : ((cellT bs pcs).drop i |>.take (j + 1 - i)).flatten.length ≤ 300 := by
        rw [cellT_drop, cellT_take]
        have h5 := cell_len (bs := (bs.drop i).take (j + 1 - i)) (pcs := (pcs.drop i).take (j + 1 - i)) (by simp; omega) (fun p hp => ok.one p (List.mem_of_mem_drop (List.mem_of_mem_take hp)))
        have h6 : ((bs.drop i).take (j + 1 - i)).length ≤ bs.length := by simp; omega
        omega
      have hbal : balT ((cellT bs pcs).drop i |>.take (j + 1 - i)).flatten = balB ((bs.drop i).take (j + 1 - i)) := by
        rw [cellT_drop, cellT_take]
        exact bal_cells (by have := ok.len; simp; omega) (all_take _ (all_drop _ ok.ign))
      have hck := ck_join hsub
      rw [hbal] at hck
      have htest : (bAnd (bCmp pEq (kBin pItem (dVar 0) (dVar 4)) (kC (.str [40]))) (bAnd (bCmp pEq (dVar 5) (kC (.int 0))) (bAnd (bCmp pIs (kCall fn_ckp [] (lCons (kMeth isStrP pJoin (kC (.str [])) (lCons (kSlice (dVar 2) (dVar 4) (kBin pAdd (dVar 6) (kC (.int 1)))) lNil)) lNil) lNil) (kC (.bool true))) bT))) [.str (rowN bs), pcV pcs, cellsV bs pcs, acc, .int i, .int sv, .int j] = some (bs.getD i true && ((sv == 0) && (balB ((bs.drop i).take (j + 1 - i)) && true))) := by
        refine bAndE (bCmpE (kBinE rfl rfl (pItemS (hrow i hi) (by omega))) rfl ?_) fun _ => bAndE (bCmpE rfl rfl rfl) fun _ => bAndE (bCmpE (kCallE (lCons1 (kJoinE (lCons1 hsl) (join_cells hsub))) hck) rfl ?_) fun _ => rfl
        · cases bs.getD i true <;> rfl
        · cases balB ((bs.drop i).take (j + 1 - i)) <;> rfl
      rw [Bool.and_true] at htest
      refine ⟨[.str (rowN bs), pcV pcs, cellsV bs pcs, acc, .int i, .int sv, .int j], [.str (rowN bs), pcV pcs, cellsV bs pcs, acc, .int i, .int (stepB bs i sv j), .int j], rfl, ?_, .int j, ?_⟩
      · refine dStep (ρ1 := [.str (rowN bs), pcV pcs, cellsV bs pcs, acc, .int i, .int (stepB bs i sv j), .int j]) ?_ rfl
        unfold stepB
        cases hc : (bs.getD i true && ((sv == 0) && balB ((bs.drop i).take (j + 1 - i)))) with
        | true =>
          rw [hc] at htest
          refine sIfT htest ?_
          rfl
        | false =>
          rw [hc] at htest
          refine sIfF htest ?_
          rfl
      · rw [List.foldl_append, hsv]; rfl) ⟨q, rfl⟩
    rw [List.nil_append] at h2
    exact ⟨q', by rw [h1, h2]; rfl⟩
  obtain ⟨r', h1, q1, q2, q3, h2⟩ := forMap (fun (j : Nat) => PV.int j) (fun d r => ∃ q1 q2 q3, r = [.str (rowN bs), pcV pcs, cellsV bs pcs, .own ((d.map (spanB bs)).map .int), q1, q2, q3]) (List.range bs.length) [] [.str (rowN bs), pcV pcs, cellsV bs pcs, .own [], .undef, .undef, .undef] (ft := tSet 4) (fb := (dSeq (sAssign 5 (kC (.int 0)))
  (dSeq (sFor (iCall pRange (lCons (kBin pAdd (dVar 4) (kC (.int 1))) (lCons (kCallB pLen (lCons (dVar 0) lNil)) (lCons (kC (.int 2)) lNil)))) (tSet 6) (dSeq (sIf (bAnd (bCmp pEq (kBin pItem (dVar 0) (dVar 4)) (kC (.str [40]))) (bAnd (bCmp pEq (dVar 5) (kC (.int 0))) (bAnd (bCmp pIs (kCall fn_ckp [] (lCons (kMeth isStrP pJoin (kC (.str [])) (lCons (kSlice (dVar 2) (dVar 4) (kBin pAdd (dVar 6) (kC (.int 1)))) lNil)) lNil) lNil) (kC (.bool true))) bT))) (dSeq (sAssign 5 (kBin pSub (kBin pAdd (dVar 6) (kC (.int 1))) (dVar 4)))
  sNil) sNil)
  sNil))
  (dSeq (fOwn cx_law_spans (lCons (dVar 5) lNil) pAppend)
  sNil)))) (by
    rintro d i rest r hd ⟨q1, q2, q3, rfl⟩
    rw [List.nil_append] at hd
    have hi : i < bs.length := List.mem_range.mp (by rw [hd]; simp)
    have hdl : d.length ≤ bs.length := by
      have := congrArg List.length hd
      simp at this; omega
    obtain ⟨q', hin⟩ := inner i hi (.own ((d.map (spanB bs)).map .int)) q3
    refine ⟨[.str (rowN bs), pcV pcs, cellsV bs pcs, .own ((d.map (spanB bs)).map .int), .int i, q2, q3], [.str (rowN bs), pcV pcs, cellsV bs pcs, .own (((d ++ [i]).map (spanB bs)).map .int), .int i, .int (spanB bs i), q'], rfl, ?_, _, _, _, rfl⟩
    refine dStep (ρ1 := [.str (rowN bs), pcV pcs, cellsV bs pcs, .own ((d.map (spanB bs)).map .int), .int i, .int 0, q3]) rfl ?_
    refine dStep (ρ1 := [.str (rowN bs), pcV pcs, cellsV bs pcs, .own ((d.map (spanB bs)).map .int), .int i, .int (spanB bs i), q']) (sForStep ?_ hin) ?_
    · have h5 : (lCons (kBin pAdd (dVar 4) (kC (.int 1))) (lCons (kCallB pLen (lCons (dVar 0) lNil)) (lCons (kC (.int 2)) lNil))) [.str (rowN bs), pcV pcs, cellsV bs pcs, .own ((d.map (spanB bs)).map .int), .int i, .int 0, q3] = some [.int ((i : Int) + 1), .int bs.length, .int 2] :=
        lConsE rfl (lConsE (kCallBE (lCons1 rfl) (by have h6 := len_str (x := rowN bs) (by omega); rw [hrl] at h6; exact h6)) rfl)
      show ((lCons _ _ _).bind pRange) = _
      rw [h5, Option.bind_some]
      exact range2 (by omega) hi
    · refine dStep (ρ1 := [.str (rowN bs), pcV pcs, cellsV bs pcs, .own (((d ++ [i]).map (spanB bs)).map .int), .int i, .int (spanB bs i), q']) ?_ rfl
      have h6 : (lCons (dVar 5) lNil) [.str (rowN bs), pcV pcs, cellsV bs pcs, .own ((d.map (spanB bs)).map .int), .int i, .int (spanB bs i), q'] = some [PV.int (spanB bs i)] := lCons1 rfl
      have h7 : pAppend ((d.map (spanB bs)).map PV.int) [PV.int (spanB bs i)] = some (((d ++ [i]).map (spanB bs)).map PV.int) := by
        show (if ((d.map (spanB bs)).map PV.int).length ≤ 1000000 then some ((d.map (spanB bs)).map PV.int ++ [PV.int (spanB bs i)]) else none) = _
        rw [if_pos (by simp; omega), List.map_append, List.map_append]
        rfl
      exact fOwnE rfl h6 h7) ⟨_, _, _, rfl⟩
  refine dStepM (sForStep hlen h1) ?_
  rw [h2, List.nil_append]
  rfl
theorem nat_or_low {s u v : Nat} (hu : u < 2 ^ s) : (2 ^ s * v + u) ||| (2 ^ s * v) = 2 ^ s * v + u := by
  apply Nat.eq_of_testBit_eq
  intro j
  rw [Nat.testBit_or, Nat.testBit_two_pow_mul_add v hu j, Nat.testBit_two_pow_mul]
  by_cases h : j < s
  · rw [if_pos h]
    have : decide (s ≤ j) = false := decide_eq_false (by omega)
    rw [this]; simp
  · rw [if_neg h]; simp
theorem nat_and_low {s u v : Nat} (hu : u < 2 ^ s) : (2 ^ s * v + u) &&& (2 ^ s * v) = 2 ^ s * v := by
  apply Nat.eq_of_testBit_eq
  intro j
  rw [Nat.testBit_and, Nat.testBit_two_pow_mul_add v hu j, Nat.testBit_two_pow_mul]
  by_cases h : j < s
  · have : decide (s ≤ j) = false := decide_eq_false (by omega)
    rw [this]; simp
  · rw [if_neg h]
    cases v.testBit (j - s) <;> simp
theorem bitXor_low {s u v : Nat} (hu : u < 2 ^ s) : Builtin.bitXor ((2 ^ s * v + u : Nat) : Int) ((2 ^ s * v : Nat) : Int) = (u : Int) := by
  have hor : ∀ a b : Nat, Builtin.bitOr (a : Int) (b : Int) = ((a ||| b : Nat) : Int) := by
    intro a b
    unfold Builtin.bitOr Builtin.bitAnd
    have h1 : decide (0 ≤ Builtin.bitNot (a : Int)) = false := decide_eq_false (by unfold Builtin.bitNot; omega)
    have h2 : decide (0 ≤ Builtin.bitNot (b : Int)) = false := decide_eq_false (by unfold Builtin.bitNot; omega)
    rw [h1, h2]
    simp only
    unfold Builtin.bitNot
    have e : ∀ n : Nat, (-(-(n : Int) - 1) - 1) = (n : Int) := fun n => by omega
    rw [e a, e b, Int.toNat_natCast, Int.toNat_natCast, e]
  have hand : ∀ a b : Nat, Builtin.bitAnd (a : Int) (b : Int) = ((a &&& b : Nat) : Int) := by
    intro a b
    unfold Builtin.bitAnd
    have h1 : decide (0 ≤ (a : Int)) = true := decide_eq_true (by omega)
    have h2 : decide (0 ≤ (b : Int)) = true := decide_eq_true (by omega)
    rw [h1, h2]
    simp only
    rw [Int.toNat_natCast, Int.toNat_natCast]
  unfold Builtin.bitXor
  rw [hor, hand, nat_or_low hu, nat_and_low hu]
  omega
noncomputable def val (B : Int) : List Int → Int
  | [] => 0
  | d :: r => d + B * val B r
theorem val_append (B : Int) : ∀ u v : List Int, val B (u ++ v) = val B u + B ^ u.length * val B v
  | [], v => by simp [val]
  | d :: u, v => by
    rw [List.cons_append, val, val, val_append B u v, List.length_cons, Int.pow_succ, Int.mul_add, ← Int.mul_assoc, Int.mul_comm B (B ^ u.length), Int.add_assoc]
theorem val_bound {B : Nat} {M : Nat} (hB : 1 ≤ B) : ∀ l : List Int, (∀ d ∈ l, d.natAbs ≤ M) → (val B l).natAbs + M ≤ M * (B + 1) ^ l.length
  | [], _ => by simp [val]
  | d :: l, h => by
    have ih := val_bound hB l fun x hx => h x (List.mem_cons_of_mem _ hx)
    have hd := h d (List.mem_cons_self ..)
    rw [val, List.length_cons, Nat.pow_succ]
    have h1 : (d + (B : Int) * val B l).natAbs ≤ d.natAbs + B * (val B l).natAbs := by
      have := Int.natAbs_add_le d ((B : Int) * val B l)
      rw [Int.natAbs_mul] at this
      simpa using this
    have h2 : (B + 1) * ((val B l).natAbs + M) ≤ (B + 1) * (M * (B + 1) ^ l.length) := Nat.mul_le_mul_left _ ih
    have h3 : M * ((B + 1) ^ l.length * (B + 1)) = (B + 1) * (M * (B + 1) ^ l.length) := by rw [← Nat.mul_assoc, Nat.mul_comm]
    rw [h3]
    refine Nat.le_trans ?_ h2
    rw [Nat.add_mul, Nat.mul_add, Nat.one_mul]
    have h4 : M ≤ B * M := Nat.le_mul_of_pos_left M hB
    omega
structure DigOk (n : Nat) (ds : List Int) : Prop where
  n1 : 1 ≤ n
  n2 : n ≤ 64
  len : ds.length ≤ 100
  small : ∀ d ∈ ds, d.natAbs ≤ 2 ^ 100
theorem pow_two_int (n k : Nat) : ((2 ^ n : Nat) : Int) ^ k = ((2 ^ (n * k) : Nat) : Int) := by
  rw [Nat.pow_mul]; exact (Int.natCast_pow (2 ^ n) k).symm
theorem val_mid {n : Nat} {ds l : List Int} (ok : DigOk n ds) (hl : ∀ d ∈ l, d ∈ ds) (hlen : l.length ≤ 100) : isMid (val ((2 ^ n : Nat) : Int) l) = true := by
  unfold isMid
  refine decide_eq_true ?_
  have h1 := val_bound (B := 2 ^ n) (M := 2 ^ 100) (Nat.one_le_two_pow) l fun d hd => ok.small d (hl d hd)
  have h2 : (2 ^ n + 1) ^ l.length ≤ (2 ^ 65) ^ 100 := by
    refine Nat.le_trans (Nat.pow_le_pow_left (m := 2 ^ 65) ?_ _) (Nat.pow_le_pow_right (by decide) hlen)
    have := Nat.pow_le_pow_right (n := 2) (by decide) ok.n2
    have h3 : (2 : Nat) ^ 65 = 2 ^ 64 + 2 ^ 64 := by decide
    have h4 : (1 : Nat) ≤ 2 ^ 64 := Nat.one_le_two_pow
    omega
  have h3 : 2 ^ 100 * (2 ^ n + 1) ^ l.length ≤ 2 ^ 100 * (2 ^ 65) ^ 100 := Nat.mul_le_mul_left _ h2
  have h4 : (2 : Nat) ^ 100 * (2 ^ 65) ^ 100 < 2 ^ 30000 := by
    rw [← Nat.pow_mul, ← Nat.pow_add]
    exact Nat.pow_lt_pow_right (by decide) (by decide)
  omega
theorem isMid_small {a : Int} (h : a.natAbs < 2 ^ 100) : isMid a = true := by
  unfold isMid
  refine decide_eq_true (Nat.lt_trans h ?_)
  exact Nat.pow_lt_pow_right (by decide) (by decide)
theorem halves {k m : Nat} (h : 2 ≤ m) (h2 : m ≤ 2 ^ (k + 1)) : ∃ a b, m = a + b ∧ 1 ≤ a ∧ 1 ≤ b ∧ a ≤ 2 ^ k ∧ b ≤ 2 ^ k ∧ ∀ L : Nat, ((L : Int) + ((L + m : Nat) : Int)).fdiv (2 ^ 1) = ((L + a : Nat) : Int) := by
  rw [Nat.pow_succ] at h2
  generalize 2 ^ k = p at h2
  refine ⟨m / 2, m - m / 2, by omega, by omega, by omega, by omega, by omega, fun L => ?_⟩
  rw [Int.fdiv_eq_ediv_of_nonneg _ (by decide)]
  clear h h2
  omega
theorem shift_ok {n L a : Nat} (hn : n ≤ 64) (ha : a ≤ 100) : (((L + a : Nat) : Int) - L) * n = ((n * a : Nat) : Int) ∧ isMid (((L + a : Nat) : Int) - L) = true ∧ isMid (n : Int) = true ∧ ((n * a : Nat) : Int) ≤ 1000000 := by
  have e : ((L + a : Nat) : Int) - L = (a : Int) := by omega
  have hs : ∀ x : Nat, x ≤ 1000 → isMid (x : Int) = true := fun x hx => isMid_small (Nat.lt_of_le_of_lt hx (by decide))
  refine ⟨by rw [e, Int.natCast_mul, Int.mul_comm], by rw [e]; exact hs a (Nat.le_trans ha (by decide)), hs n (Nat.le_trans hn (by decide)), ?_⟩
  exact Int.ofNat_le.mpr (Nat.le_trans (Nat.mul_le_mul hn ha) (by decide))
theorem one_part {ds : List Int} {L : Nat} (h : L < ds.length) : (ds.drop L).take 1 = [ds[L]] := by
  rw [List.drop_eq_getElem_cons h]; rfl
theorem val_one (B d : Int) : val B [d] = d := by
  show d + B * 0 = d
  rw [Int.mul_zero, Int.add_zero]
theorem beq_next (L : Nat) : ((L : Int) + 1 == ((L + 1 : Nat) : Int)) = true := beq_self_eq_true _
theorem beq_far {L m : Nat} (h : 2 ≤ m) : ¬ ((L : Int) + 1 == ((L + m : Nat) : Int)) = true := by
  intro q
  have := eq_of_beq q
  omega
theorem d2i_one {n : Int} {ds : List Int} {L : Nat} (k : Nat) (B : Int) (h : L < ds.length) : d2iP ds n k L ((L + 1 : Nat) : Int) = some (val B ((ds.drop L).take 1)) := by
  rw [one_part h, val_one]
  cases k with
  | zero => rw [d2iP, if_pos ⟨beq_next L, Int.natCast_nonneg L⟩, Int.toNat_natCast, List.getElem?_eq_getElem h]
  | succ k => rw [d2iP, if_pos (beq_next L), if_pos (Int.natCast_nonneg L), Int.toNat_natCast, List.getElem?_eq_getElem h]
theorem d2i_val {n : Nat} {ds : List Int} (ok : DigOk n ds) : ∀ (k L m : Nat), 1 ≤ m → L + m ≤ ds.length → m ≤ 2 ^ k → d2iP ds n k L ((L + m : Nat) : Int) = some (val ((2 ^ n : Nat) : Int) ((ds.drop L).take m)) := by
  intro k
  induction k with
  | zero =>
    intro L m h1 h2 h3
    have hm : m = 1 := Nat.le_antisymm h3 h1
    rw [hm]; exact d2i_one 0 _ (by rw [hm] at h2; exact h2)
  | succ k ih =>
    intro L m h1 h2 h3
    by_cases hm : m = 1
    · rw [hm]; exact d2i_one (k + 1) _ (by rw [hm] at h2; exact h2)
    · have hm2 : 2 ≤ m := Nat.lt_of_le_of_ne h1 (Ne.symm hm)
      obtain ⟨a, b, rfl, ha, hb, ha2, hb2, hmid⟩ := halves hm2 h3
      have hle : L + a + b ≤ ds.length := by rw [Nat.add_assoc]; exact h2
      have hhi := ih (L + a) b hb hle hb2
      have hlo := ih L a ha (Nat.le_trans (Nat.le_add_right _ _) hle) ha2
      have hlen := ok.len
      have hb100 : b ≤ 100 := Nat.le_trans (Nat.le_trans (Nat.le_add_left b (L + a)) hle) hlen
      have ha100 : a ≤ 100 := Nat.le_trans (Nat.le_trans (Nat.le_trans (Nat.le_add_left a L) (Nat.le_add_right _ b)) hle) hlen
      have hm1 := val_mid ok (l := (ds.drop (L + a)).take b) (fun d hd => List.mem_of_mem_drop (List.mem_of_mem_take hd)) (Nat.le_trans (List.length_take_le _ _) hb100)
      obtain ⟨s1, s2, s3, s4⟩ := shift_ok (L := L) ok.n2 ha100
      have e1 : ((L + (a + b) : Nat) : Int) = ((L + a + b : Nat) : Int) := congrArg _ (Nat.add_assoc L a b).symm
      rw [d2iP, if_neg (beq_far hm2), hmid L, e1, hhi, hlo]
      simp only [Option.bind_some]
      rw [s1, Int.toNat_natCast, if_pos ⟨Int.natCast_nonneg _, s4, hm1, s2, s3⟩, List.take_add, List.drop_drop, val_append]
      have hl : ((ds.drop L).take a).length = a := by
        rw [List.length_take, List.length_drop, Nat.min_eq_left]
        exact Nat.le_sub_of_add_le (by rw [Nat.add_comm]; exact Nat.le_trans (Nat.le_add_right _ _) hle)
      rw [hl, pow_two_int, Int.add_comm, Int.mul_comm]
      rfl
theorem val_nat {B : Nat} (hB : 1 ≤ B) : ∀ l : List Int, (∀ d ∈ l, 0 ≤ d ∧ d < B) → 0 ≤ val B l ∧ val B l < (B : Int) ^ l.length
  | [], _ => by simp [val]
  | d :: l, h => by
    have ih := val_nat hB l fun x hx => h x (List.mem_cons_of_mem _ hx)
    have hd := h d (List.mem_cons_self ..)
    rw [val, List.length_cons, Int.pow_succ]
    have hB' : (0 : Int) < B := by omega
    have h1 : 0 ≤ (B : Int) * val B l := Int.mul_nonneg (by omega) ih.1
    refine ⟨by omega, ?_⟩
    have h2 : (B : Int) * (val B l + 1) ≤ B * (B : Int) ^ l.length := Int.mul_le_mul_of_nonneg_left (by omega) (by omega)
    rw [Int.mul_add, Int.mul_one, Int.mul_comm (B : Int) ((B : Int) ^ l.length)] at h2
    omega
theorem pw_fdiv {B u v : Int} (h0 : 0 ≤ u) (h1 : u < B) : (u + B * v).fdiv B = v := by
  have hB : 0 < B := Int.lt_of_le_of_lt h0 h1
  rw [Int.fdiv_eq_ediv_of_nonneg _ (Int.le_of_lt hB), Int.add_mul_ediv_left _ _ (Int.ne_of_gt hB), Int.ediv_eq_zero_of_lt h0 h1, Int.zero_add]
noncomputable def putAt (xs : List PV) (L : Nat) (u : List PV) : List PV := xs.take L ++ u ++ xs.drop (L + u.length)
theorem putAt_len {xs u : List PV} {L : Nat} (h : L + u.length ≤ xs.length) : (putAt xs L u).length = xs.length := by
  unfold putAt
  rw [List.length_append, List.length_append, List.length_take, List.length_drop]
  generalize xs.length = a at *
  generalize u.length = b at *
  omega
theorem putAt_two {xs u v : List PV} {L : Nat} (h : L + u.length ≤ xs.length) : putAt (putAt xs L u) (L + u.length) v = putAt xs L (u ++ v) := by
  have hp : (xs.take L ++ u).length = L + u.length := by
    rw [List.length_append, List.length_take, Nat.min_eq_left (Nat.le_trans (Nat.le_add_right _ _) h)]
  unfold putAt
  rw [← hp, List.take_left, List.drop_append, List.drop_eq_nil_of_le (Nat.le_add_right _ _), List.nil_append, Nat.add_sub_cancel_left, List.drop_drop, hp, List.length_append, Nat.add_assoc, List.append_assoc, List.append_assoc, List.append_assoc, List.append_assoc]
theorem putAt_one {xs : List PV} {L : Nat} (p : PV) (h : L < xs.length) : xs.set L p = putAt xs L [p] := by
  unfold putAt
  rw [List.set_eq_take_append_cons_drop, if_pos h, List.append_assoc]; rfl
theorem i2d_one {n : Int} {xs : List PV} {L : Nat} (k : Nat) (d : Int) (h : L < xs.length) (h2 : xs.length ≤ 100) : i2dP n k xs d L ((L + 1 : Nat) : Int) = some (putAt xs L [.int d]) := by
  have c : 0 ≤ (L : Int) ∧ (L : Int) < xs.length ∧ (L : Int) < 2 ^ 60 := ⟨Int.natCast_nonneg L, Int.ofNat_lt.mpr h, Int.lt_of_lt_of_le (Int.ofNat_lt.mpr (Nat.lt_of_lt_of_le h h2)) (by decide)⟩
  rw [← putAt_one _ h]
  cases k with
  | zero => rw [i2dP, if_pos ⟨beq_next L, c⟩, Int.toNat_natCast]
  | succ k => rw [i2dP, if_pos (beq_next L), if_pos c, Int.toNat_natCast]
theorem parts {n a : Nat} {u v : List Int} (hul : u.length = a) (hu : ∀ d ∈ u, 0 ≤ d ∧ d < ((2 ^ n : Nat) : Int)) (hv : ∀ d ∈ v, 0 ≤ d ∧ d < ((2 ^ n : Nat) : Int)) :
    (val ((2 ^ n : Nat) : Int) (u ++ v)).fdiv (2 ^ (n * a)) = val ((2 ^ n : Nat) : Int) v ∧ Builtin.bitXor (val ((2 ^ n : Nat) : Int) (u ++ v)) (val ((2 ^ n : Nat) : Int) v * 2 ^ (n * a)) = val ((2 ^ n : Nat) : Int) u := by
  have hB1 : 1 ≤ 2 ^ n := Nat.one_le_two_pow
  have bu := val_nat hB1 u hu
  have bv := val_nat hB1 v hv
  have hc : (2 : Int) ^ (n * a) = ((2 ^ (n * a) : Nat) : Int) := (Int.natCast_pow 2 (n * a)).symm
  rw [val_append, hul, pow_two_int, hc]
  rw [hul, pow_two_int] at bu
  refine ⟨pw_fdiv bu.1 bu.2, ?_⟩
  obtain ⟨U, hU⟩ := Int.eq_ofNat_of_zero_le bu.1
  obtain ⟨V, hV⟩ := Int.eq_ofNat_of_zero_le bv.1
  rw [hU] at bu ⊢
  rw [hV]
  have h := bitXor_low (v := V) (Int.ofNat_lt.mp bu.2)
  rw [Int.natCast_add, Int.natCast_mul, Int.add_comm] at h
  rw [Int.mul_comm ((V : Nat) : Int)]
  exact h
theorem i2d_val {n : Nat} (hn1 : 1 ≤ n) (hn2 : n ≤ 64) : ∀ (k : Nat) (ds : List Int) (xs : List PV) (L : Nat), 1 ≤ ds.length → L + ds.length ≤ xs.length → xs.length ≤ 100 → ds.length ≤ 2 ^ k → (∀ d ∈ ds, 0 ≤ d ∧ d < ((2 ^ n : Nat) : Int)) →
    i2dP n k xs (val ((2 ^ n : Nat) : Int) ds) L ((L + ds.length : Nat) : Int) = some (putAt xs L (ds.map .int)) := by
  intro k
  induction k with
  | zero =>
    intro ds xs L h1 h2 h3 h4 h6
    obtain ⟨d, rfl⟩ := List.length_eq_one_iff.mp (Nat.le_antisymm h4 h1)
    rw [val_one]
    exact i2d_one 0 d h2 h3
  | succ k ih =>
    intro ds xs L h1 h2 h3 h4 h6
    by_cases hm : ds.length = 1
    · obtain ⟨d, rfl⟩ := List.length_eq_one_iff.mp hm
      rw [val_one]
      exact i2d_one (k + 1) d h2 h3
    · have hm2 : 2 ≤ ds.length := Nat.lt_of_le_of_ne h1 (Ne.symm hm)
      obtain ⟨a, b, hab, ha, hb, ha2, hb2, hmid⟩ := halves hm2 h4
      obtain ⟨u, v, rfl, hul, hvl⟩ : ∃ u v, ds = u ++ v ∧ u.length = a ∧ v.length = b := by
        refine ⟨ds.take a, ds.drop a, (List.take_append_drop _ _).symm, ?_, ?_⟩
        · rw [List.length_take, hab, Nat.min_eq_left (Nat.le_add_right _ _)]
        · rw [List.length_drop, hab, Nat.add_sub_cancel_left]
      have hu6 : ∀ d ∈ u, 0 ≤ d ∧ d < ((2 ^ n : Nat) : Int) := fun d hd => h6 d (List.mem_append_left _ hd)
      have hv6 : ∀ d ∈ v, 0 ≤ d ∧ d < ((2 ^ n : Nat) : Int) := fun d hd => h6 d (List.mem_append_right _ hd)
      obtain ⟨hfd, hx⟩ := parts hul hu6 hv6
      have hle : L + a + b ≤ xs.length := by rw [Nat.add_assoc, ← hab]; exact h2
      have hla : L + a ≤ xs.length := Nat.le_trans (Nat.le_add_right _ _) hle
      have hb100 : b ≤ 100 := Nat.le_trans (Nat.le_trans (Nat.le_add_left b (L + a)) hle) h3
      have ha100 : a ≤ 100 := Nat.le_trans (Nat.le_trans (Nat.le_add_left a L) hla) h3
      have hmidv : isMid (val ((2 ^ n : Nat) : Int) v) = true := by
        refine val_mid (ds := v) ⟨hn1, hn2, Nat.le_trans (Nat.le_of_eq hvl) hb100, fun d hd => ?_⟩ (fun d hd => hd) (Nat.le_trans (Nat.le_of_eq hvl) hb100)
        have h7 := hv6 d hd
        have h8 : (2 : Nat) ^ n ≤ 2 ^ 100 := Nat.pow_le_pow_right (by decide) (Nat.le_trans hn2 (by decide))
        clear h6 hv6 hu6 hmid
        omega
      obtain ⟨s1, s2, s3, s4⟩ := shift_ok (n := n) (L := L) hn2 ha100
      have e1 : ((L + (u ++ v).length : Nat) : Int) = ((L + a + b : Nat) : Int) := by rw [hab, Nat.add_assoc]
      have hx0 := hmid L
      rw [e1] at hx0
      have hbf := beq_far (L := L) hm2
      rw [e1] at hbf
      have i1 := ih u xs L (by rw [hul]; exact ha) (by rw [hul]; exact hla) h3 (by rw [hul]; exact ha2) hu6
      have hpl : (putAt xs L (u.map PV.int)).length = xs.length := putAt_len (by rw [List.length_map, hul]; exact hla)
      have i2 := ih v (putAt xs L (u.map PV.int)) (L + a) (by rw [hvl]; exact hb) (by rw [hvl, hpl]; exact hle) (by rw [hpl]; exact h3) (by rw [hvl]; exact hb2) hv6
      rw [hul] at i1
      rw [hvl] at i2
      have hpt := putAt_two (xs := xs) (u := u.map PV.int) (v := v.map PV.int) (L := L) (by rw [List.length_map, hul]; exact hla)
      rw [List.length_map, hul, ← List.map_append] at hpt
      rw [e1, i2dP, if_neg hbf, hx0, s1, Int.toNat_natCast, hfd, hx, if_pos ⟨Int.natCast_nonneg _, s4, s2, s3, hmidv⟩, i1]
      simp only [Option.bind_some]
      rw [i2, hpt]
theorem pInts_map : ∀ l : List Int, pInts (l.map .int) = some l
  | [] => rfl
  | d :: l => by
    show (pInts (l.map .int)).map _ = _
    rw [pInts_map l]; rfl
theorem d2i_fn {n : Nat} {ds : List Int} (ok : DigOk n ds) (h0 : 1 ≤ ds.length) : fn_d2i [.list (ds.map .int), .int n] [] = some (.int (val ((2 ^ n : Nat) : Int) ds)) := by
  show ((pInts (ds.map .int)).bind fun ds => if ds.length ≤ 1000 then (if ds.isEmpty then some (PV.int 0) else (d2iP ds n 7 0 ds.length).map .int) else none) = _
  rw [pInts_map]
  simp only [Option.bind_some]
  have hne : ds.isEmpty = false := by cases ds with
    | nil => simp at h0
    | cons => rfl
  have hl := ok.len
  have hz : d2iP ds n 7 0 ds.length = some (val ((2 ^ n : Nat) : Int) ds) := by
    have := d2i_val ok 7 0 ds.length h0 (by omega) (Nat.le_trans hl (by decide))
    rw [Nat.zero_add, List.drop_zero, List.take_length] at this
    exact this
  rw [if_pos (by omega), hne]
  simp only [Bool.false_eq_true, if_false]
  rw [hz]; rfl
theorem log_bounds {a n m : Nat} (hn : 1 ≤ n) (hm : 1 ≤ m) (h1 : 2 ^ (n * (m - 1)) ≤ a) (h2 : a < 2 ^ (n * m)) : (a.log2 + n) / n = m := by
  have ha : a ≠ 0 := by
    intro q
    have := Nat.two_pow_pos (n * (m - 1))
    omega
  have b1 : n * (m - 1) ≤ a.log2 := (Nat.le_log2 ha).mpr h1
  have b2 : a.log2 < n * m := (Nat.log2_lt ha).mpr h2
  have e : n * m = n * (m - 1) + n := by
    have : m = (m - 1) + 1 := by omega
    conv => lhs; rw [this, Nat.mul_add, Nat.mul_one]
  refine Nat.div_eq_of_lt_le ?_ ?_
  · rw [Nat.mul_comm]; omega
  · rw [Nat.add_mul, Nat.one_mul, Nat.mul_comm m n]; omega
theorem cnt_fn {n m : Nat} {a : Int} (hn : 1 ≤ n) (hn2 : n ≤ 1000) (hm : 1 ≤ m) (hm2 : m ≤ 100) (h1 : ((2 ^ (n * (m - 1)) : Nat) : Int) ≤ a) (h2 : a < ((2 ^ (n * m) : Nat) : Int)) : f_cnt [.int a, .int n, .undef, .undef] = some (List.replicate m (.int 0)) := by
  have hp := Nat.two_pow_pos (n * (m - 1))
  obtain ⟨x, rfl⟩ := Int.eq_ofNat_of_zero_le (show 0 ≤ a by omega)
  have h1' : 2 ^ (n * (m - 1)) ≤ x := Int.ofNat_le.mp h1
  have h2' : x < 2 ^ (n * m) := Int.ofNat_lt.mp h2
  have hlog := log_bounds hn hm h1' h2'
  have hb : Builtin.Int.intBits (x : Int) = x.log2 + 1 := by
    unfold Builtin.Int.intBits
    rw [if_neg (by simp; omega)]; rfl
  have hk : (kBin pFloorDiv (kBin pSub (kBin pAdd (kMeth0 isIntP pBits (dVar 0)) (dVar 1)) (kC (.int 1))) (dVar 1)) [.int (x : Int), .int n, .undef, .undef] = some (.int m) := by
    refine kBinE (a := .int (((x.log2 + 1 : Nat) : Int) + n - 1)) (b := .int n) ?_ rfl ?_
    · refine kBinE (a := .int (((x.log2 + 1 : Nat) : Int) + n)) (b := .int 1) (kBinE (a := .int ((x.log2 + 1 : Nat) : Int)) (b := .int n) ?_ rfl rfl) rfl rfl
      show some (PV.int (Builtin.Int.intBits (x : Int))) = _
      rw [hb]
    · show (if (n : Int) ≠ 0 ∧ (n : Int).natAbs < 1073741824 then some (PV.int (Int.fdiv _ _)) else none) = _
      rw [if_pos (by omega)]
      have e : (((x.log2 + 1 : Nat) : Int) + n - 1) = ((x.log2 + n : Nat) : Int) := by omega
      rw [e, Int.fdiv_eq_ediv_of_nonneg _ (by omega), ← Int.natCast_ediv, hlog]
  show ((some (PV.list [.int 0])).bind fun a => ((kBin pFloorDiv (kBin pSub (kBin pAdd (kMeth0 isIntP pBits (dVar 0)) (dVar 1)) (kC (.int 1))) (dVar 1)) [.int (x : Int), .int n, .undef, .undef]).bind fun b => match a, b with
      | .list xs, .int n => if 0 ≤ n ∧ n ≤ 1000 ∧ xs.length ≤ 1000 then some (List.replicate n.toNat xs).flatten else none
      | _, _ => none) = _
  rw [hk]
  show (if 0 ≤ (m : Int) ∧ (m : Int) ≤ 1000 ∧ [PV.int 0].length ≤ 1000 then some (List.replicate (m : Int).toNat [PV.int 0]).flatten else none) = _
  rw [if_pos ⟨by omega, by omega, by simp⟩, Int.toNat_natCast]
  simp
theorem val_top {n : Nat} {ds : List Int} (h0 : 1 ≤ ds.length) (hd : ∀ d ∈ ds, 0 ≤ d ∧ d < ((2 ^ n : Nat) : Int)) (ht : 1 ≤ ds.getD (ds.length - 1) 0) : ((2 ^ (n * (ds.length - 1)) : Nat) : Int) ≤ val ((2 ^ n : Nat) : Int) ds := by
  have hs : ds = ds.take (ds.length - 1) ++ [ds.getD (ds.length - 1) 0] := by
    have h1 : ds.drop (ds.length - 1) = [ds.getD (ds.length - 1) 0] := by
      rw [List.drop_eq_getElem_cons (by omega), List.getD_eq_getElem?_getD, List.getElem?_eq_getElem (by omega), show ds.length - 1 + 1 = ds.length by omega, List.drop_length]
      rfl
    rw [← h1, List.take_append_drop]
  have hl : (ds.take (ds.length - 1)).length = ds.length - 1 := by simp
  have hb := val_nat (B := 2 ^ n) Nat.one_le_two_pow (ds.take (ds.length - 1)) fun d h => hd d (List.mem_of_mem_take h)
  have e : val ((2 ^ n : Nat) : Int) ds = val ((2 ^ n : Nat) : Int) (ds.take (ds.length - 1)) + ((2 ^ (n * (ds.length - 1)) : Nat) : Int) * ds.getD (ds.length - 1) 0 := by
    conv => lhs; rw [hs]
    rw [val_append, hl, pow_two_int, val_one]
  rw [e]
  have hp : (0 : Int) ≤ ((2 ^ (n * (ds.length - 1)) : Nat) : Int) := Int.natCast_nonneg _
  have h2 : ((2 ^ (n * (ds.length - 1)) : Nat) : Int) * 1 ≤ ((2 ^ (n * (ds.length - 1)) : Nat) : Int) * ds.getD (ds.length - 1) 0 := Int.mul_le_mul_of_nonneg_left ht hp
  rw [Int.mul_one] at h2
  exact Int.le_trans h2 (Int.le_add_of_nonneg_left hb.1)
theorem i2d_fn {n : Nat} {ds : List Int} (hn1 : 1 ≤ n) (hn2 : n ≤ 64) (h0 : 1 ≤ ds.length) (h1 : ds.length ≤ 100) (hd : ∀ d ∈ ds, 0 ≤ d ∧ d < ((2 ^ n : Nat) : Int)) (ht : 1 ≤ ds.getD (ds.length - 1) 0) :
    fn_i2d [.int (val ((2 ^ n : Nat) : Int) ds), .int n] [] = some (.list (ds.map .int)) := by
  have hb := val_nat (B := 2 ^ n) Nat.one_le_two_pow ds hd
  rw [pow_two_int] at hb
  have hc := cnt_fn (a := val ((2 ^ n : Nat) : Int) ds) hn1 (by omega) h0 h1 (val_top h0 hd ht) hb.2
  have hp := Nat.two_pow_pos (n * (ds.length - 1))
  have ht' := val_top h0 hd ht
  have hne : (val ((2 ^ n : Nat) : Int) ds != 0) = true := by
    have : (0 : Int) < ((2 ^ (n * (ds.length - 1)) : Nat) : Int) := Int.ofNat_lt.mpr hp
    have h5 := Int.lt_of_lt_of_le this ht'
    rw [bne_iff_ne]
    exact Int.ne_of_gt h5
  show ((f_cnt [.int (val ((2 ^ n : Nat) : Int) ds), .int n, .undef, .undef]).bind fun xs => if xs.length ≤ 1000 then (if val ((2 ^ n : Nat) : Int) ds != 0 then (i2dP n 7 xs (val ((2 ^ n : Nat) : Int) ds) 0 xs.length).map PV.list else some (PV.list xs)) else none) = _
  rw [hc]
  simp only [Option.bind_some]
  have hl : (List.replicate ds.length (PV.int 0)).length = ds.length := by simp
  rw [if_pos (by omega), hne, if_pos rfl, hl]
  have this2 := i2d_val hn1 hn2 7 ds (List.replicate ds.length (PV.int 0)) 0 h0 (by rw [hl, Nat.zero_add]; exact Nat.le_refl _) (by rw [hl]; exact h1) (Nat.le_trans h1 (by decide)) hd
  rw [Nat.zero_add] at this2
  have hput : putAt (List.replicate ds.length (PV.int 0)) 0 (ds.map .int) = ds.map .int := by
    unfold putAt
    rw [List.take_zero, List.nil_append, List.length_map, Nat.zero_add, List.drop_eq_nil_of_le (Nat.le_of_eq hl), List.append_nil]
  rw [hput] at this2
  have this3 : i2dP n 7 (List.replicate ds.length (PV.int 0)) (val ((2 ^ n : Nat) : Int) ds) 0 ds.length = _ := this2
  rw [this3]; rfl
theorem val_sub (B : Int) : ∀ (u v : List Int), u.length = v.length → val B u - val B v = val B (List.zipWith (· - ·) u v)
  | [], [], _ => by simp [val]
  | a :: u, b :: v, h => by
    have ih := val_sub B u v (by simpa using h)
    rw [List.zipWith_cons_cons, val, val, val, ← ih, Int.mul_sub]
    omega
  | [], _ :: _, h => by simp at h
  | _ :: _, [], h => by simp at h
theorem digits_of {B : Nat} (hB : 2 ≤ B) : ∀ (k a : Nat), a < B ^ (k + 1) → 1 ≤ a → ∃ ds : List Int, val (B : Int) ds = a ∧ (∀ d ∈ ds, 0 ≤ d ∧ d < (B : Int)) ∧ 1 ≤ ds.length ∧ ds.length ≤ k + 1 ∧ 1 ≤ ds.getD (ds.length - 1) 0
  | 0, a, h, h1 => by
    refine ⟨[(a : Int)], val_one _ _, fun d hd => ?_, by simp, by simp, by simp; omega⟩
    rw [List.mem_singleton.mp hd]
    rw [Nat.pow_one] at h
    omega
  | k + 1, a, h, h1 => by
    by_cases hlt : a < B
    · refine ⟨[(a : Int)], val_one _ _, fun d hd => ?_, by simp, by simp, by simp; omega⟩
      rw [List.mem_singleton.mp hd]
      omega
    · have hdiv : a / B < B ^ (k + 1) := by
        refine Nat.div_lt_of_lt_mul ?_
        rw [Nat.mul_comm]
        rw [Nat.pow_succ] at h; exact h
      have hpos : 1 ≤ a / B := (Nat.one_le_div_iff (by omega)).mpr (by omega)
      obtain ⟨ds, h2, h3, h4, h5, h6⟩ := digits_of hB k (a / B) hdiv hpos
      refine ⟨((a % B : Nat) : Int) :: ds, ?_, fun d hd => ?_, by simp, by simp; omega, ?_⟩
      · rw [val, h2]
        have := Nat.div_add_mod a B
        rw [← Int.natCast_mul, ← Int.natCast_add]
        congr 1
        omega
      · rcases List.mem_cons.mp hd with rfl | hd
        · have := Nat.mod_lt a (show 0 < B by omega)
          omega
        · exact h3 d hd
      · have e : (((a % B : Nat) : Int) :: ds).length - 1 = (ds.length - 1) + 1 := by simp; omega
        rw [e, List.getD_cons_succ]; exact h6
theorem bits_eq {x : Nat} (hx : x ≠ 0) : Builtin.Int.intBits (x : Int) = x.log2 + 1 := by
  unfold Builtin.Int.intBits
  rw [if_neg (by simp; omega)]; rfl
theorem bits_le {x m : Nat} (h : x < 2 ^ m) : Builtin.Int.intBits (x : Int) ≤ m := by
  by_cases hx : x = 0
  · subst hx; unfold Builtin.Int.intBits; simp
  · rw [bits_eq hx]; exact (Nat.log2_lt hx).mpr h
theorem div2n1n_fn {x b : Nat} {n : Int} (hx : x < 2 ^ 200) (hb : 1 ≤ b) (hb2 : b < 2 ^ 60) (hn : 0 ≤ n) : fn_div2n1n [.int x, .int b, .int n] [] = some (.tup [.int ((x / b : Nat) : Int), .int ((x % b : Nat) : Int)]) := by
  show (fb_div2n1n ([.int x, .int b, .int n] ++ List.replicate 8 .undef)).map flOut = _
  unfold fb_div2n1n
  have hbits := bits_le hx
  have ht : (bCmp pLe (kBin pSub (kMeth0 isIntP pBits (dVar 0)) (dVar 2)) (kC (.int 4000))) ([.int x, .int b, .int n] ++ List.replicate 8 .undef) = some true := by
    show some (decide ((Builtin.Int.intBits (x : Int) : Int) - n ≤ 4000)) = _
    rw [decide_eq_true (by omega)]
  have hd : pDivmod [.int x, .int b] = some (.tup [.int ((x / b : Nat) : Int), .int ((x % b : Nat) : Int)]) := by
    have h1 : (b : Int).natAbs < 2 ^ 8000 := by
      have : (2 : Nat) ^ 60 ≤ 2 ^ 8000 := Nat.pow_le_pow_right (by decide) (by decide)
      have h2 : (b : Int).natAbs = b := rfl
      omega
    show (if (b : Int) ≠ 0 ∧ (b : Int).natAbs < 2 ^ 8000 then some (PV.tup [.int ((x : Int).fdiv b), .int ((x : Int).fmod b)]) else none) = _
    rw [if_pos ⟨by omega, h1⟩, Int.fdiv_eq_ediv_of_nonneg _ (by omega), Int.fmod_eq_emod_of_nonneg _ (by omega), Int.natCast_ediv, Int.natCast_emod]
  have h1 : (sIf (bCmp pLe (kBin pSub (kMeth0 isIntP pBits (dVar 0)) (dVar 2)) (kC (.int 4000))) (dSeq (sRet (kCallB pDivmod (lCons (dVar 0) (lCons (dVar 1) lNil)))) sNil) sNil) ([.int x, .int b, .int n] ++ List.replicate 8 .undef) = some (.ret (.tup [.int ((x / b : Nat) : Int), .int ((x % b : Nat) : Int)]), [.int x, .int b, .int n] ++ List.replicate 8 .undef) := by
    refine sIfT ht (dRet ?_)
    have : (kCallB pDivmod (lCons (dVar 0) (lCons (dVar 1) lNil))) ([.int x, .int b, .int n] ++ List.replicate 8 .undef) = _ := kCallBE (lConsE rfl (lCons1 rfl)) hd
    show ((kCallB pDivmod (lCons (dVar 0) (lCons (dVar 1) lNil))) ([.int x, .int b, .int n] ++ List.replicate 8 .undef)).map _ = _
    rw [this]; rfl
  rw [dRet h1]; rfl
theorem euclid {b q m q' m' : Int} (h : b * q + m = b * q' + m') (h1 : 0 ≤ m) (h2 : m < b) (h3 : 0 ≤ m') (h4 : m' < b) : q = q' ∧ m = m' := by
  have hb : 0 < b := by omega
  have e1 : (b * q + m) / b = q := by rw [Int.mul_add_ediv_left _ _ (by omega), Int.ediv_eq_zero_of_lt h1 h2, Int.add_zero]
  have e2 : (b * q' + m') / b = q' := by rw [Int.mul_add_ediv_left _ _ (by omega), Int.ediv_eq_zero_of_lt h3 h4, Int.add_zero]
  have hq : q = q' := by rw [← e1, ← e2, h]
  subst hq
  exact ⟨rfl, by omega⟩
theorem divmod_pos_fn {a b : Nat} {q m : Int} (ha : 1 ≤ a) (ha2 : a < 2 ^ 99) (hb : 1 ≤ b) (hb2 : b < 2 ^ 60) (he : (a : Int) = b * q + m) (hm : 0 ≤ m) (hm2 : m < b) : fn_divmod_pos [.int a, .int b] [] = some (.tup [.int q, .int m]) := by
  have hb0 : b ≠ 0 := by omega
  generalize hn : b.log2 + 1 = n
  have hbits : Builtin.Int.intBits (b : Int) = n := by rw [bits_eq hb0, hn]
  have hbn : b < 2 ^ n := by rw [← hn]; exact (Nat.log2_lt hb0).mp (Nat.lt_succ_self _)
  have hn1 : 1 ≤ n := by omega
  have hn2 : n ≤ 64 := by
    have : b.log2 < 60 := (Nat.log2_lt hb0).mpr hb2
    omega
  have hB2 : 2 ≤ 2 ^ n := by
    have := Nat.pow_le_pow_right (n := 2) (by decide) hn1
    simpa using this
  have hB64 : 2 ^ n ≤ 2 ^ 64 := Nat.pow_le_pow_right (by decide) hn2
  obtain ⟨ds, hv, hd, hl1, hl2, htop⟩ := digits_of hB2 98 a (Nat.lt_of_lt_of_le ha2 (Nat.pow_le_pow_left hB2 99)) ha
  have hi := i2d_fn hn1 hn2 hl1 (by omega) hd htop
  rw [hv] at hi
  show (fb_divmod_pos [.int a, .int b, .undef, .undef, .undef, .undef, .undef, .undef, .undef]).map flOut = _
  unfold fb_divmod_pos
  refine dStepM (ρ1 := [.int a, .int b, .int n, .undef, .undef, .undef, .undef, .undef, .undef]) ?_ ?_
  · show (some (PV.int (Builtin.Int.intBits (b : Int)))).map _ = _
    rw [hbits]; rfl
  refine dStepM (ρ1 := [.int a, .int b, .int n, .list (ds.map .int), .undef, .undef, .undef, .undef, .undef]) (sAssignE (kCallE (lConsE rfl (lCons1 rfl)) hi)) ?_
  refine dStepM (ρ1 := [.int a, .int b, .int n, .list (ds.map .int), .int 0, .undef, .undef, .undef, .undef]) rfl ?_
  refine dStepM (ρ1 := [.int a, .int b, .int n, .list (ds.map .int), .int 0, .own [], .undef, .undef, .undef]) rfl ?_
  have hfi : (iCall pReversed (lCons (dVar 3) lNil)) [.int a, .int b, .int n, .list (ds.map .int), .int 0, .own [], .undef, .undef, .undef] = some (ds.reverse.map .int) := by
    show some (ds.map PV.int).reverse = _
    rw [List.map_reverse]
  have hBc : ((2 ^ n : Nat) : Int) = 2 ^ n := by simp
  obtain ⟨ρ', h1, qs, rr, x1, x2, h2, h3, h4, h5, h6, h7⟩ := forMap (fun (d : Int) => PV.int d) (fun done r => ∃ (qs : List Int) (rr : Nat) (x1 x2 : PV), r = [.int a, .int b, .int n, .list (ds.map .int), .int rr, .own (qs.map .int), x1, x2, .undef] ∧ rr < b ∧ qs.length = done.length ∧
      (∀ x ∈ qs, 0 ≤ x ∧ x < ((2 ^ n : Nat) : Int)) ∧ val ((2 ^ n : Nat) : Int) done.reverse = b * val ((2 ^ n : Nat) : Int) qs.reverse + rr ∧ 0 ≤ val ((2 ^ n : Nat) : Int) done.reverse) ds.reverse []
      [.int a, .int b, .int n, .list (ds.map .int), .int 0, .own [], .undef, .undef, .undef] (ft := tSet 6) (fb := (dSeq (sTup (kCall fn_div2n1n [] (lCons (kBin pAdd (kBin pShl (dVar 4) (dVar 2)) (dVar 6)) (lCons (dVar 1) (lCons (dVar 2) lNil))) lNil) (ftTup 2 (ftCons (tSet 7) (ftCons (tSet 4) ftNil))))
  (dSeq (fOwn cx_divmod_pos (lCons (dVar 7) lNil) pAppend)
  sNil))) (by
    rintro done d rest r hdr ⟨qs, rr, x1, x2, rfl, h3, h4, h5, h6, h7⟩
    rw [List.nil_append] at hdr
    have hdm : d ∈ ds := by
      have : d ∈ ds.reverse := by rw [hdr]; simp
      exact List.mem_reverse.mp this
    have hd0 := hd d hdm
    obtain ⟨D, rfl⟩ := Int.eq_ofNat_of_zero_le hd0.1
    have hD : D < 2 ^ n := Int.ofNat_lt.mp hd0.2
    have hdl : done.length < ds.length := by
      have := congrArg List.length hdr
      simp at this; omega
    have hx : rr * 2 ^ n + D < b * 2 ^ n := by
      have := Nat.mul_le_mul_right (2 ^ n) (show rr + 1 ≤ b by omega)
      rw [Nat.add_mul, Nat.one_mul] at this
      omega
    have hx2 : rr * 2 ^ n + D < 2 ^ 200 := by
      have h8 : b * 2 ^ n ≤ 2 ^ 60 * 2 ^ 64 := Nat.mul_le_mul (by omega) hB64
      have h9 : (2 : Nat) ^ 60 * 2 ^ 64 < 2 ^ 200 := by decide
      omega
    have hdv := div2n1n_fn (x := rr * 2 ^ n + D) (b := b) (n := (n : Int)) hx2 hb hb2 (by omega)
    have hsh : (kBin pAdd (kBin pShl (dVar 4) (dVar 2)) (dVar 6)) [.int a, .int b, .int n, .list (ds.map .int), .int rr, .own (qs.map .int), .int (D : Int), x2, .undef] = some (.int ((rr * 2 ^ n + D : Nat) : Int)) := by
      refine kBinE (a := .int ((rr * 2 ^ n : Nat) : Int)) (b := .int (D : Int)) (kBinE (a := .int rr) (b := .int n) rfl rfl ?_) rfl ?_
      · show (if 0 ≤ (n : Int) ∧ (n : Int) ≤ 1000000 ∧ isMid rr then some (PV.int ((rr : Int) * 2 ^ (n : Int).toNat)) else none) = _
        rw [if_pos ⟨by omega, by omega, isMid_small (by
          have : (rr : Int).natAbs = rr := rfl
          have h9 : (2 : Nat) ^ 60 < 2 ^ 100 := by decide
          omega)⟩, Int.toNat_natCast]
        congr 2
      · show some (PV.int (((rr * 2 ^ n : Nat) : Int) + (D : Int))) = _
        rw [Int.natCast_add]
    refine ⟨[.int a, .int b, .int n, .list (ds.map .int), .int rr, .own (qs.map .int), .int (D : Int), x2, .undef],
      [.int a, .int b, .int n, .list (ds.map .int), .int (((rr * 2 ^ n + D) % b : Nat) : Int), .own ((qs ++ [(((rr * 2 ^ n + D) / b : Nat) : Int)]).map .int), .int (D : Int), .int (((rr * 2 ^ n + D) / b : Nat) : Int), .undef], rfl, ?_, qs ++ [(((rr * 2 ^ n + D) / b : Nat) : Int)], (rr * 2 ^ n + D) % b, _, _, rfl, Nat.mod_lt _ (by omega), by simp [h4], fun x hx => ?_, ?_, ?_⟩
    · refine dStep (ρ1 := [.int a, .int b, .int n, .list (ds.map .int), .int (((rr * 2 ^ n + D) % b : Nat) : Int), .own (qs.map .int), .int (D : Int), .int (((rr * 2 ^ n + D) / b : Nat) : Int), .undef]) ?_ ?_
      · have : (kCall fn_div2n1n [] (lCons (kBin pAdd (kBin pShl (dVar 4) (dVar 2)) (dVar 6)) (lCons (dVar 1) (lCons (dVar 2) lNil))) lNil) [.int a, .int b, .int n, .list (ds.map .int), .int rr, .own (qs.map .int), .int (D : Int), x2, .undef] = _ := kCallE (lConsE hsh (lConsE rfl (lCons1 rfl))) hdv
        show ((kCall _ _ _ _) _).bind _ = _
        rw [this]; rfl
      · refine dStep (fOwnE (xs := qs.map .int) (ps := [.int (((rr * 2 ^ n + D) / b : Nat) : Int)]) (ys := (qs ++ [(((rr * 2 ^ n + D) / b : Nat) : Int)]).map .int) rfl (lCons1 rfl) ?_) rfl
        show (if (qs.map PV.int).length ≤ 1000000 then some (qs.map PV.int ++ [PV.int (((rr * 2 ^ n + D) / b : Nat) : Int)]) else none) = _
        rw [if_pos (by simp; omega), List.map_append]; rfl
    · rcases List.mem_append.mp hx with hx | hx
      · exact h5 x hx
      · rw [List.mem_singleton.mp hx]
        have : (rr * 2 ^ n + D) / b < 2 ^ n := Nat.div_lt_of_lt_mul (by omega)
        exact ⟨Int.natCast_nonneg _, Int.ofNat_lt.mpr this⟩
    · rw [List.reverse_append, List.reverse_append]
      show val _ ((D : Int) :: done.reverse) = b * val _ ((((rr * 2 ^ n + D) / b : Nat) : Int) :: qs.reverse) + _
      rw [val, val, h6]
      have hdm2 := Nat.div_add_mod (rr * 2 ^ n + D) b
      have hdm3 : ((b * ((rr * 2 ^ n + D) / b) + (rr * 2 ^ n + D) % b : Nat) : Int) = ((rr * 2 ^ n + D : Nat) : Int) := by rw [hdm2]
      rw [Int.natCast_add, Int.natCast_mul, Int.natCast_add, Int.natCast_mul] at hdm3
      rw [Int.mul_add, Int.mul_add, Int.mul_left_comm (b : Int), Int.mul_comm (((2 ^ n : Nat) : Int)) (rr : Int)]
      omega
    · rw [List.reverse_append]
      show 0 ≤ val _ ((D : Int) :: done.reverse)
      rw [val]
      have := Int.mul_nonneg (Int.natCast_nonneg (2 ^ n)) h7
      omega) ⟨[], 0, _, _, rfl, by omega, rfl, (fun x hx => by cases hx), (by simp [val]), (by simp [val])⟩
  rw [List.nil_append] at h4 h6
  rw [List.reverse_reverse, hv] at h6
  simp only [List.length_reverse] at h4
  have hqr := euclid (b := (b : Int)) (q := q) (m := m) (q' := val ((2 ^ n : Nat) : Int) qs.reverse) (m' := rr) (by rw [← he]; exact h6) hm hm2 (by omega) (by omega)
  refine dStepM (sForStep hfi h1) ?_
  rw [h2]
  refine dStepM (ρ1 := [.int a, .int b, .int n, .list (ds.map .int), .int rr, .own (qs.reverse.map .int), x1, x2, .undef]) ?_ ?_
  · show (if (qs.map PV.int).length ≤ 1000000 then some (qs.map PV.int).reverse else none).map _ = _
    rw [if_pos (by simp; omega), List.map_reverse]; rfl
  show ((dSeq _ _) [.int a, .int b, .int n, .list (ds.map .int), .int rr, .list (qs.reverse.map .int), x1, x2, .undef]).map flOut = _
  have hd2 := d2i_fn (n := n) (ds := qs.reverse) ⟨hn1, hn2, by simp; omega, fun d hd => by
    have := h5 d (List.mem_reverse.mp hd)
    have h9 : (2 : Nat) ^ 64 ≤ 2 ^ 100 := by decide
    omega⟩ (by simp; omega)
  refine dStepM (ρ1 := [.int a, .int b, .int n, .list (ds.map .int), .int rr, .list (qs.reverse.map .int), x1, x2, .int q]) ?_ ?_
  · rw [hqr.1]
    exact sAssignE (kCallE (lConsE rfl (lCons1 rfl)) hd2)
  · rw [hqr.2]; rfl
theorem idm1_fn {a b : Nat} {q m : Int} (ha : 1 ≤ a) (ha2 : a < 2 ^ 99) (hb : 1 ≤ b) (hb2 : b < 2 ^ 60) (he : (a : Int) = b * q + m) (hm : 0 ≤ m) (hm2 : m < b) : fn_idm1 [.int a, .int b] [] = some (.tup [.int q, .int m]) := by
  have h := divmod_pos_fn ha ha2 hb hb2 he hm hm2
  show (fb_idm1 [.int a, .int b, .undef, .undef]).map flOut = _
  unfold fb_idm1
  refine (congrArg (Option.map flOut) (dRet (v := .tup [.int q, .int m]) (ρ1 := [.int a, .int b, .undef, .undef]) ?_)).trans rfl
  refine sIfF (by show some ((b : Int) == 0) = _; rw [show ((b : Int) == 0) = false by simp; omega]) (dRet ?_)
  refine sIfF (by show some (decide ((b : Int) < 0)) = _; rw [decide_eq_false (by omega)]) (dRet ?_)
  refine sIfF (by show some (decide ((a : Int) < 0)) = _; rw [decide_eq_false (by omega)]) (dRet ?_)
  have h2 : (kCall fn_divmod_pos [] (lCons (dVar 0) (lCons (dVar 1) lNil)) lNil) [.int a, .int b, .undef, .undef] = _ := kCallE (lConsE rfl (lCons1 rfl)) h
  show ((kCall _ _ _ _) _).map _ = _
  rw [h2]; rfl
theorem idm2_fn {a q m : Int} {b : Nat} (ha : 1 ≤ a ∨ a ≤ -2) (ha2 : a.natAbs < 2 ^ 99) (hb : 1 ≤ b) (hb2 : b < 2 ^ 60) (he : a = b * q + m) (hm : 0 ≤ m) (hm2 : m < b) : fn_idm2 [.int a, .int b] [] = some (.tup [.int q, .int m]) := by
  show (fb_idm2 [.int a, .int b, .undef, .undef]).map flOut = _
  unfold fb_idm2
  have hb0 : (bCmp pEq (dVar 1) (kC (.int 0))) [.int a, .int b, .undef, .undef] = some false := by
    show some ((b : Int) == 0) = _; rw [show ((b : Int) == 0) = false by simp; omega]
  have hbn : (bCmp pLt (dVar 1) (kC (.int 0))) [.int a, .int b, .undef, .undef] = some false := by
    show some (decide ((b : Int) < 0)) = _; rw [decide_eq_false (by omega)]
  rcases ha with ha | ha
  · obtain ⟨x, rfl⟩ := Int.eq_ofNat_of_zero_le (show 0 ≤ a by omega)
    have h := divmod_pos_fn (a := x) (b := b) (by omega) ha2 hb hb2 he hm hm2
    refine (congrArg (Option.map flOut) (dRet (v := .tup [.int q, .int m]) (ρ1 := [.int x, .int b, .undef, .undef]) ?_)).trans rfl
    refine sIfF hb0 (dRet ?_)
    refine sIfF hbn (dRet ?_)
    refine sIfF (by show some (decide ((x : Int) < 0)) = _; rw [decide_eq_false (by omega)]) (dRet ?_)
    have h2 : (kCall fn_divmod_pos [] (lCons (dVar 0) (lCons (dVar 1) lNil)) lNil) [.int x, .int b, .undef, .undef] = _ := kCallE (lConsE rfl (lCons1 rfl)) h
    show ((kCall _ _ _ _) _).map _ = _
    rw [h2]; rfl
  · obtain ⟨x, hx⟩ := Int.eq_ofNat_of_zero_le (show 0 ≤ -a - 1 by omega)
    have hx2 : -a - 1 = (x : Int) := hx
    have h := idm1_fn (a := x) (b := b) (q := -q - 1) (m := b - m - 1) (by omega) (by omega) hb hb2 (by rw [← hx2, he, Int.mul_sub, Int.mul_neg, Int.mul_one]; omega) (by omega) (by omega)
    refine (congrArg (Option.map flOut) (dRet (v := .tup [.int q, .int m]) (ρ1 := [.int a, .int b, .int (-q - 1), .int (b - m - 1)]) ?_)).trans rfl
    refine sIfF hb0 (dRet ?_)
    refine sIfF hbn (dRet ?_)
    refine sIfT (by show some (decide (a < 0)) = _; rw [decide_eq_true (by omega)]) ?_
    refine dStep (ρ1 := [.int a, .int b, .int (-q - 1), .int (b - m - 1)]) ?_ (dRet ?_)
    · have hinv : (kUn pInv (dVar 0)) [.int a, .int b, .undef, .undef] = some (.int x) := by
        show some (PV.int (Builtin.bitNot a)) = _
        unfold Builtin.bitNot
        rw [hx2]
      have h2 : (kCall fn_idm1 [] (lCons (kUn pInv (dVar 0)) (lCons (dVar 1) lNil)) lNil) [.int a, .int b, .undef, .undef] = _ := kCallE (lConsE hinv (lCons1 rfl)) h
      show ((kCall _ _ _ _) _).bind _ = _
      rw [h2]; rfl
    · have e1 : -(-q - 1) - 1 = q := by omega
      have e2 : (b : Int) + (-(b - m - 1) - 1) = m := by omega
      show some (Fl.ret (PV.tup [.int (-(-q - 1) - 1), .int ((b : Int) + (-(b - m - 1) - 1))]), _) = _
      rw [e1, e2]
theorem idm3_fn {a b q m : Int} (ha : 2 ≤ a.natAbs) (ha2 : a.natAbs < 2 ^ 99) (hb : b ≠ 0) (hb2 : b.natAbs < 2 ^ 60) (he : a = b * q + m) (hm : (0 ≤ m ∧ m < b) ∨ (b < m ∧ m ≤ 0)) : fn_idm3 [.int a, .int b] [] = some (.tup [.int q, .int m]) := by
  show (fb_idm3 [.int a, .int b, .undef, .undef]).map flOut = _
  unfold fb_idm3
  have hb0 : (bCmp pEq (dVar 1) (kC (.int 0))) [.int a, .int b, .undef, .undef] = some false := by
    show some (b == 0) = _; rw [show (b == 0) = false by simpa using hb]
  rcases hm with hm | hm
  · obtain ⟨y, rfl⟩ := Int.eq_ofNat_of_zero_le (show 0 ≤ b by omega)
    have hbn : (bCmp pLt (dVar 1) (kC (.int 0))) [.int a, .int (y : Int), .undef, .undef] = some false := by
      show some (decide ((y : Int) < 0)) = _; rw [decide_eq_false (by omega)]
    by_cases han : a < 0
    · obtain ⟨x, hx⟩ := Int.eq_ofNat_of_zero_le (show 0 ≤ -a - 1 by omega)
      have hx2 : -a - 1 = (x : Int) := hx
      have h := idm2_fn (a := (x : Int)) (b := y) (q := -q - 1) (m := y - m - 1) (.inl (by omega)) (by omega) (by omega) (by omega) (by rw [← hx2, he, Int.mul_sub, Int.mul_neg, Int.mul_one]; omega) (by omega) (by omega)
      refine (congrArg (Option.map flOut) (dRet (v := .tup [.int q, .int m]) (ρ1 := [.int a, .int (y : Int), .int (-q - 1), .int (y - m - 1)]) ?_)).trans rfl
      refine sIfF hb0 (dRet ?_)
      refine sIfF hbn (dRet ?_)
      refine sIfT (by show some (decide (a < 0)) = _; rw [decide_eq_true han]) ?_
      refine dStep (ρ1 := [.int a, .int (y : Int), .int (-q - 1), .int (y - m - 1)]) ?_ (dRet ?_)
      · have hinv : (kUn pInv (dVar 0)) [.int a, .int (y : Int), .undef, .undef] = some (.int x) := by
          show some (PV.int (Builtin.bitNot a)) = _
          unfold Builtin.bitNot
          rw [hx2]
        have h2 : (kCall fn_idm2 [] (lCons (kUn pInv (dVar 0)) (lCons (dVar 1) lNil)) lNil) [.int a, .int (y : Int), .undef, .undef] = _ := kCallE (lConsE hinv (lCons1 rfl)) h
        show ((kCall _ _ _ _) _).bind _ = _
        rw [h2]; rfl
      · have e1 : -(-q - 1) - 1 = q := by omega
        have e2 : (y : Int) + (-(y - m - 1) - 1) = m := by omega
        show some (Fl.ret (PV.tup [.int (-(-q - 1) - 1), .int ((y : Int) + (-(y - m - 1) - 1))]), _) = _
        rw [e1, e2]
    · obtain ⟨x, rfl⟩ := Int.eq_ofNat_of_zero_le (show 0 ≤ a by omega)
      have h := divmod_pos_fn (a := x) (b := y) (q := q) (m := m) (by omega) ha2 (by omega) hb2 he hm.1 hm.2
      refine (congrArg (Option.map flOut) (dRet (v := .tup [.int q, .int m]) (ρ1 := [.int x, .int (y : Int), .undef, .undef]) ?_)).trans rfl
      refine sIfF hb0 (dRet ?_)
      refine sIfF hbn (dRet ?_)
      refine sIfF (by show some (decide ((x : Int) < 0)) = _; rw [decide_eq_false (by omega)]) (dRet ?_)
      have h2 : (kCall fn_divmod_pos [] (lCons (dVar 0) (lCons (dVar 1) lNil)) lNil) [.int x, .int (y : Int), .undef, .undef] = _ := kCallE (lConsE rfl (lCons1 rfl)) h
      show ((kCall _ _ _ _) _).map _ = _
      rw [h2]; rfl
  · obtain ⟨y, hy⟩ := Int.eq_ofNat_of_zero_le (show 0 ≤ -b by omega)
    have hy2 : -b = (y : Int) := hy
    have hbn : (bCmp pLt (dVar 1) (kC (.int 0))) [.int a, .int b, .undef, .undef] = some true := by
      show some (decide (b < 0)) = _; rw [decide_eq_true (by omega)]
    have h := idm2_fn (a := -a) (b := y) (q := q) (m := -m) (by omega) (by omega) (by omega) (by omega) (by rw [← hy2, he, Int.neg_mul]; omega) (by omega) (by omega)
    refine (congrArg (Option.map flOut) (dRet (v := .tup [.int q, .int m]) (ρ1 := [.int a, .int b, .int q, .int (-m)]) ?_)).trans rfl
    refine sIfF hb0 (dRet ?_)
    refine sIfT hbn ?_
    refine dStep (ρ1 := [.int a, .int b, .int q, .int (-m)]) ?_ (dRet ?_)
    · have hn2 : (kUn pNeg (dVar 1)) [.int a, .int b, .undef, .undef] = some (.int (y : Int)) := by
        show some (PV.int (-b)) = _
        rw [hy2]
      have h2 : (kCall fn_idm2 [] (lCons (kUn pNeg (dVar 0)) (lCons (kUn pNeg (dVar 1)) lNil)) lNil) [.int a, .int b, .undef, .undef] = _ := kCallE (lConsE rfl (lCons1 hn2)) h
      show ((kCall _ _ _ _) _).bind _ = _
      rw [h2]; rfl
    · have e1 : -(-m) = m := by omega
      show some (Fl.ret (PV.tup [.int q, .int (-(-m))]), _) = _
      rw [e1]
theorem ints_map : ∀ l : List Int, ints? (l.map .int) = some l
  | [] => rfl
  | d :: l => by
    show (ints? (l.map .int)).map _ = _
    rw [ints_map l]; rfl
theorem sum_ints (l : List Int) : ∃ s : Int, pSum [.list (l.map .int)] = some (.int s) := by
  refine ⟨preSum (atI l) l.length, ?_⟩
  show (ints? (l.map .int)).map _ = _
  rw [ints_map]; rfl
theorem pickL_map {α β : Type} (f : α → β) (xs : List α) (l : List Nat) : pickL (xs.map f) l = (pickL xs l).map f := by
  unfold pickL
  rw [List.map_filterMap]
  congr 1
  funext i
  simp
theorem sliceSt_ints (l : List Int) (k : Int) (h : l.length ≤ 1000000) : ∃ l2 : List Int, pSliceSt (.list (l.map .int)) (.int k) .none 5 = some (.list (l2.map .int)) := by
  refine ⟨pickL l (sliceRange (sliceBounds (some k) none (some 5) (l.map PV.int).length).1 (sliceBounds (some k) none (some 5) (l.map PV.int).length).2.1 (sliceBounds (some k) none (some 5) (l.map PV.int).length).2.2), ?_⟩
  show (if (l.map PV.int).length ≤ 1000000 ∧ (5 : Int) ≠ 0 then some (PV.list (pickL (l.map PV.int) _)) else none) = _
  rw [if_pos ⟨by simpa using h, by decide⟩, pickL_map]
noncomputable def menuT : List (List Tk) := [[], [.q], [.ec], [.eo], [.eq]]
theorem menuT_ok : ∀ p ∈ menuT, ign p = true ∧ p.length ≤ 1 := by decide
theorem fmod_lt (a : Int) {n : Nat} (hn : 1 ≤ n) : ∃ r : Nat, a.fmod n = r ∧ r < n := by
  have h1 := Int.fmod_nonneg_of_pos a (show (0 : Int) < n by omega)
  have h2 := Int.fmod_lt_of_pos a (show (0 : Int) < n by omega)
  exact ⟨(a.fmod n).toNat, by omega, by omega⟩
noncomputable def menuV : PV := .list [.str [], .str [34, 41, 34], .str [92, 41], .str [92, 40], .str [92, 34]]
theorem menu_at (x : Int) : ∃ p ∈ menuT, pItem menuV (.int (x.fmod 5)) = some (.str (flat p)) := by
  obtain ⟨r, hr, hlt⟩ := fmod_lt x (n := 5) (by decide)
  have hr' : x.fmod 5 = r := hr
  rw [hr']
  match r, hlt with
  | 0, _ => exact ⟨[], by decide, by kernel_rfl⟩
  | 1, _ => exact ⟨[.q], by decide, by kernel_rfl⟩
  | 2, _ => exact ⟨[.ec], by decide, by kernel_rfl⟩
  | 3, _ => exact ⟨[.eo], by decide, by kernel_rfl⟩
  | 4, _ => exact ⟨[.eq], by decide, by kernel_rfl⟩
  | r + 5, h => omega
noncomputable def pieceE : DE := kBin pItem (dVar 0) (kBin pMod (kBin pAdd (dVar 3) (kCallB pSum (lCons (kSliceSt (dVar 1) (dVar 2) (kC .none) 5) lNil))) (kC (.int 5)))
theorem piece_at (told : List Int) (h : told.length ≤ 1000000) (k x : Int) : ∃ p ∈ menuT, pieceE [menuV, .list (told.map .int), .int k, .int x] = some (.str (flat p)) := by
  obtain ⟨l2, h2⟩ := sliceSt_ints told k h
  obtain ⟨s, hs⟩ := sum_ints l2
  obtain ⟨p, hp, h3⟩ := menu_at (x + s)
  refine ⟨p, hp, ?_⟩
  refine kBinE (a := menuV) (b := .int ((x + s).fmod 5)) rfl (kBinE (a := .int (x + s)) (b := .int 5) (kBinE (a := .int x) (b := .int s) rfl (kCallBE (l := [.list (l2.map .int)]) (lCons1 h2) hs) rfl) rfl rfl) h3
theorem pieces_fn (told : List Int) (h : told.length ≤ 1000000) {ρ : List PV} (h5 : ρ.getD 5 .undef = menuV) (h1 : ρ.getD 1 .undef = .list (told.map .int)) :
    ∃ p0 p1 p2, p0 ∈ menuT ∧ p1 ∈ menuT ∧ p2 ∈ menuT ∧ (kBin pAdd (fun ρ => ((lComp [((Str.ofString "menu"), 5), ((Str.ofString "told"), 1)] [(Str.ofString "k"), (Str.ofString "one")] (iCall pEnum (lCons (fun ρ => ((lCons (kC (.int 1)) (lCons (kC (.int 2)) (lCons (kC (.int 3)) lNil))) ρ).map .list) lNil)) (ftTup 2 (ftCons (tSet 2) (ftCons (tSet 3) ftNil))) bT (eElt pieceE)) ρ).map .list) (fun ρ => ((lCons (kC (.str [])) (lCons (kC (.str [])) (lCons (kC (.str [])) (lCons (kC (.str [])) (lCons (kC (.str [])) lNil))))) ρ).map .list)) ρ = some (pcV [p0, p1, p2, [], [], [], [], []]) := by
  obtain ⟨p0, hp0, e0⟩ := piece_at told h 0 1
  obtain ⟨p1, hp1, e1⟩ := piece_at told h 1 2
  obtain ⟨p2, hp2, e2⟩ := piece_at told h 2 3
  refine ⟨p0, p1, p2, hp0, hp1, hp2, ?_⟩
  have hin : inR [((Str.ofString "menu"), 5), ((Str.ofString "told"), 1)] [(Str.ofString "k"), (Str.ofString "one")] ρ = [menuV, .list (told.map .int), .undef, .undef] := by
    show [ρ.getD 5 .undef, ρ.getD 1 .undef, .undef, .undef] = _
    rw [h5, h1]
  have turn : ∀ (k x : Int) (p : List Tk) (a b : PV) (ps acc : List PV), pieceE [menuV, .list (told.map .int), .int k, .int x] = some (.str (flat p)) → acc.length ≤ 1000000 →
      compF (ftTup 2 (ftCons (tSet 2) (ftCons (tSet 3) ftNil))) bT (eElt pieceE) (.tup [.int k, .int x] :: ps) [menuV, .list (told.map .int), a, b] acc = compF (ftTup 2 (ftCons (tSet 2) (ftCons (tSet 3) ftNil))) bT (eElt pieceE) ps [menuV, .list (told.map .int), .int k, .int x] (acc ++ [.str (flat p)]) := by
    intro k x p a b ps acc h1 h2
    have : eElt pieceE [menuV, .list (told.map .int), .int k, .int x] acc = some ([menuV, .list (told.map .int), .int k, .int x], acc ++ [.str (flat p)]) := by
      show (pieceE _).bind _ = _
      rw [h1]
      show (if acc.length ≤ 1000000 then _ else _) = _
      rw [if_pos h2]
    show (eElt pieceE [menuV, .list (told.map .int), .int k, .int x] acc).bind _ = _
    rw [this]; rfl
  have hc : (lComp [((Str.ofString "menu"), 5), ((Str.ofString "told"), 1)] [(Str.ofString "k"), (Str.ofString "one")] (iCall pEnum (lCons (fun ρ => ((lCons (kC (.int 1)) (lCons (kC (.int 2)) (lCons (kC (.int 3)) lNil))) ρ).map .list) lNil)) (ftTup 2 (ftCons (tSet 2) (ftCons (tSet 3) ftNil))) bT (eElt pieceE)) ρ = some [.str (flat p0), .str (flat p1), .str (flat p2)] := by
    show (compF _ _ _ [.tup [.int 0, .int 1], .tup [.int 1, .int 2], .tup [.int 2, .int 3]] (inR _ _ ρ) []).map _ = _
    rw [hin, turn 0 1 p0 _ _ _ _ e0 (by simp), turn 1 2 p1 _ _ _ _ e1 (by simp), turn 2 3 p2 _ _ _ _ e2 (by simp)]
    rfl
  refine kBinE (a := .list [.str (flat p0), .str (flat p1), .str (flat p2)]) (b := .list [.str [], .str [], .str [], .str [], .str []]) ?_ rfl rfl
  show Option.map PV.list (lComp _ _ _ _ _ _ ρ) = _
  rw [hc]; rfl
theorem take_slice (l : List Int) (h : l.length ≤ 1000000) : pSlice (.list (l.map .int)) .none (.int 60) = some (.list ((l.take 60).map .int)) := by
  show (if (l.map PV.int).length ≤ 1000000 then some (PV.list (cut (l.map PV.int) none (some 60))) else none) = _
  rw [if_pos (by simpa using h)]
  congr 2
  by_cases hl : 60 ≤ l.length
  · have := cut_to (xs := l.map PV.int) (b := 60) (by simpa using hl)
    rw [List.map_take]; exact this
  · unfold cut
    simp only [Option.elim]
    have : clipAt (l.map PV.int).length 60 = l.length := by
      unfold clipAt
      rw [if_neg (by omega), Int.min_eq_right (by simp; omega), Int.max_eq_right (by omega)]
      simp
    rw [this, List.take_of_length_le (by simp), List.take_of_length_le (by omega)]
    simp
theorem piecesOk {p0 p1 p2 : List Tk} (h0 : p0 ∈ menuT) (h1 : p1 ∈ menuT) (h2 : p2 ∈ menuT) {bs : List Bool} (hb : bs.length ≤ 8) : RowOk bs [p0, p1, p2, [], [], [], [], []] := by
  refine ⟨by simpa using hb, by omega, ?_, fun p hp => ?_⟩
  · simp only [List.all_cons, List.all_nil, (menuT_ok p0 h0).1, (menuT_ok p1 h1).1, (menuT_ok p2 h2).1]; rfl
  · simp only [List.mem_cons, List.not_mem_nil, or_false] at hp
    rcases hp with rfl | rfl | rfl | rfl | rfl | rfl | rfl | rfl
    · exact (menuT_ok _ h0).2
    · exact (menuT_ok _ h1).2
    · exact (menuT_ok _ h2).2
    all_goals exact Nat.zero_le _
theorem minTo_ge (G : Int) (f : Nat → Int) : ∀ k, G ≤ minTo f k ↔ ∀ i, i ≤ k → G ≤ f i
  | 0 => by
    rw [minTo]
    exact ⟨fun h i hi => by rw [show i = 0 by omega]; exact h, fun h => h 0 (Nat.le_refl _)⟩
  | k + 1 => by
    have ih := minTo_ge G f k
    rw [minTo]
    constructor
    · intro h i hi
      by_cases hk : i = k + 1
      · subst hk
        split at h <;> omega
      · refine ih.mp ?_ i (by omega)
        split at h <;> omega
    · intro h
      have h1 := ih.mpr fun i hi => h i (by omega)
      have h2 := h (k + 1) (Nat.le_refl _)
      split <;> omega
theorem dig_test (G : Int) (X : List Int) (h : 1 ≤ X.length) : ∃ m : Int, pMin [.list ((X.map (G + ·)).map .int)] = some (.int m) ∧ decide (m ≥ G) = X.all fun d => decide (0 ≤ d) := by
  refine ⟨minTo (atI (X.map (G + ·))) ((X.map (G + ·)).length - 1), ?_, ?_⟩
  · show ((ints? ((X.map (G + ·)).map .int)).bind fun ns => if 0 < ns.length then some (PV.int (minTo (atI ns) (ns.length - 1))) else none) = _
    rw [ints_map]
    simp only [Option.bind_some]
    rw [if_pos (by simp; omega)]
  · rw [Bool.eq_iff_iff]
    simp only [decide_eq_true_eq, List.all_eq_true]
    show G ≤ _ ↔ _
    rw [minTo_ge]
    constructor
    · intro h1 d hd
      obtain ⟨i, hi⟩ := List.getElem?_of_mem hd
      have hlt := (List.getElem?_eq_some_iff.mp hi).1
      have := h1 i (by simp; omega)
      unfold atI at this
      rw [List.getD_eq_getElem?_getD, List.getElem?_map, hi] at this
      simp at this; omega
    · intro h1 i hi
      simp at hi
      have hlt : i < X.length := by omega
      have := h1 X[i] (List.getElem_mem _)
      unfold atI
      rw [List.getD_eq_getElem?_getD, List.getElem?_map, List.getElem?_eq_getElem hlt]
      simp; omega
noncomputable def digB (D : List Int) (p n : Nat) : List PV := ((List.range n).map fun j => if ((D.drop (j * p)).take p).all (fun d => decide (0 ≤ d)) then [PV.int j] else []).flatten
theorem mul_small {a b : Int} (ha : a.natAbs < 2 ^ 90) (hb : b.natAbs < 2 ^ 90) : pMul (.int a) (.int b) = some (.int (a * b)) := by
  show (if isMid a && isMid b then some (PV.int (a * b)) else none) = _
  have h9 : (2 : Nat) ^ 90 < 2 ^ 100 := by decide
  rw [isMid_small (by omega), isMid_small (by omega)]; rfl
theorem small_nat {x : Nat} (h : x ≤ 100000) : (x : Int).natAbs < 2 ^ 90 := by
  have h1 : (100000 : Nat) < 2 ^ 90 := by decide
  have h2 : (x : Int).natAbs = x := rfl
  omega
theorem digits_comp {p n : Nat} {D : List Int} {G : Int} {rows ρ : List PV} (hp : 1 ≤ p) (hp2 : p ≤ 10) (hn : n ≤ 100) (hD : D.length = n * p) (h18 : ρ.getD 18 .undef = .list ((D.map (G + ·)).map .int)) (h3 : ρ.getD 3 .undef = .int p) (h16 : ρ.getD 16 .undef = .int G) (h7 : ρ.getD 7 .undef = .list rows) (hr : rows.length = n) :
    lComp [((Str.ofString "digits"), 18), ((Str.ofString "pairs"), 3), ((Str.ofString "guard"), 16)] [(Str.ofString "j")] (iCall pRange (lCons (kCallB pLen (lCons (dVar 7) lNil)) lNil)) (tSet 3) (bCmp pGe (kCallB pMin (lCons (kSlice (dVar 0) (kBin pMul (dVar 3) (dVar 1)) (kBin pMul (kBin pAdd (dVar 3) (kC (.int 1))) (dVar 1))) lNil)) (dVar 2)) (eElt (dVar 3)) ρ = some (digB D p n) := by
  have hnp : n * p ≤ 100 * 10 := Nat.mul_le_mul hn hp2
  have hv7 : dVar 7 ρ = some (.list rows) := by unfold dVar; rw [h7]
  have hfi : (iCall pRange (lCons (kCallB pLen (lCons (dVar 7) lNil)) lNil)) ρ = some ((List.range n).map fun (k : Nat) => PV.int k) := by
    show ((((((dVar 7 ρ).bind fun a => some [a])).bind pLen).bind fun a => some [a]).bind pRange) = _
    rw [hv7]
    show (((pLen [.list rows]).bind fun a => some [a]).bind pRange) = _
    rw [len_list (by omega), hr]
    exact rangeN _ (by omega)
  refine lCompMap (List.range n) (fun j => .int j) (fun j => if ((D.drop (j * p)).take p).all (fun d => decide (0 ≤ d)) then [PV.int j] else []) (fun r => ∃ q, r = [.list ((D.map (G + ·)).map .int), .int p, .int G, q]) hfi ?_ (by simp; omega) ⟨.undef, ?_⟩
  · rintro j hj r ⟨q, rfl⟩
    have hj := List.mem_range.mp hj
    have hjp : j * p + p ≤ n * p := by
      have := Nat.mul_le_mul_right p (show j + 1 ≤ n by omega)
      rw [Nat.add_mul, Nat.one_mul] at this; exact this
    refine ⟨[.list ((D.map (G + ·)).map .int), .int p, .int G, .int j], rfl, ⟨_, rfl⟩, ?_⟩
    have hsl : (kSlice (dVar 0) (kBin pMul (dVar 3) (dVar 1)) (kBin pMul (kBin pAdd (dVar 3) (kC (.int 1))) (dVar 1))) [.list ((D.map (G + ·)).map .int), .int p, .int G, .int j] = some (.list ((((D.drop (j * p)).take p).map (G + ·)).map .int)) := by
      have e1 : (kBin pMul (dVar 3) (dVar 1)) [.list ((D.map (G + ·)).map .int), .int p, .int G, .int j] = some (.int ((j * p : Nat) : Int)) := by
        refine (kBinE (a := .int j) (b := .int p) rfl rfl (mul_small (small_nat (by omega)) (small_nat (by omega)))).trans ?_
        rw [Int.natCast_mul]
      have e2 : (kBin pMul (kBin pAdd (dVar 3) (kC (.int 1))) (dVar 1)) [.list ((D.map (G + ·)).map .int), .int p, .int G, .int j] = some (.int ((j * p + p : Nat) : Int)) := by
        refine (kBinE (a := .int ((j : Int) + 1)) (b := .int p) rfl rfl (mul_small (small_nat (x := j + 1) (by omega)) (small_nat (by omega)))).trans ?_
        rw [Int.natCast_add, Int.natCast_mul, Int.add_mul, Int.one_mul]
      have e3 := slice_both (xs := (D.map (G + ·)).map PV.int) (a := j * p) (b := j * p + p) (by simp; omega) (by simp; omega) (by omega)
      rw [Nat.add_sub_cancel_left, ← List.map_drop, ← List.map_take, ← List.map_drop, ← List.map_take] at e3
      show (((dVar 0) _).bind fun a => ((kBin pMul (dVar 3) (dVar 1)) _).bind fun l => ((kBin pMul (kBin pAdd (dVar 3) (kC (.int 1))) (dVar 1)) _).bind fun u => pSlice a l u) = _
      rw [e1, e2]
      exact e3
    obtain ⟨m, hm, hd⟩ := dig_test G ((D.drop (j * p)).take p) (by simp; omega)
    have ht : (bCmp pGe (kCallB pMin (lCons (kSlice (dVar 0) (kBin pMul (dVar 3) (dVar 1)) (kBin pMul (kBin pAdd (dVar 3) (kC (.int 1))) (dVar 1))) lNil)) (dVar 2)) [.list ((D.map (G + ·)).map .int), .int p, .int G, .int j] = some (((D.drop (j * p)).take p).all fun d => decide (0 ≤ d)) := by
      refine bCmpE (kCallBE (lCons1 hsl) hm) rfl ?_
      show some (PV.bool (decide (m ≥ G))) = _
      rw [hd]
    cases hc : ((D.drop (j * p)).take p).all fun d => decide (0 ≤ d) with
    | true =>
      rw [hc] at ht
      exact .inr ⟨.int j, if_pos rfl, ht, rfl⟩
    | false =>
      rw [hc] at ht
      exact .inl ⟨if_neg (by decide), ht⟩
  · show [ρ.getD 18 .undef, ρ.getD 3 .undef, ρ.getD 16 .undef, .undef] = _
    rw [h18, h3, h16]
theorem zip_guard (G : Int) : ∀ u v : List Int, List.zipWith (· - ·) (u.map (G + ·)) v = (List.zipWith (· - ·) u v).map (G + ·)
  | [], _ => by simp
  | _ :: _, [] => by simp
  | a :: u, b :: v => by
    rw [List.map_cons, List.zipWith_cons_cons, List.zipWith_cons_cons, List.map_cons, zip_guard G u v]
    congr 1
    omega
theorem digs {w : Nat} {G : Int} (hw : 5 ≤ w) (hw2 : w ≤ 64) (hG : G = ((2 ^ (w - 1) : Nat) : Int)) {u v : List Int} (hl : u.length = v.length) (h1 : 1 ≤ u.length) (h2 : u.length ≤ 100) (hu : ∀ d ∈ u, 0 ≤ d ∧ d ≤ 8) (hv : ∀ d ∈ v, 0 ≤ d ∧ d ≤ 8) :
    ∃ A A2 : Int, fn_d2i [.list ((u.map (G + ·)).map .int), .int w] [] = some (.int A) ∧ fn_d2i [.list (v.map .int), .int w] [] = some (.int A2) ∧ fn_i2d [.int (A - A2), .int w] [] = some (.list (((List.zipWith (· - ·) u v).map (G + ·)).map .int)) := by
  have hG16 : 16 ≤ G := by
    rw [hG]
    have : 2 ^ 4 ≤ 2 ^ (w - 1) := Nat.pow_le_pow_right (by decide) (by omega)
    omega
  have hGw : ((2 ^ w : Nat) : Int) = G + G := by
    rw [hG]
    have : 2 ^ w = 2 ^ (w - 1) + 2 ^ (w - 1) := by
      have h5 : w = (w - 1) + 1 := by omega
      conv => lhs; rw [h5, Nat.pow_succ]
      omega
    rw [this, Int.natCast_add]
  have hG63 : G ≤ 2 ^ 64 := by
    rw [hG]
    have : 2 ^ (w - 1) ≤ 2 ^ 64 := Nat.pow_le_pow_right (by decide) (by omega)
    omega
  have hc : (2 : Nat) ^ 64 + 100 < 2 ^ 100 := by decide
  have e1 := d2i_fn (n := w) (ds := u.map (G + ·)) ⟨by omega, hw2, by simpa using h2, fun d hd => by
    obtain ⟨x, hx, rfl⟩ := List.mem_map.mp hd
    have := hu x hx
    show (G + x).natAbs ≤ _
    omega⟩ (by simpa using h1)
  have e2 := d2i_fn (n := w) (ds := v) ⟨by omega, hw2, by omega, fun d hd => by
    have := hv d hd
    omega⟩ (by omega)
  refine ⟨_, _, e1, e2, ?_⟩
  rw [val_sub _ _ _ (by simpa using hl), zip_guard]
  have hD : ∀ d ∈ List.zipWith (· - ·) u v, -8 ≤ d ∧ d ≤ 8 := fun d hd => by
    rw [List.zipWith_eq_zipWith_take_min] at hd
    obtain ⟨i, hi⟩ := List.getElem?_of_mem hd
    rw [← List.zipWith_eq_zipWith_take_min, List.getElem?_zipWith] at hi
    cases hx : u[i]? with
    | none => rw [hx] at hi; cases hi
    | some x =>
      cases hy : v[i]? with
      | none => rw [hx, hy] at hi; cases hi
      | some y =>
        rw [hx, hy] at hi
        cases hi
        have := hu x (List.mem_of_getElem? hx)
        have := hv y (List.mem_of_getElem? hy)
        omega
  have hlen : (List.zipWith (· - ·) u v).length = u.length := by simp; omega
  refine i2d_fn (by omega) hw2 (by simp; omega) (by simp; omega) (fun d hd => ?_) ?_
  · obtain ⟨x, hx, rfl⟩ := List.mem_map.mp hd
    have := hD x hx
    rw [hGw]
    show 0 ≤ G + x ∧ G + x < G + G
    omega
  · rw [List.length_map, hlen, List.getD_eq_getElem?_getD, List.getElem?_map, List.getElem?_eq_getElem (by omega)]
    have := hD (List.zipWith (· - ·) u v)[u.length - 1] (List.getElem_mem _)
    show 1 ≤ G + (List.zipWith (· - ·) u v)[u.length - 1]
    omega
noncomputable def restB : DS := (dSeq (sComp 23 [((Str.ofString "sizes"), 14), ((Str.ofString "i"), 21), ((Str.ofString "j"), 22)] [(Str.ofString "k")] (iCall pRange (lCons (dVar 3) lNil)) (tSet 3) bT (eElt (kCallB pMin (lCons (kBin pItem (kBin pItem (dVar 0) (dVar 1)) (dVar 3)) (lCons (kBin pItem (kBin pItem (dVar 0) (dVar 2)) (dVar 3)) lNil)))))
  (dSeq (sTup2 24 25 (kTup (lCons (kCall fn_bisect_left [(Str.ofString "key")] (lCons (dVar 19) (lCons (dVar 23) lNil)) (lOne (kC (.fn 111)))) (lCons (kCall fn_bisect_right [(Str.ofString "key")] (lCons (dVar 19) (lCons (dVar 23) lNil)) (lOne (kC (.fn 111)))) lNil))))
  (dSeq (sComp 26 [((Str.ofString "i"), 21), ((Str.ofString "j"), 22)] [(Str.ofString "one")] (iVal (dVar 13)) (tSet 2) bT (eElt (kAnd2 (kBin pIn (dVar 0) (dVar 2)) (kBin pIn (dVar 1) (dVar 2)))))
  (dSeq (sIf (bCmp pNe (fun ρ => ((lComp [((Str.ofString "above"), 13)] [(Str.ofString "line"), (Str.ofString "mark"), (Str.ofString "meet")] (iVal (kBin pAdd (kSlice (dVar 19) (dVar 24) (kBin pAdd (dVar 24) (kC (.int 1)))) (kSlice (dVar 19) (kBin pSub (dVar 25) (kC (.int 1))) (dVar 25)))) (ftTup 3 (ftCons (tSet 1) (ftCons (tSet 2) (ftCons (tSet 3) ftNil)))) bT (eElt (kTup (lCons (dVar 2) (lCons (fun ρ => ((lComp [((Str.ofString "meet"), 3)] [(Str.ofString "one")] (iVal (dVar 0)) (tSet 1) bT (eElt (kBin pIn (dVar 0) (dVar 1)))) ρ).map .list) lNil))))) ρ).map .list) (fun ρ => ((lCons (kTup (lCons (kC (.int 1)) (lCons (dVar 26) lNil))) (lCons (kTup (lCons (kC (.int 0)) (lCons (dVar 26) lNil))) lNil)) ρ).map .list)) (dSeq (sRet (kC (.bool false)))
  sNil) sNil)
  sNil))))
noncomputable def bodyP : DS := (dSeq (sAssign 22 (kBin pMod (kBin pAdd (kBin pAdd (dVar 21) (kC (.int 1))) (kBin pMod (dVar 4) (kBin pSub (kCallB pLen (lCons (dVar 7) lNil)) (kC (.int 1))))) (kCallB pLen (lCons (dVar 7) lNil)))) restB)
noncomputable def frameP (a : Nat → PV) (p : PV) (ab sz sh : PV) (i j : PV) (y23 y24 y25 y26 : PV) : List PV :=
  [a 0, a 1, a 2, p, a 4, a 5, a 6, a 7, a 8, a 9, a 10, a 11, a 12, ab, sz, a 15, a 16, a 17, a 18, sh, a 20, i, j, y23, y24, y25, y26, .undef, .undef, .undef, .undef, .undef, .undef]
theorem restB_lift {a : Nat → PV} {p ab sz sh i j : PV} {y23 y24 y25 y26 : PV} {ρ' : List PV} (h : restB (frameP (fun _ => .undef) p ab sz sh i j .undef .undef .undef .undef) = some (.next, ρ')) :
    ∃ z23 z24 z25 z26, restB (frameP a p ab sz sh i j y23 y24 y25 y26) = some (.next, frameP a p ab sz sh i j z23 z24 z25 z26) := by
  unfold restB at h
  obtain ⟨⟨fl1, ρ1⟩, e1, h1⟩ := Option.bind_eq_some_iff.mp h
  obtain ⟨items, e2, e3⟩ := Option.bind_eq_some_iff.mp e1
  obtain ⟨r, e4, e5⟩ := Option.map_eq_some_iff.mp e3
  cases e5
  obtain ⟨⟨fl2, ρ2⟩, f1, h2⟩ := Option.bind_eq_some_iff.mp h1
  obtain ⟨v, f2, f3⟩ := Option.bind_eq_some_iff.mp f1
  obtain ⟨x, y, rfl⟩ : ∃ x y, v = .tup [x, y] := by
    split at f3
    · exact ⟨_, _, rfl⟩
    · cases f3
  cases f3
  obtain ⟨⟨fl3, ρ3⟩, g1, h3⟩ := Option.bind_eq_some_iff.mp h2
  obtain ⟨items2, g2, g3⟩ := Option.bind_eq_some_iff.mp g1
  obtain ⟨r2, g4, g5⟩ := Option.map_eq_some_iff.mp g3
  cases g5
  obtain ⟨⟨fl4, ρ4⟩, k1, h4⟩ := Option.bind_eq_some_iff.mp h3
  obtain ⟨c, k2, k3⟩ := Option.bind_eq_some_iff.mp k1
  refine ⟨.list r.2, x, y, .list r2.2, ?_⟩
  unfold restB
  refine dStep (ρ1 := frameP a p ab sz sh i j (.list r.2) y24 y25 y26) ?_ (dStep (ρ1 := frameP a p ab sz sh i j (.list r.2) x y y26) ?_ (dStep (ρ1 := frameP a p ab sz sh i j (.list r.2) x y (.list r2.2)) ?_ (dStep (ρ1 := frameP a p ab sz sh i j (.list r.2) x y (.list r2.2)) ?_ rfl)))
  · have e2' : (iCall pRange (lCons (dVar 3) lNil)) (frameP a p ab sz sh i j y23 y24 y25 y26) = some items := e2
    show ((iCall pRange (lCons (dVar 3) lNil)) (frameP a p ab sz sh i j y23 y24 y25 y26)).bind _ = _
    rw [e2', Option.bind_some]
    have e4' : compF (tSet 3) bT (eElt (kCallB pMin (lCons (kBin pItem (kBin pItem (dVar 0) (dVar 1)) (dVar 3)) (lCons (kBin pItem (kBin pItem (dVar 0) (dVar 2)) (dVar 3)) lNil)))) items (inR [((Str.ofString "sizes"), 14), ((Str.ofString "i"), 21), ((Str.ofString "j"), 22)] [(Str.ofString "k")] (frameP a p ab sz sh i j y23 y24 y25 y26)) [] = some r := e4
    rw [e4']; rfl
  · have f2' : (kTup (lCons (kCall fn_bisect_left [(Str.ofString "key")] (lCons (dVar 19) (lCons (dVar 23) lNil)) (lOne (kC (.fn 111)))) (lCons (kCall fn_bisect_right [(Str.ofString "key")] (lCons (dVar 19) (lCons (dVar 23) lNil)) (lOne (kC (.fn 111)))) lNil))) (frameP a p ab sz sh i j (.list r.2) y24 y25 y26) = some (.tup [x, y]) := f2
    show ((kTup _) (frameP a p ab sz sh i j (.list r.2) y24 y25 y26)).bind _ = _
    rw [f2']; rfl
  · have g2' : (iVal (dVar 13)) (frameP a p ab sz sh i j (.list r.2) x y y26) = some items2 := g2
    show ((iVal (dVar 13)) (frameP a p ab sz sh i j (.list r.2) x y y26)).bind _ = _
    rw [g2', Option.bind_some]
    have g4' : compF (tSet 2) bT (eElt (kAnd2 (kBin pIn (dVar 0) (dVar 2)) (kBin pIn (dVar 1) (dVar 2)))) items2 (inR [((Str.ofString "i"), 21), ((Str.ofString "j"), 22)] [(Str.ofString "one")] (frameP a p ab sz sh i j (.list r.2) x y y26)) [] = some r2 := g4
    rw [g4']; rfl
  · cases c with
    | true => cases k3; cases h4
    | false => exact sIfF k2 rfl
noncomputable def okN : Option (Fl × List PV) → Bool
  | some (.next, _) => true
  | _ => false
theorem okN_some {o : Option (Fl × List PV)} (h : okN o = true) : ∃ ρ', o = some (.next, ρ') := by
  unfold okN at h
  split at h
  · exact ⟨_, rfl⟩
  · cases h
noncomputable def chkP (n : Nat) (p ab sz sh : PV) : Bool := (List.range n).all fun i => (List.range n).all fun j => i == j || okN (restB (frameP (fun _ => .undef) p ab sz sh (.int i) (.int j) .undef .undef .undef .undef))
theorem chkP_at {n : Nat} {p ab sz sh : PV} (h : chkP n p ab sz sh = true) {i j : Nat} (hi : i < n) (hj : j < n) (hij : i ≠ j) : ∃ ρ', restB (frameP (fun _ => .undef) p ab sz sh (.int i) (.int j) .undef .undef .undef .undef) = some (.next, ρ') := by
  have h1 := List.all_eq_true.mp h i (List.mem_range.mpr hi)
  have h2 := List.all_eq_true.mp h1 j (List.mem_range.mpr hj)
  rw [Bool.or_eq_true] at h2
  rcases h2 with h2 | h2
  · exact absurd (eq_of_beq h2) hij
  · exact okN_some h2
theorem mod_nat {a b : Nat} (hb : 1 ≤ b) : pMod (.int a) (.int b) = some (.int ((a % b : Nat) : Int)) := by
  show (if (b : Int) ≠ 0 then some (PV.int ((a : Int).fmod b)) else none) = _
  rw [if_pos (by omega), Int.fmod_eq_emod_of_nonneg _ (by omega), Int.natCast_emod]
theorem pair_turn {n : Nat} {a : Nat → PV} {p ab sz sh : PV} {rows : List PV} {part : Int} (hn : 2 ≤ n) (hn2 : n ≤ 1000) (hr : rows.length = n) (h4 : a 4 = .int part) (h7 : a 7 = .list rows) (hc : chkP n p ab sz sh = true)
    {i : Nat} (hi : i < n) (x21 x22 y23 y24 y25 y26 : PV) :
    ∃ j z23 z24 z25 z26, (tSet 21) (frameP a p ab sz sh x21 x22 y23 y24 y25 y26) (.int i) = some (frameP a p ab sz sh (.int i) x22 y23 y24 y25 y26) ∧ bodyP (frameP a p ab sz sh (.int i) x22 y23 y24 y25 y26) = some (.next, frameP a p ab sz sh (.int i) j z23 z24 z25 z26) := by
  obtain ⟨r, hrr, hrl⟩ := fmod_lt part (n := n - 1) (by omega)
  have hj : (i + 1 + r) % n < n := Nat.mod_lt _ (by omega)
  have hij : i ≠ (i + 1 + r) % n := by
    intro q
    by_cases hw : i + 1 + r < n
    · rw [Nat.mod_eq_of_lt hw] at q; omega
    · rw [Nat.mod_eq_sub_mod (by omega), Nat.mod_eq_of_lt (by omega)] at q; omega
  obtain ⟨ρ', h1⟩ := chkP_at hc hi hj hij
  obtain ⟨z23, z24, z25, z26, h2⟩ := restB_lift (a := a) (y23 := y23) (y24 := y24) (y25 := y25) (y26 := y26) h1
  refine ⟨.int (((i + 1 + r) % n : Nat) : Int), z23, z24, z25, z26, rfl, ?_⟩
  unfold bodyP
  refine dStep (ρ1 := frameP a p ab sz sh (.int i) (.int (((i + 1 + r) % n : Nat) : Int)) y23 y24 y25 y26) ?_ h2
  have hlen : (kCallB pLen (lCons (dVar 7) lNil)) (frameP a p ab sz sh (.int i) x22 y23 y24 y25 y26) = some (.int n) := by
    have hv : dVar 7 (frameP a p ab sz sh (.int i) x22 y23 y24 y25 y26) = some (.list rows) := by
      unfold dVar
      show (match a 7 with | .undef => none | .own _ => none | q => some q) = _
      rw [h7]
    refine kCallBE (lCons1 hv) ?_
    rw [len_list (by omega), hr]
  have hp4 : dVar 4 (frameP a p ab sz sh (.int i) x22 y23 y24 y25 y26) = some (.int part) := by
    unfold dVar
    show (match a 4 with | .undef => none | .own _ => none | q => some q) = _
    rw [h4]
  have e1 : (kBin pMod (kBin pAdd (kBin pAdd (dVar 21) (kC (.int 1))) (kBin pMod (dVar 4) (kBin pSub (kCallB pLen (lCons (dVar 7) lNil)) (kC (.int 1))))) (kCallB pLen (lCons (dVar 7) lNil))) (frameP a p ab sz sh (.int i) x22 y23 y24 y25 y26) = some (.int (((i + 1 + r) % n : Nat) : Int)) := by
    refine kBinE (a := .int ((i + 1 + r : Nat) : Int)) (b := .int n) (kBinE (a := .int ((i : Int) + 1)) (b := .int r) rfl (kBinE (a := .int part) (b := .int ((n : Int) - 1)) hp4 (kBinE hlen rfl rfl) ?_) ?_) hlen (mod_nat (by omega))
    · show (if ((n : Int) - 1) ≠ 0 then some (PV.int (part.fmod ((n : Int) - 1))) else none) = _
      have : ((n : Int) - 1) = ((n - 1 : Nat) : Int) := by omega
      rw [if_pos (by omega), this, hrr]
    · show some (PV.int ((i : Int) + 1 + (r : Int))) = _
      congr 2
  exact sAssignE e1
theorem range_step2 {n : Nat} {s : Nat} (hs : s ≤ 1) (hn : 1 ≤ n) (hn2 : n ≤ 1000) : ∃ l : List Nat, pRange [.int s, .int n, .int 2] = some (l.map fun (i : Nat) => PV.int i) ∧ ∀ i ∈ l, i < n := by
  refine ⟨(List.range ((n - s + 1) / 2)).map fun k => s + 2 * k, ?_, fun i hi => ?_⟩
  · show (if isSmallI s ∧ isSmallI n ∧ (2 : Int) = 2 then some (rangeL s 2 (Builtin.Range.rangeSize s n 2).toNat) else none) = _
    have h1 : isSmallI (s : Int) = true := by unfold isSmallI; simp; omega
    have h2 : isSmallI (n : Int) = true := by unfold isSmallI; simp; omega
    rw [if_pos ⟨h1, h2, rfl⟩, rangeSize_two]
    have h3 : (if (s : Int) < n then ((n : Int) - s + 1) / 2 else 0).toNat = (n - s + 1) / 2 := by
      split
      · omega
      · omega
    rw [h3]
    unfold rangeL
    rw [List.map_map]
    refine congrArg some (List.map_congr_left fun k _ => ?_)
    have e : ((s : Int) + (k : Int) * 2) = ((s + 2 * k : Nat) : Int) := by omega
    exact congrArg PV.int e
  · obtain ⟨k, hk, rfl⟩ := List.mem_map.mp hi
    have := List.mem_range.mp hk
    omega
theorem pair_loop {n : Nat} {a : Nat → PV} {p ab sz sh : PV} {rows : List PV} {part : Int} (hn : 2 ≤ n) (hn2 : n ≤ 1000) (hr : rows.length = n) (h4 : a 4 = .int part) (h7 : a 7 = .list rows) (hc : chkP n p ab sz sh = true) (x21 x22 y23 y24 y25 y26 : PV) :
    ∃ x21' x22' z23 z24 z25 z26, sFor (iCall pRange (lCons (kBin pMod (kBin pFloorDiv (dVar 4) (kC (.int 4))) (kC (.int 2))) (lCons (kCallB pLen (lCons (dVar 7) lNil)) (lCons (kC (.int 2)) lNil)))) (tSet 21) bodyP (frameP a p ab sz sh x21 x22 y23 y24 y25 y26) = some (.next, frameP a p ab sz sh x21' x22' z23 z24 z25 z26) := by
  obtain ⟨s0, hs0, hs1⟩ := fmod_lt (part.fdiv 4) (n := 2) (by decide)
  obtain ⟨l, hl1, hl2⟩ := range_step2 (n := n) (s := s0) (by omega) (by omega) hn2
  have hv : dVar 7 (frameP a p ab sz sh x21 x22 y23 y24 y25 y26) = some (.list rows) := by
    unfold dVar
    show (match a 7 with | .undef => none | .own _ => none | q => some q) = _
    rw [h7]
  have hp4 : dVar 4 (frameP a p ab sz sh x21 x22 y23 y24 y25 y26) = some (.int part) := by
    unfold dVar
    show (match a 4 with | .undef => none | .own _ => none | q => some q) = _
    rw [h4]
  have hlen : (kCallB pLen (lCons (dVar 7) lNil)) (frameP a p ab sz sh x21 x22 y23 y24 y25 y26) = some (.int n) := by
    refine kCallBE (lCons1 hv) ?_
    rw [len_list (by omega), hr]
  have hfi : (iCall pRange (lCons (kBin pMod (kBin pFloorDiv (dVar 4) (kC (.int 4))) (kC (.int 2))) (lCons (kCallB pLen (lCons (dVar 7) lNil)) (lCons (kC (.int 2)) lNil)))) (frameP a p ab sz sh x21 x22 y23 y24 y25 y26) = some (l.map fun (i : Nat) => PV.int i) := by
    have h5 : (lCons (kBin pMod (kBin pFloorDiv (dVar 4) (kC (.int 4))) (kC (.int 2))) (lCons (kCallB pLen (lCons (dVar 7) lNil)) (lCons (kC (.int 2)) lNil))) (frameP a p ab sz sh x21 x22 y23 y24 y25 y26) = some [.int s0, .int n, .int 2] := by
      refine lConsE (kBinE (a := .int (part.fdiv 4)) (b := .int 2) (kBinE hp4 rfl ?_) rfl ?_) (lConsE hlen rfl)
      · show (if (4 : Int) ≠ 0 ∧ (4 : Int).natAbs < 1073741824 then some (PV.int (part.fdiv 4)) else none) = _
        rw [if_pos ⟨by decide, by decide⟩]
      · show (if (2 : Int) ≠ 0 then some (PV.int ((part.fdiv 4).fmod 2)) else none) = _
        rw [if_pos (by decide)]
        have : (part.fdiv 4).fmod 2 = s0 := hs0
        rw [this]
    show ((lCons _ _ _).bind pRange) = _
    rw [h5, Option.bind_some]
    exact hl1
  obtain ⟨ρ', h1, x21', x22', z23, z24, z25, z26, h2⟩ := forMap (fun (i : Nat) => PV.int i) (fun d r => ∃ x21' x22' z23 z24 z25 z26, r = frameP a p ab sz sh x21' x22' z23 z24 z25 z26) l [] (frameP a p ab sz sh x21 x22 y23 y24 y25 y26) (ft := tSet 21) (fb := bodyP) (by
    rintro d i rest r hd ⟨x21', x22', z23, z24, z25, z26, rfl⟩
    rw [List.nil_append] at hd
    have hi : i < n := hl2 i (by rw [hd]; simp)
    obtain ⟨j, w23, w24, w25, w26, h5, h6⟩ := pair_turn hn hn2 hr h4 h7 hc hi x21' x22' z23 z24 z25 z26
    exact ⟨_, _, h5, h6, _, _, _, _, _, _, rfl⟩) ⟨_, _, _, _, _, _, rfl⟩
  exact ⟨x21', x22', z23, z24, z25, z26, by rw [← h2]; exact sForStep hfi h1⟩
noncomputable def fbT3 : DS := (dSeq (sFor (iCall pRange (lCons (kBin pAdd (kBin pMul (kC (.int 3)) (dVar 3)) (kC (.int 3))) (lCons (kBin pAdd (kBin pMul (kC (.int 4)) (dVar 3)) (kC (.int 2))) lNil))) (tSet 31) (dSeq (sAssign 27 (kBin pMul (dVar 27) (dVar 31)))
  sNil))
  (dSeq (sFor (iCall pRange (lCons (kC (.int 2)) (lCons (kBin pAdd (dVar 3) (kC (.int 2))) lNil))) (tSet 31) (dSeq (sAssign 28 (kBin pMul (dVar 28) (dVar 31)))
  sNil))
  (dSeq (sAssign 32 (kBin pMul (kBin pFloorDivBig (dVar 28) (kC (.int 2))) (kBin pMod (kBin pAdd (kC (.int 1)) (dVar 4)) (kC (.int 2)))))
  (dSeq (sRet (kBin pEq (kCall fn_idm3 [] (lCons (kBin pAdd (dVar 27) (dVar 32)) (lCons (dVar 28) lNil)) lNil) (kTup (lCons (kBin pMul (dVar 29) (kCallB pSum (lCons (fun ρ => ((lComp [] [(Str.ofString "one")] (iVal (dVar 13)) (tSet 0) bT (eElt (kCallB pLen (lCons (dVar 0) lNil)))) ρ).map .list) lNil))) (lCons (dVar 32) lNil)))))
  sNil))))
noncomputable def fbT : DS := (dSeq (sTup2 27 28 (kTup (lCons (kBin pItem (fun ρ => ((lCons (kC (.int 1)) (lCons (kUn pNeg (kC (.int 1))) lNil)) ρ).map .list) (kBin pMod (kBin pFloorDiv (dVar 2) (kC (.int 6))) (kC (.int 2)))) (lCons (kBin pItem (fun ρ => ((lCons (kC (.int 1)) (lCons (kUn pNeg (kC (.int 1))) lNil)) ρ).map .list) (kBin pMod (kBin pFloorDiv (dVar 2) (kC (.int 12))) (kC (.int 2)))) lNil))))
  (dSeq (sTup2 29 30 (kTup (lCons (kBin pMul (dVar 27) (dVar 28)) (lCons (kBin pAdd (kC (.int 1)) (kBin pMod (dVar 4) (kBin pPow (kC (.int 10)) (kC (.int 9))))) lNil))))
  (dSeq (sTup2 27 28 (kTup (lCons (kBin pMul (kBin pMul (kC (.int 2)) (dVar 30)) (dVar 27)) (lCons (kBin pMul (dVar 30) (dVar 28)) lNil))))
  fbT3)))
noncomputable def fb7 : DS := (dSeq (sAssign 7 (kCall fn_law_rows [] (lCons (dVar 3) lNil) lNil))
  (dSeq (sAssign 8 (kBin pMod (dVar 4) (kCallB pLen (lCons (dVar 7) lNil))))
  (dSeq (sIf (bCmp pNe (kCall fn_law_answers [] (lCons (kBin pItem (dVar 7) (dVar 8)) (lCons (dVar 6) lNil)) lNil) (fun ρ => ((lCons (kC (.bool true)) (lCons (kC (.bool false)) (lCons (kC (.bool false)) (lCons (kC (.bool false)) (lCons (kC (.bool false)) (lCons (kC (.bool true)) (lCons (kC (.bool true)) (lCons (kC (.bool true)) lNil)))))))) ρ).map .list)) (dSeq (sRet (kC (.bool false)))
  sNil) sNil)
  (dSeq (sAssign 9 (fun ρ => ((lComp [] [(Str.ofString "row")] (iVal (dVar 7)) (tSet 0) bT (eElt (kCall fn_law_plain [] (lCons (dVar 0) lNil) lNil))) ρ).map .list))
  (dSeq (sAssign 10 (fun ρ => ((lComp [((Str.ofString "part"), 4), ((Str.ofString "rows"), 7), ((Str.ofString "pieces"), 6), ((Str.ofString "plain"), 9)] [(Str.ofString "i")] (iCall pRange (lCons (kCallB pLen (lCons (dVar 7) lNil)) lNil)) (tSet 4) bT (eElt (kIf (bCmp pEq (kBin pMod (kBin pAdd (dVar 4) (dVar 0)) (kC (.int 2))) (kC (.int 0))) (kCall fn_law_spans [] (lCons (kBin pItem (dVar 1) (dVar 4)) (lCons (dVar 2) lNil)) lNil) (kBin pItem (dVar 3) (dVar 4))))) ρ).map .list))
  (dSeq (sIf (bCmp pNe (dVar 10) (dVar 9)) (dSeq (sRet (kC (.bool false)))
  sNil) sNil)
  (dSeq (sComp 11 [((Str.ofString "rows"), 7), ((Str.ofString "spans"), 10)] [(Str.ofString "i")] (iCall pRange (lCons (kCallB pLen (lCons (dVar 7) lNil)) lNil)) (tSet 2) bT (eElt (kCall fn_law_ups [] (lCons (kBin pItem (dVar 0) (dVar 2)) (lCons (kBin pItem (dVar 1) (dVar 2)) lNil)) lNil)))
  (dSeq (sComp 12 [((Str.ofString "rows"), 7)] [(Str.ofString "line")] (iVal (dVar 11)) (tSet 1) bT (eElt (fun ρ => ((lComp [((Str.ofString "rows"), 0)] [(Str.ofString "up")] (iVal (dVar 1)) (tSet 1) bT (eElt (kCall fn_bisect_left [] (lCons (dVar 0) (lCons (dVar 1) lNil)) lNil))) ρ).map .list)))
  (dSeq (sIf (bCmp pNe (fun ρ => ((lComp [((Str.ofString "rows"), 7)] [(Str.ofString "line")] (iVal (dVar 12)) (tSet 1) bT (eElt (fun ρ => ((lComp [((Str.ofString "rows"), 0)] [(Str.ofString "place")] (iVal (dVar 1)) (tSet 1) bT (eElt (kSlice (dVar 0) (dVar 1) (kBin pAdd (dVar 1) (kC (.int 1)))))) ρ).map .list))) ρ).map .list) (fun ρ => ((lComp [] [(Str.ofString "line")] (iVal (dVar 11)) (tSet 0) bT (eElt (fun ρ => ((lComp [] [(Str.ofString "up")] (iVal (dVar 0)) (tSet 0) bT (eElt (fun ρ => ((lCons (dVar 0) lNil) ρ).map .list))) ρ).map .list))) ρ).map .list)) (dSeq (sRet (kC (.bool false)))
  sNil) sNil)
  (dSeq (sAssign 13 (kCall fn_law_above [] (lCons (dVar 12) lNil) lNil))
  (dSeq (sAssign 14 (fun ρ => ((lComp [] [(Str.ofString "line")] (iVal (dVar 10)) (tSet 0) bT (eElt (fun ρ => ((lComp [] [(Str.ofString "span")] (iVal (dVar 0)) (tSet 0) (bCmp pGt (dVar 0) (kC (.int 0))) (eElt (dVar 0))) ρ).map .list))) ρ).map .list))
  (dSeq (sAssign 15 (kBin pAdd (kC (.int 5)) (kBin pMod (dVar 4) (kC (.int 60)))))
  (dSeq (sAssign 16 (kBin pPow (kC (.int 2)) (kBin pSub (dVar 15) (kC (.int 1)))))
  (dSeq (sAssign 17 (kCall fn_d2i [] (lCons (fun ρ => ((lComp [((Str.ofString "guard"), 16)] [(Str.ofString "line"), (Str.ofString "span")] (iVal (dVar 14)) (tSet 1) bT (eIn (iVal (dVar 1)) (tSet 2) bT (eElt (kBin pAdd (dVar 0) (dVar 2))))) ρ).map .list) (lCons (dVar 15) lNil)) lNil))
  (dSeq (sAssign 18 (kCall fn_i2d [] (lCons (kBin pSub (dVar 17) (kCall fn_d2i [] (lCons (kBin pMul (kBin pItem (dVar 14) (dVar 8)) (kCallB pLen (lCons (dVar 7) lNil))) (lCons (dVar 15) lNil)) lNil)) (lCons (dVar 15) lNil)) lNil))
  (dSeq (sIf (bOr (bCmp pNe (kCallB pLen (lCons (dVar 18) lNil)) (kBin pMul (dVar 3) (kCallB pLen (lCons (dVar 7) lNil)))) (bOr (bCmp pNe (fun ρ => ((lComp [((Str.ofString "digits"), 18), ((Str.ofString "pairs"), 3), ((Str.ofString "guard"), 16)] [(Str.ofString "j")] (iCall pRange (lCons (kCallB pLen (lCons (dVar 7) lNil)) lNil)) (tSet 3) (bCmp pGe (kCallB pMin (lCons (kSlice (dVar 0) (kBin pMul (dVar 3) (dVar 1)) (kBin pMul (kBin pAdd (dVar 3) (kC (.int 1))) (dVar 1))) lNil)) (dVar 2)) (eElt (dVar 3))) ρ).map .list) (kBin pItem (dVar 13) (dVar 8))) bF)) (dSeq (sRet (kC (.bool false)))
  sNil) sNil)
  (dSeq (sOwnNew 19 lNil)
  (dSeq (sFor (iVal (kTup (lCons (kC (.int 1)) (lCons (kC (.int 0)) lNil)))) (tSet 20) (dSeq (sFor (iCall pRange (lCons (kCallB pLen (lCons (dVar 7) lNil)) lNil)) (tSet 21) (dSeq (fOwnCall cx_law (lCons (kTup (lCons (kBin pItem (dVar 14) (dVar 21)) (lCons (dVar 20) (lCons (dVar 21) lNil)))) lNil) (lOne (kC (.fn 111))) [(Str.ofString "key")] fn_insort)
  sNil))
  sNil))
  (sFrz cx_law (dSeq (sIf (bCmp pNe (dVar 19) (fun ρ => ((lComp [] [(Str.ofString "line"), (Str.ofString "i"), (Str.ofString "mark")] (iVal (kCallB pSortT (lCons (fun ρ => ((lComp [((Str.ofString "sizes"), 14)] [(Str.ofString "i")] (iCall pRange (lCons (kCallB pLen (lCons (dVar 7) lNil)) lNil)) (tSet 1) bT (eElt (kTup (lCons (kBin pItem (dVar 0) (dVar 1)) (lCons (dVar 1) lNil))))) ρ).map .list) lNil))) (ftTup 2 (ftCons (tSet 0) (ftCons (tSet 1) ftNil))) bT (eIn (iVal (kTup (lCons (kC (.int 1)) (lCons (kC (.int 0)) lNil)))) (tSet 2) bT (eElt (kTup (lCons (dVar 0) (lCons (dVar 2) (lCons (dVar 1) lNil))))))) ρ).map .list)) (dSeq (sRet (kC (.bool false)))
  sNil) sNil) (dSeq (sFor (iCall pRange (lCons (kBin pMod (kBin pFloorDiv (dVar 4) (kC (.int 4))) (kC (.int 2))) (lCons (kCallB pLen (lCons (dVar 7) lNil)) (lCons (kC (.int 2)) lNil)))) (tSet 21) bodyP)
  fbT)))))))))))))))))))))
theorem sgn (x : Int) : ∃ s : Int, (s = 1 ∨ s = -1) ∧ pItem (.list [.int 1, .int (-1)]) (.int (x.fmod 2)) = some (.int s) := by
  obtain ⟨r, hr, hlt⟩ := fmod_lt x (n := 2) (by decide)
  have hr' : x.fmod 2 = r := hr
  rw [hr']
  match r, hlt with
  | 0, _ => exact ⟨1, .inl rfl, by kernel_rfl⟩
  | 1, _ => exact ⟨-1, .inr rfl, by kernel_rfl⟩
  | r + 2, h => omega
theorem fdiv_small {a b : Int} (hb : b ≠ 0) (h : b.natAbs < 1073741824) : pFloorDiv (.int a) (.int b) = some (.int (a.fdiv b)) := by
  show (if b ≠ 0 ∧ b.natAbs < 1073741824 then some (PV.int (a.fdiv b)) else none) = _
  rw [if_pos ⟨hb, h⟩]
theorem mod_small {a b : Int} (hb : b ≠ 0) : pMod (.int a) (.int b) = some (.int (a.fmod b)) := by
  show (if b ≠ 0 then some (PV.int (a.fmod b)) else none) = _
  rw [if_pos hb]
noncomputable def digI (D : List Int) (p n : Nat) : List Int := ((List.range n).map fun (j : Nat) => if ((D.drop (j * p)).take p).all (fun d => decide (0 ≤ d)) then [(j : Int)] else []).flatten
theorem digI_B (D : List Int) (p n : Nat) : digB D p n = (digI D p n).map .int := by
  unfold digB digI
  rw [List.map_flatten, List.map_map]
  congr 1
  refine List.map_congr_left fun j _ => ?_
  show (if _ then _ else _) = List.map _ (if _ then _ else _)
  split <;> rfl
theorem kIfE {ft : DB} {fa fb : DE} {ρ : List PV} {c : Bool} {r : Option PV} (h : ft ρ = some c) (ht : c = true → fa ρ = r) (hf : c = false → fb ρ = r) : kIf ft fa fb ρ = r := by
  show (ft ρ).bind _ = r
  rw [h]
  cases c with
  | true => exact ht rfl
  | false => exact hf rfl
theorem sRet_last {f : DE} {ρ : List PV} {v : PV} (h : f ρ = some v) : ((dSeq (sRet f) sNil) ρ).map flOut = some v := by
  have h2 : sRet f ρ = some (.ret v, ρ) := by
    show (f ρ).map _ = _
    rw [h]; rfl
  rw [dRet h2]; rfl
theorem ok_ints (n : Nat) : ∀ l : List Int, (l.map PV.int).all (pOk n) = true
  | [] => rfl
  | d :: l => by
    rw [List.map_cons, List.all_cons, ok_ints n l, Bool.and_true]
    cases n <;> rfl
theorem eq_ints (n : Nat) : ∀ l : List Int, all2 (pEqN n) (l.map PV.int) (l.map PV.int) = true
  | [] => rfl
  | d :: l => by
    have h : pEqN n (.int d) (.int d) = (d == d) := by cases n <;> rfl
    show (pEqN n (.int d) (.int d) && all2 (pEqN n) (l.map PV.int) (l.map PV.int)) = true
    rw [eq_ints n l, h, beq_self_eq_true]; rfl
theorem ne_self_ints (l : List Int) : pNe (.list (l.map .int)) (.list (l.map .int)) = some (.bool false) := by
  have h1 : pOk 6 (.list (l.map .int)) = true := ok_ints 5 l
  have h2 : pEqN 6 (.list (l.map .int)) (.list (l.map .int)) = true := eq_ints 5 l
  unfold pNe
  rw [h1, h2]; rfl
theorem getD_mem {α : Type} {l : List α} {k : Nat} (d : α) (h : k < l.length) : l.getD k d ∈ l := by
  rw [List.getD_eq_getElem?_getD, List.getElem?_eq_getElem h]
  exact List.getElem_mem _
theorem getD_at {α : Type} {l : List α} {k : Nat} (d : α) (h : k < l.length) : l[k]? = some (l.getD k d) := by
  rw [List.getD_eq_getElem?_getD, List.getElem?_eq_getElem h]; rfl
theorem hsmall {x : Int} (h1 : -1000000 ≤ x) (h2 : x ≤ 1000000) : x.natAbs < 2 ^ 90 := by
  have h3 : (1000000 : Nat) < 2 ^ 90 := by decide
  omega
theorem hbig {x : Int} (h1 : -1000000000000000000 ≤ x) (h2 : x ≤ 1000000000000000000) : x.natAbs < 2 ^ 90 := by
  have h3 : (1000000000000000000 : Nat) < 2 ^ 90 := by decide
  omega
theorem bdMul {x : Int} {n : Nat} (k : Nat) (h : x.natAbs ≤ n) : (x * (k : Int)).natAbs ≤ n * k := by
  rw [Int.natAbs_mul]
  exact Nat.mul_le_mul_right _ h
theorem signs {u l f : Int} (hu : u = 1 ∨ u = -1) (hl : l = 1 ∨ l = -1) (hf : 1 ≤ f ∧ f ≤ 1000000000) : (2 * f * u).natAbs ≤ 2000000000 ∧ (f * l).natAbs ≤ 1000000000 ∧ f * l ≠ 0 ∧ ((u * l = 1 ∧ 2 * f * u = 2 * (f * l)) ∨ (u * l = -1 ∧ 2 * f * u = -(2 * (f * l)))) := by
  rcases hu with rfl | rfl <;> rcases hl with rfl | rfl <;> omega
theorem tail_idm {z w a b m : Int} {sd : Int} {N e : Nat} (hz : z ≠ 0) (hzb : z.natAbs ≤ 60000000000) (hw : w = z * N) (hN : 3 ≤ N) (hN2 : N ≤ 100) (he : e < 2) (hm : m = z * e) (hb : b = 2 * z) (hsd : (sd = 1 ∧ a = 2 * w + m) ∨ (sd = -1 ∧ a = -(2 * w) + m)) : fn_idm3 [.int a, .int b] [] = some (.tup [.int (sd * N), .int m]) := by
  have hwn : w.natAbs = z.natAbs * N := by rw [hw, Int.natAbs_mul]; rfl
  have h1 : z.natAbs * 3 ≤ w.natAbs := by rw [hwn]; exact Nat.mul_le_mul_left _ hN
  have h2 : w.natAbs ≤ 60000000000 * 100 := by rw [hwn]; exact Nat.mul_le_mul hzb hN2
  have hme : m = 0 ∨ m = z := by
    rw [hm]
    match e, he with
    | 0, _ => left; simp
    | 1, _ => right; simp
  have h60 : (1000000000000000 : Nat) < 2 ^ 60 := by decide
  have h99 : (1000000000000000000 : Nat) < 2 ^ 99 := by decide
  have hdiv : a = b * (sd * N) + m := by
    rw [hb]
    rcases hsd with ⟨rfl, rfl⟩ | ⟨rfl, rfl⟩
    · rw [hw, Int.one_mul, Int.mul_assoc]
    · rw [hw, Int.neg_one_mul, Int.mul_neg, Int.mul_assoc]
  clear hwn hw hm he hN hN2
  refine idm3_fn ?_ ?_ (by omega) (by omega) hdiv ?_
  · clear h60 h99 hdiv
    rcases hme with rfl | rfl <;> omega
  · clear h60 hdiv
    rcases hme with rfl | rfl <;> omega
  · clear h60 h99 hdiv hsd h1 h2
    rcases hme with rfl | rfl <;> omega
theorem tail_front {a0 a1 pp a5 a6 a7 a8 a9 a10 a11 a12 ab a14 a15 a16 a17 a18 a19 a20 a21 a22 a23 a24 a25 a26 : PV} {total part : Int} {R : Option PV} (h : ∀ (X Y sd f : Int), X.natAbs ≤ 2000000000 → Y.natAbs ≤ 1000000000 → Y ≠ 0 → ((sd = 1 ∧ X = 2 * Y) ∨ (sd = -1 ∧ X = -(2 * Y))) → (fbT3 [a0, a1, .int total, pp, .int part, a5, a6, a7, a8, a9, a10, a11, a12, ab, a14, a15, a16, a17, a18, a19, a20, a21, a22, a23, a24, a25, a26, .int X, .int Y, .int sd, .int f, .undef, .undef]).map flOut = R) : (fbT [a0, a1, .int total, pp, .int part, a5, a6, a7, a8, a9, a10, a11, a12, ab, a14, a15, a16, a17, a18, a19, a20, a21, a22, a23, a24, a25, a26, .undef, .undef, .undef, .undef, .undef, .undef]).map flOut = R := by
  obtain ⟨u, hu, hu2⟩ := sgn (total.fdiv 6)
  obtain ⟨l, hl, hl2⟩ := sgn (total.fdiv 12)
  obtain ⟨f0, hf0, hf1⟩ := fmod_lt part (n := 1000000000) (by decide)
  have hf0' : part.fmod (10 ^ 9) = f0 := hf0
  unfold fbT
  refine dStepM (ρ1 := [a0, a1, .int total, pp, .int part, a5, a6, a7, a8, a9, a10, a11, a12, ab, a14, a15, a16, a17, a18, a19, a20, a21, a22, a23, a24, a25, a26, .int u, .int l, .undef, .undef, .undef, .undef]) ?_ ?_
  · have h2 : (lCons (kBin pItem (fun ρ => ((lCons (kC (.int 1)) (lCons (kUn pNeg (kC (.int 1))) lNil)) ρ).map .list) (kBin pMod (kBin pFloorDiv (dVar 2) (kC (.int 6))) (kC (.int 2)))) (lCons (kBin pItem (fun ρ => ((lCons (kC (.int 1)) (lCons (kUn pNeg (kC (.int 1))) lNil)) ρ).map .list) (kBin pMod (kBin pFloorDiv (dVar 2) (kC (.int 12))) (kC (.int 2)))) lNil)) [a0, a1, .int total, pp, .int part, a5, a6, a7, a8, a9, a10, a11, a12, ab, a14, a15, a16, a17, a18, a19, a20, a21, a22, a23, a24, a25, a26, .undef, .undef, .undef, .undef, .undef, .undef] = some [.int u, .int l] :=
      lConsE (kBinE (a := .list [.int 1, .int (-1)]) (b := .int ((total.fdiv 6).fmod 2)) rfl (kBinE (a := .int (total.fdiv 6)) (b := .int 2) (kBinE (a := .int total) (b := .int 6) rfl rfl (fdiv_small (by decide) (by decide))) rfl (mod_small (by decide))) hu2)
        (lCons1 (kBinE (a := .list [.int 1, .int (-1)]) (b := .int ((total.fdiv 12).fmod 2)) rfl (kBinE (a := .int (total.fdiv 12)) (b := .int 2) (kBinE (a := .int total) (b := .int 12) rfl rfl (fdiv_small (by decide) (by decide))) rfl (mod_small (by decide))) hl2))
    show ((lCons _ _ _).map PV.tup).bind _ = _
    rw [h2]; rfl
  have hf : 1 ≤ 1 + (f0 : Int) ∧ 1 + (f0 : Int) ≤ 1000000000 := by
    clear hu2 hl2 hf0 hf0' hu hl h
    omega
  obtain ⟨s1, s2, s3, s4⟩ := signs hu hl hf
  have hu1 : u.natAbs < 2 ^ 90 := by rcases hu with rfl | rfl <;> decide
  have hl1 : l.natAbs < 2 ^ 90 := by rcases hl with rfl | rfl <;> decide
  have hf90 : (1 + (f0 : Int)).natAbs < 2 ^ 90 := hbig (Int.le_trans (by decide) hf.1) (Int.le_trans hf.2 (by decide))
  refine dStepM (ρ1 := [a0, a1, .int total, pp, .int part, a5, a6, a7, a8, a9, a10, a11, a12, ab, a14, a15, a16, a17, a18, a19, a20, a21, a22, a23, a24, a25, a26, .int u, .int l, .int (u * l), .int (1 + (f0 : Int)), .undef, .undef]) ?_ ?_
  · have h2 : (lCons (kBin pMul (dVar 27) (dVar 28)) (lCons (kBin pAdd (kC (.int 1)) (kBin pMod (dVar 4) (kBin pPow (kC (.int 10)) (kC (.int 9))))) lNil)) [a0, a1, .int total, pp, .int part, a5, a6, a7, a8, a9, a10, a11, a12, ab, a14, a15, a16, a17, a18, a19, a20, a21, a22, a23, a24, a25, a26, .int u, .int l, .undef, .undef, .undef, .undef] = some [.int (u * l), .int (1 + (f0 : Int))] :=
      lConsE (kBinE (a := .int u) (b := .int l) rfl rfl (mul_small hu1 hl1)) (lCons1 (kBinE (a := .int 1) (b := .int (f0 : Int)) rfl ((kBinE (a := .int part) (b := .int (10 ^ 9)) rfl (by kernel_rfl) (mod_small (by decide))).trans (by rw [hf0'])) rfl))
    show ((lCons _ _ _).map PV.tup).bind _ = _
    rw [h2]; rfl
  refine dStepM (ρ1 := [a0, a1, .int total, pp, .int part, a5, a6, a7, a8, a9, a10, a11, a12, ab, a14, a15, a16, a17, a18, a19, a20, a21, a22, a23, a24, a25, a26, .int (2 * (1 + (f0 : Int)) * u), .int ((1 + (f0 : Int)) * l), .int (u * l), .int (1 + (f0 : Int)), .undef, .undef]) ?_ (h _ _ _ _ s1 s2 s3 s4)
  have h2 : (lCons (kBin pMul (kBin pMul (kC (.int 2)) (dVar 30)) (dVar 27)) (lCons (kBin pMul (dVar 30) (dVar 28)) lNil)) [a0, a1, .int total, pp, .int part, a5, a6, a7, a8, a9, a10, a11, a12, ab, a14, a15, a16, a17, a18, a19, a20, a21, a22, a23, a24, a25, a26, .int u, .int l, .int (u * l), .int (1 + (f0 : Int)), .undef, .undef] = some [.int (2 * (1 + (f0 : Int)) * u), .int ((1 + (f0 : Int)) * l)] :=
    lConsE (kBinE (a := .int (2 * (1 + (f0 : Int)))) (b := .int u) (kBinE (a := .int 2) (b := .int (1 + (f0 : Int))) rfl rfl (mul_small (by decide) hf90)) rfl (mul_small (hbig (by clear hu2 hl2 hf0 hf0' hu hl h s1 s2 s3 s4; omega) (by clear hu2 hl2 hf0 hf0' hu hl h s1 s2 s3 s4; omega)) hu1)) (lCons1 (kBinE (a := .int (1 + (f0 : Int))) (b := .int l) rfl rfl (mul_small hf90 hl1)))
  show ((lCons _ _ _).map PV.tup).bind _ = _
  rw [h2]; rfl
noncomputable def rowsB2 : List (List Bool) := [[true, true, false, false], [true, false, true, false]]
noncomputable def plainI2 : List (List Int) := [[4, 2, 0, 0], [2, 0, 2, 0]]
noncomputable def sizesI2 : List (List Int) := [[4, 2], [2, 2]]
noncomputable def aboveI2 : List (List Int) := [[0], [0, 1]]
noncomputable def upsV2 : PV := .list [.list [], .list [.str [40, 40, 41, 41]]]
noncomputable def coversV2 : PV := .list [.list [], .list [.int 0]]
noncomputable def shelfL2 : List PV := [.tup [.list [.int 2, .int 2], .int 1, .int 1], .tup [.list [.int 2, .int 2], .int 0, .int 1], .tup [.list [.int 4, .int 2], .int 1, .int 0], .tup [.list [.int 4, .int 2], .int 0, .int 0]]
noncomputable def rowsL2 : List PV := rowsB2.map fun b => .str (rowN b)
noncomputable def plainL2 : List PV := plainI2.map fun l => .list (l.map .int)
noncomputable def sizesL2 : List PV := sizesI2.map fun l => .list (l.map .int)
noncomputable def aboveL2 : List PV := aboveI2.map fun l => .list (l.map .int)
theorem rows_fact2 : ∀ bs ∈ rowsB2, bs.length ≤ 8 ∧ 1 ≤ bs.length ∧ ansB bs = [true, false, false, false] := by decide +kernel
theorem spans_fact2 : rowsB2.map spansB = plainI2 := by decide +kernel
theorem sizes_fact2 : ∀ l ∈ sizesI2, l.length = 2 ∧ ∀ d ∈ l, 0 ≤ d ∧ d ≤ 8 := by decide +kernel
theorem dig_fact2 : ∀ k < 2, digI (List.zipWith (· - ·) sizesI2.flatten (List.replicate 2 (sizesI2.getD k [])).flatten) 2 2 = aboveI2.getD k [] := by decide +kernel
theorem pair_fact2 : chkP 2 (.int 2) (.list aboveL2) (.list sizesL2) (.list shelfL2) = true := by decide +kernel
theorem tail2 {a0 a1 a5 a6 a7 a8 a9 a10 a11 a12 a14 a15 a16 a17 a18 a19 a20 a21 a22 a23 a24 a25 a26 : PV} (total part : Int) : (fbT [a0, a1, .int total, .int 2, .int part, a5, a6, a7, a8, a9, a10, a11, a12, .list aboveL2, a14, a15, a16, a17, a18, a19, a20, a21, a22, a23, a24, a25, a26, .undef, .undef, .undef, .undef, .undef, .undef]).map flOut = some (.bool true) := by
  refine tail_front fun X Y sd f hX hY hY0 hXY => ?_
  obtain ⟨e, he0, he1⟩ := fmod_lt (1 + part) (n := 2) (by decide)
  have he0' : (1 + part).fmod 2 = e := he0
  unfold fbT3
  refine dStepM (ρ1 := [a0, a1, .int total, .int 2, .int part, a5, a6, a7, a8, a9, a10, a11, a12, .list aboveL2, a14, a15, a16, a17, a18, a19, a20, a21, a22, a23, a24, a25, a26, .int (X * 9), .int Y, .int sd, .int f, .int 9, .undef]) (sForStep (items := [.int 9]) (by kernel_rfl) ?_) ?_
  · refine forCons (ρ1 := [a0, a1, .int total, .int 2, .int part, a5, a6, a7, a8, a9, a10, a11, a12, .list aboveL2, a14, a15, a16, a17, a18, a19, a20, a21, a22, a23, a24, a25, a26, .int (X), .int Y, .int sd, .int f, .int 9, .undef]) (ρ2 := [a0, a1, .int total, .int 2, .int part, a5, a6, a7, a8, a9, a10, a11, a12, .list aboveL2, a14, a15, a16, a17, a18, a19, a20, a21, a22, a23, a24, a25, a26, .int (X * 9), .int Y, .int sd, .int f, .int 9, .undef]) rfl (dStep (sAssignE (kBinE (a := .int (X)) (b := .int 9) rfl rfl (mul_small (Nat.lt_of_le_of_lt hX (by decide)) (by decide)))) rfl) ?_
    rfl
  refine dStepM (ρ1 := [a0, a1, .int total, .int 2, .int part, a5, a6, a7, a8, a9, a10, a11, a12, .list aboveL2, a14, a15, a16, a17, a18, a19, a20, a21, a22, a23, a24, a25, a26, .int (X * 9), .int (Y * 2 * 3), .int sd, .int f, .int 3, .undef]) (sForStep (items := [.int 2, .int 3]) (by kernel_rfl) ?_) ?_
  · refine forCons (ρ1 := [a0, a1, .int total, .int 2, .int part, a5, a6, a7, a8, a9, a10, a11, a12, .list aboveL2, a14, a15, a16, a17, a18, a19, a20, a21, a22, a23, a24, a25, a26, .int (X * 9), .int (Y), .int sd, .int f, .int 2, .undef]) (ρ2 := [a0, a1, .int total, .int 2, .int part, a5, a6, a7, a8, a9, a10, a11, a12, .list aboveL2, a14, a15, a16, a17, a18, a19, a20, a21, a22, a23, a24, a25, a26, .int (X * 9), .int (Y * 2), .int sd, .int f, .int 2, .undef]) rfl (dStep (sAssignE (kBinE (a := .int (Y)) (b := .int 2) rfl rfl (mul_small (Nat.lt_of_le_of_lt hY (by decide)) (by decide)))) rfl) ?_
    refine forCons (ρ1 := [a0, a1, .int total, .int 2, .int part, a5, a6, a7, a8, a9, a10, a11, a12, .list aboveL2, a14, a15, a16, a17, a18, a19, a20, a21, a22, a23, a24, a25, a26, .int (X * 9), .int (Y * 2), .int sd, .int f, .int 3, .undef]) (ρ2 := [a0, a1, .int total, .int 2, .int part, a5, a6, a7, a8, a9, a10, a11, a12, .list aboveL2, a14, a15, a16, a17, a18, a19, a20, a21, a22, a23, a24, a25, a26, .int (X * 9), .int (Y * 2 * 3), .int sd, .int f, .int 3, .undef]) rfl (dStep (sAssignE (kBinE (a := .int (Y * 2)) (b := .int 3) rfl rfl (mul_small (Nat.lt_of_le_of_lt (bdMul 2 hY) (by decide)) (by decide)))) rfl) ?_
    rfl
  obtain ⟨z, hz⟩ : ∃ z : Int, z = Y * 3 := ⟨_, rfl⟩
  have hzb : z.natAbs ≤ 60000000000 := by rw [hz]; exact Nat.le_trans (bdMul 3 hY) (by decide)
  have hz0 : z ≠ 0 := by clear hX hY hXY hzb he0 he0' he1; omega
  have hYF : Y * 2 * 3 = 2 * z := by clear hX hY hXY hzb he0 he0' he1; omega
  have hhalf : (Y * 2 * 3).fdiv 2 = z := by
    rw [hYF, Int.fdiv_eq_ediv_of_nonneg _ (by decide)]
    exact Int.mul_ediv_cancel_left _ (by decide)
  have he90 : ((e : Nat) : Int).natAbs < 2 ^ 90 := small_nat (by clear hX hY hXY hzb hz hz0 hYF hhalf; omega)
  refine dStepM (ρ1 := [a0, a1, .int total, .int 2, .int part, a5, a6, a7, a8, a9, a10, a11, a12, .list aboveL2, a14, a15, a16, a17, a18, a19, a20, a21, a22, a23, a24, a25, a26, .int (X * 9), .int (Y * 2 * 3), .int sd, .int f, .int 3, .int (z * (e : Int))]) (sAssignE ?_) ?_
  · refine kBinE (a := .int z) (b := .int (e : Int)) ?_ ?_ (mul_small (Nat.lt_of_le_of_lt hzb (by decide)) he90)
    · refine kBinE (a := .int (Y * 2 * 3)) (b := .int 2) rfl rfl ?_
      show (if (2 : Int) ≠ 0 ∧ (2 : Int).natAbs < 2 ^ 1000 then some (PV.int ((Y * 2 * 3).fdiv 2)) else none) = _
      rw [if_pos ⟨by decide, by decide +kernel⟩, hhalf]
    · exact (kBinE (a := .int (1 + part)) (b := .int 2) rfl rfl (mod_small (by decide))).trans (by rw [he0'])
  have hdm : fn_idm3 [.int (X * 9 + z * (e : Int)), .int (Y * 2 * 3)] [] = some (.tup [.int (sd * ((3 : Nat) : Int)), .int (z * (e : Int))]) :=
    tail_idm (w := z * ((3 : Nat) : Int)) hz0 hzb rfl (by decide) (by decide) he1 rfl hYF (by
      generalize z * (e : Int) = m
      clear hX hY hzb he0 he0' he1 he90 hYF hhalf
      rcases hXY with ⟨h1, rfl⟩ | ⟨h1, rfl⟩
      · exact .inl ⟨h1, by omega⟩
      · exact .inr ⟨h1, by omega⟩)
  have hsd : sd.natAbs < 2 ^ 90 := by rcases hXY with ⟨rfl, _⟩ | ⟨rfl, _⟩ <;> decide
  generalize hm : z * (e : Int) = m at hdm ⊢
  have hsum : (kCallB pSum (lCons (fun ρ => ((lComp [] [(Str.ofString "one")] (iVal (dVar 13)) (tSet 0) bT (eElt (kCallB pLen (lCons (dVar 0) lNil)))) ρ).map .list) lNil)) [a0, a1, .int total, .int 2, .int part, a5, a6, a7, a8, a9, a10, a11, a12, .list aboveL2, a14, a15, a16, a17, a18, a19, a20, a21, a22, a23, a24, a25, a26, .int (X * 9), .int (Y * 2 * 3), .int sd, .int f, .int 3, .int (m)] = some (.int ((3 : Nat) : Int)) := by kernel_rfl
  have hret : (kBin pEq (kCall fn_idm3 [] (lCons (kBin pAdd (dVar 27) (dVar 32)) (lCons (dVar 28) lNil)) lNil) (kTup (lCons (kBin pMul (dVar 29) (kCallB pSum (lCons (fun ρ => ((lComp [] [(Str.ofString "one")] (iVal (dVar 13)) (tSet 0) bT (eElt (kCallB pLen (lCons (dVar 0) lNil)))) ρ).map .list) lNil))) (lCons (dVar 32) lNil)))) [a0, a1, .int total, .int 2, .int part, a5, a6, a7, a8, a9, a10, a11, a12, .list aboveL2, a14, a15, a16, a17, a18, a19, a20, a21, a22, a23, a24, a25, a26, .int (X * 9), .int (Y * 2 * 3), .int sd, .int f, .int 3, .int (m)] = some (.bool true) := by
    have h3 : (lCons (kBin pMul (dVar 29) (kCallB pSum (lCons (fun ρ => ((lComp [] [(Str.ofString "one")] (iVal (dVar 13)) (tSet 0) bT (eElt (kCallB pLen (lCons (dVar 0) lNil)))) ρ).map .list) lNil))) (lCons (dVar 32) lNil)) [a0, a1, .int total, .int 2, .int part, a5, a6, a7, a8, a9, a10, a11, a12, .list aboveL2, a14, a15, a16, a17, a18, a19, a20, a21, a22, a23, a24, a25, a26, .int (X * 9), .int (Y * 2 * 3), .int sd, .int f, .int 3, .int (m)] = some [.int (sd * ((3 : Nat) : Int)), .int m] :=
      lConsE (kBinE (a := .int sd) (b := .int ((3 : Nat) : Int)) rfl hsum (mul_small hsd (by decide))) (lCons1 rfl)
    refine kBinE (a := .tup [.int (sd * ((3 : Nat) : Int)), .int m]) (b := .tup [.int (sd * ((3 : Nat) : Int)), .int m]) (kCallE (lConsE (kBinE (a := .int (X * 9)) (b := .int m) rfl rfl rfl) (lCons1 rfl)) hdm) ?_ ?_
    · show (lCons _ _ _).map PV.tup = _
      rw [h3]; rfl
    · show some (PV.bool ((sd * ((3 : Nat) : Int) == sd * ((3 : Nat) : Int)) && ((m == m) && true))) = _
      rw [beq_self_eq_true, beq_self_eq_true]; rfl
  exact sRet_last hret
theorem law2 (sc tl : PV) (total part : Int) (p0 p1 p2 : List Tk) (hp0 : p0 ∈ menuT) (hp1 : p1 ∈ menuT) (hp2 : p2 ∈ menuT) : (fb7 [sc, tl, .int total, .int 2, .int part, menuV, pcV [p0, p1, p2, [], [], [], [], []], .undef, .undef, .undef, .undef, .undef, .undef, .undef, .undef, .undef, .undef, .undef, .undef, .undef, .undef, .undef, .undef, .undef, .undef, .undef, .undef, .undef, .undef, .undef, .undef, .undef, .undef]).map flOut = some (.bool true) := by
  obtain ⟨low, hlow, hlt⟩ := fmod_lt part (n := 2) (by decide)
  have hlow' : part.fmod 2 = low := hlow
  have hrl : rowsB2.length = 2 := by kernel_rfl
  have hsl : sizesI2.length = 2 := by kernel_rfl
  have hpl : plainI2.length = 2 := by kernel_rfl
  have hal : aboveI2.length = 2 := by kernel_rfl
  have hrow : ∀ k < 2, rowsL2[k]? = some (.str (rowN (rowsB2.getD k []))) := fun k hk => by
    show (rowsB2.map _)[k]? = _
    rw [List.getElem?_map, getD_at [] (by omega)]; rfl
  unfold fb7
  refine dStepM (ρ1 := [sc, tl, .int total, .int 2, .int part, menuV, pcV [p0, p1, p2, [], [], [], [], []], .list rowsL2, .undef, .undef, .undef, .undef, .undef, .undef, .undef, .undef, .undef, .undef, .undef, .undef, .undef, .undef, .undef, .undef, .undef, .undef, .undef, .undef, .undef, .undef, .undef, .undef, .undef]) (by kernel_rfl) ?_
  refine dStepM (ρ1 := [sc, tl, .int total, .int 2, .int part, menuV, pcV [p0, p1, p2, [], [], [], [], []], .list rowsL2, .int (low : Int), .undef, .undef, .undef, .undef, .undef, .undef, .undef, .undef, .undef, .undef, .undef, .undef, .undef, .undef, .undef, .undef, .undef, .undef, .undef, .undef, .undef, .undef, .undef, .undef]) (sAssignE ((kBinE (a := .int part) (b := .int 2) rfl (by kernel_rfl) (mod_small (by decide))).trans (by rw [hlow']))) ?_
  refine dStepM (ρ1 := [sc, tl, .int total, .int 2, .int part, menuV, pcV [p0, p1, p2, [], [], [], [], []], .list rowsL2, .int (low : Int), .undef, .undef, .undef, .undef, .undef, .undef, .undef, .undef, .undef, .undef, .undef, .undef, .undef, .undef, .undef, .undef, .undef, .undef, .undef, .undef, .undef, .undef, .undef, .undef]) (sIfF ?_ rfl) ?_
  · obtain ⟨h1, h2, h3⟩ := rows_fact2 _ (getD_mem (l := rowsB2) (k := low) [] (by omega))
    have ha := answers_fn (piecesOk hp0 hp1 hp2 h1) h2
    rw [h3] at ha
    exact bCmpE (kCallE (lConsE (kBinE (a := .list rowsL2) (b := .int (low : Int)) rfl rfl (pItemL (hrow low hlt) (by decide +kernel))) (lCons1 rfl)) ha) rfl (by kernel_rfl)
  refine dStepM (ρ1 := [sc, tl, .int total, .int 2, .int part, menuV, pcV [p0, p1, p2, [], [], [], [], []], .list rowsL2, .int (low : Int), .list plainL2, .undef, .undef, .undef, .undef, .undef, .undef, .undef, .undef, .undef, .undef, .undef, .undef, .undef, .undef, .undef, .undef, .undef, .undef, .undef, .undef, .undef, .undef, .undef]) (by kernel_rfl) ?_
  refine dStepM (ρ1 := [sc, tl, .int total, .int 2, .int part, menuV, pcV [p0, p1, p2, [], [], [], [], []], .list rowsL2, .int (low : Int), .list plainL2, .list plainL2, .undef, .undef, .undef, .undef, .undef, .undef, .undef, .undef, .undef, .undef, .undef, .undef, .undef, .undef, .undef, .undef, .undef, .undef, .undef, .undef, .undef, .undef]) ?_ ?_
  · have hsp : (lComp [((Str.ofString "part"), 4), ((Str.ofString "rows"), 7), ((Str.ofString "pieces"), 6), ((Str.ofString "plain"), 9)] [(Str.ofString "i")] (iCall pRange (lCons (kCallB pLen (lCons (dVar 7) lNil)) lNil)) (tSet 4) bT (eElt (kIf (bCmp pEq (kBin pMod (kBin pAdd (dVar 4) (dVar 0)) (kC (.int 2))) (kC (.int 0))) (kCall fn_law_spans [] (lCons (kBin pItem (dVar 1) (dVar 4)) (lCons (dVar 2) lNil)) lNil) (kBin pItem (dVar 3) (dVar 4))))) [sc, tl, .int total, .int 2, .int part, menuV, pcV [p0, p1, p2, [], [], [], [], []], .list rowsL2, .int (low : Int), .list plainL2, .undef, .undef, .undef, .undef, .undef, .undef, .undef, .undef, .undef, .undef, .undef, .undef, .undef, .undef, .undef, .undef, .undef, .undef, .undef, .undef, .undef, .undef, .undef] = some plainL2 := by
      refine (lCompMap (List.range 2) (fun k => .int k) (fun k => [.list ((plainI2.getD k []).map .int)]) (fun r => ∃ q, r = [.int part, .list rowsL2, pcV [p0, p1, p2, [], [], [], [], []], .list plainL2, q]) (by kernel_rfl) ?_ (by decide) ⟨.undef, rfl⟩).trans ?_
      · rintro k hk r ⟨q, rfl⟩
        have hk := List.mem_range.mp hk
        refine ⟨[.int part, .list rowsL2, pcV [p0, p1, p2, [], [], [], [], []], .list plainL2, .int k], rfl, ⟨_, rfl⟩, .inr ⟨_, rfl, rfl, ?_⟩⟩
        have hc : (bCmp pEq (kBin pMod (kBin pAdd (dVar 4) (dVar 0)) (kC (.int 2))) (kC (.int 0))) [.int part, .list rowsL2, pcV [p0, p1, p2, [], [], [], [], []], .list plainL2, .int k] = some (((k : Int) + part).fmod 2 == 0) :=
          bCmpE (kBinE (a := .int ((k : Int) + part)) (b := .int 2) rfl rfl (mod_small (by decide))) rfl rfl
        obtain ⟨h1, h2, h3⟩ := rows_fact2 _ (getD_mem (l := rowsB2) (k := k) [] (by omega))
        have hs := spans_fn (piecesOk hp0 hp1 hp2 h1)
        have hpk : spansB (rowsB2.getD k []) = plainI2.getD k [] := by
          have h4 : (rowsB2.map spansB)[k]? = some (spansB (rowsB2.getD k [])) := by rw [List.getElem?_map, getD_at [] (by omega)]; rfl
          rw [spans_fact2, getD_at [] (by omega)] at h4
          exact (Option.some.inj h4).symm
        rw [hpk] at hs
        refine kIfE hc (fun _ => kCallE (lConsE (kBinE (a := .list rowsL2) (b := .int (k : Int)) rfl rfl (pItemL (hrow k hk) (by decide +kernel))) (lCons1 rfl)) hs) fun _ => ?_
        · have h5 : plainL2[k]? = some (.list ((plainI2.getD k []).map .int)) := by
            show (plainI2.map _)[k]? = _
            rw [List.getElem?_map, getD_at [] (by omega)]; rfl
          exact kBinE (a := .list plainL2) (b := .int (k : Int)) rfl rfl (pItemL h5 (by decide +kernel))
      · rw [flatten_single]; kernel_rfl
    exact sAssignE (by
      show ((lComp [((Str.ofString "part"), 4), ((Str.ofString "rows"), 7), ((Str.ofString "pieces"), 6), ((Str.ofString "plain"), 9)] [(Str.ofString "i")] (iCall pRange (lCons (kCallB pLen (lCons (dVar 7) lNil)) lNil)) (tSet 4) bT (eElt (kIf (bCmp pEq (kBin pMod (kBin pAdd (dVar 4) (dVar 0)) (kC (.int 2))) (kC (.int 0))) (kCall fn_law_spans [] (lCons (kBin pItem (dVar 1) (dVar 4)) (lCons (dVar 2) lNil)) lNil) (kBin pItem (dVar 3) (dVar 4))))) [sc, tl, .int total, .int 2, .int part, menuV, pcV [p0, p1, p2, [], [], [], [], []], .list rowsL2, .int (low : Int), .list plainL2, .undef, .undef, .undef, .undef, .undef, .undef, .undef, .undef, .undef, .undef, .undef, .undef, .undef, .undef, .undef, .undef, .undef, .undef, .undef, .undef, .undef, .undef, .undef]).map PV.list = _
      rw [hsp]; rfl)
  refine dStepM (ρ1 := [sc, tl, .int total, .int 2, .int part, menuV, pcV [p0, p1, p2, [], [], [], [], []], .list rowsL2, .int (low : Int), .list plainL2, .list plainL2, .undef, .undef, .undef, .undef, .undef, .undef, .undef, .undef, .undef, .undef, .undef, .undef, .undef, .undef, .undef, .undef, .undef, .undef, .undef, .undef, .undef, .undef]) (by kernel_rfl) ?_
  refine dStepM (ρ1 := [sc, tl, .int total, .int 2, .int part, menuV, pcV [p0, p1, p2, [], [], [], [], []], .list rowsL2, .int (low : Int), .list plainL2, .list plainL2, upsV2, .undef, .undef, .undef, .undef, .undef, .undef, .undef, .undef, .undef, .undef, .undef, .undef, .undef, .undef, .undef, .undef, .undef, .undef, .undef, .undef, .undef]) (by kernel_rfl) ?_
  refine dStepM (ρ1 := [sc, tl, .int total, .int 2, .int part, menuV, pcV [p0, p1, p2, [], [], [], [], []], .list rowsL2, .int (low : Int), .list plainL2, .list plainL2, upsV2, coversV2, .undef, .undef, .undef, .undef, .undef, .undef, .undef, .undef, .undef, .undef, .undef, .undef, .undef, .undef, .undef, .undef, .undef, .undef, .undef, .undef]) (by kernel_rfl) ?_
  refine dStepM (ρ1 := [sc, tl, .int total, .int 2, .int part, menuV, pcV [p0, p1, p2, [], [], [], [], []], .list rowsL2, .int (low : Int), .list plainL2, .list plainL2, upsV2, coversV2, .undef, .undef, .undef, .undef, .undef, .undef, .undef, .undef, .undef, .undef, .undef, .undef, .undef, .undef, .undef, .undef, .undef, .undef, .undef, .undef]) (by kernel_rfl) ?_
  refine dStepM (ρ1 := [sc, tl, .int total, .int 2, .int part, menuV, pcV [p0, p1, p2, [], [], [], [], []], .list rowsL2, .int (low : Int), .list plainL2, .list plainL2, upsV2, coversV2, .list aboveL2, .undef, .undef, .undef, .undef, .undef, .undef, .undef, .undef, .undef, .undef, .undef, .undef, .undef, .undef, .undef, .undef, .undef, .undef, .undef]) (by kernel_rfl) ?_
  refine dStepM (ρ1 := [sc, tl, .int total, .int 2, .int part, menuV, pcV [p0, p1, p2, [], [], [], [], []], .list rowsL2, .int (low : Int), .list plainL2, .list plainL2, upsV2, coversV2, .list aboveL2, .list sizesL2, .undef, .undef, .undef, .undef, .undef, .undef, .undef, .undef, .undef, .undef, .undef, .undef, .undef, .undef, .undef, .undef, .undef, .undef]) (by kernel_rfl) ?_
  obtain ⟨w0, hw0, hw1⟩ := fmod_lt part (n := 60) (by decide)
  have hw0' : part.fmod 60 = w0 := hw0
  obtain ⟨w, hw⟩ : ∃ w : Nat, w = 5 + w0 := ⟨_, rfl⟩
  refine dStepM (ρ1 := [sc, tl, .int total, .int 2, .int part, menuV, pcV [p0, p1, p2, [], [], [], [], []], .list rowsL2, .int (low : Int), .list plainL2, .list plainL2, upsV2, coversV2, .list aboveL2, .list sizesL2, .int (w : Int), .undef, .undef, .undef, .undef, .undef, .undef, .undef, .undef, .undef, .undef, .undef, .undef, .undef, .undef, .undef, .undef, .undef]) (sAssignE (kBinE (a := .int 5) (b := .int (w0 : Int)) rfl ((kBinE (a := .int part) (b := .int 60) rfl rfl (mod_small (by decide))).trans (by rw [hw0'])) (by
    show some (PV.int (5 + (w0 : Int))) = _
    rw [hw, Int.natCast_add]; rfl))) ?_
  obtain ⟨G, hG⟩ : ∃ G : Int, G = ((2 ^ (w - 1) : Nat) : Int) := ⟨_, rfl⟩
  refine dStepM (ρ1 := [sc, tl, .int total, .int 2, .int part, menuV, pcV [p0, p1, p2, [], [], [], [], []], .list rowsL2, .int (low : Int), .list plainL2, .list plainL2, upsV2, coversV2, .list aboveL2, .list sizesL2, .int (w : Int), .int G, .undef, .undef, .undef, .undef, .undef, .undef, .undef, .undef, .undef, .undef, .undef, .undef, .undef, .undef, .undef, .undef]) (sAssignE (kBinE (a := .int 2) (b := .int ((w : Int) - 1)) rfl rfl ?_)) ?_
  · show (if 0 ≤ (w : Int) - 1 ∧ (w : Int) - 1 ≤ 1000000 ∧ (2 : Int).natAbs < 2 ^ 64 then some (PV.int ((2 : Int) ^ ((w : Int) - 1).toNat)) else none) = _
    rw [if_pos ⟨by omega, by omega, by decide⟩, hG]
    have : ((w : Int) - 1).toNat = w - 1 := by omega
    rw [this, Int.natCast_pow]; rfl
  have hT := sizes_fact2 _ (getD_mem (l := sizesI2) (k := low) [] (by omega))
  have hrep : (List.replicate 2 (sizesI2.getD low [])).flatten.length = 4 := by
    rw [List.length_flatten, List.map_replicate, List.sum_replicate_nat, hT.1]
  have hfl : sizesI2.flatten.length = 4 := by kernel_rfl
  obtain ⟨A, A2, e1, e2, e3⟩ := digs (w := w) (G := G) (by omega) (by omega) hG (u := sizesI2.flatten) (v := (List.replicate 2 (sizesI2.getD low [])).flatten) (by rw [hfl, hrep]) (by rw [hfl]; decide) (by rw [hfl]; decide) (fun d hd => by
    obtain ⟨l, hl, hd⟩ := List.mem_flatten.mp hd
    exact (sizes_fact2 l hl).2 d hd) (fun d hd => by
    obtain ⟨l, hl, hd⟩ := List.mem_flatten.mp hd
    rw [(List.mem_replicate.mp hl).2] at hd
    exact hT.2 d hd)
  refine dStepM (ρ1 := [sc, tl, .int total, .int 2, .int part, menuV, pcV [p0, p1, p2, [], [], [], [], []], .list rowsL2, .int (low : Int), .list plainL2, .list plainL2, upsV2, coversV2, .list aboveL2, .list sizesL2, .int (w : Int), .int G, .int A, .undef, .undef, .undef, .undef, .undef, .undef, .undef, .undef, .undef, .undef, .undef, .undef, .undef, .undef, .undef]) (sAssignE (kCallE (lConsE (a := .list ((sizesI2.flatten.map (G + ·)).map .int)) (by kernel_rfl) (lCons1 rfl)) e1)) ?_
  refine dStepM (ρ1 := [sc, tl, .int total, .int 2, .int part, menuV, pcV [p0, p1, p2, [], [], [], [], []], .list rowsL2, .int (low : Int), .list plainL2, .list plainL2, upsV2, coversV2, .list aboveL2, .list sizesL2, .int (w : Int), .int G, .int A, .list (((List.zipWith (· - ·) sizesI2.flatten (List.replicate 2 (sizesI2.getD low [])).flatten).map (G + ·)).map .int), .undef, .undef, .undef, .undef, .undef, .undef, .undef, .undef, .undef, .undef, .undef, .undef, .undef, .undef]) (sAssignE (kCallE (lConsE (a := .int (A - A2)) (kBinE (a := .int A) (b := .int A2) rfl (kCallE (lConsE (a := .list ((List.replicate 2 (sizesI2.getD low [])).flatten.map .int)) (kBinE (a := .list ((sizesI2.getD low []).map .int)) (b := .int 2) (kBinE (a := .list sizesL2) (b := .int (low : Int)) rfl rfl (pItemL ?_ (by decide +kernel))) (by kernel_rfl) ?_) (lCons1 rfl)) e2) rfl) (lCons1 rfl)) e3)) ?_
  · show (sizesI2.map _)[low]? = _
    rw [List.getElem?_map, getD_at [] (by omega)]; rfl
  · show (if 0 ≤ (2 : Int) ∧ (2 : Int) ≤ 1000 ∧ ((sizesI2.getD low []).map PV.int).length ≤ 1000 then some (PV.list (List.replicate (2 : Int).toNat ((sizesI2.getD low []).map PV.int)).flatten) else none) = _
    rw [if_pos ⟨by decide, by decide, by rw [List.length_map, hT.1]; decide⟩, List.map_flatten, List.map_replicate]
    rfl
  have hDl : (List.zipWith (· - ·) sizesI2.flatten (List.replicate 2 (sizesI2.getD low [])).flatten).length = 2 * 2 := by
    rw [List.length_zipWith, hfl, hrep]; rfl
  refine dStepM (ρ1 := [sc, tl, .int total, .int 2, .int part, menuV, pcV [p0, p1, p2, [], [], [], [], []], .list rowsL2, .int (low : Int), .list plainL2, .list plainL2, upsV2, coversV2, .list aboveL2, .list sizesL2, .int (w : Int), .int G, .int A, .list (((List.zipWith (· - ·) sizesI2.flatten (List.replicate 2 (sizesI2.getD low [])).flatten).map (G + ·)).map .int), .undef, .undef, .undef, .undef, .undef, .undef, .undef, .undef, .undef, .undef, .undef, .undef, .undef, .undef]) (sIfF ?_ rfl) ?_
  · have hd := digits_comp (p := 2) (n := 2) (G := G) (rows := rowsL2) (ρ := [sc, tl, .int total, .int 2, .int part, menuV, pcV [p0, p1, p2, [], [], [], [], []], .list rowsL2, .int (low : Int), .list plainL2, .list plainL2, upsV2, coversV2, .list aboveL2, .list sizesL2, .int (w : Int), .int G, .int A, .list (((List.zipWith (· - ·) sizesI2.flatten (List.replicate 2 (sizesI2.getD low [])).flatten).map (G + ·)).map .int), .undef, .undef, .undef, .undef, .undef, .undef, .undef, .undef, .undef, .undef, .undef, .undef, .undef, .undef]) (by decide) (by decide) (by decide) hDl rfl rfl rfl rfl (by kernel_rfl)
    rw [digI_B, dig_fact2 low hlt] at hd
    have hb1 : (bCmp pNe (kCallB pLen (lCons (dVar 18) lNil)) (kBin pMul (dVar 3) (kCallB pLen (lCons (dVar 7) lNil)))) [sc, tl, .int total, .int 2, .int part, menuV, pcV [p0, p1, p2, [], [], [], [], []], .list rowsL2, .int (low : Int), .list plainL2, .list plainL2, upsV2, coversV2, .list aboveL2, .list sizesL2, .int (w : Int), .int G, .int A, .list (((List.zipWith (· - ·) sizesI2.flatten (List.replicate 2 (sizesI2.getD low [])).flatten).map (G + ·)).map .int), .undef, .undef, .undef, .undef, .undef, .undef, .undef, .undef, .undef, .undef, .undef, .undef, .undef, .undef] = some false := by
      refine bCmpE (a := .int 4) (b := .int 4) (kCallBE (lCons1 rfl) ?_) (by kernel_rfl) rfl
      have h6 := len_list (x := (((List.zipWith (· - ·) sizesI2.flatten (List.replicate 2 (sizesI2.getD low [])).flatten).map (G + ·)).map PV.int)) (by rw [List.length_map, List.length_map, hDl]; decide)
      rw [List.length_map, List.length_map, hDl] at h6
      exact h6
    have hb2 : (bCmp pNe (fun ρ => (lComp [((Str.ofString "digits"), 18), ((Str.ofString "pairs"), 3), ((Str.ofString "guard"), 16)] [(Str.ofString "j")] (iCall pRange (lCons (kCallB pLen (lCons (dVar 7) lNil)) lNil)) (tSet 3) (bCmp pGe (kCallB pMin (lCons (kSlice (dVar 0) (kBin pMul (dVar 3) (dVar 1)) (kBin pMul (kBin pAdd (dVar 3) (kC (.int 1))) (dVar 1))) lNil)) (dVar 2)) (eElt (dVar 3)) ρ).map .list) (kBin pItem (dVar 13) (dVar 8))) [sc, tl, .int total, .int 2, .int part, menuV, pcV [p0, p1, p2, [], [], [], [], []], .list rowsL2, .int (low : Int), .list plainL2, .list plainL2, upsV2, coversV2, .list aboveL2, .list sizesL2, .int (w : Int), .int G, .int A, .list (((List.zipWith (· - ·) sizesI2.flatten (List.replicate 2 (sizesI2.getD low [])).flatten).map (G + ·)).map .int), .undef, .undef, .undef, .undef, .undef, .undef, .undef, .undef, .undef, .undef, .undef, .undef, .undef, .undef] = some false := by
      refine bCmpE (a := .list ((aboveI2.getD low []).map .int)) (b := .list ((aboveI2.getD low []).map .int)) ?_ (kBinE (a := .list aboveL2) (b := .int (low : Int)) rfl rfl (pItemL ?_ (by decide +kernel))) ?_
      · show (lComp _ _ _ _ _ _ _).map _ = _
        rw [hd]; rfl
      · show (aboveI2.map _)[low]? = _
        rw [List.getElem?_map, getD_at [] (by omega)]; rfl
      · exact ne_self_ints _
    show ((bCmp pNe _ _) _).bind _ = _
    rw [hb1]
    show ((bCmp pNe _ _) _).bind _ = _
    rw [hb2]
    rfl
  refine dStepM (ρ1 := [sc, tl, .int total, .int 2, .int part, menuV, pcV [p0, p1, p2, [], [], [], [], []], .list rowsL2, .int (low : Int), .list plainL2, .list plainL2, upsV2, coversV2, .list aboveL2, .list sizesL2, .int (w : Int), .int G, .int A, .list (((List.zipWith (· - ·) sizesI2.flatten (List.replicate 2 (sizesI2.getD low [])).flatten).map (G + ·)).map .int), .own [], .undef, .undef, .undef, .undef, .undef, .undef, .undef, .undef, .undef, .undef, .undef, .undef, .undef]) rfl ?_
  refine dStepM (ρ1 := [sc, tl, .int total, .int 2, .int part, menuV, pcV [p0, p1, p2, [], [], [], [], []], .list rowsL2, .int (low : Int), .list plainL2, .list plainL2, upsV2, coversV2, .list aboveL2, .list sizesL2, .int (w : Int), .int G, .int A, .list (((List.zipWith (· - ·) sizesI2.flatten (List.replicate 2 (sizesI2.getD low [])).flatten).map (G + ·)).map .int), .own shelfL2, .int 0, .int 1, .undef, .undef, .undef, .undef, .undef, .undef, .undef, .undef, .undef, .undef, .undef]) (by kernel_rfl) ?_
  show ((dSeq _ _) [sc, tl, .int total, .int 2, .int part, menuV, pcV [p0, p1, p2, [], [], [], [], []], .list rowsL2, .int (low : Int), .list plainL2, .list plainL2, upsV2, coversV2, .list aboveL2, .list sizesL2, .int (w : Int), .int G, .int A, .list (((List.zipWith (· - ·) sizesI2.flatten (List.replicate 2 (sizesI2.getD low [])).flatten).map (G + ·)).map .int), .list shelfL2, .int 0, .int 1, .undef, .undef, .undef, .undef, .undef, .undef, .undef, .undef, .undef, .undef, .undef]).map flOut = _
  refine dStepM (ρ1 := [sc, tl, .int total, .int 2, .int part, menuV, pcV [p0, p1, p2, [], [], [], [], []], .list rowsL2, .int (low : Int), .list plainL2, .list plainL2, upsV2, coversV2, .list aboveL2, .list sizesL2, .int (w : Int), .int G, .int A, .list (((List.zipWith (· - ·) sizesI2.flatten (List.replicate 2 (sizesI2.getD low [])).flatten).map (G + ·)).map .int), .list shelfL2, .int 0, .int 1, .undef, .undef, .undef, .undef, .undef, .undef, .undef, .undef, .undef, .undef, .undef]) (by kernel_rfl) ?_
  obtain ⟨x21, x22, z23, z24, z25, z26, hp⟩ := pair_loop (n := 2) (a := fun k => ([sc, tl, .int total, .int 2, .int part, menuV, pcV [p0, p1, p2, [], [], [], [], []], .list rowsL2, .int (low : Int), .list plainL2, .list plainL2, upsV2, coversV2, .list aboveL2, .list sizesL2, .int (w : Int), .int G, .int A, .list (((List.zipWith (· - ·) sizesI2.flatten (List.replicate 2 (sizesI2.getD low [])).flatten).map (G + ·)).map .int), .list shelfL2, .int 0, .int 1, .undef, .undef, .undef, .undef, .undef, .undef, .undef, .undef, .undef, .undef, .undef] : List PV).getD k .undef) (p := .int 2) (ab := .list aboveL2) (sz := .list sizesL2) (sh := .list shelfL2) (rows := rowsL2) (part := part) (by decide) (by decide) (by kernel_rfl) rfl rfl pair_fact2 (.int 1) .undef .undef .undef .undef .undef
  refine dStepM hp ?_
  exact tail2 total part
noncomputable def rowsB3 : List (List Bool) := [[true, true, true, false, false, false], [true, true, false, true, false, false], [true, true, false, false, true, false], [true, false, true, true, false, false], [true, false, true, false, true, false]]
noncomputable def plainI3 : List (List Int) := [[6, 4, 2, 0, 0, 0], [6, 2, 0, 2, 0, 0], [4, 2, 0, 0, 2, 0], [2, 0, 4, 2, 0, 0], [2, 0, 2, 0, 2, 0]]
noncomputable def sizesI3 : List (List Int) := [[6, 4, 2], [6, 2, 2], [4, 2, 2], [2, 4, 2], [2, 2, 2]]
noncomputable def aboveI3 : List (List Int) := [[0], [0, 1], [0, 1, 2], [0, 3], [0, 1, 2, 3, 4]]
noncomputable def upsV3 : PV := .list [.list [], .list [.str [40, 40, 40, 41, 41, 41]], .list [.str [40, 40, 41, 40, 41, 41]], .list [.str [40, 40, 40, 41, 41, 41]], .list [.str [40, 40, 41, 41, 40, 41], .str [40, 41, 40, 40, 41, 41]]]
noncomputable def coversV3 : PV := .list [.list [], .list [.int 0], .list [.int 1], .list [.int 0], .list [.int 2, .int 3]]
noncomputable def shelfL3 : List PV := [.tup [.list [.int 2, .int 2, .int 2], .int 1, .int 4], .tup [.list [.int 2, .int 2, .int 2], .int 0, .int 4], .tup [.list [.int 2, .int 4, .int 2], .int 1, .int 3], .tup [.list [.int 2, .int 4, .int 2], .int 0, .int 3], .tup [.list [.int 4, .int 2, .int 2], .int 1, .int 2], .tup [.list [.int 4, .int 2, .int 2], .int 0, .int 2], .tup [.list [.int 6, .int 2, .int 2], .int 1, .int 1], .tup [.list [.int 6, .int 2, .int 2], .int 0, .int 1], .tup [.list [.int 6, .int 4, .int 2], .int 1, .int 0], .tup [.list [.int 6, .int 4, .int 2], .int 0, .int 0]]
noncomputable def rowsL3 : List PV := rowsB3.map fun b => .str (rowN b)
noncomputable def plainL3 : List PV := plainI3.map fun l => .list (l.map .int)
noncomputable def sizesL3 : List PV := sizesI3.map fun l => .list (l.map .int)
noncomputable def aboveL3 : List PV := aboveI3.map fun l => .list (l.map .int)
theorem rows_fact3 : ∀ bs ∈ rowsB3, bs.length ≤ 8 ∧ 1 ≤ bs.length ∧ ansB bs = [true, false, false, false] := by decide +kernel
theorem spans_fact3 : rowsB3.map spansB = plainI3 := by decide +kernel
theorem sizes_fact3 : ∀ l ∈ sizesI3, l.length = 3 ∧ ∀ d ∈ l, 0 ≤ d ∧ d ≤ 8 := by decide +kernel
theorem dig_fact3 : ∀ k < 5, digI (List.zipWith (· - ·) sizesI3.flatten (List.replicate 5 (sizesI3.getD k [])).flatten) 3 5 = aboveI3.getD k [] := by decide +kernel
theorem pair_fact3 : chkP 5 (.int 3) (.list aboveL3) (.list sizesL3) (.list shelfL3) = true := by decide +kernel
theorem tail3 {a0 a1 a5 a6 a7 a8 a9 a10 a11 a12 a14 a15 a16 a17 a18 a19 a20 a21 a22 a23 a24 a25 a26 : PV} (total part : Int) : (fbT [a0, a1, .int total, .int 3, .int part, a5, a6, a7, a8, a9, a10, a11, a12, .list aboveL3, a14, a15, a16, a17, a18, a19, a20, a21, a22, a23, a24, a25, a26, .undef, .undef, .undef, .undef, .undef, .undef]).map flOut = some (.bool true) := by
  refine tail_front fun X Y sd f hX hY hY0 hXY => ?_
  obtain ⟨e, he0, he1⟩ := fmod_lt (1 + part) (n := 2) (by decide)
  have he0' : (1 + part).fmod 2 = e := he0
  unfold fbT3
  refine dStepM (ρ1 := [a0, a1, .int total, .int 3, .int part, a5, a6, a7, a8, a9, a10, a11, a12, .list aboveL3, a14, a15, a16, a17, a18, a19, a20, a21, a22, a23, a24, a25, a26, .int (X * 12 * 13), .int Y, .int sd, .int f, .int 13, .undef]) (sForStep (items := [.int 12, .int 13]) (by kernel_rfl) ?_) ?_
  · refine forCons (ρ1 := [a0, a1, .int total, .int 3, .int part, a5, a6, a7, a8, a9, a10, a11, a12, .list aboveL3, a14, a15, a16, a17, a18, a19, a20, a21, a22, a23, a24, a25, a26, .int (X), .int Y, .int sd, .int f, .int 12, .undef]) (ρ2 := [a0, a1, .int total, .int 3, .int part, a5, a6, a7, a8, a9, a10, a11, a12, .list aboveL3, a14, a15, a16, a17, a18, a19, a20, a21, a22, a23, a24, a25, a26, .int (X * 12), .int Y, .int sd, .int f, .int 12, .undef]) rfl (dStep (sAssignE (kBinE (a := .int (X)) (b := .int 12) rfl rfl (mul_small (Nat.lt_of_le_of_lt hX (by decide)) (by decide)))) rfl) ?_
    refine forCons (ρ1 := [a0, a1, .int total, .int 3, .int part, a5, a6, a7, a8, a9, a10, a11, a12, .list aboveL3, a14, a15, a16, a17, a18, a19, a20, a21, a22, a23, a24, a25, a26, .int (X * 12), .int Y, .int sd, .int f, .int 13, .undef]) (ρ2 := [a0, a1, .int total, .int 3, .int part, a5, a6, a7, a8, a9, a10, a11, a12, .list aboveL3, a14, a15, a16, a17, a18, a19, a20, a21, a22, a23, a24, a25, a26, .int (X * 12 * 13), .int Y, .int sd, .int f, .int 13, .undef]) rfl (dStep (sAssignE (kBinE (a := .int (X * 12)) (b := .int 13) rfl rfl (mul_small (Nat.lt_of_le_of_lt (bdMul 12 hX) (by decide)) (by decide)))) rfl) ?_
    rfl
  refine dStepM (ρ1 := [a0, a1, .int total, .int 3, .int part, a5, a6, a7, a8, a9, a10, a11, a12, .list aboveL3, a14, a15, a16, a17, a18, a19, a20, a21, a22, a23, a24, a25, a26, .int (X * 12 * 13), .int (Y * 2 * 3 * 4), .int sd, .int f, .int 4, .undef]) (sForStep (items := [.int 2, .int 3, .int 4]) (by kernel_rfl) ?_) ?_
  · refine forCons (ρ1 := [a0, a1, .int total, .int 3, .int part, a5, a6, a7, a8, a9, a10, a11, a12, .list aboveL3, a14, a15, a16, a17, a18, a19, a20, a21, a22, a23, a24, a25, a26, .int (X * 12 * 13), .int (Y), .int sd, .int f, .int 2, .undef]) (ρ2 := [a0, a1, .int total, .int 3, .int part, a5, a6, a7, a8, a9, a10, a11, a12, .list aboveL3, a14, a15, a16, a17, a18, a19, a20, a21, a22, a23, a24, a25, a26, .int (X * 12 * 13), .int (Y * 2), .int sd, .int f, .int 2, .undef]) rfl (dStep (sAssignE (kBinE (a := .int (Y)) (b := .int 2) rfl rfl (mul_small (Nat.lt_of_le_of_lt hY (by decide)) (by decide)))) rfl) ?_
    refine forCons (ρ1 := [a0, a1, .int total, .int 3, .int part, a5, a6, a7, a8, a9, a10, a11, a12, .list aboveL3, a14, a15, a16, a17, a18, a19, a20, a21, a22, a23, a24, a25, a26, .int (X * 12 * 13), .int (Y * 2), .int sd, .int f, .int 3, .undef]) (ρ2 := [a0, a1, .int total, .int 3, .int part, a5, a6, a7, a8, a9, a10, a11, a12, .list aboveL3, a14, a15, a16, a17, a18, a19, a20, a21, a22, a23, a24, a25, a26, .int (X * 12 * 13), .int (Y * 2 * 3), .int sd, .int f, .int 3, .undef]) rfl (dStep (sAssignE (kBinE (a := .int (Y * 2)) (b := .int 3) rfl rfl (mul_small (Nat.lt_of_le_of_lt (bdMul 2 hY) (by decide)) (by decide)))) rfl) ?_
    refine forCons (ρ1 := [a0, a1, .int total, .int 3, .int part, a5, a6, a7, a8, a9, a10, a11, a12, .list aboveL3, a14, a15, a16, a17, a18, a19, a20, a21, a22, a23, a24, a25, a26, .int (X * 12 * 13), .int (Y * 2 * 3), .int sd, .int f, .int 4, .undef]) (ρ2 := [a0, a1, .int total, .int 3, .int part, a5, a6, a7, a8, a9, a10, a11, a12, .list aboveL3, a14, a15, a16, a17, a18, a19, a20, a21, a22, a23, a24, a25, a26, .int (X * 12 * 13), .int (Y * 2 * 3 * 4), .int sd, .int f, .int 4, .undef]) rfl (dStep (sAssignE (kBinE (a := .int (Y * 2 * 3)) (b := .int 4) rfl rfl (mul_small (Nat.lt_of_le_of_lt (bdMul 3 (bdMul 2 hY)) (by decide)) (by decide)))) rfl) ?_
    rfl
  obtain ⟨z, hz⟩ : ∃ z : Int, z = Y * 12 := ⟨_, rfl⟩
  have hzb : z.natAbs ≤ 60000000000 := by rw [hz]; exact Nat.le_trans (bdMul 12 hY) (by decide)
  have hz0 : z ≠ 0 := by clear hX hY hXY hzb he0 he0' he1; omega
  have hYF : Y * 2 * 3 * 4 = 2 * z := by clear hX hY hXY hzb he0 he0' he1; omega
  have hhalf : (Y * 2 * 3 * 4).fdiv 2 = z := by
    rw [hYF, Int.fdiv_eq_ediv_of_nonneg _ (by decide)]
    exact Int.mul_ediv_cancel_left _ (by decide)
  have he90 : ((e : Nat) : Int).natAbs < 2 ^ 90 := small_nat (by clear hX hY hXY hzb hz hz0 hYF hhalf; omega)
  refine dStepM (ρ1 := [a0, a1, .int total, .int 3, .int part, a5, a6, a7, a8, a9, a10, a11, a12, .list aboveL3, a14, a15, a16, a17, a18, a19, a20, a21, a22, a23, a24, a25, a26, .int (X * 12 * 13), .int (Y * 2 * 3 * 4), .int sd, .int f, .int 4, .int (z * (e : Int))]) (sAssignE ?_) ?_
  · refine kBinE (a := .int z) (b := .int (e : Int)) ?_ ?_ (mul_small (Nat.lt_of_le_of_lt hzb (by decide)) he90)
    · refine kBinE (a := .int (Y * 2 * 3 * 4)) (b := .int 2) rfl rfl ?_
      show (if (2 : Int) ≠ 0 ∧ (2 : Int).natAbs < 2 ^ 1000 then some (PV.int ((Y * 2 * 3 * 4).fdiv 2)) else none) = _
      rw [if_pos ⟨by decide, by decide +kernel⟩, hhalf]
    · exact (kBinE (a := .int (1 + part)) (b := .int 2) rfl rfl (mod_small (by decide))).trans (by rw [he0'])
  have hdm : fn_idm3 [.int (X * 12 * 13 + z * (e : Int)), .int (Y * 2 * 3 * 4)] [] = some (.tup [.int (sd * ((13 : Nat) : Int)), .int (z * (e : Int))]) :=
    tail_idm (w := z * ((13 : Nat) : Int)) hz0 hzb rfl (by decide) (by decide) he1 rfl hYF (by
      generalize z * (e : Int) = m
      clear hX hY hzb he0 he0' he1 he90 hYF hhalf
      rcases hXY with ⟨h1, rfl⟩ | ⟨h1, rfl⟩
      · exact .inl ⟨h1, by omega⟩
      · exact .inr ⟨h1, by omega⟩)
  have hsd : sd.natAbs < 2 ^ 90 := by rcases hXY with ⟨rfl, _⟩ | ⟨rfl, _⟩ <;> decide
  generalize hm : z * (e : Int) = m at hdm ⊢
  have hsum : (kCallB pSum (lCons (fun ρ => ((lComp [] [(Str.ofString "one")] (iVal (dVar 13)) (tSet 0) bT (eElt (kCallB pLen (lCons (dVar 0) lNil)))) ρ).map .list) lNil)) [a0, a1, .int total, .int 3, .int part, a5, a6, a7, a8, a9, a10, a11, a12, .list aboveL3, a14, a15, a16, a17, a18, a19, a20, a21, a22, a23, a24, a25, a26, .int (X * 12 * 13), .int (Y * 2 * 3 * 4), .int sd, .int f, .int 4, .int (m)] = some (.int ((13 : Nat) : Int)) := by kernel_rfl
  have hret : (kBin pEq (kCall fn_idm3 [] (lCons (kBin pAdd (dVar 27) (dVar 32)) (lCons (dVar 28) lNil)) lNil) (kTup (lCons (kBin pMul (dVar 29) (kCallB pSum (lCons (fun ρ => ((lComp [] [(Str.ofString "one")] (iVal (dVar 13)) (tSet 0) bT (eElt (kCallB pLen (lCons (dVar 0) lNil)))) ρ).map .list) lNil))) (lCons (dVar 32) lNil)))) [a0, a1, .int total, .int 3, .int part, a5, a6, a7, a8, a9, a10, a11, a12, .list aboveL3, a14, a15, a16, a17, a18, a19, a20, a21, a22, a23, a24, a25, a26, .int (X * 12 * 13), .int (Y * 2 * 3 * 4), .int sd, .int f, .int 4, .int (m)] = some (.bool true) := by
    have h3 : (lCons (kBin pMul (dVar 29) (kCallB pSum (lCons (fun ρ => ((lComp [] [(Str.ofString "one")] (iVal (dVar 13)) (tSet 0) bT (eElt (kCallB pLen (lCons (dVar 0) lNil)))) ρ).map .list) lNil))) (lCons (dVar 32) lNil)) [a0, a1, .int total, .int 3, .int part, a5, a6, a7, a8, a9, a10, a11, a12, .list aboveL3, a14, a15, a16, a17, a18, a19, a20, a21, a22, a23, a24, a25, a26, .int (X * 12 * 13), .int (Y * 2 * 3 * 4), .int sd, .int f, .int 4, .int (m)] = some [.int (sd * ((13 : Nat) : Int)), .int m] :=
      lConsE (kBinE (a := .int sd) (b := .int ((13 : Nat) : Int)) rfl hsum (mul_small hsd (by decide))) (lCons1 rfl)
    refine kBinE (a := .tup [.int (sd * ((13 : Nat) : Int)), .int m]) (b := .tup [.int (sd * ((13 : Nat) : Int)), .int m]) (kCallE (lConsE (kBinE (a := .int (X * 12 * 13)) (b := .int m) rfl rfl rfl) (lCons1 rfl)) hdm) ?_ ?_
    · show (lCons _ _ _).map PV.tup = _
      rw [h3]; rfl
    · show some (PV.bool ((sd * ((13 : Nat) : Int) == sd * ((13 : Nat) : Int)) && ((m == m) && true))) = _
      rw [beq_self_eq_true, beq_self_eq_true]; rfl
  exact sRet_last hret
theorem law3 (sc tl : PV) (total part : Int) (p0 p1 p2 : List Tk) (hp0 : p0 ∈ menuT) (hp1 : p1 ∈ menuT) (hp2 : p2 ∈ menuT) : (fb7 [sc, tl, .int total, .int 3, .int part, menuV, pcV [p0, p1, p2, [], [], [], [], []], .undef, .undef, .undef, .undef, .undef, .undef, .undef, .undef, .undef, .undef, .undef, .undef, .undef, .undef, .undef, .undef, .undef, .undef, .undef, .undef, .undef, .undef, .undef, .undef, .undef, .undef]).map flOut = some (.bool true) := by
  obtain ⟨low, hlow, hlt⟩ := fmod_lt part (n := 5) (by decide)
  have hlow' : part.fmod 5 = low := hlow
  have hrl : rowsB3.length = 5 := by kernel_rfl
  have hsl : sizesI3.length = 5 := by kernel_rfl
  have hpl : plainI3.length = 5 := by kernel_rfl
  have hal : aboveI3.length = 5 := by kernel_rfl
  have hrow : ∀ k < 5, rowsL3[k]? = some (.str (rowN (rowsB3.getD k []))) := fun k hk => by
    show (rowsB3.map _)[k]? = _
    rw [List.getElem?_map, getD_at [] (by omega)]; rfl
  unfold fb7
  refine dStepM (ρ1 := [sc, tl, .int total, .int 3, .int part, menuV, pcV [p0, p1, p2, [], [], [], [], []], .list rowsL3, .undef, .undef, .undef, .undef, .undef, .undef, .undef, .undef, .undef, .undef, .undef, .undef, .undef, .undef, .undef, .undef, .undef, .undef, .undef, .undef, .undef, .undef, .undef, .undef, .undef]) (by kernel_rfl) ?_
  refine dStepM (ρ1 := [sc, tl, .int total, .int 3, .int part, menuV, pcV [p0, p1, p2, [], [], [], [], []], .list rowsL3, .int (low : Int), .undef, .undef, .undef, .undef, .undef, .undef, .undef, .undef, .undef, .undef, .undef, .undef, .undef, .undef, .undef, .undef, .undef, .undef, .undef, .undef, .undef, .undef, .undef, .undef]) (sAssignE ((kBinE (a := .int part) (b := .int 5) rfl (by kernel_rfl) (mod_small (by decide))).trans (by rw [hlow']))) ?_
  refine dStepM (ρ1 := [sc, tl, .int total, .int 3, .int part, menuV, pcV [p0, p1, p2, [], [], [], [], []], .list rowsL3, .int (low : Int), .undef, .undef, .undef, .undef, .undef, .undef, .undef, .undef, .undef, .undef, .undef, .undef, .undef, .undef, .undef, .undef, .undef, .undef, .undef, .undef, .undef, .undef, .undef, .undef]) (sIfF ?_ rfl) ?_
  · obtain ⟨h1, h2, h3⟩ := rows_fact3 _ (getD_mem (l := rowsB3) (k := low) [] (by omega))
    have ha := answers_fn (piecesOk hp0 hp1 hp2 h1) h2
    rw [h3] at ha
    exact bCmpE (kCallE (lConsE (kBinE (a := .list rowsL3) (b := .int (low : Int)) rfl rfl (pItemL (hrow low hlt) (by decide +kernel))) (lCons1 rfl)) ha) rfl (by kernel_rfl)
  refine dStepM (ρ1 := [sc, tl, .int total, .int 3, .int part, menuV, pcV [p0, p1, p2, [], [], [], [], []], .list rowsL3, .int (low : Int), .list plainL3, .undef, .undef, .undef, .undef, .undef, .undef, .undef, .undef, .undef, .undef, .undef, .undef, .undef, .undef, .undef, .undef, .undef, .undef, .undef, .undef, .undef, .undef, .undef]) (by kernel_rfl) ?_
  refine dStepM (ρ1 := [sc, tl, .int total, .int 3, .int part, menuV, pcV [p0, p1, p2, [], [], [], [], []], .list rowsL3, .int (low : Int), .list plainL3, .list plainL3, .undef, .undef, .undef, .undef, .undef, .undef, .undef, .undef, .undef, .undef, .undef, .undef, .undef, .undef, .undef, .undef, .undef, .undef, .undef, .undef, .undef, .undef]) ?_ ?_
  · have hsp : (lComp [((Str.ofString "part"), 4), ((Str.ofString "rows"), 7), ((Str.ofString "pieces"), 6), ((Str.ofString "plain"), 9)] [(Str.ofString "i")] (iCall pRange (lCons (kCallB pLen (lCons (dVar 7) lNil)) lNil)) (tSet 4) bT (eElt (kIf (bCmp pEq (kBin pMod (kBin pAdd (dVar 4) (dVar 0)) (kC (.int 2))) (kC (.int 0))) (kCall fn_law_spans [] (lCons (kBin pItem (dVar 1) (dVar 4)) (lCons (dVar 2) lNil)) lNil) (kBin pItem (dVar 3) (dVar 4))))) [sc, tl, .int total, .int 3, .int part, menuV, pcV [p0, p1, p2, [], [], [], [], []], .list rowsL3, .int (low : Int), .list plainL3, .undef, .undef, .undef, .undef, .undef, .undef, .undef, .undef, .undef, .undef, .undef, .undef, .undef, .undef, .undef, .undef, .undef, .undef, .undef, .undef, .undef, .undef, .undef] = some plainL3 := by
      refine (lCompMap (List.range 5) (fun k => .int k) (fun k => [.list ((plainI3.getD k []).map .int)]) (fun r => ∃ q, r = [.int part, .list rowsL3, pcV [p0, p1, p2, [], [], [], [], []], .list plainL3, q]) (by kernel_rfl) ?_ (by decide) ⟨.undef, rfl⟩).trans ?_
      · rintro k hk r ⟨q, rfl⟩
        have hk := List.mem_range.mp hk
        refine ⟨[.int part, .list rowsL3, pcV [p0, p1, p2, [], [], [], [], []], .list plainL3, .int k], rfl, ⟨_, rfl⟩, .inr ⟨_, rfl, rfl, ?_⟩⟩
        have hc : (bCmp pEq (kBin pMod (kBin pAdd (dVar 4) (dVar 0)) (kC (.int 2))) (kC (.int 0))) [.int part, .list rowsL3, pcV [p0, p1, p2, [], [], [], [], []], .list plainL3, .int k] = some (((k : Int) + part).fmod 2 == 0) :=
          bCmpE (kBinE (a := .int ((k : Int) + part)) (b := .int 2) rfl rfl (mod_small (by decide))) rfl rfl
        obtain ⟨h1, h2, h3⟩ := rows_fact3 _ (getD_mem (l := rowsB3) (k := k) [] (by omega))
        have hs := spans_fn (piecesOk hp0 hp1 hp2 h1)
        have hpk : spansB (rowsB3.getD k []) = plainI3.getD k [] := by
          have h4 : (rowsB3.map spansB)[k]? = some (spansB (rowsB3.getD k [])) := by rw [List.getElem?_map, getD_at [] (by omega)]; rfl
          rw [spans_fact3, getD_at [] (by omega)] at h4
          exact (Option.some.inj h4).symm
        rw [hpk] at hs
        refine kIfE hc (fun _ => kCallE (lConsE (kBinE (a := .list rowsL3) (b := .int (k : Int)) rfl rfl (pItemL (hrow k hk) (by decide +kernel))) (lCons1 rfl)) hs) fun _ => ?_
        · have h5 : plainL3[k]? = some (.list ((plainI3.getD k []).map .int)) := by
            show (plainI3.map _)[k]? = _
            rw [List.getElem?_map, getD_at [] (by omega)]; rfl
          exact kBinE (a := .list plainL3) (b := .int (k : Int)) rfl rfl (pItemL h5 (by decide +kernel))
      · rw [flatten_single]; kernel_rfl
    exact sAssignE (by
      show ((lComp [((Str.ofString "part"), 4), ((Str.ofString "rows"), 7), ((Str.ofString "pieces"), 6), ((Str.ofString "plain"), 9)] [(Str.ofString "i")] (iCall pRange (lCons (kCallB pLen (lCons (dVar 7) lNil)) lNil)) (tSet 4) bT (eElt (kIf (bCmp pEq (kBin pMod (kBin pAdd (dVar 4) (dVar 0)) (kC (.int 2))) (kC (.int 0))) (kCall fn_law_spans [] (lCons (kBin pItem (dVar 1) (dVar 4)) (lCons (dVar 2) lNil)) lNil) (kBin pItem (dVar 3) (dVar 4))))) [sc, tl, .int total, .int 3, .int part, menuV, pcV [p0, p1, p2, [], [], [], [], []], .list rowsL3, .int (low : Int), .list plainL3, .undef, .undef, .undef, .undef, .undef, .undef, .undef, .undef, .undef, .undef, .undef, .undef, .undef, .undef, .undef, .undef, .undef, .undef, .undef, .undef, .undef, .undef, .undef]).map PV.list = _
      rw [hsp]; rfl)
  refine dStepM (ρ1 := [sc, tl, .int total, .int 3, .int part, menuV, pcV [p0, p1, p2, [], [], [], [], []], .list rowsL3, .int (low : Int), .list plainL3, .list plainL3, .undef, .undef, .undef, .undef, .undef, .undef, .undef, .undef, .undef, .undef, .undef, .undef, .undef, .undef, .undef, .undef, .undef, .undef, .undef, .undef, .undef, .undef]) (by kernel_rfl) ?_
  refine dStepM (ρ1 := [sc, tl, .int total, .int 3, .int part, menuV, pcV [p0, p1, p2, [], [], [], [], []], .list rowsL3, .int (low : Int), .list plainL3, .list plainL3, upsV3, .undef, .undef, .undef, .undef, .undef, .undef, .undef, .undef, .undef, .undef, .undef, .undef, .undef, .undef, .undef, .undef, .undef, .undef, .undef, .undef, .undef]) (by kernel_rfl) ?_
  refine dStepM (ρ1 := [sc, tl, .int total, .int 3, .int part, menuV, pcV [p0, p1, p2, [], [], [], [], []], .list rowsL3, .int (low : Int), .list plainL3, .list plainL3, upsV3, coversV3, .undef, .undef, .undef, .undef, .undef, .undef, .undef, .undef, .undef, .undef, .undef, .undef, .undef, .undef, .undef, .undef, .undef, .undef, .undef, .undef]) (by kernel_rfl) ?_
  refine dStepM (ρ1 := [sc, tl, .int total, .int 3, .int part, menuV, pcV [p0, p1, p2, [], [], [], [], []], .list rowsL3, .int (low : Int), .list plainL3, .list plainL3, upsV3, coversV3, .undef, .undef, .undef, .undef, .undef, .undef, .undef, .undef, .undef, .undef, .undef, .undef, .undef, .undef, .undef, .undef, .undef, .undef, .undef, .undef]) (by kernel_rfl) ?_
  refine dStepM (ρ1 := [sc, tl, .int total, .int 3, .int part, menuV, pcV [p0, p1, p2, [], [], [], [], []], .list rowsL3, .int (low : Int), .list plainL3, .list plainL3, upsV3, coversV3, .list aboveL3, .undef, .undef, .undef, .undef, .undef, .undef, .undef, .undef, .undef, .undef, .undef, .undef, .undef, .undef, .undef, .undef, .undef, .undef, .undef]) (by kernel_rfl) ?_
  refine dStepM (ρ1 := [sc, tl, .int total, .int 3, .int part, menuV, pcV [p0, p1, p2, [], [], [], [], []], .list rowsL3, .int (low : Int), .list plainL3, .list plainL3, upsV3, coversV3, .list aboveL3, .list sizesL3, .undef, .undef, .undef, .undef, .undef, .undef, .undef, .undef, .undef, .undef, .undef, .undef, .undef, .undef, .undef, .undef, .undef, .undef]) (by kernel_rfl) ?_
  obtain ⟨w0, hw0, hw1⟩ := fmod_lt part (n := 60) (by decide)
  have hw0' : part.fmod 60 = w0 := hw0
  obtain ⟨w, hw⟩ : ∃ w : Nat, w = 5 + w0 := ⟨_, rfl⟩
  refine dStepM (ρ1 := [sc, tl, .int total, .int 3, .int part, menuV, pcV [p0, p1, p2, [], [], [], [], []], .list rowsL3, .int (low : Int), .list plainL3, .list plainL3, upsV3, coversV3, .list aboveL3, .list sizesL3, .int (w : Int), .undef, .undef, .undef, .undef, .undef, .undef, .undef, .undef, .undef, .undef, .undef, .undef, .undef, .undef, .undef, .undef, .undef]) (sAssignE (kBinE (a := .int 5) (b := .int (w0 : Int)) rfl ((kBinE (a := .int part) (b := .int 60) rfl rfl (mod_small (by decide))).trans (by rw [hw0'])) (by
    show some (PV.int (5 + (w0 : Int))) = _
    rw [hw, Int.natCast_add]; rfl))) ?_
  obtain ⟨G, hG⟩ : ∃ G : Int, G = ((2 ^ (w - 1) : Nat) : Int) := ⟨_, rfl⟩
  refine dStepM (ρ1 := [sc, tl, .int total, .int 3, .int part, menuV, pcV [p0, p1, p2, [], [], [], [], []], .list rowsL3, .int (low : Int), .list plainL3, .list plainL3, upsV3, coversV3, .list aboveL3, .list sizesL3, .int (w : Int), .int G, .undef, .undef, .undef, .undef, .undef, .undef, .undef, .undef, .undef, .undef, .undef, .undef, .undef, .undef, .undef, .undef]) (sAssignE (kBinE (a := .int 2) (b := .int ((w : Int) - 1)) rfl rfl ?_)) ?_
  · show (if 0 ≤ (w : Int) - 1 ∧ (w : Int) - 1 ≤ 1000000 ∧ (2 : Int).natAbs < 2 ^ 64 then some (PV.int ((2 : Int) ^ ((w : Int) - 1).toNat)) else none) = _
    rw [if_pos ⟨by omega, by omega, by decide⟩, hG]
    have : ((w : Int) - 1).toNat = w - 1 := by omega
    rw [this, Int.natCast_pow]; rfl
  have hT := sizes_fact3 _ (getD_mem (l := sizesI3) (k := low) [] (by omega))
  have hrep : (List.replicate 5 (sizesI3.getD low [])).flatten.length = 15 := by
    rw [List.length_flatten, List.map_replicate, List.sum_replicate_nat, hT.1]
  have hfl : sizesI3.flatten.length = 15 := by kernel_rfl
  obtain ⟨A, A2, e1, e2, e3⟩ := digs (w := w) (G := G) (by omega) (by omega) hG (u := sizesI3.flatten) (v := (List.replicate 5 (sizesI3.getD low [])).flatten) (by rw [hfl, hrep]) (by rw [hfl]; decide) (by rw [hfl]; decide) (fun d hd => by
    obtain ⟨l, hl, hd⟩ := List.mem_flatten.mp hd
    exact (sizes_fact3 l hl).2 d hd) (fun d hd => by
    obtain ⟨l, hl, hd⟩ := List.mem_flatten.mp hd
    rw [(List.mem_replicate.mp hl).2] at hd
    exact hT.2 d hd)
  refine dStepM (ρ1 := [sc, tl, .int total, .int 3, .int part, menuV, pcV [p0, p1, p2, [], [], [], [], []], .list rowsL3, .int (low : Int), .list plainL3, .list plainL3, upsV3, coversV3, .list aboveL3, .list sizesL3, .int (w : Int), .int G, .int A, .undef, .undef, .undef, .undef, .undef, .undef, .undef, .undef, .undef, .undef, .undef, .undef, .undef, .undef, .undef]) (sAssignE (kCallE (lConsE (a := .list ((sizesI3.flatten.map (G + ·)).map .int)) (by kernel_rfl) (lCons1 rfl)) e1)) ?_
  refine dStepM (ρ1 := [sc, tl, .int total, .int 3, .int part, menuV, pcV [p0, p1, p2, [], [], [], [], []], .list rowsL3, .int (low : Int), .list plainL3, .list plainL3, upsV3, coversV3, .list aboveL3, .list sizesL3, .int (w : Int), .int G, .int A, .list (((List.zipWith (· - ·) sizesI3.flatten (List.replicate 5 (sizesI3.getD low [])).flatten).map (G + ·)).map .int), .undef, .undef, .undef, .undef, .undef, .undef, .undef, .undef, .undef, .undef, .undef, .undef, .undef, .undef]) (sAssignE (kCallE (lConsE (a := .int (A - A2)) (kBinE (a := .int A) (b := .int A2) rfl (kCallE (lConsE (a := .list ((List.replicate 5 (sizesI3.getD low [])).flatten.map .int)) (kBinE (a := .list ((sizesI3.getD low []).map .int)) (b := .int 5) (kBinE (a := .list sizesL3) (b := .int (low : Int)) rfl rfl (pItemL ?_ (by decide +kernel))) (by kernel_rfl) ?_) (lCons1 rfl)) e2) rfl) (lCons1 rfl)) e3)) ?_
  · show (sizesI3.map _)[low]? = _
    rw [List.getElem?_map, getD_at [] (by omega)]; rfl
  · show (if 0 ≤ (5 : Int) ∧ (5 : Int) ≤ 1000 ∧ ((sizesI3.getD low []).map PV.int).length ≤ 1000 then some (PV.list (List.replicate (5 : Int).toNat ((sizesI3.getD low []).map PV.int)).flatten) else none) = _
    rw [if_pos ⟨by decide, by decide, by rw [List.length_map, hT.1]; decide⟩, List.map_flatten, List.map_replicate]
    rfl
  have hDl : (List.zipWith (· - ·) sizesI3.flatten (List.replicate 5 (sizesI3.getD low [])).flatten).length = 5 * 3 := by
    rw [List.length_zipWith, hfl, hrep]; rfl
  refine dStepM (ρ1 := [sc, tl, .int total, .int 3, .int part, menuV, pcV [p0, p1, p2, [], [], [], [], []], .list rowsL3, .int (low : Int), .list plainL3, .list plainL3, upsV3, coversV3, .list aboveL3, .list sizesL3, .int (w : Int), .int G, .int A, .list (((List.zipWith (· - ·) sizesI3.flatten (List.replicate 5 (sizesI3.getD low [])).flatten).map (G + ·)).map .int), .undef, .undef, .undef, .undef, .undef, .undef, .undef, .undef, .undef, .undef, .undef, .undef, .undef, .undef]) (sIfF ?_ rfl) ?_
  · have hd := digits_comp (p := 3) (n := 5) (G := G) (rows := rowsL3) (ρ := [sc, tl, .int total, .int 3, .int part, menuV, pcV [p0, p1, p2, [], [], [], [], []], .list rowsL3, .int (low : Int), .list plainL3, .list plainL3, upsV3, coversV3, .list aboveL3, .list sizesL3, .int (w : Int), .int G, .int A, .list (((List.zipWith (· - ·) sizesI3.flatten (List.replicate 5 (sizesI3.getD low [])).flatten).map (G + ·)).map .int), .undef, .undef, .undef, .undef, .undef, .undef, .undef, .undef, .undef, .undef, .undef, .undef, .undef, .undef]) (by decide) (by decide) (by decide) hDl rfl rfl rfl rfl (by kernel_rfl)
    rw [digI_B, dig_fact3 low hlt] at hd
    have hb1 : (bCmp pNe (kCallB pLen (lCons (dVar 18) lNil)) (kBin pMul (dVar 3) (kCallB pLen (lCons (dVar 7) lNil)))) [sc, tl, .int total, .int 3, .int part, menuV, pcV [p0, p1, p2, [], [], [], [], []], .list rowsL3, .int (low : Int), .list plainL3, .list plainL3, upsV3, coversV3, .list aboveL3, .list sizesL3, .int (w : Int), .int G, .int A, .list (((List.zipWith (· - ·) sizesI3.flatten (List.replicate 5 (sizesI3.getD low [])).flatten).map (G + ·)).map .int), .undef, .undef, .undef, .undef, .undef, .undef, .undef, .undef, .undef, .undef, .undef, .undef, .undef, .undef] = some false := by
      refine bCmpE (a := .int 15) (b := .int 15) (kCallBE (lCons1 rfl) ?_) (by kernel_rfl) rfl
      have h6 := len_list (x := (((List.zipWith (· - ·) sizesI3.flatten (List.replicate 5 (sizesI3.getD low [])).flatten).map (G + ·)).map PV.int)) (by rw [List.length_map, List.length_map, hDl]; decide)
      rw [List.length_map, List.length_map, hDl] at h6
      exact h6
    have hb2 : (bCmp pNe (fun ρ => (lComp [((Str.ofString "digits"), 18), ((Str.ofString "pairs"), 3), ((Str.ofString "guard"), 16)] [(Str.ofString "j")] (iCall pRange (lCons (kCallB pLen (lCons (dVar 7) lNil)) lNil)) (tSet 3) (bCmp pGe (kCallB pMin (lCons (kSlice (dVar 0) (kBin pMul (dVar 3) (dVar 1)) (kBin pMul (kBin pAdd (dVar 3) (kC (.int 1))) (dVar 1))) lNil)) (dVar 2)) (eElt (dVar 3)) ρ).map .list) (kBin pItem (dVar 13) (dVar 8))) [sc, tl, .int total, .int 3, .int part, menuV, pcV [p0, p1, p2, [], [], [], [], []], .list rowsL3, .int (low : Int), .list plainL3, .list plainL3, upsV3, coversV3, .list aboveL3, .list sizesL3, .int (w : Int), .int G, .int A, .list (((List.zipWith (· - ·) sizesI3.flatten (List.replicate 5 (sizesI3.getD low [])).flatten).map (G + ·)).map .int), .undef, .undef, .undef, .undef, .undef, .undef, .undef, .undef, .undef, .undef, .undef, .undef, .undef, .undef] = some false := by
      refine bCmpE (a := .list ((aboveI3.getD low []).map .int)) (b := .list ((aboveI3.getD low []).map .int)) ?_ (kBinE (a := .list aboveL3) (b := .int (low : Int)) rfl rfl (pItemL ?_ (by decide +kernel))) ?_
      · show (lComp _ _ _ _ _ _ _).map _ = _
        rw [hd]; rfl
      · show (aboveI3.map _)[low]? = _
        rw [List.getElem?_map, getD_at [] (by omega)]; rfl
      · exact ne_self_ints _
    show ((bCmp pNe _ _) _).bind _ = _
    rw [hb1]
    show ((bCmp pNe _ _) _).bind _ = _
    rw [hb2]
    rfl
  refine dStepM (ρ1 := [sc, tl, .int total, .int 3, .int part, menuV, pcV [p0, p1, p2, [], [], [], [], []], .list rowsL3, .int (low : Int), .list plainL3, .list plainL3, upsV3, coversV3, .list aboveL3, .list sizesL3, .int (w : Int), .int G, .int A, .list (((List.zipWith (· - ·) sizesI3.flatten (List.replicate 5 (sizesI3.getD low [])).flatten).map (G + ·)).map .int), .own [], .undef, .undef, .undef, .undef, .undef, .undef, .undef, .undef, .undef, .undef, .undef, .undef, .undef]) rfl ?_
  refine dStepM (ρ1 := [sc, tl, .int total, .int 3, .int part, menuV, pcV [p0, p1, p2, [], [], [], [], []], .list rowsL3, .int (low : Int), .list plainL3, .list plainL3, upsV3, coversV3, .list aboveL3, .list sizesL3, .int (w : Int), .int G, .int A, .list (((List.zipWith (· - ·) sizesI3.flatten (List.replicate 5 (sizesI3.getD low [])).flatten).map (G + ·)).map .int), .own shelfL3, .int 0, .int 4, .undef, .undef, .undef, .undef, .undef, .undef, .undef, .undef, .undef, .undef, .undef]) (by kernel_rfl) ?_
  show ((dSeq _ _) [sc, tl, .int total, .int 3, .int part, menuV, pcV [p0, p1, p2, [], [], [], [], []], .list rowsL3, .int (low : Int), .list plainL3, .list plainL3, upsV3, coversV3, .list aboveL3, .list sizesL3, .int (w : Int), .int G, .int A, .list (((List.zipWith (· - ·) sizesI3.flatten (List.replicate 5 (sizesI3.getD low [])).flatten).map (G + ·)).map .int), .list shelfL3, .int 0, .int 4, .undef, .undef, .undef, .undef, .undef, .undef, .undef, .undef, .undef, .undef, .undef]).map flOut = _
  refine dStepM (ρ1 := [sc, tl, .int total, .int 3, .int part, menuV, pcV [p0, p1, p2, [], [], [], [], []], .list rowsL3, .int (low : Int), .list plainL3, .list plainL3, upsV3, coversV3, .list aboveL3, .list sizesL3, .int (w : Int), .int G, .int A, .list (((List.zipWith (· - ·) sizesI3.flatten (List.replicate 5 (sizesI3.getD low [])).flatten).map (G + ·)).map .int), .list shelfL3, .int 0, .int 4, .undef, .undef, .undef, .undef, .undef, .undef, .undef, .undef, .undef, .undef, .undef]) (by kernel_rfl) ?_
  obtain ⟨x21, x22, z23, z24, z25, z26, hp⟩ := pair_loop (n := 5) (a := fun k => ([sc, tl, .int total, .int 3, .int part, menuV, pcV [p0, p1, p2, [], [], [], [], []], .list rowsL3, .int (low : Int), .list plainL3, .list plainL3, upsV3, coversV3, .list aboveL3, .list sizesL3, .int (w : Int), .int G, .int A, .list (((List.zipWith (· - ·) sizesI3.flatten (List.replicate 5 (sizesI3.getD low [])).flatten).map (G + ·)).map .int), .list shelfL3, .int 0, .int 4, .undef, .undef, .undef, .undef, .undef, .undef, .undef, .undef, .undef, .undef, .undef] : List PV).getD k .undef) (p := .int 3) (ab := .list aboveL3) (sz := .list sizesL3) (sh := .list shelfL3) (rows := rowsL3) (part := part) (by decide) (by decide) (by kernel_rfl) rfl rfl pair_fact3 (.int 4) .undef .undef .undef .undef .undef
  refine dStepM hp ?_
  exact tail3 total part
noncomputable def rowsB4 : List (List Bool) := [[true, true, true, true, false, false, false, false], [true, true, true, false, true, false, false, false], [true, true, true, false, false, true, false, false], [true, true, true, false, false, false, true, false], [true, true, false, true, true, false, false, false], [true, true, false, true, false, true, false, false], [true, true, false, true, false, false, true, false], [true, true, false, false, true, true, false, false], [true, true, false, false, true, false, true, false], [true, false, true, true, true, false, false, false], [true, false, true, true, false, true, false, false], [true, false, true, true, false, false, true, false], [true, false, true, false, true, true, false, false], [true, false, true, false, true, false, true, false]]
noncomputable def plainI4 : List (List Int) := [[8, 6, 4, 2, 0, 0, 0, 0], [8, 6, 2, 0, 2, 0, 0, 0], [8, 4, 2, 0, 0, 2, 0, 0], [6, 4, 2, 0, 0, 0, 2, 0], [8, 2, 0, 4, 2, 0, 0, 0], [8, 2, 0, 2, 0, 2, 0, 0], [6, 2, 0, 2, 0, 0, 2, 0], [4, 2, 0, 0, 4, 2, 0, 0], [4, 2, 0, 0, 2, 0, 2, 0], [2, 0, 6, 4, 2, 0, 0, 0], [2, 0, 6, 2, 0, 2, 0, 0], [2, 0, 4, 2, 0, 0, 2, 0], [2, 0, 2, 0, 4, 2, 0, 0], [2, 0, 2, 0, 2, 0, 2, 0]]
noncomputable def sizesI4 : List (List Int) := [[8, 6, 4, 2], [8, 6, 2, 2], [8, 4, 2, 2], [6, 4, 2, 2], [8, 2, 4, 2], [8, 2, 2, 2], [6, 2, 2, 2], [4, 2, 4, 2], [4, 2, 2, 2], [2, 6, 4, 2], [2, 6, 2, 2], [2, 4, 2, 2], [2, 2, 4, 2], [2, 2, 2, 2]]
noncomputable def aboveI4 : List (List Int) := [[0], [0, 1], [0, 1, 2], [0, 1, 2, 3], [0, 4], [0, 1, 2, 4, 5], [0, 1, 2, 3, 4, 5, 6], [0, 4, 7], [0, 1, 2, 3, 4, 5, 6, 7, 8], [0, 9], [0, 1, 9, 10], [0, 1, 2, 3, 9, 10, 11], [0, 4, 7, 9, 12], [0, 1, 2, 3, 4, 5, 6, 7, 8, 9, 10, 11, 12, 13]]
noncomputable def upsV4 : PV := .list [.list [], .list [.str [40, 40, 40, 40, 41, 41, 41, 41]], .list [.str [40, 40, 40, 41, 40, 41, 41, 41]], .list [.str [40, 40, 40, 41, 41, 40, 41, 41]], .list [.str [40, 40, 40, 40, 41, 41, 41, 41]], .list [.str [40, 40, 40, 41, 41, 40, 41, 41], .str [40, 40, 41, 40, 40, 41, 41, 41]], .list [.str [40, 40, 40, 41, 41, 41, 40, 41], .str [40, 40, 41, 40, 41, 40, 41, 41]], .list [.str [40, 40, 41, 40, 40, 41, 41, 41]], .list [.str [40, 40, 41, 40, 41, 41, 40, 41], .str [40, 40, 41, 41, 40, 40, 41, 41]], .list [.str [40, 40, 40, 40, 41, 41, 41, 41]], .list [.str [40, 40, 40, 41, 40, 41, 41, 41], .str [40, 41, 40, 40, 40, 41, 41, 41]], .list [.str [40, 40, 40, 41, 41, 41, 40, 41], .str [40, 41, 40, 40, 41, 40, 41, 41]], .list [.str [40, 40, 41, 41, 40, 40, 41, 41], .str [40, 41, 40, 40, 40, 41, 41, 41]], .list [.str [40, 40, 41, 41, 40, 41, 40, 41], .str [40, 41, 40, 40, 41, 41, 40, 41], .str [40, 41, 40, 41, 40, 40, 41, 41]]]
noncomputable def coversV4 : PV := .list [.list [], .list [.int 0], .list [.int 1], .list [.int 2], .list [.int 0], .list [.int 2, .int 4], .list [.int 3, .int 5], .list [.int 4], .list [.int 6, .int 7], .list [.int 0], .list [.int 1, .int 9], .list [.int 3, .int 10], .list [.int 7, .int 9], .list [.int 8, .int 11, .int 12]]
noncomputable def shelfL4 : List PV := [.tup [.list [.int 2, .int 2, .int 2, .int 2], .int 1, .int 13], .tup [.list [.int 2, .int 2, .int 2, .int 2], .int 0, .int 13], .tup [.list [.int 2, .int 2, .int 4, .int 2], .int 1, .int 12], .tup [.list [.int 2, .int 2, .int 4, .int 2], .int 0, .int 12], .tup [.list [.int 2, .int 4, .int 2, .int 2], .int 1, .int 11], .tup [.list [.int 2, .int 4, .int 2, .int 2], .int 0, .int 11], .tup [.list [.int 2, .int 6, .int 2, .int 2], .int 1, .int 10], .tup [.list [.int 2, .int 6, .int 2, .int 2], .int 0, .int 10], .tup [.list [.int 2, .int 6, .int 4, .int 2], .int 1, .int 9], .tup [.list [.int 2, .int 6, .int 4, .int 2], .int 0, .int 9], .tup [.list [.int 4, .int 2, .int 2, .int 2], .int 1, .int 8], .tup [.list [.int 4, .int 2, .int 2, .int 2], .int 0, .int 8], .tup [.list [.int 4, .int 2, .int 4, .int 2], .int 1, .int 7], .tup [.list [.int 4, .int 2, .int 4, .int 2], .int 0, .int 7], .tup [.list [.int 6, .int 2, .int 2, .int 2], .int 1, .int 6], .tup [.list [.int 6, .int 2, .int 2, .int 2], .int 0, .int 6], .tup [.list [.int 6, .int 4, .int 2, .int 2], .int 1, .int 3], .tup [.list [.int 6, .int 4, .int 2, .int 2], .int 0, .int 3], .tup [.list [.int 8, .int 2, .int 2, .int 2], .int 1, .int 5], .tup [.list [.int 8, .int 2, .int 2, .int 2], .int 0, .int 5], .tup [.list [.int 8, .int 2, .int 4, .int 2], .int 1, .int 4], .tup [.list [.int 8, .int 2, .int 4, .int 2], .int 0, .int 4], .tup [.list [.int 8, .int 4, .int 2, .int 2], .int 1, .int 2], .tup [.list [.int 8, .int 4, .int 2, .int 2], .int 0, .int 2], .tup [.list [.int 8, .int 6, .int 2, .int 2], .int 1, .int 1], .tup [.list [.int 8, .int 6, .int 2, .int 2], .int 0, .int 1], .tup [.list [.int 8, .int 6, .int 4, .int 2], .int 1, .int 0], .tup [.list [.int 8, .int 6, .int 4, .int 2], .int 0, .int 0]]
noncomputable def rowsL4 : List PV := rowsB4.map fun b => .str (rowN b)
noncomputable def plainL4 : List PV := plainI4.map fun l => .list (l.map .int)
noncomputable def sizesL4 : List PV := sizesI4.map fun l => .list (l.map .int)
noncomputable def aboveL4 : List PV := aboveI4.map fun l => .list (l.map .int)
theorem rows_fact4 : ∀ bs ∈ rowsB4, bs.length ≤ 8 ∧ 1 ≤ bs.length ∧ ansB bs = [true, false, false, false] := by decide +kernel
theorem spans_fact4 : rowsB4.map spansB = plainI4 := by decide +kernel
theorem sizes_fact4 : ∀ l ∈ sizesI4, l.length = 4 ∧ ∀ d ∈ l, 0 ≤ d ∧ d ≤ 8 := by decide +kernel
theorem dig_fact4 : ∀ k < 14, digI (List.zipWith (· - ·) sizesI4.flatten (List.replicate 14 (sizesI4.getD k [])).flatten) 4 14 = aboveI4.getD k [] := by decide +kernel
theorem pair_fact4 : chkP 14 (.int 4) (.list aboveL4) (.list sizesL4) (.list shelfL4) = true := by decide +kernel
theorem tail4 {a0 a1 a5 a6 a7 a8 a9 a10 a11 a12 a14 a15 a16 a17 a18 a19 a20 a21 a22 a23 a24 a25 a26 : PV} (total part : Int) : (fbT [a0, a1, .int total, .int 4, .int part, a5, a6, a7, a8, a9, a10, a11, a12, .list aboveL4, a14, a15, a16, a17, a18, a19, a20, a21, a22, a23, a24, a25, a26, .undef, .undef, .undef, .undef, .undef, .undef]).map flOut = some (.bool true) := by
  refine tail_front fun X Y sd f hX hY hY0 hXY => ?_
  obtain ⟨e, he0, he1⟩ := fmod_lt (1 + part) (n := 2) (by decide)
  have he0' : (1 + part).fmod 2 = e := he0
  unfold fbT3
  refine dStepM (ρ1 := [a0, a1, .int total, .int 4, .int part, a5, a6, a7, a8, a9, a10, a11, a12, .list aboveL4, a14, a15, a16, a17, a18, a19, a20, a21, a22, a23, a24, a25, a26, .int (X * 15 * 16 * 17), .int Y, .int sd, .int f, .int 17, .undef]) (sForStep (items := [.int 15, .int 16, .int 17]) (by kernel_rfl) ?_) ?_
  · refine forCons (ρ1 := [a0, a1, .int total, .int 4, .int part, a5, a6, a7, a8, a9, a10, a11, a12, .list aboveL4, a14, a15, a16, a17, a18, a19, a20, a21, a22, a23, a24, a25, a26, .int (X), .int Y, .int sd, .int f, .int 15, .undef]) (ρ2 := [a0, a1, .int total, .int 4, .int part, a5, a6, a7, a8, a9, a10, a11, a12, .list aboveL4, a14, a15, a16, a17, a18, a19, a20, a21, a22, a23, a24, a25, a26, .int (X * 15), .int Y, .int sd, .int f, .int 15, .undef]) rfl (dStep (sAssignE (kBinE (a := .int (X)) (b := .int 15) rfl rfl (mul_small (Nat.lt_of_le_of_lt hX (by decide)) (by decide)))) rfl) ?_
    refine forCons (ρ1 := [a0, a1, .int total, .int 4, .int part, a5, a6, a7, a8, a9, a10, a11, a12, .list aboveL4, a14, a15, a16, a17, a18, a19, a20, a21, a22, a23, a24, a25, a26, .int (X * 15), .int Y, .int sd, .int f, .int 16, .undef]) (ρ2 := [a0, a1, .int total, .int 4, .int part, a5, a6, a7, a8, a9, a10, a11, a12, .list aboveL4, a14, a15, a16, a17, a18, a19, a20, a21, a22, a23, a24, a25, a26, .int (X * 15 * 16), .int Y, .int sd, .int f, .int 16, .undef]) rfl (dStep (sAssignE (kBinE (a := .int (X * 15)) (b := .int 16) rfl rfl (mul_small (Nat.lt_of_le_of_lt (bdMul 15 hX) (by decide)) (by decide)))) rfl) ?_
    refine forCons (ρ1 := [a0, a1, .int total, .int 4, .int part, a5, a6, a7, a8, a9, a10, a11, a12, .list aboveL4, a14, a15, a16, a17, a18, a19, a20, a21, a22, a23, a24, a25, a26, .int (X * 15 * 16), .int Y, .int sd, .int f, .int 17, .undef]) (ρ2 := [a0, a1, .int total, .int 4, .int part, a5, a6, a7, a8, a9, a10, a11, a12, .list aboveL4, a14, a15, a16, a17, a18, a19, a20, a21, a22, a23, a24, a25, a26, .int (X * 15 * 16 * 17), .int Y, .int sd, .int f, .int 17, .undef]) rfl (dStep (sAssignE (kBinE (a := .int (X * 15 * 16)) (b := .int 17) rfl rfl (mul_small (Nat.lt_of_le_of_lt (bdMul 16 (bdMul 15 hX)) (by decide)) (by decide)))) rfl) ?_
    rfl
  refine dStepM (ρ1 := [a0, a1, .int total, .int 4, .int part, a5, a6, a7, a8, a9, a10, a11, a12, .list aboveL4, a14, a15, a16, a17, a18, a19, a20, a21, a22, a23, a24, a25, a26, .int (X * 15 * 16 * 17), .int (Y * 2 * 3 * 4 * 5), .int sd, .int f, .int 5, .undef]) (sForStep (items := [.int 2, .int 3, .int 4, .int 5]) (by kernel_rfl) ?_) ?_
  · refine forCons (ρ1 := [a0, a1, .int total, .int 4, .int part, a5, a6, a7, a8, a9, a10, a11, a12, .list aboveL4, a14, a15, a16, a17, a18, a19, a20, a21, a22, a23, a24, a25, a26, .int (X * 15 * 16 * 17), .int (Y), .int sd, .int f, .int 2, .undef]) (ρ2 := [a0, a1, .int total, .int 4, .int part, a5, a6, a7, a8, a9, a10, a11, a12, .list aboveL4, a14, a15, a16, a17, a18, a19, a20, a21, a22, a23, a24, a25, a26, .int (X * 15 * 16 * 17), .int (Y * 2), .int sd, .int f, .int 2, .undef]) rfl (dStep (sAssignE (kBinE (a := .int (Y)) (b := .int 2) rfl rfl (mul_small (Nat.lt_of_le_of_lt hY (by decide)) (by decide)))) rfl) ?_
    refine forCons (ρ1 := [a0, a1, .int total, .int 4, .int part, a5, a6, a7, a8, a9, a10, a11, a12, .list aboveL4, a14, a15, a16, a17, a18, a19, a20, a21, a22, a23, a24, a25, a26, .int (X * 15 * 16 * 17), .int (Y * 2), .int sd, .int f, .int 3, .undef]) (ρ2 := [a0, a1, .int total, .int 4, .int part, a5, a6, a7, a8, a9, a10, a11, a12, .list aboveL4, a14, a15, a16, a17, a18, a19, a20, a21, a22, a23, a24, a25, a26, .int (X * 15 * 16 * 17), .int (Y * 2 * 3), .int sd, .int f, .int 3, .undef]) rfl (dStep (sAssignE (kBinE (a := .int (Y * 2)) (b := .int 3) rfl rfl (mul_small (Nat.lt_of_le_of_lt (bdMul 2 hY) (by decide)) (by decide)))) rfl) ?_
    refine forCons (ρ1 := [a0, a1, .int total, .int 4, .int part, a5, a6, a7, a8, a9, a10, a11, a12, .list aboveL4, a14, a15, a16, a17, a18, a19, a20, a21, a22, a23, a24, a25, a26, .int (X * 15 * 16 * 17), .int (Y * 2 * 3), .int sd, .int f, .int 4, .undef]) (ρ2 := [a0, a1, .int total, .int 4, .int part, a5, a6, a7, a8, a9, a10, a11, a12, .list aboveL4, a14, a15, a16, a17, a18, a19, a20, a21, a22, a23, a24, a25, a26, .int (X * 15 * 16 * 17), .int (Y * 2 * 3 * 4), .int sd, .int f, .int 4, .undef]) rfl (dStep (sAssignE (kBinE (a := .int (Y * 2 * 3)) (b := .int 4) rfl rfl (mul_small (Nat.lt_of_le_of_lt (bdMul 3 (bdMul 2 hY)) (by decide)) (by decide)))) rfl) ?_
    refine forCons (ρ1 := [a0, a1, .int total, .int 4, .int part, a5, a6, a7, a8, a9, a10, a11, a12, .list aboveL4, a14, a15, a16, a17, a18, a19, a20, a21, a22, a23, a24, a25, a26, .int (X * 15 * 16 * 17), .int (Y * 2 * 3 * 4), .int sd, .int f, .int 5, .undef]) (ρ2 := [a0, a1, .int total, .int 4, .int part, a5, a6, a7, a8, a9, a10, a11, a12, .list aboveL4, a14, a15, a16, a17, a18, a19, a20, a21, a22, a23, a24, a25, a26, .int (X * 15 * 16 * 17), .int (Y * 2 * 3 * 4 * 5), .int sd, .int f, .int 5, .undef]) rfl (dStep (sAssignE (kBinE (a := .int (Y * 2 * 3 * 4)) (b := .int 5) rfl rfl (mul_small (Nat.lt_of_le_of_lt (bdMul 4 (bdMul 3 (bdMul 2 hY))) (by decide)) (by decide)))) rfl) ?_
    rfl
  obtain ⟨z, hz⟩ : ∃ z : Int, z = Y * 60 := ⟨_, rfl⟩
  have hzb : z.natAbs ≤ 60000000000 := by rw [hz]; exact Nat.le_trans (bdMul 60 hY) (by decide)
  have hz0 : z ≠ 0 := by clear hX hY hXY hzb he0 he0' he1; omega
  have hYF : Y * 2 * 3 * 4 * 5 = 2 * z := by clear hX hY hXY hzb he0 he0' he1; omega
  have hhalf : (Y * 2 * 3 * 4 * 5).fdiv 2 = z := by
    rw [hYF, Int.fdiv_eq_ediv_of_nonneg _ (by decide)]
    exact Int.mul_ediv_cancel_left _ (by decide)
  have he90 : ((e : Nat) : Int).natAbs < 2 ^ 90 := small_nat (by clear hX hY hXY hzb hz hz0 hYF hhalf; omega)
  refine dStepM (ρ1 := [a0, a1, .int total, .int 4, .int part, a5, a6, a7, a8, a9, a10, a11, a12, .list aboveL4, a14, a15, a16, a17, a18, a19, a20, a21, a22, a23, a24, a25, a26, .int (X * 15 * 16 * 17), .int (Y * 2 * 3 * 4 * 5), .int sd, .int f, .int 5, .int (z * (e : Int))]) (sAssignE ?_) ?_
  · refine kBinE (a := .int z) (b := .int (e : Int)) ?_ ?_ (mul_small (Nat.lt_of_le_of_lt hzb (by decide)) he90)
    · refine kBinE (a := .int (Y * 2 * 3 * 4 * 5)) (b := .int 2) rfl rfl ?_
      show (if (2 : Int) ≠ 0 ∧ (2 : Int).natAbs < 2 ^ 1000 then some (PV.int ((Y * 2 * 3 * 4 * 5).fdiv 2)) else none) = _
      rw [if_pos ⟨by decide, by decide +kernel⟩, hhalf]
    · exact (kBinE (a := .int (1 + part)) (b := .int 2) rfl rfl (mod_small (by decide))).trans (by rw [he0'])
  have hdm : fn_idm3 [.int (X * 15 * 16 * 17 + z * (e : Int)), .int (Y * 2 * 3 * 4 * 5)] [] = some (.tup [.int (sd * ((68 : Nat) : Int)), .int (z * (e : Int))]) :=
    tail_idm (w := z * ((68 : Nat) : Int)) hz0 hzb rfl (by decide) (by decide) he1 rfl hYF (by
      generalize z * (e : Int) = m
      clear hX hY hzb he0 he0' he1 he90 hYF hhalf
      rcases hXY with ⟨h1, rfl⟩ | ⟨h1, rfl⟩
      · exact .inl ⟨h1, by omega⟩
      · exact .inr ⟨h1, by omega⟩)
  have hsd : sd.natAbs < 2 ^ 90 := by rcases hXY with ⟨rfl, _⟩ | ⟨rfl, _⟩ <;> decide
  generalize hm : z * (e : Int) = m at hdm ⊢
  have hsum : (kCallB pSum (lCons (fun ρ => ((lComp [] [(Str.ofString "one")] (iVal (dVar 13)) (tSet 0) bT (eElt (kCallB pLen (lCons (dVar 0) lNil)))) ρ).map .list) lNil)) [a0, a1, .int total, .int 4, .int part, a5, a6, a7, a8, a9, a10, a11, a12, .list aboveL4, a14, a15, a16, a17, a18, a19, a20, a21, a22, a23, a24, a25, a26, .int (X * 15 * 16 * 17), .int (Y * 2 * 3 * 4 * 5), .int sd, .int f, .int 5, .int (m)] = some (.int ((68 : Nat) : Int)) := by kernel_rfl
  have hret : (kBin pEq (kCall fn_idm3 [] (lCons (kBin pAdd (dVar 27) (dVar 32)) (lCons (dVar 28) lNil)) lNil) (kTup (lCons (kBin pMul (dVar 29) (kCallB pSum (lCons (fun ρ => ((lComp [] [(Str.ofString "one")] (iVal (dVar 13)) (tSet 0) bT (eElt (kCallB pLen (lCons (dVar 0) lNil)))) ρ).map .list) lNil))) (lCons (dVar 32) lNil)))) [a0, a1, .int total, .int 4, .int part, a5, a6, a7, a8, a9, a10, a11, a12, .list aboveL4, a14, a15, a16, a17, a18, a19, a20, a21, a22, a23, a24, a25, a26, .int (X * 15 * 16 * 17), .int (Y * 2 * 3 * 4 * 5), .int sd, .int f, .int 5, .int (m)] = some (.bool true) := by
    have h3 : (lCons (kBin pMul (dVar 29) (kCallB pSum (lCons (fun ρ => ((lComp [] [(Str.ofString "one")] (iVal (dVar 13)) (tSet 0) bT (eElt (kCallB pLen (lCons (dVar 0) lNil)))) ρ).map .list) lNil))) (lCons (dVar 32) lNil)) [a0, a1, .int total, .int 4, .int part, a5, a6, a7, a8, a9, a10, a11, a12, .list aboveL4, a14, a15, a16, a17, a18, a19, a20, a21, a22, a23, a24, a25, a26, .int (X * 15 * 16 * 17), .int (Y * 2 * 3 * 4 * 5), .int sd, .int f, .int 5, .int (m)] = some [.int (sd * ((68 : Nat) : Int)), .int m] :=
      lConsE (kBinE (a := .int sd) (b := .int ((68 : Nat) : Int)) rfl hsum (mul_small hsd (by decide))) (lCons1 rfl)
    refine kBinE (a := .tup [.int (sd * ((68 : Nat) : Int)), .int m]) (b := .tup [.int (sd * ((68 : Nat) : Int)), .int m]) (kCallE (lConsE (kBinE (a := .int (X * 15 * 16 * 17)) (b := .int m) rfl rfl rfl) (lCons1 rfl)) hdm) ?_ ?_
    · show (lCons _ _ _).map PV.tup = _
      rw [h3]; rfl
    · show some (PV.bool ((sd * ((68 : Nat) : Int) == sd * ((68 : Nat) : Int)) && ((m == m) && true))) = _
      rw [beq_self_eq_true, beq_self_eq_true]; rfl
  exact sRet_last hret
theorem law4 (sc tl : PV) (total part : Int) (p0 p1 p2 : List Tk) (hp0 : p0 ∈ menuT) (hp1 : p1 ∈ menuT) (hp2 : p2 ∈ menuT) : (fb7 [sc, tl, .int total, .int 4, .int part, menuV, pcV [p0, p1, p2, [], [], [], [], []], .undef, .undef, .undef, .undef, .undef, .undef, .undef, .undef, .undef, .undef, .undef, .undef, .undef, .undef, .undef, .undef, .undef, .undef, .undef, .undef, .undef, .undef, .undef, .undef, .undef, .undef]).map flOut = some (.bool true) := by
  obtain ⟨low, hlow, hlt⟩ := fmod_lt part (n := 14) (by decide)
  have hlow' : part.fmod 14 = low := hlow
  have hrl : rowsB4.length = 14 := by kernel_rfl
  have hsl : sizesI4.length = 14 := by kernel_rfl
  have hpl : plainI4.length = 14 := by kernel_rfl
  have hal : aboveI4.length = 14 := by kernel_rfl
  have hrow : ∀ k < 14, rowsL4[k]? = some (.str (rowN (rowsB4.getD k []))) := fun k hk => by
    show (rowsB4.map _)[k]? = _
    rw [List.getElem?_map, getD_at [] (by omega)]; rfl
  unfold fb7
  refine dStepM (ρ1 := [sc, tl, .int total, .int 4, .int part, menuV, pcV [p0, p1, p2, [], [], [], [], []], .list rowsL4, .undef, .undef, .undef, .undef, .undef, .undef, .undef, .undef, .undef, .undef, .undef, .undef, .undef, .undef, .undef, .undef, .undef, .undef, .undef, .undef, .undef, .undef, .undef, .undef, .undef]) (by kernel_rfl) ?_
  refine dStepM (ρ1 := [sc, tl, .int total, .int 4, .int part, menuV, pcV [p0, p1, p2, [], [], [], [], []], .list rowsL4, .int (low : Int), .undef, .undef, .undef, .undef, .undef, .undef, .undef, .undef, .undef, .undef, .undef, .undef, .undef, .undef, .undef, .undef, .undef, .undef, .undef, .undef, .undef, .undef, .undef, .undef]) (sAssignE ((kBinE (a := .int part) (b := .int 14) rfl (by kernel_rfl) (mod_small (by decide))).trans (by rw [hlow']))) ?_
  refine dStepM (ρ1 := [sc, tl, .int total, .int 4, .int part, menuV, pcV [p0, p1, p2, [], [], [], [], []], .list rowsL4, .int (low : Int), .undef, .undef, .undef, .undef, .undef, .undef, .undef, .undef, .undef, .undef, .undef, .undef, .undef, .undef, .undef, .undef, .undef, .undef, .undef, .undef, .undef, .undef, .undef, .undef]) (sIfF ?_ rfl) ?_
  · obtain ⟨h1, h2, h3⟩ := rows_fact4 _ (getD_mem (l := rowsB4) (k := low) [] (by omega))
    have ha := answers_fn (piecesOk hp0 hp1 hp2 h1) h2
    rw [h3] at ha
    exact bCmpE (kCallE (lConsE (kBinE (a := .list rowsL4) (b := .int (low : Int)) rfl rfl (pItemL (hrow low hlt) (by decide +kernel))) (lCons1 rfl)) ha) rfl (by kernel_rfl)
  refine dStepM (ρ1 := [sc, tl, .int total, .int 4, .int part, menuV, pcV [p0, p1, p2, [], [], [], [], []], .list rowsL4, .int (low : Int), .list plainL4, .undef, .undef, .undef, .undef, .undef, .undef, .undef, .undef, .undef, .undef, .undef, .undef, .undef, .undef, .undef, .undef, .undef, .undef, .undef, .undef, .undef, .undef, .undef]) (by kernel_rfl) ?_
  refine dStepM (ρ1 := [sc, tl, .int total, .int 4, .int part, menuV, pcV [p0, p1, p2, [], [], [], [], []], .list rowsL4, .int (low : Int), .list plainL4, .list plainL4, .undef, .undef, .undef, .undef, .undef, .undef, .undef, .undef, .undef, .undef, .undef, .undef, .undef, .undef, .undef, .undef, .undef, .undef, .undef, .undef, .undef, .undef]) ?_ ?_
  · have hsp : (lComp [((Str.ofString "part"), 4), ((Str.ofString "rows"), 7), ((Str.ofString "pieces"), 6), ((Str.ofString "plain"), 9)] [(Str.ofString "i")] (iCall pRange (lCons (kCallB pLen (lCons (dVar 7) lNil)) lNil)) (tSet 4) bT (eElt (kIf (bCmp pEq (kBin pMod (kBin pAdd (dVar 4) (dVar 0)) (kC (.int 2))) (kC (.int 0))) (kCall fn_law_spans [] (lCons (kBin pItem (dVar 1) (dVar 4)) (lCons (dVar 2) lNil)) lNil) (kBin pItem (dVar 3) (dVar 4))))) [sc, tl, .int total, .int 4, .int part, menuV, pcV [p0, p1, p2, [], [], [], [], []], .list rowsL4, .int (low : Int), .list plainL4, .undef, .undef, .undef, .undef, .undef, .undef, .undef, .undef, .undef, .undef, .undef, .undef, .undef, .undef, .undef, .undef, .undef, .undef, .undef, .undef, .undef, .undef, .undef] = some plainL4 := by
      refine (lCompMap (List.range 14) (fun k => .int k) (fun k => [.list ((plainI4.getD k []).map .int)]) (fun r => ∃ q, r = [.int part, .list rowsL4, pcV [p0, p1, p2, [], [], [], [], []], .list plainL4, q]) (by kernel_rfl) ?_ (by decide) ⟨.undef, rfl⟩).trans ?_
      · rintro k hk r ⟨q, rfl⟩
        have hk := List.mem_range.mp hk
        refine ⟨[.int part, .list rowsL4, pcV [p0, p1, p2, [], [], [], [], []], .list plainL4, .int k], rfl, ⟨_, rfl⟩, .inr ⟨_, rfl, rfl, ?_⟩⟩
        have hc : (bCmp pEq (kBin pMod (kBin pAdd (dVar 4) (dVar 0)) (kC (.int 2))) (kC (.int 0))) [.int part, .list rowsL4, pcV [p0, p1, p2, [], [], [], [], []], .list plainL4, .int k] = some (((k : Int) + part).fmod 2 == 0) :=
          bCmpE (kBinE (a := .int ((k : Int) + part)) (b := .int 2) rfl rfl (mod_small (by decide))) rfl rfl
        obtain ⟨h1, h2, h3⟩ := rows_fact4 _ (getD_mem (l := rowsB4) (k := k) [] (by omega))
        have hs := spans_fn (piecesOk hp0 hp1 hp2 h1)
        have hpk : spansB (rowsB4.getD k []) = plainI4.getD k [] := by
          have h4 : (rowsB4.map spansB)[k]? = some (spansB (rowsB4.getD k [])) := by rw [List.getElem?_map, getD_at [] (by omega)]; rfl
          rw [spans_fact4, getD_at [] (by omega)] at h4
          exact (Option.some.inj h4).symm
        rw [hpk] at hs
        refine kIfE hc (fun _ => kCallE (lConsE (kBinE (a := .list rowsL4) (b := .int (k : Int)) rfl rfl (pItemL (hrow k hk) (by decide +kernel))) (lCons1 rfl)) hs) fun _ => ?_
        · have h5 : plainL4[k]? = some (.list ((plainI4.getD k []).map .int)) := by
            show (plainI4.map _)[k]? = _
            rw [List.getElem?_map, getD_at [] (by omega)]; rfl
          exact kBinE (a := .list plainL4) (b := .int (k : Int)) rfl rfl (pItemL h5 (by decide +kernel))
      · rw [flatten_single]; kernel_rfl
    exact sAssignE (by
      show ((lComp [((Str.ofString "part"), 4), ((Str.ofString "rows"), 7), ((Str.ofString "pieces"), 6), ((Str.ofString "plain"), 9)] [(Str.ofString "i")] (iCall pRange (lCons (kCallB pLen (lCons (dVar 7) lNil)) lNil)) (tSet 4) bT (eElt (kIf (bCmp pEq (kBin pMod (kBin pAdd (dVar 4) (dVar 0)) (kC (.int 2))) (kC (.int 0))) (kCall fn_law_spans [] (lCons (kBin pItem (dVar 1) (dVar 4)) (lCons (dVar 2) lNil)) lNil) (kBin pItem (dVar 3) (dVar 4))))) [sc, tl, .int total, .int 4, .int part, menuV, pcV [p0, p1, p2, [], [], [], [], []], .list rowsL4, .int (low : Int), .list plainL4, .undef, .undef, .undef, .undef, .undef, .undef, .undef, .undef, .undef, .undef, .undef, .undef, .undef, .undef, .undef, .undef, .undef, .undef, .undef, .undef, .undef, .undef, .undef]).map PV.list = _
      rw [hsp]; rfl)
  refine dStepM (ρ1 := [sc, tl, .int total, .int 4, .int part, menuV, pcV [p0, p1, p2, [], [], [], [], []], .list rowsL4, .int (low : Int), .list plainL4, .list plainL4, .undef, .undef, .undef, .undef, .undef, .undef, .undef, .undef, .undef, .undef, .undef, .undef, .undef, .undef, .undef, .undef, .undef, .undef, .undef, .undef, .undef, .undef]) (by kernel_rfl) ?_
  refine dStepM (ρ1 := [sc, tl, .int total, .int 4, .int part, menuV, pcV [p0, p1, p2, [], [], [], [], []], .list rowsL4, .int (low : Int), .list plainL4, .list plainL4, upsV4, .undef, .undef, .undef, .undef, .undef, .undef, .undef, .undef, .undef, .undef, .undef, .undef, .undef, .undef, .undef, .undef, .undef, .undef, .undef, .undef, .undef]) (by kernel_rfl) ?_
  refine dStepM (ρ1 := [sc, tl, .int total, .int 4, .int part, menuV, pcV [p0, p1, p2, [], [], [], [], []], .list rowsL4, .int (low : Int), .list plainL4, .list plainL4, upsV4, coversV4, .undef, .undef, .undef, .undef, .undef, .undef, .undef, .undef, .undef, .undef, .undef, .undef, .undef, .undef, .undef, .undef, .undef, .undef, .undef, .undef]) (by kernel_rfl) ?_
  refine dStepM (ρ1 := [sc, tl, .int total, .int 4, .int part, menuV, pcV [p0, p1, p2, [], [], [], [], []], .list rowsL4, .int (low : Int), .list plainL4, .list plainL4, upsV4, coversV4, .undef, .undef, .undef, .undef, .undef, .undef, .undef, .undef, .undef, .undef, .undef, .undef, .undef, .undef, .undef, .undef, .undef, .undef, .undef, .undef]) (by kernel_rfl) ?_
  refine dStepM (ρ1 := [sc, tl, .int total, .int 4, .int part, menuV, pcV [p0, p1, p2, [], [], [], [], []], .list rowsL4, .int (low : Int), .list plainL4, .list plainL4, upsV4, coversV4, .list aboveL4, .undef, .undef, .undef, .undef, .undef, .undef, .undef, .undef, .undef, .undef, .undef, .undef, .undef, .undef, .undef, .undef, .undef, .undef, .undef]) (by kernel_rfl) ?_
  refine dStepM (ρ1 := [sc, tl, .int total, .int 4, .int part, menuV, pcV [p0, p1, p2, [], [], [], [], []], .list rowsL4, .int (low : Int), .list plainL4, .list plainL4, upsV4, coversV4, .list aboveL4, .list sizesL4, .undef, .undef, .undef, .undef, .undef, .undef, .undef, .undef, .undef, .undef, .undef, .undef, .undef, .undef, .undef, .undef, .undef, .undef]) (by kernel_rfl) ?_
  obtain ⟨w0, hw0, hw1⟩ := fmod_lt part (n := 60) (by decide)
  have hw0' : part.fmod 60 = w0 := hw0
  obtain ⟨w, hw⟩ : ∃ w : Nat, w = 5 + w0 := ⟨_, rfl⟩
  refine dStepM (ρ1 := [sc, tl, .int total, .int 4, .int part, menuV, pcV [p0, p1, p2, [], [], [], [], []], .list rowsL4, .int (low : Int), .list plainL4, .list plainL4, upsV4, coversV4, .list aboveL4, .list sizesL4, .int (w : Int), .undef, .undef, .undef, .undef, .undef, .undef, .undef, .undef, .undef, .undef, .undef, .undef, .undef, .undef, .undef, .undef, .undef]) (sAssignE (kBinE (a := .int 5) (b := .int (w0 : Int)) rfl ((kBinE (a := .int part) (b := .int 60) rfl rfl (mod_small (by decide))).trans (by rw [hw0'])) (by
    show some (PV.int (5 + (w0 : Int))) = _
    rw [hw, Int.natCast_add]; rfl))) ?_
  obtain ⟨G, hG⟩ : ∃ G : Int, G = ((2 ^ (w - 1) : Nat) : Int) := ⟨_, rfl⟩
  refine dStepM (ρ1 := [sc, tl, .int total, .int 4, .int part, menuV, pcV [p0, p1, p2, [], [], [], [], []], .list rowsL4, .int (low : Int), .list plainL4, .list plainL4, upsV4, coversV4, .list aboveL4, .list sizesL4, .int (w : Int), .int G, .undef, .undef, .undef, .undef, .undef, .undef, .undef, .undef, .undef, .undef, .undef, .undef, .undef, .undef, .undef, .undef]) (sAssignE (kBinE (a := .int 2) (b := .int ((w : Int) - 1)) rfl rfl ?_)) ?_
  · show (if 0 ≤ (w : Int) - 1 ∧ (w : Int) - 1 ≤ 1000000 ∧ (2 : Int).natAbs < 2 ^ 64 then some (PV.int ((2 : Int) ^ ((w : Int) - 1).toNat)) else none) = _
    rw [if_pos ⟨by omega, by omega, by decide⟩, hG]
    have : ((w : Int) - 1).toNat = w - 1 := by omega
    rw [this, Int.natCast_pow]; rfl
  have hT := sizes_fact4 _ (getD_mem (l := sizesI4) (k := low) [] (by omega))
  have hrep : (List.replicate 14 (sizesI4.getD low [])).flatten.length = 56 := by
    rw [List.length_flatten, List.map_replicate, List.sum_replicate_nat, hT.1]
  have hfl : sizesI4.flatten.length = 56 := by kernel_rfl
  obtain ⟨A, A2, e1, e2, e3⟩ := digs (w := w) (G := G) (by omega) (by omega) hG (u := sizesI4.flatten) (v := (List.replicate 14 (sizesI4.getD low [])).flatten) (by rw [hfl, hrep]) (by rw [hfl]; decide) (by rw [hfl]; decide) (fun d hd => by
    obtain ⟨l, hl, hd⟩ := List.mem_flatten.mp hd
    exact (sizes_fact4 l hl).2 d hd) (fun d hd => by
    obtain ⟨l, hl, hd⟩ := List.mem_flatten.mp hd
    rw [(List.mem_replicate.mp hl).2] at hd
    exact hT.2 d hd)
  refine dStepM (ρ1 := [sc, tl, .int total, .int 4, .int part, menuV, pcV [p0, p1, p2, [], [], [], [], []], .list rowsL4, .int (low : Int), .list plainL4, .list plainL4, upsV4, coversV4, .list aboveL4, .list sizesL4, .int (w : Int), .int G, .int A, .undef, .undef, .undef, .undef, .undef, .undef, .undef, .undef, .undef, .undef, .undef, .undef, .undef, .undef, .undef]) (sAssignE (kCallE (lConsE (a := .list ((sizesI4.flatten.map (G + ·)).map .int)) (by kernel_rfl) (lCons1 rfl)) e1)) ?_
  refine dStepM (ρ1 := [sc, tl, .int total, .int 4, .int part, menuV, pcV [p0, p1, p2, [], [], [], [], []], .list rowsL4, .int (low : Int), .list plainL4, .list plainL4, upsV4, coversV4, .list aboveL4, .list sizesL4, .int (w : Int), .int G, .int A, .list (((List.zipWith (· - ·) sizesI4.flatten (List.replicate 14 (sizesI4.getD low [])).flatten).map (G + ·)).map .int), .undef, .undef, .undef, .undef, .undef, .undef, .undef, .undef, .undef, .undef, .undef, .undef, .undef, .undef]) (sAssignE (kCallE (lConsE (a := .int (A - A2)) (kBinE (a := .int A) (b := .int A2) rfl (kCallE (lConsE (a := .list ((List.replicate 14 (sizesI4.getD low [])).flatten.map .int)) (kBinE (a := .list ((sizesI4.getD low []).map .int)) (b := .int 14) (kBinE (a := .list sizesL4) (b := .int (low : Int)) rfl rfl (pItemL ?_ (by decide +kernel))) (by kernel_rfl) ?_) (lCons1 rfl)) e2) rfl) (lCons1 rfl)) e3)) ?_
  · show (sizesI4.map _)[low]? = _
    rw [List.getElem?_map, getD_at [] (by omega)]; rfl
  · show (if 0 ≤ (14 : Int) ∧ (14 : Int) ≤ 1000 ∧ ((sizesI4.getD low []).map PV.int).length ≤ 1000 then some (PV.list (List.replicate (14 : Int).toNat ((sizesI4.getD low []).map PV.int)).flatten) else none) = _
    rw [if_pos ⟨by decide, by decide, by rw [List.length_map, hT.1]; decide⟩, List.map_flatten, List.map_replicate]
    rfl
  have hDl : (List.zipWith (· - ·) sizesI4.flatten (List.replicate 14 (sizesI4.getD low [])).flatten).length = 14 * 4 := by
    rw [List.length_zipWith, hfl, hrep]; rfl
  refine dStepM (ρ1 := [sc, tl, .int total, .int 4, .int part, menuV, pcV [p0, p1, p2, [], [], [], [], []], .list rowsL4, .int (low : Int), .list plainL4, .list plainL4, upsV4, coversV4, .list aboveL4, .list sizesL4, .int (w : Int), .int G, .int A, .list (((List.zipWith (· - ·) sizesI4.flatten (List.replicate 14 (sizesI4.getD low [])).flatten).map (G + ·)).map .int), .undef, .undef, .undef, .undef, .undef, .undef, .undef, .undef, .undef, .undef, .undef, .undef, .undef, .undef]) (sIfF ?_ rfl) ?_
  · have hd := digits_comp (p := 4) (n := 14) (G := G) (rows := rowsL4) (ρ := [sc, tl, .int total, .int 4, .int part, menuV, pcV [p0, p1, p2, [], [], [], [], []], .list rowsL4, .int (low : Int), .list plainL4, .list plainL4, upsV4, coversV4, .list aboveL4, .list sizesL4, .int (w : Int), .int G, .int A, .list (((List.zipWith (· - ·) sizesI4.flatten (List.replicate 14 (sizesI4.getD low [])).flatten).map (G + ·)).map .int), .undef, .undef, .undef, .undef, .undef, .undef, .undef, .undef, .undef, .undef, .undef, .undef, .undef, .undef]) (by decide) (by decide) (by decide) hDl rfl rfl rfl rfl (by kernel_rfl)
    rw [digI_B, dig_fact4 low hlt] at hd
    have hb1 : (bCmp pNe (kCallB pLen (lCons (dVar 18) lNil)) (kBin pMul (dVar 3) (kCallB pLen (lCons (dVar 7) lNil)))) [sc, tl, .int total, .int 4, .int part, menuV, pcV [p0, p1, p2, [], [], [], [], []], .list rowsL4, .int (low : Int), .list plainL4, .list plainL4, upsV4, coversV4, .list aboveL4, .list sizesL4, .int (w : Int), .int G, .int A, .list (((List.zipWith (· - ·) sizesI4.flatten (List.replicate 14 (sizesI4.getD low [])).flatten).map (G + ·)).map .int), .undef, .undef, .undef, .undef, .undef, .undef, .undef, .undef, .undef, .undef, .undef, .undef, .undef, .undef] = some false := by
      refine bCmpE (a := .int 56) (b := .int 56) (kCallBE (lCons1 rfl) ?_) (by kernel_rfl) rfl
      have h6 := len_list (x := (((List.zipWith (· - ·) sizesI4.flatten (List.replicate 14 (sizesI4.getD low [])).flatten).map (G + ·)).map PV.int)) (by rw [List.length_map, List.length_map, hDl]; decide)
      rw [List.length_map, List.length_map, hDl] at h6
      exact h6
    have hb2 : (bCmp pNe (fun ρ => (lComp [((Str.ofString "digits"), 18), ((Str.ofString "pairs"), 3), ((Str.ofString "guard"), 16)] [(Str.ofString "j")] (iCall pRange (lCons (kCallB pLen (lCons (dVar 7) lNil)) lNil)) (tSet 3) (bCmp pGe (kCallB pMin (lCons (kSlice (dVar 0) (kBin pMul (dVar 3) (dVar 1)) (kBin pMul (kBin pAdd (dVar 3) (kC (.int 1))) (dVar 1))) lNil)) (dVar 2)) (eElt (dVar 3)) ρ).map .list) (kBin pItem (dVar 13) (dVar 8))) [sc, tl, .int total, .int 4, .int part, menuV, pcV [p0, p1, p2, [], [], [], [], []], .list rowsL4, .int (low : Int), .list plainL4, .list plainL4, upsV4, coversV4, .list aboveL4, .list sizesL4, .int (w : Int), .int G, .int A, .list (((List.zipWith (· - ·) sizesI4.flatten (List.replicate 14 (sizesI4.getD low [])).flatten).map (G + ·)).map .int), .undef, .undef, .undef, .undef, .undef, .undef, .undef, .undef, .undef, .undef, .undef, .undef, .undef, .undef] = some false := by
      refine bCmpE (a := .list ((aboveI4.getD low []).map .int)) (b := .list ((aboveI4.getD low []).map .int)) ?_ (kBinE (a := .list aboveL4) (b := .int (low : Int)) rfl rfl (pItemL ?_ (by decide +kernel))) ?_
      · show (lComp _ _ _ _ _ _ _).map _ = _
        rw [hd]; rfl
      · show (aboveI4.map _)[low]? = _
        rw [List.getElem?_map, getD_at [] (by omega)]; rfl
      · exact ne_self_ints _
    show ((bCmp pNe _ _) _).bind _ = _
    rw [hb1]
    show ((bCmp pNe _ _) _).bind _ = _
    rw [hb2]
    rfl
  refine dStepM (ρ1 := [sc, tl, .int total, .int 4, .int part, menuV, pcV [p0, p1, p2, [], [], [], [], []], .list rowsL4, .int (low : Int), .list plainL4, .list plainL4, upsV4, coversV4, .list aboveL4, .list sizesL4, .int (w : Int), .int G, .int A, .list (((List.zipWith (· - ·) sizesI4.flatten (List.replicate 14 (sizesI4.getD low [])).flatten).map (G + ·)).map .int), .own [], .undef, .undef, .undef, .undef, .undef, .undef, .undef, .undef, .undef, .undef, .undef, .undef, .undef]) rfl ?_
  refine dStepM (ρ1 := [sc, tl, .int total, .int 4, .int part, menuV, pcV [p0, p1, p2, [], [], [], [], []], .list rowsL4, .int (low : Int), .list plainL4, .list plainL4, upsV4, coversV4, .list aboveL4, .list sizesL4, .int (w : Int), .int G, .int A, .list (((List.zipWith (· - ·) sizesI4.flatten (List.replicate 14 (sizesI4.getD low [])).flatten).map (G + ·)).map .int), .own shelfL4, .int 0, .int 13, .undef, .undef, .undef, .undef, .undef, .undef, .undef, .undef, .undef, .undef, .undef]) (by kernel_rfl) ?_
  show ((dSeq _ _) [sc, tl, .int total, .int 4, .int part, menuV, pcV [p0, p1, p2, [], [], [], [], []], .list rowsL4, .int (low : Int), .list plainL4, .list plainL4, upsV4, coversV4, .list aboveL4, .list sizesL4, .int (w : Int), .int G, .int A, .list (((List.zipWith (· - ·) sizesI4.flatten (List.replicate 14 (sizesI4.getD low [])).flatten).map (G + ·)).map .int), .list shelfL4, .int 0, .int 13, .undef, .undef, .undef, .undef, .undef, .undef, .undef, .undef, .undef, .undef, .undef]).map flOut = _
  refine dStepM (ρ1 := [sc, tl, .int total, .int 4, .int part, menuV, pcV [p0, p1, p2, [], [], [], [], []], .list rowsL4, .int (low : Int), .list plainL4, .list plainL4, upsV4, coversV4, .list aboveL4, .list sizesL4, .int (w : Int), .int G, .int A, .list (((List.zipWith (· - ·) sizesI4.flatten (List.replicate 14 (sizesI4.getD low [])).flatten).map (G + ·)).map .int), .list shelfL4, .int 0, .int 13, .undef, .undef, .undef, .undef, .undef, .undef, .undef, .undef, .undef, .undef, .undef]) (by kernel_rfl) ?_
  obtain ⟨x21, x22, z23, z24, z25, z26, hp⟩ := pair_loop (n := 14) (a := fun k => ([sc, tl, .int total, .int 4, .int part, menuV, pcV [p0, p1, p2, [], [], [], [], []], .list rowsL4, .int (low : Int), .list plainL4, .list plainL4, upsV4, coversV4, .list aboveL4, .list sizesL4, .int (w : Int), .int G, .int A, .list (((List.zipWith (· - ·) sizesI4.flatten (List.replicate 14 (sizesI4.getD low [])).flatten).map (G + ·)).map .int), .list shelfL4, .int 0, .int 13, .undef, .undef, .undef, .undef, .undef, .undef, .undef, .undef, .undef, .undef, .undef] : List PV).getD k .undef) (p := .int 4) (ab := .list aboveL4) (sz := .list sizesL4) (sh := .list shelfL4) (rows := rowsL4) (part := part) (by decide) (by decide) (by kernel_rfl) rfl rfl pair_fact4 (.int 13) .undef .undef .undef .undef .undef
  refine dStepM hp ?_
  exact tail4 total part
theorem law_fn (script : List Int) (h : script.length ≤ 1000) : (fb_law (PV.list (script.map .int) :: List.replicate 32 .undef)).map flOut = some (.bool true) := by
  obtain ⟨s, hs⟩ := sum_ints (script.take 60)
  obtain ⟨total, ht⟩ : ∃ t : Int, t = 1 + s := ⟨_, rfl⟩
  obtain ⟨r, hr, hlt⟩ := fmod_lt total (n := 3) (by decide)
  have hr' : total.fmod 3 = r := hr
  show (fb_law [PV.list (script.map .int), .undef, .undef, .undef, .undef, .undef, .undef, .undef, .undef, .undef, .undef, .undef, .undef, .undef, .undef, .undef, .undef, .undef, .undef, .undef, .undef, .undef, .undef, .undef, .undef, .undef, .undef, .undef, .undef, .undef, .undef, .undef, .undef]).map flOut = _
  unfold fb_law
  refine dStepM (ρ1 := [PV.list (script.map .int), .list ((script.take 60).map .int), .undef, .undef, .undef, .undef, .undef, .undef, .undef, .undef, .undef, .undef, .undef, .undef, .undef, .undef, .undef, .undef, .undef, .undef, .undef, .undef, .undef, .undef, .undef, .undef, .undef, .undef, .undef, .undef, .undef, .undef, .undef]) (sAssignE (take_slice script (by omega))) ?_
  refine dStepM (ρ1 := [PV.list (script.map .int), .list ((script.take 60).map .int), .int total, .undef, .undef, .undef, .undef, .undef, .undef, .undef, .undef, .undef, .undef, .undef, .undef, .undef, .undef, .undef, .undef, .undef, .undef, .undef, .undef, .undef, .undef, .undef, .undef, .undef, .undef, .undef, .undef, .undef, .undef]) (sAssignE (kBinE (a := .int 1) (b := .int s) rfl (kCallBE (lCons1 rfl) hs) (by rw [ht]; rfl))) ?_
  refine dStepM (ρ1 := [PV.list (script.map .int), .list ((script.take 60).map .int), .int total, .int (2 + (r : Int)), .int (total.fdiv 3), .undef, .undef, .undef, .undef, .undef, .undef, .undef, .undef, .undef, .undef, .undef, .undef, .undef, .undef, .undef, .undef, .undef, .undef, .undef, .undef, .undef, .undef, .undef, .undef, .undef, .undef, .undef, .undef]) ?_ ?_
  · have h2 : (lCons (kBin pAdd (kC (.int 2)) (kBin pMod (dVar 2) (kC (.int 3)))) (lCons (kBin pFloorDiv (dVar 2) (kC (.int 3))) lNil)) [PV.list (script.map .int), .list ((script.take 60).map .int), .int total, .undef, .undef, .undef, .undef, .undef, .undef, .undef, .undef, .undef, .undef, .undef, .undef, .undef, .undef, .undef, .undef, .undef, .undef, .undef, .undef, .undef, .undef, .undef, .undef, .undef, .undef, .undef, .undef, .undef, .undef] = some [.int (2 + (r : Int)), .int (total.fdiv 3)] :=
      lConsE (kBinE (a := .int 2) (b := .int (r : Int)) rfl ((kBinE (a := .int total) (b := .int 3) rfl rfl (mod_small (by decide))).trans (by rw [hr'])) rfl) (lCons1 (kBinE (a := .int total) (b := .int 3) rfl rfl (fdiv_small (by decide) (by decide))))
    show ((lCons _ _ _).map PV.tup).bind _ = _
    rw [h2]; rfl
  refine dStepM (ρ1 := [PV.list (script.map .int), .list ((script.take 60).map .int), .int total, .int (2 + (r : Int)), .int (total.fdiv 3), menuV, .undef, .undef, .undef, .undef, .undef, .undef, .undef, .undef, .undef, .undef, .undef, .undef, .undef, .undef, .undef, .undef, .undef, .undef, .undef, .undef, .undef, .undef, .undef, .undef, .undef, .undef, .undef]) rfl ?_
  obtain ⟨p0, p1, p2, hp0, hp1, hp2, hpc⟩ := pieces_fn (script.take 60) (by rw [List.length_take]; omega) (ρ := [PV.list (script.map .int), .list ((script.take 60).map .int), .int total, .int (2 + (r : Int)), .int (total.fdiv 3), menuV, .undef, .undef, .undef, .undef, .undef, .undef, .undef, .undef, .undef, .undef, .undef, .undef, .undef, .undef, .undef, .undef, .undef, .undef, .undef, .undef, .undef, .undef, .undef, .undef, .undef, .undef, .undef]) rfl rfl
  refine dStepM (ρ1 := [PV.list (script.map .int), .list ((script.take 60).map .int), .int total, .int (2 + (r : Int)), .int (total.fdiv 3), menuV, pcV [p0, p1, p2, [], [], [], [], []], .undef, .undef, .undef, .undef, .undef, .undef, .undef, .undef, .undef, .undef, .undef, .undef, .undef, .undef, .undef, .undef, .undef, .undef, .undef, .undef, .undef, .undef, .undef, .undef, .undef, .undef]) (sAssignE hpc) ?_
  match r, hlt with
  | 0, _ => exact law2 _ _ total _ p0 p1 p2 hp0 hp1 hp2
  | 1, _ => exact law3 _ _ total _ p0 p1 p2 hp0 hp1 hp2
  | 2, _ => exact law4 _ _ total _ p0 p1 p2 hp0 hp1 hp2
  | r + 3, h => omega
noncomputable def fn_law : List PV → List (Str × PV) → Option PV := fnF 1 32 fb_law
theorem ok_law (g : GC) : FnS g 152 37 fn_law := FnS.plain (C := cx_law) [(Str.ofString "script")] 32
  ⟨_, _, _, _, fun P => by with_unfolding_all rfl, fun P => by kernel_rfl, by rfl, by rfl, by rfl, by rfl, by rfl, by with_unfolding_all rfl, by with_unfolding_all rfl, fun s vs h => by
    match vs, h with
    | [v0], _ => exact BindsTo.of_eq (by with_unfolding_all rfl)⟩
  cx_law_ok (by kernel_rfl) (by unfold isTab; decide) (by decide +kernel) (fun ps h => by
    match ps, h with
    | [v0], _ => kernel_rfl) (D_law g)
theorem ints_rel (H : HP) : ∀ {vs : List Value} {ns : List Int}, IntsAre vs ns → VRelL H (ns.map .int) vs
  | _, _, .nil => rfl
  | _, _, .cons n t r => ⟨_, _, rfl, ⟨t, rfl⟩, ints_rel H r⟩
theorem tab_code {h : Heap} {K : Frag} {P c : Addr} (hK : K.In h) (hc : codeHdIn K c P = true) : isCodeTable h P := by
  unfold codeHdIn at hc
  split at hc
  · rename_i d vs sl hl
    simp only [Bool.and_eq_true] at hc
    obtain ⟨⟨⟨⟨⟨h1, _⟩, _⟩, _⟩, _⟩, _⟩ := hc
    refine ⟨c, _, vs, hK _ _ hl, rfl, rfl, ?_⟩
    split at h1
    · rename_i P' hP
      rw [hP, eq_of_beq h1]
    · cases h1
  · cases hc
theorem law_call {w : World} {s₁ : Shared} {mg mb : Str → Option Value} (hmg : s₁.heap.Ns mainGlobals mg) (hmb : s₁.heap.Ns builtinsNs mb) (hnl : s₁.heap.NoLimit)
    (hbm : ∃ bm ob, mg "__builtins__" = some (.ref bm) ∧ bm ≠ builtinsNs ∧ s₁.heap.get? bm = some ob ∧ ob.cls = .type "module" ∧ ob.dict = some builtinsNs ∧ ob.data = .plain) (hbl : ∀ x : Str, x ≠ Str.ofString "__name__" → mb x = bootBuiltins x)
    (hK : (K0 w.params).In s₁.heap) (hT : ∀ P ∈ [58, 51], s₁.heap.get? P = some (tabObj #[])) (hg : s₁.gens = #[]) {fa : Addr} (hfa : mg (Str.ofString "law") = some (.ref fa)) {l : Addr} {vs : List Value} {ns : List Int} (hl : s₁.heap.IsList l vs.toArray) (hI : IntsAre vs ns) (hlen : ns.length ≤ 63)
    {Q : Value → Shared → Prop} {E : Value → Shared → Prop} (hQ : ∀ s', OldK s₁.heap s'.heap → s'.os = s₁.os → AllBare s'.gens → Q (.bool true) s') :
    wpAny (model PySem.Challenge.pw_rs0181_01 w) callerA (call (.ref fa) [.ref l]) Q E s₁ := by
  have htab : ∀ a, isTab a → ∃ ps, s₁.heap.get? a = some (tabObj ps) := fun a ha => by
    rcases ha with rfl | rfl
    · exact ⟨_, hT 51 (by simp)⟩
    · exact ⟨_, hT 58 (by simp)⟩
  let g : GC := { prog := PySem.Challenge.pw_rs0181_01, w := w, h0 := s₁.heap, mg := mg, mb := mb, hg := hmg, hb := hmb, nolimit := hnl, bmain := hbm, blt := hbl, kin := hK, tab0 := htab }
  have hfa2 : fa = 152 := by
    have h2 : mg (Str.ofString "law") = some (.ref 152) := mg_of hK hmg (by kernel_rfl)
    rw [hfa] at h2
    cases h2; rfl
  subst hfa2
  classical
  have st : St g s₁ (fun a => if isTab a then none else s₁.heap.get? a) := by
    refine ⟨fun a o h => ?_, fun a o h1 h2 => ?_, ⟨⟨#[], hT 51 (by simp), .inl rfl⟩, ⟨#[], hT 58 (by simp), .inl rfl⟩⟩, fun a h => if_pos h, AllBare.of_eq hg⟩
    · split at h
      · cases h
      · exact h
    · show (if isTab a then none else s₁.heap.get? a) = some o
      rw [if_neg h1]; exact h2
  obtain ⟨o, ho, hc, n, hd2⟩ := hl
  have hnt : ¬ isTab l := fun t => by
    have h1 : s₁.heap.get? l = some (tabObj #[]) := by
      rcases t with rfl | rfl
      · exact hT 51 (by simp)
      · exact hT 58 (by simp)
    rw [ho] at h1; cases h1; cases hc
  have hv : VRel (fun a => if isTab a then none else s₁.heap.get? a) (.list (ns.map .int)) (.ref l) := by
    refine ⟨l, o, vs.toArray, n, rfl, ?_, hc, hd2, by simpa using ints_rel _ hI⟩
    show (if isTab l then none else s₁.heap.get? l) = some o
    rw [if_neg hnt]; exact ho
  have hF : fn_law [.list (ns.map .int)] [] = some (.bool true) := by
    show (fb_law (PV.list (ns.map .int) :: List.replicate 32 .undef)).map flOut = _
    exact law_fn ns (by omega)
  refine ok_law g callerA s₁ _ [.list (ns.map .int)] [.ref l] [] [] Q E (.bool true) ⟨rfl, by decide, by decide⟩ st (VRelL.cons hv rfl) rfl rfl hF fun v s' H' e hvv => ?_
  obtain rfl := hvv
  refine hQ s' ⟨fun b o hb => ?_, fun b o hb => ?_⟩ ?_ e.st.bare
  · by_cases ht : isTab b
    · rcases ht with rfl | rfl
      · have h1 := hT 51 (by simp)
        rw [hb] at h1; cases h1
        obtain ⟨⟨ps, hp, _⟩, _⟩ := e.st.tab
        exact .inr (.inl ⟨tab_code (c := 55) hK (by kernel_rfl), rfl, #[], ps, rfl, by simpa [tabObj] using hp⟩)
      · have h1 := hT 58 (by simp)
        rw [hb] at h1; cases h1
        obtain ⟨_, ⟨ps, hp, _⟩⟩ := e.st.tab
        exact .inr (.inl ⟨tab_code (c := 62) hK (by kernel_rfl), rfl, #[], ps, rfl, by simpa [tabObj] using hp⟩)
    · exact .inl (e.old b o ht hb)
  · by_cases ht : isTab b
    · obtain ⟨o', ho', _⟩ := tab_some e.st.tab ht; exact ⟨o', ho'⟩
    · exact ⟨o, e.old b o ht hb⟩
  · obtain ⟨h', g', tk, he⟩ := e.same
    rw [he]
noncomputable def AllIn (K : Frag) : Frag → Prop
  | [] => True
  | x :: r => K.lookup x.1 = some x.2 ∧ AllIn K r
theorem in_of {K : Frag} {h : Heap} (hK : K.In h) : ∀ {L : Frag}, AllIn K L → L.In h
  | [], _ => fun a o e => by cases e
  | (b, o') :: r, ⟨h1, h2⟩ => fun a o e => by
    rw [List.lookup_cons] at e
    cases hb : a == b with
    | true => rw [hb] at e; cases e; rw [eq_of_beq hb]; exact hK _ _ h1
    | false => rw [hb] at e; exact in_of hK h2 a o e
theorem top.tw16541100652227675460 : True := trivial
theorem top.tw12769396662562464316 : True := trivial
theorem top.tw18064794426631996164 : True := trivial
theorem top.tw2624093185689280933 : True := trivial
theorem top.tw11546936639936008217 : True := trivial
theorem top.tw18186074749648716422 : True := trivial
theorem top.tw14459580976405569124 : True := trivial
theorem top.tw969161616443117702 : True := trivial
theorem top.tw14549111412433740942 : True := trivial
theorem top.tw3969286963782609292 : True := trivial
theorem top.tw814325599930780420 : True := trivial
theorem top.tw4213018616267185653 : True := trivial
theorem top.tw575894324575664597 : True := trivial
theorem top.tw4571971715460732019 : True := trivial
theorem top.tw17486766287000646611 : True := trivial
theorem top.tw788273225186049534 : True := trivial
theorem top.tw6491118196486620199 : True := trivial
theorem top.tw10996937224433265937 : True := trivial
theorem top.tw8143265674769528471 : True := trivial
theorem top.tw956942650209027819 : True := trivial
theorem top.tw15169761463676818070 : True := trivial
theorem top.tw8507776931139520737 : True := trivial
theorem top.tw14547135557781690198 : True := trivial
theorem top.tw5088376156974544275 : True := trivial
theorem top.tw16420938139371093754 : True := trivial
theorem top.tw1886144042066472794 : True := trivial
theorem top.tw1492452104121835379 : True := trivial
theorem top.tw2514443458684651071 : True := trivial
theorem top.tw7458633546980236471 : True := trivial
theorem top.tw16273406610938067001 : True := trivial
theorem top.tw16900427199656544559 : True := trivial
theorem top.tw11279390925490393535 : True := trivial
theorem top.tw3730354652608582461 : True := trivial
theorem top.tw8598144960395782539 : True := trivial
theorem top.tw2782073688633401757 : True := trivial
theorem top.tw2822501910515967889 : True := trivial
theorem top.tw17555251805378815213 : True := trivial
theorem top.tw11334415319851112604 : True := trivial
theorem top.tw517144808224063464 : True := trivial
theorem top.tw2835187731363253809 : True := trivial
theorem top.tw1139600151236580504 : True := trivial
theorem top.tw8363718466572441477 : True := trivial
theorem top.tw9800703332001039478 : True := trivial
theorem top.tw5476889619067714990 : True := trivial
theorem top.tw14917401599646851644 : True := trivial
theorem top.tw17886615442053742456 : True := trivial
theorem top.tw11430207588045935325 : True := trivial
theorem top.tw17177869089781658578 : True := trivial
theorem top.tw6906291655842520137 : True := trivial
theorem top.tw908825868028484722 : True := trivial
theorem top.tw2287823674025257028 : True := trivial
theorem top.tw6187478851450931391 : True := trivial
theorem top.tw4166218997396506358 : True := trivial
theorem top.tw2867133514656366558 : True := trivial
theorem top.tw10090393231696489298 : True := trivial
theorem top.tw15646934709686841381 : True := trivial
theorem top.tw13369591340354186047 : True := trivial
theorem top.tw1814787853859245837 : True := trivial
theorem top.tw8810280945414196856 : True := trivial
theorem top.tw9063741608606530840 : True := trivial
end Mine
set_option Elab.async true in
theorem Mine.top : PySem.Challenge.rw_rs0181_01.Holds := by
  w_on; o_law; k_head; (case hw => w_witness2)
  k_fill
  intro w s₀ s₁ mg mb G Y fa o pm cd doc dV kV ho hd hcd hD hmg hg args vals as hpre hlay hrd hwl hlo
  have KX := km_in_of Y
  have hT8 := km_tabs_of Y
  have hfa : mg (PySem.Str.ofString "law") = some (.ref fa) := hmg
  have T1 := G.T.g
  have T2 := G.T.b
  have T3 := G.T.nolimit
  have T4 := G.T.bmain
  have T5 := G.T.builtins
  have KY : (Mine.K0 w.params).In s₁.heap := Mine.in_of KX (by
    show Mine.AllIn _ (_ :: _)
    repeat (first | exact trivial | refine ⟨by kernel_rfl, ?_⟩))
  clear Y hcd hD hmg hd ho
  wrow_args hpre hlay hrd hwl hlo
  rename_i ns _ _ _ _ _ _ _ l vs _ hL _ _ _ hI _ hcond _
  refine Mine.law_call T1 T2 T3 T4 T5 KY hT8 hg hfa hL hI (by omega) fun s' h1 h2 h3 => ?_
  exact ⟨.inl ⟨_, _, [], rfl, fun _ => rfl, ReadsW.bool true, (by kernel_rfl), fun _ => ⟨List.nodup_nil, fun _ hm => (nomatch hm)⟩⟩, h1, h2, h3⟩
theorem PySem.Challenge.cw_rs0181_01_holds : PySem.Challenge.rw_rs0181_01.Holds :=
  Mine.top
