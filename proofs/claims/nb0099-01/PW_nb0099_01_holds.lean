import PyProof.Rows.All
import Wide.All
import OpenK.AllK
import Wide.FinOn
import PySem.Challenge.RW_nb0099_01
set_option Elab.async false
set_option linter.all false

noncomputable section -- NbFrame
open PySem PySem.W PyProof.Rows
set_option maxRecDepth 100000
namespace Mine

noncomputable abbrev prg : Program := PySem.Challenge.pw_nb0099_01

/-! ## the heap with some objects taken away -/
noncomputable def hide (h : Heap) (ls : List Addr) : Heap := ⟨h.objs.mapIdx fun i o => if i ∈ ls then { o with data := .freed } else o, h.life⟩

theorem hide_get (h : Heap) (ls : List Addr) (b : Addr) : (hide h ls).get? b = if b ∈ ls then none else h.get? b := by
  unfold hide Heap.get?
  simp only [Array.getElem?_mapIdx]
  cases hb : h.objs[b]? with
  | none => simp
  | some o =>
    simp only [Option.map_some]
    by_cases hm : b ∈ ls
    · simp [hm]
    · simp [hm]

theorem hide_some {h : Heap} {ls : List Addr} {b : Addr} {o : Obj} (e : (hide h ls).get? b = some o) : b ∉ ls ∧ h.get? b = some o := by
  rw [hide_get] at e
  by_cases hm : b ∈ ls
  · rw [if_pos hm] at e; cases e
  · rw [if_neg hm] at e; exact ⟨hm, e⟩
theorem hide_of {h : Heap} {ls : List Addr} {b : Addr} {o : Obj} (hm : b ∉ ls) (e : h.get? b = some o) : (hide h ls).get? b = some o := by
  rw [hide_get, if_neg hm]; exact e
theorem hide_none {h : Heap} {ls : List Addr} {b : Addr} (hm : b ∈ ls) : (hide h ls).get? b = none := by
  rw [hide_get, if_pos hm]
theorem hide_size (h : Heap) (ls : List Addr) : (hide h ls).objs.size = h.objs.size := by simp [hide]

/-- the pool of the codes made within suffixed_err: it grows by one at the first call -/
noncomputable abbrev poolA : Addr := 112
noncomputable def lsOf (outer : List Env) : List Addr := poolA :: outer.filterMap (·.frame)
noncomputable def bs (h : Heap) (outer : List Env) : Heap := hide h (lsOf outer)

theorem lsOf_cons {env : Env} {L : Addr} {outer : List Env} (hf : env.frame = some L) (b : Addr) : b ∈ lsOf (env :: outer) ↔ b = L ∨ b ∈ lsOf outer := by
  simp only [lsOf, List.filterMap_cons, hf, List.mem_cons]
  constructor
  · rintro (h | h | h) <;> simp [h]
  · rintro (h | h | h) <;> simp [h]

/-! ## what a call of the program's own does to the heap -/
structure Eff (outer : List Env) (h h' : Heap) : Prop where
  keep : (bs h outer).StaysIn h'
  up : h.UpToSlots h'

theorem Eff.get {outer : List Env} {h h' : Heap} (e : Eff outer h h') {b : Addr} {o : Obj} (hb : b ∉ lsOf outer) (ho : h.get? b = some o) : h'.get? b = some o := e.keep b o (hide_of hb ho)

theorem Eff.trans {outer : List Env} {h₁ h₂ h₃ : Heap} (x : Eff outer h₁ h₂) (y : Eff outer h₂ h₃) : Eff outer h₁ h₃ :=
  ⟨fun b o e => let ⟨hm, _⟩ := hide_some e; y.get hm (x.keep b o e), x.up.trans y.up⟩
theorem Eff.refl (outer : List Env) (h : Heap) : Eff outer h h := ⟨fun _ _ e => (hide_some e).2, .refl _⟩
theorem Eff.of_keeps {outer : List Env} {h h' : Heap} (k : ∀ b o, h.get? b = some o → h'.get? b = some o) : Eff outer h h' := ⟨fun b o e => k b o (hide_some e).2, .of_keeps k⟩

/-- the codes' pool -/
noncomputable def innerQ : Str := "suffixed_err.<locals>.coord_repr"
noncomputable def Pool (h : Heap) : Prop := ∃ ps, h.IsCode 116 poolA ps ∧ h.TableAt 116 poolA ps ∧ (ps = #[] ∨ ∃ c', ps = #[rawInt 52, rawInt 4, .ref c'] ∧ h.CodeRec (.ref c') innerQ)


theorem CodeRec.keepsF {h h' : Heap} {cd : Value} {q : Str} (x : h.CodeRec cd q) (k : ∀ b o vs, h.get? b = some o → o.data = .fields vs → h'.get? b = some o) : h'.CodeRec cd q := by
  obtain ⟨c, o, vs, t, e, ho, hd, hv⟩ := x
  exact ⟨c, o, vs, t, e, k _ _ _ ho hd, hd, hv⟩
/-- the pool stands where records stay -/
theorem Pool.keepsF {h h' : Heap} (x : Pool h) (k : ∀ b o vs, h.get? b = some o → o.data = .fields vs → h'.get? b = some o) : Pool h' := by
  obtain ⟨ps, ⟨o, vs, file, tf, flags, tg, inF, text, tt, op, h1, h2, h3, h4, h5, h6, h7, h8, h9, h10⟩, ⟨⟨o', vs', g1, g2, g3, g4⟩, g5⟩, hp⟩ := x
  refine ⟨ps, ⟨o, vs, file, tf, flags, tg, inF, text, tt, op, k _ _ _ h1 h2, h2, h3, h4, h5, h6, h7, k _ _ _ h8 h9, h9, h10⟩, ⟨⟨o', vs', k _ _ _ g1 g3, g2, g3, g4⟩, k _ _ _ g5 rfl⟩, ?_⟩
  rcases hp with hp | ⟨c', hp, hc⟩
  · exact .inl hp
  · exact .inr ⟨c', hp, CodeRec.keepsF hc k⟩
theorem Pool.keeps {h h' : Heap} (x : Pool h) (k : ∀ b o, h.get? b = some o → h'.get? b = some o) : Pool h' := x.keepsF fun b o _ e _ => k b o e
theorem Pool.sameBut {h h' : Heap} {L : Addr} {m : Str → Option Value} (x : Pool h) (hn : h.Ns L m) (hs : Heap.SameBut L h h') : Pool h' := x.keepsF fun b o vs e hd => by
  obtain ⟨oL, es, ep, hL, hdL, _⟩ := hn
  have hne : b ≠ L := fun q => by subst q; rw [hL] at e; injection e with e; subst e; rw [hdL] at hd; cases hd
  exact (hs.2 b hne).trans e

/-! ## the program's own objects -/
noncomputable def stAt (i : Nat) : Stmt := prg.main.body[i]?.getD (.Pass default)
noncomputable def nameOfS : Stmt → Str
  | .FunctionDef n .. => n
  | _ => default
noncomputable def prmOfS : Stmt → Arguments
  | .FunctionDef _ a .. => a
  | _ => default
noncomputable def bdyOfS : Stmt → List Stmt
  | .FunctionDef _ _ b .. => b
  | _ => []
noncomputable def scpOfS : Stmt → Scope
  | .FunctionDef _ _ _ _ _ _ sc .. => sc
  | _ => default

noncomputable def fnData (name q : Str) (prm : Arguments) (bdy : List Stmt) (scp : Scope) (pm cd doc : Value) : FuncData :=
  { name, qualname := q, params := prm, body := .stmts bdy, scope := scp, globals := mainGlobals, closure := [], defaults := .none, kwdefaults := .none, doc, pyModule := pm, code := cd, builtins := builtinsNs }
noncomputable def FnAt (h : Heap) (a : Addr) (q : Str) (st : Stmt) (cd : Value) : Prop :=
  ∃ o pm doc, h.get? a = some o ∧ o.data = .func (fnData (nameOfS st) q (prmOfS st) (bdyOfS st) (scpOfS st) pm cd doc) ∧ h.CodeRec cd q
theorem FnAt.mono {h h' : Heap} {a : Addr} {q : Str} {st : Stmt} {cd : Value} (x : FnAt h a q st cd) (k : h.StaysIn h') : FnAt h' a q st cd :=
  let ⟨o, pm, doc, a1, a2, a3⟩ := x; ⟨o, pm, doc, k _ _ a1, a2, a3.keeps k⟩
noncomputable def Fn1 (h : Heap) (a : Addr) (st : Stmt) : Prop := ∃ cd, FnAt h a (nameOfS st) st cd
theorem Fn1.mono {h h' : Heap} {a : Addr} {st : Stmt} (x : Fn1 h a st) (k : h.StaysIn h') : Fn1 h' a st := let ⟨cd, e⟩ := x; ⟨cd, e.mono k⟩

/-- the class of the faults: its base is ValueError -/
noncomputable def TomlCls (h : Heap) : Prop := ∃ nm q bs bm hdct sn sub ab col dd k0 k1 k2 k3 k5 newId initId mN,
  h.get? 72 = some (excClassObj nm q 72 71 bs bm hdct sn sub ab col dd k0 k1 k2 k3 k5 newId) ∧ ExcBaseFacts "ValueError" newId initId bm ∧ h.Ns 71 mN ∧ mN "__init__" = none ∧ mN "__str__" = none
theorem TomlCls.mono {h h' : Heap} (x : TomlCls h) (k : h.StaysIn h') : TomlCls h' := by
  obtain ⟨nm, q, bs, bm, hdct, sn, sub, ab, col, dd, k0, k1, k2, k3, k5, newId, initId, mN, a1, a2, a3, a4⟩ := x
  exact ⟨nm, q, bs, bm, hdct, sn, sub, ab, col, dd, k0, k1, k2, k3, k5, newId, initId, mN, k _ _ a1, a2, a3.keeps k, a4⟩
/-- the module's own builtins -/
noncomputable def BMod (h : Heap) : Prop := ∃ mg o, h.Ns mainGlobals mg ∧ mg "__builtins__" = some (.ref 4) ∧ h.get? 4 = some o ∧ o.cls = .type "module" ∧ o.dict = some builtinsNs ∧ o.data = .plain
theorem BMod.mono {h h' : Heap} (x : BMod h) (k : h.StaysIn h') : BMod h' := let ⟨mg, o, a1, a2, a3, a4⟩ := x; ⟨mg, o, a1.keeps k, a2, k _ _ a3, a4⟩

noncomputable def GN (h : Heap) (x : Str) (v : Value) : Prop := ∃ mg, h.Ns mainGlobals mg ∧ mg x = some v
noncomputable def BN (h : Heap) (x : Str) (v : Value) : Prop := ∃ mg mb, h.Ns mainGlobals mg ∧ mg x = none ∧ h.Ns builtinsNs mb ∧ mb x = some v
theorem GN.mono {h h' : Heap} {x : Str} {v : Value} (e : GN h x v) (k : h.StaysIn h') : GN h' x v := let ⟨mg, a, b⟩ := e; ⟨mg, a.keeps k, b⟩
theorem BN.mono {h h' : Heap} {x : Str} {v : Value} (e : BN h x v) (k : h.StaysIn h') : BN h' x v := let ⟨mg, mb, a, b, c, d⟩ := e; ⟨mg, mb, a.keeps k, b, c.keeps k, d⟩

theorem FrozAt.mono {K : Type} [DecidableEq K] {w : World} {knd : KeyKind prg w K} {h h' : Heap} {a : Addr} {S : K → Bool} {n : Nat} (x : FrozAt knd h a S n) (k : h.StaysIn h') : FrozAt knd h' a S n :=
  let ⟨es, ep, t, e, r⟩ := x; ⟨es, ep, t, k _ _ e, r⟩

/-- a control sign other than the tab -/
noncomputable def badC (c : Nat) : Bool := (c < 32 && c != 9) || c == 127
noncomputable def wsC (c : Nat) : Bool := c == 32 || c == 9 || c == 10
noncomputable def one (p : Nat → Bool) (x : Str) : Bool := match x.cps.toList with
  | [c] => p c
  | _ => false

noncomputable def code1 : Array Nat := #[14, 4, 0, 1, 1, 6, 1, 16, 46, 1]
noncomputable def code2 : Array Nat := #[14, 9, 4, 1, 2, 16, 10, 16, 13, 0, 7, 7, 16, 13, 16, 10, 15, 18, 5, 16, 10, 15, 13, 11, 16, 13, 5, 5, 0, 16, 10, 1, 15, 2, 0, 1]
/-- a compiled pattern -/
noncomputable def PatAt (h : Heap) (a : Addr) (code : Array Nat) : Prop := ∃ o vs a5 o5 n, h.get? a = some o ∧ (o.cls = .type "re.Pattern" ∧ o.dict = none) ∧ o.data = .fields vs ∧ vs[6]? = some (rawInt 0) ∧ vs[2]? = some (rawInt 0) ∧ vs[5]? = some (.ref a5) ∧
  h.get? a5 = some o5 ∧ o5.data = .seq (code.map fun (c : Nat) => rawInt c) n
theorem PatAt.mono {h h' : Heap} {a : Addr} {code : Array Nat} (x : PatAt h a code) (k : h.StaysIn h') : PatAt h' a code := by
  obtain ⟨o, vs, a5, o5, n, h1, h2, h3, h4, h5, h6, h7, h8⟩ := x
  exact ⟨o, vs, a5, o5, n, k _ _ h1, h2, h3, h4, h5, h6, k _ _ h7, h8⟩

/-- what the walk wants of the top -/
structure PB (w : World) (h : Heap) : Prop where
  nolim : h.NoLimit
  skip_chars : GN h "skip_chars" (.ref 82)
  skip_until : GN h "skip_until" (.ref 89)
  skip_comment : GN h "skip_comment" (.ref 96)
  skip_cws : GN h "skip_comments_and_array_ws" (.ref 103)
  parse_lit : GN h "parse_literal_str" (.ref 110)
  suffixed : GN h "suffixed_err" (.ref 117)
  quotedata : GN h "quotedata" (.ref 134)
  odd : GN h "_law_odd" (.ref 141)
  signs : GN h "_law_signs" (.ref 146)
  asked : GN h "_law_asked" (.ref 153)
  rows : GN h "_law_rows" (.ref 158)
  marks : GN h "_law_marks" (.ref 165)
  due : GN h "_law_due" (.ref 170)
  tomlerr : GN h "TOMLDecodeError" (.ref 72)
  lit_chars : GN h "ILLEGAL_LITERAL_STR_CHARS" (.ref 53)
  com_chars : GN h "ILLEGAL_COMMENT_CHARS" (.ref 53)
  wsnl : GN h "TOML_WS_AND_NEWLINE" (.ref 62)
  re1 : GN h "_twin_re_1" (.ref 122)
  re2 : GN h "_twin_re_2" (.ref 127)
  pat1 : PatAt h 122 code1
  pat2 : PatAt h 127 code2
  crlf : ∃ t, GN h "CRLF" (.str (Str.ofString "\r\n") t)
  b_len : BN h "len" (.builtin "len")
  b_sum : BN h "sum" (.builtin "sum")
  b_chr : BN h "chr" (.builtin "chr")
  b_repr : BN h "repr" (.builtin "repr")
  b_range : BN h "range" (.type "range")
  b_str : BN h "str" (.type "str")
  b_ie : BN h "IndexError" (.type "IndexError")
  b_ve : BN h "ValueError" (.type "ValueError")
  f_skip_chars : Fn1 h 82 (stAt 9)
  f_skip_until : Fn1 h 89 (stAt 10)
  f_skip_comment : Fn1 h 96 (stAt 11)
  f_skip_cws : Fn1 h 103 (stAt 12)
  f_parse_lit : Fn1 h 110 (stAt 13)
  f_suffixed : FnAt h 117 (nameOfS (stAt 14)) (stAt 14) (.ref 116)
  cls : TomlCls h
  bmod : BMod h
  f_quotedata : Fn1 h 134 (stAt 19)
  f_odd : Fn1 h 141 (stAt 21)
  f_signs : Fn1 h 146 (stAt 22)
  f_asked : Fn1 h 153 (stAt 23)
  f_rows : Fn1 h 158 (stAt 24)
  f_marks : Fn1 h 165 (stAt 25)
  f_due : Fn1 h 170 (stAt 26)
  f_law : Fn1 h 175 (stAt 27)
  bad : FrozAt (strKind prg w) h 53 (one badC) 32
  ws : FrozAt (strKind prg w) h 62 (one wsC) 3

theorem PB.mono {w : World} {h h' : Heap} (x : PB w h) (k : h.StaysIn h') : PB w h' where
  nolim := x.nolim.keeps k
  skip_chars := x.skip_chars.mono k
  skip_until := x.skip_until.mono k
  skip_comment := x.skip_comment.mono k
  skip_cws := x.skip_cws.mono k
  parse_lit := x.parse_lit.mono k
  suffixed := x.suffixed.mono k
  quotedata := x.quotedata.mono k
  odd := x.odd.mono k
  signs := x.signs.mono k
  asked := x.asked.mono k
  rows := x.rows.mono k
  marks := x.marks.mono k
  due := x.due.mono k
  tomlerr := x.tomlerr.mono k
  lit_chars := x.lit_chars.mono k
  com_chars := x.com_chars.mono k
  wsnl := x.wsnl.mono k
  re1 := x.re1.mono k
  re2 := x.re2.mono k
  pat1 := x.pat1.mono k
  pat2 := x.pat2.mono k
  crlf := let ⟨t, e⟩ := x.crlf; ⟨t, e.mono k⟩
  b_len := x.b_len.mono k
  b_sum := x.b_sum.mono k
  b_chr := x.b_chr.mono k
  b_repr := x.b_repr.mono k
  b_range := x.b_range.mono k
  b_str := x.b_str.mono k
  b_ie := x.b_ie.mono k
  b_ve := x.b_ve.mono k
  f_skip_chars := x.f_skip_chars.mono k
  f_skip_until := x.f_skip_until.mono k
  f_skip_comment := x.f_skip_comment.mono k
  f_skip_cws := x.f_skip_cws.mono k
  f_parse_lit := x.f_parse_lit.mono k
  f_suffixed := x.f_suffixed.mono k
  cls := x.cls.mono k
  bmod := x.bmod.mono k
  f_quotedata := x.f_quotedata.mono k
  f_odd := x.f_odd.mono k
  f_signs := x.f_signs.mono k
  f_asked := x.f_asked.mono k
  f_rows := x.f_rows.mono k
  f_marks := x.f_marks.mono k
  f_due := x.f_due.mono k
  f_law := x.f_law.mono k
  bad := FrozAt.mono x.bad k
  ws := FrozAt.mono x.ws k

/-! ## a place to call from, a frame -/
structure Ok (w : World) (A : Around) (n : Nat) (outer : List Env) (h : Heap) : Prop where
  fa : A.frames = some outer
  dep : A.depth ≤ 301 + n
  uni : A.units ≤ 40 + 40 * n
  ff : h.FunFrames (bs h outer) outer
  pb : PB w (bs h outer)
  pl : Pool h

structure Bd (w : World) (hs : Heap) (outer : List Env) (env : Env) (L : Addr) (h : Heap) (m : Str → Option Value) : Prop where
  fr : Fr (bs hs outer) L h m
  up : hs.UpToSlots h
  ff : h.FunFrames (bs hs outer) (env :: outer)
  pb : PB w (bs hs outer)
  pl : Pool h
  ef : env.frame = some L
  lo : ∀ b ∈ lsOf outer, b < L

section
variable {w : World} {hs h h' : Heap} {outer : List Env} {env : Env} {L : Addr} {m m' : Str → Option Value}

theorem Bd.lp (B : Bd w hs outer env L h m) : L ∉ lsOf outer := fun hm => Nat.lt_irrefl _ (B.lo _ hm)
theorem Bd.keeps (B : Bd w hs outer env L h m) (k : ∀ b o, h.get? b = some o → h'.get? b = some o) : Bd w hs outer env L h' m :=
  ⟨B.fr.after k, B.up.trans (.of_keeps k), B.ff.of_keeps fun b o e _ => ⟨o, k b o e, rfl⟩, B.pb, B.pl.keeps k, B.ef, B.lo⟩

theorem funFrames_keeps {h h' base : Heap} (k : ∀ b o, h.get? b = some o → (∀ vs, o.data ≠ .fields vs) → ∃ o', h'.get? b = some o' ∧ ∀ vs, o'.data ≠ .fields vs) {l : List Env}
    (hl : h.FunFrames base l) : h'.FunFrames base l := by
  induction l with
  | nil => trivial
  | cons env rest ih =>
    obtain ⟨hk, ⟨L, o, hf, hn, ho, hd⟩, hr⟩ := hl
    obtain ⟨o', ho', hd'⟩ := k L o ho hd
    exact ⟨hk, ⟨L, o', hf, hn, ho', hd'⟩, ih hr⟩
theorem funFrames_base {h base base' : Heap} (k : base'.StaysIn base) {l : List Env} (hl : h.FunFrames base l) : h.FunFrames base' l := by
  induction l with
  | nil => trivial
  | cons env rest ih =>
    obtain ⟨hk, ⟨L, o, hf, hn, ho, hd⟩, hr⟩ := hl
    refine ⟨hk, ⟨L, o, hf, ?_, ho, hd⟩, ih hr⟩
    cases hq : base'.get? L with
    | none => rfl
    | some o' => rw [k _ _ hq] at hn; cases hn

theorem Bd.new (B : Bd w hs outer env L h m) : (bs hs outer).get? L = none := by
  cases hq : (bs hs outer).get? L with
  | none => rfl
  | some o => exact absurd (Heap.lt_size hq) (Nat.not_lt.mpr B.fr.above)
theorem Bd.newS (B : Bd w hs outer env L h m) : hs.get? L = none := by
  cases hq : hs.get? L with
  | none => rfl
  | some o => have := hide_of B.lp hq; rw [show (hide hs (lsOf outer)).get? L = none from B.new] at this; cases this

theorem Bd.set (B : Bd w hs outer env L h m) (hn : h'.Ns L m') (hs' : Heap.SameBut L h h') : Bd w hs outer env L h' m' := by
  have hnL := B.fr.ns
  have hL := B.newS
  refine ⟨B.fr.set hn hs', fun b o e hnf => ?_, funFrames_keeps (fun b o e hnf => ?_) B.ff, B.pb, B.pl.sameBut hnL hs', B.ef, B.lo⟩
  · obtain ⟨sl, e'⟩ := B.up b o e hnf
    have hne : b ≠ L := fun q => by rw [q, hL] at e; cases e
    exact ⟨sl, (hs'.2 b hne).trans e'⟩
  · by_cases q : b = L
    · subst q
      obtain ⟨oL, es, ep, hoL, hdL, _⟩ := hn
      exact ⟨oL, hoL, fun vs q => by rw [hdL] at q; cases q⟩
    · exact ⟨o, (hs'.2 b q).trans e, hnf⟩

theorem Bd.base (B : Bd w hs outer env L h m) : (bs hs outer).StaysIn (bs h (env :: outer)) := fun b o e => by
  have hx := hide_some e
  refine hide_of (fun hm => ?_) (B.fr.keep b o e)
  rcases (lsOf_cons B.ef b).mp hm with q | q
  · subst q; rw [B.new] at e; cases e
  · exact hx.1 q

theorem Bd.ok {A : Around} {n : Nat} (B : Bd w hs outer env L h m) (fa : A.frames = some outer) (dep : A.depth ≤ 301 + n) (uni : A.units ≤ 40 + 40 * n) : Ok w (A.deeper env) (n + 1) (env :: outer) h where
  fa := Around.frames_deeper fa
  dep := by show A.depth + 1 ≤ _; omega
  uni := by show A.units + 3 ≤ _; omega
  ff := by
    have := B.ff
    have key : ∀ l : List Env, h.FunFrames (bs hs outer) l → (∀ b ∈ l.filterMap (·.frame), b ∈ lsOf (env :: outer)) → h.FunFrames (bs h (env :: outer)) l := by
      intro l
      induction l with
      | nil => intro _ _; trivial
      | cons e r ih =>
        rintro ⟨hk, ⟨L', o, hf, hn, ho, hd⟩, hr⟩ hm
        refine ⟨hk, ⟨L', o, hf, hide_none (hm L' (by simp [List.filterMap_cons, hf])), ho, hd⟩, ih hr fun b hb => hm b ?_⟩
        rw [List.filterMap_cons, hf]; exact List.mem_cons_of_mem _ hb
    exact key _ B.ff fun b hb => List.mem_cons_of_mem _ hb
  pb := B.pb.mono B.base
  pl := B.pl

theorem Bd.after (B : Bd w hs outer env L h m) (e : Eff (env :: outer) h h') (pl : Pool h') : Bd w hs outer env L h' m := by
  have keep : (bs hs outer).StaysIn h' := fun b o q => e.keep b o (B.base b o q)
  exact ⟨⟨e.up.ns B.fr.ns, keep, B.fr.above⟩, B.up.trans e.up, funFrames_keeps (fun b o q hnf => let ⟨sl, q'⟩ := e.up b o q hnf; ⟨_, q', hnf⟩) B.ff, B.pb, pl, B.ef, B.lo⟩

theorem Bd.eff (B : Bd w hs outer env L h m) : Eff outer hs h := ⟨B.fr.keep, B.up⟩
end

section
variable {w : World} {A : Around} {n : Nat} {outer : List Env} {s : Shared} {Q : Value → Shared → Prop} {E : Value → Shared → Prop}

/-- the environment of a called def -/
noncomputable abbrev envAt (st : Stmt) (L a : Addr) (cd : Value) (q : Str := nameOfS st) : Env := envOf q (scpOfS st) L a cd

theorem call_fnC {q : Str} {cd : Value} {st : Stmt} {a : Addr} {pos : List Value} {kw : List (Str × Value)} {binds : List (Str × Value)} (ok : Ok w A n outer s.heap) (hn : n ≤ 20)
    (hfn : FnAt (bs s.heap outer) a q st cd)
    (hbind : ∀ pm cd doc, bindArgs (fnData (nameOfS st) q (prmOfS st) (bdyOfS st) (scpOfS st) pm cd doc) ⟨pos, kw⟩ = pure binds)
    (hloc : (binds.all fun x => decide ((scpOfS st).names.lookup x.1 = some .local)) = true)
    (h : ∀ h₁, Bd w s.heap outer (envAt st s.heap.objs.size a cd q) s.heap.objs.size h₁ (fun x => binds.reverse.lookup x) →
      wpAny (model prg w) (A.deeper (envAt st s.heap.objs.size a cd q)) (execs (bdyOfS st) (envAt st s.heap.objs.size a cd q))
        (fun f s' => Q (match f with | .ret v => v | _ => .none) s')
        (fun e s' => wpAny (model prg w) (A.deeper (envAt st s.heap.objs.size a cd q)) (leaving (envAt st s.heap.objs.size a cd q) e) (fun _ s'' => E e s'') (fun e' s'' => E e' s'') s')
        { s with heap := h₁, toks := s.toks + binds.length })
    (hco : (scpOfS st).isCoroutine = false := by rfl) (hgen : (scpOfS st).isGenerator = false := by rfl) (hk : (scpOfS st).kind = .function := by rfl)
    (hcell : ∀ x ∈ (scpOfS st).names, x.2 ≠ .cell := by decide) :
    wpAny (model prg w) A (call (.ref a) pos kw) Q E s := by
  obtain ⟨o, pm, doc, ho, hd, hcd⟩ := hfn
  have keep : ∀ b o, (bs s.heap outer).get? b = some o → s.heap.get? b = some o := fun b o e => (hide_some e).2
  refine wpAny_call (codeAny_call_function (by have := ok.dep; show A.depth < 1000; omega) (keep _ _ ho) hd hco hgen rfl (hcd.keeps keep) ?_)
  rw [hbind]
  refine wpAny_pure (wpAny_newFunctionEnv hcell (locs hloc) (fun h₁ hns hsb => ⟨(ok.pb.nolim.keeps keep).fresh _ hsb, ?_⟩) hk)
  show codeAny _ _ (.func (bdyOfS st) (envAt st s.heap.objs.size a cd q)) _ _
  have old : ∀ b o, s.heap.get? b = some o → h₁.get? b = some o := fun b o e => hsb.extBut b o (Nat.ne_of_lt (Heap.lt_size e)) (Heap.get?_push_of_some _ e)
  have hL : (bs s.heap outer).get? s.heap.objs.size = none := by
    cases hq : (bs s.heap outer).get? s.heap.objs.size with
    | none => rfl
    | some o => exact absurd (Heap.lt_size (keep _ _ hq)) (Nat.lt_irrefl _)
  have ff' : h₁.FunFrames (bs s.heap outer) outer := funFrames_keeps (fun b o e hnf => ⟨o, old b o e, hnf⟩) ok.ff
  have B : Bd w s.heap outer (envAt st s.heap.objs.size a cd q) s.heap.objs.size h₁ (fun x => binds.reverse.lookup x) :=
    { fr := ⟨hns, fun b o e => old b o (keep b o e), by rw [show (bs s.heap outer).objs.size = s.heap.objs.size from hide_size ..]; exact Nat.le_refl _⟩
      up := .of_keeps old
      ff := Heap.FunFrames.cons (by show (scpOfS st).kind ≠ _; rw [hk]; intro q; cases q) rfl hns hL ff'
      pb := ok.pb
      pl := ok.pl.keeps old
      ef := rfl
      lo := fun b hm => by
        rcases List.mem_cons.mp hm with q | q
        · obtain ⟨ps, ⟨_, _, _, _, _, _, _, _, _, op, _, _, _, _, _, _, _, h8, _⟩, _⟩ := ok.pl
          rw [q]; exact Heap.lt_size h8
        · obtain ⟨_, o, e, _⟩ := ok.ff.mem q
          exact Heap.lt_size e }
  exact codeAny_func (h h₁ B)

theorem call_fn {st : Stmt} {a : Addr} {pos : List Value} {kw : List (Str × Value)} {binds : List (Str × Value)} (ok : Ok w A n outer s.heap) (hn : n ≤ 20)
    (hfn : Fn1 (bs s.heap outer) a st)
    (hbind : ∀ pm cd doc, bindArgs (fnData (nameOfS st) (nameOfS st) (prmOfS st) (bdyOfS st) (scpOfS st) pm cd doc) ⟨pos, kw⟩ = pure binds)
    (hloc : (binds.all fun x => decide ((scpOfS st).names.lookup x.1 = some .local)) = true)
    (h : ∀ h₁ cd, Bd w s.heap outer (envAt st s.heap.objs.size a cd) s.heap.objs.size h₁ (fun x => binds.reverse.lookup x) →
      wpAny (model prg w) (A.deeper (envAt st s.heap.objs.size a cd)) (execs (bdyOfS st) (envAt st s.heap.objs.size a cd))
        (fun f s' => Q (match f with | .ret v => v | _ => .none) s')
        (fun e s' => wpAny (model prg w) (A.deeper (envAt st s.heap.objs.size a cd)) (leaving (envAt st s.heap.objs.size a cd) e) (fun _ s'' => E e s'') (fun e' s'' => E e' s'') s')
        { s with heap := h₁, toks := s.toks + binds.length })
    (hco : (scpOfS st).isCoroutine = false := by rfl) (hgen : (scpOfS st).isGenerator = false := by rfl) (hk : (scpOfS st).kind = .function := by rfl)
    (hcell : ∀ x ∈ (scpOfS st).names, x.2 ≠ .cell := by decide) :
    wpAny (model prg w) A (call (.ref a) pos kw) Q E s :=
  let ⟨cd, hf⟩ := hfn
  call_fnC ok hn hf hbind hloc (fun h₁ B => h h₁ cd B) hco hgen hk hcell
end
end Mine
end

noncomputable section -- NbExc
open PySem PySem.W PyProof.Rows
set_option maxRecDepth 100000
namespace Mine

noncomputable def frs (l : List Env) : List Addr := l.filterMap (·.frame)
/-- all stays but the frames, which stay up to their slots -/
structure EffF (l : List Env) (h h' : Heap) : Prop where
  keep : (hide h (frs l)).StaysIn h'
  up : h.UpToSlots h'

theorem ff_hide {h base : Heap} {l : List Env} (ff : h.FunFrames base l) : ∀ l', (∀ b ∈ frs l, b ∈ frs l') → h.FunFrames (hide h (frs l')) l := by
  induction l with
  | nil => intro _ _; trivial
  | cons e r ih =>
    intro l' hm
    obtain ⟨hk, ⟨L', o, hf, hn, ho, hd⟩, hr⟩ := ff
    refine ⟨hk, ⟨L', o, hf, hide_none (hm L' (by simp [frs, hf])), ho, hd⟩, ih hr l' fun b hb => hm b ?_⟩
    unfold frs at hb ⊢
    rw [List.filterMap_cons, hf]; exact List.mem_cons_of_mem _ hb

theorem ff_rec {h base : Heap} {l : List Env} (ff : h.FunFrames base l) {b : Addr} {o : Obj} {vs : Array Value} (ho : h.get? b = some o) (hd : o.data = .fields vs) : b ∉ frs l := fun hm => by
  obtain ⟨_, o', ho', hnf⟩ := ff.mem hm
  rw [ho] at ho'; injection ho' with q; subst q; exact hnf _ hd
theorem EffF.rec_ {l : List Env} {h h' base : Heap} (e : EffF l h h') (ff : h.FunFrames base l) {b : Addr} {o : Obj} {vs : Array Value} (ho : h.get? b = some o) (hd : o.data = .fields vs) : h'.get? b = some o :=
  e.keep b o (hide_of (ff_rec ff ho hd) ho)
theorem EffF.trans {l : List Env} {h₁ h₂ h₃ : Heap} (x : EffF l h₁ h₂) (y : EffF l h₂ h₃) : EffF l h₁ h₃ :=
  ⟨fun b o e => let ⟨hm, _⟩ := hide_some e; y.keep b o (hide_of hm (x.keep b o e)), x.up.trans y.up⟩
theorem EffF.of_keeps {l : List Env} {h h' : Heap} (k : ∀ b o, h.get? b = some o → h'.get? b = some o) : EffF l h h' := ⟨fun b o e => k b o (hide_some e).2, .of_keeps k⟩

theorem Bd.afterF {w : World} {hs h h' : Heap} {outer : List Env} {env : Env} {L : Addr} {m : Str → Option Value} (B : Bd w hs outer env L h m) (e : EffF (env :: outer) h h') : Bd w hs outer env L h' m := by
  have keep : (bs hs outer).StaysIn h' := fun b o q => by
    refine e.keep b o (hide_of (fun hm => ?_) (B.fr.keep b o q))
    unfold frs at hm
    rw [List.filterMap_cons, B.ef] at hm
    rcases List.mem_cons.mp hm with r | r
    · rw [r, B.new] at q; cases q
    · exact (hide_some q).1 (List.mem_cons_of_mem _ r)
  exact ⟨⟨e.up.ns B.fr.ns, keep, B.fr.above⟩, B.up.trans e.up, funFrames_keeps (fun b o q hnf => let ⟨sl, q'⟩ := e.up b o q hnf; ⟨_, q', hnf⟩) B.ff, B.pb,
    B.pl.keepsF fun b o vs q hd => e.rec_ B.ff q hd, B.ef, B.lo⟩

/-- an exception e stands at the raise's heap hr, not yet noted -/
structure Raw (h hr : Heap) (e : Addr) (oe : Obj) (vs : Array Value) : Prop where
  keeps : ∀ b o, h.get? b = some o → hr.get? b = some o
  new : h.get? e = none
  at_ : hr.get? e = some oe
  dat : oe.data = .fields vs
  tb : vs[1]? = some .none

theorem Raw.of_new {h hr : Heap} {e : Addr} {X : String} (x : Heap.NewExc h hr e X) : ∃ oe t, oe.cls = .type X ∧ Raw h hr e oe #[t, .none, .none, .none, .bool false, .none] := by
  obtain ⟨ob, t, h1, h2, h3⟩ := x.there
  exact ⟨ob, t, h2, x.keeps, x.new, h1, h3, rfl⟩

/-- it is noted: its traceback is T, whose flight is fl -/
structure Fl (l : List Env) (hr h₁ : Heap) (e T : Addr) (oe : Obj) (vs : Array Value) (fl : Value) : Prop where
  keep : ∀ b o, b ≠ e → b ∉ frs l → hr.get? b = some o → h₁.get? b = some o
  slot : ∀ b o, b ∈ frs l → hr.get? b = some o → ∃ sl, h₁.get? b = some { o with slots := sl }
  ex : h₁.get? e = some (oe.mapFields (·.setIfInBounds 1 (.ref T)))
  hT : ∃ oT ts, h₁.get? T = some oT ∧ oT.data = .fields ts ∧ ts[3]? = some fl
  newT : hr.get? T = none

section
variable {l : List Env} {h hr h₁ : Heap} {e T : Addr} {oe : Obj} {vs : Array Value} {fl : Value}
theorem Fl.eff (x : Fl l hr h₁ e T oe vs fl) (r : Raw h hr e oe vs) : EffF l h h₁ := by
  have hne : ∀ b o, h.get? b = some o → b ≠ e := fun b o q s => by rw [s, r.new] at q; cases q
  refine ⟨fun b o q => ?_, fun b o q _ => ?_⟩
  · obtain ⟨hm, q⟩ := hide_some q
    exact x.keep b o (hne b o q) hm (r.keeps b o q)
  · by_cases hm : b ∈ frs l
    · exact x.slot b o hm (r.keeps b o q)
    · exact ⟨o.slots, x.keep b o (hne b o q) hm (r.keeps b o q)⟩
theorem Fl.dat (_ : Fl l hr h₁ e T oe vs fl) (r : Raw h hr e oe vs) : (oe.mapFields (·.setIfInBounds 1 (.ref T))).data = .fields (vs.setIfInBounds 1 (.ref T)) := Obj.data_mapFields r.dat _
theorem Fl.one (_ : Fl l hr h₁ e T oe vs fl) (r : Raw h hr e oe vs) : (vs.setIfInBounds 1 (.ref T))[1]? = some (.ref T) := by
  have := (Array.getElem?_eq_some_iff.mp r.tb).1
  simp [this]
theorem Fl.ne (x : Fl l hr h₁ e T oe vs fl) (r : Raw h hr e oe vs) : T ≠ e := fun q => by
  have := x.newT; rw [q, r.at_] at this; cases this
theorem Fl.ff (x : Fl l hr h₁ e T oe vs fl) (r : Raw h hr e oe vs) {base : Heap} (ff : h.FunFrames base l) : h₁.FunFrames base l :=
  funFrames_keeps (fun b o q hn => let ⟨sl, q'⟩ := (x.eff r).up b o q hn; ⟨_, q', hn⟩) ff
/-- as the library tells it -/
theorem Fl.flying (x : Fl l hr h₁ e T oe vs .none) (r : Raw h hr e oe vs) {b : Heap} (hb : b.StaysIn h) (ff : h.FunFrames b l) {a0 : Value} (h0 : vs[0]? = some a0) : Heap.FlyingW b l e oe.cls a0 h₁ := by
  have hbe : b.get? e = none := by
    cases hq : b.get? e with
    | none => rfl
    | some o => have := hb _ _ hq; rw [r.new] at this; cases this
  have hbT : b.get? T = none := by
    cases hq : b.get? T with
    | none => rfl
    | some o => have := r.keeps _ _ (hb _ _ hq); rw [x.newT] at this; cases this
  obtain ⟨oT, ts, g1, g2, g3⟩ := x.hT
  refine ⟨fun a o q => (x.eff r).keep a o (hide_of (fun hm => ?_) (hb a o q)), hbe, x.ff r ff,
    _, _, T, oT, ts, x.ex, ⟨Obj.cls_mapFields _ _, by rw [Array.getElem?_setIfInBounds_ne (by decide)]; exact h0⟩, x.dat r, x.one r, hbT, x.ne r, g1, g2, g3⟩
  have := (ff.mem hm).1
  rw [q] at this; cases this
end

section
variable {M : Model} {A : Around} {E : Value → Shared → Prop} {s : Shared} {env : Env} {outer : List Env} {L : Addr} {h hr : Heap} {e T : Addr} {oe : Obj} {vs : Array Value} {fl : Value} {Q : Unit → Shared → Prop}

theorem note0 {base : Heap} (fa : A.frames = some (env :: outer)) (ff : h.FunFrames base (env :: outer)) (ef : env.frame = some L) (r : Raw h s.heap e oe vs)
    (hQ : ∀ h' T, Fl (env :: outer) s.heap h' e T oe vs (rawInt L) → Q () { s with heap := h' }) : wpAny M A (noteFrame (.ref e) env) Q E s := by
  have ff' : s.heap.FunFrames base (env :: outer) := funFrames_keeps (fun b o q hn => ⟨o, r.keeps b o q, hn⟩) ff
  have hsz : 1 < vs.size := (Array.getElem?_eq_some_iff.mp r.tb).1
  have hef : e ∉ frs (env :: outer) := ff_rec ff' r.at_ r.dat
  unfold noteFrame
  simp only [ef]
  refine wpAny_bind (wpAny_field r.at_ r.dat r.tb ?_)
  rw [if_neg (by decide)]
  refine wpAny_bind (wpAny_frameOf_fun fa ff' ef fun h₁ hs₁ => ?_)
  refine wpAny_bind (wpAny_entryPlaceOf fun pl hpl => ?_)
  unfold EntryCells.newEntry newFields
  refine wpAny_bind (wpAny_newObj_type ?_ (hpl.sizeOk5 _ _ _ _ _))
  have he₁ : h₁.get? e = some oe := (hs₁.2.1 e hef).trans r.at_
  refine wpAny_setField (Heap.get?_push_of_some _ he₁) r.dat hsz (hQ _ h₁.objs.size ?_)
  have hTe : h₁.objs.size ≠ e := Nat.ne_of_gt (Heap.lt_size he₁)
  have hd₃ := Obj.data_mapFields r.dat (·.setIfInBounds 1 (Value.ref h₁.objs.size))
  constructor
  · intro b o hbe hbf q
    rw [Heap.get?_update_other _ _ (Ne.symm hbe)]
    exact Heap.get?_push_of_some _ ((hs₁.2.1 b hbf).trans q)
  · intro b o hbf q
    obtain ⟨sl, q'⟩ := hs₁.2.2 b o q
    have hne : e ≠ b := fun z => by subst z; exact hef hbf
    exact ⟨sl, by rw [Heap.get?_update_other _ _ hne]; exact Heap.get?_push_of_some _ q'⟩
  · exact Heap.get?_update_self _ (Heap.get?_push_of_some _ he₁) (Obj.isFreed_of_fields hd₃)
  · refine ⟨_, _, (Heap.get?_update_other _ _ (Ne.symm hTe)).trans (Heap.get?_push_size h₁ rfl), rfl, ?_⟩
    first | (simp; done) | (rcases hpl with rfl | ⟨_, _, _, _, _, _, _, rfl⟩ <;> simp)
  · exact Heap.get?_none_of_le (by rw [hs₁.1]; exact Nat.le_refl _)

theorem note1 (ef : env.frame = some L) (r : Raw h hr e oe vs) (x : Fl (env :: outer) hr s.heap e T oe vs (rawInt L)) (hQ : Q () s) : wpAny M A (noteFrame (.ref e) env) Q E s := by
  obtain ⟨oT, ts, g1, g2, g3⟩ := x.hT
  unfold noteFrame
  simp only [ef]
  refine wpAny_bind (wpAny_field x.ex (x.dat r) (x.one r) ?_)
  rw [if_pos (show (Value.ref T != Value.none) = true from by simp)]
  refine wpAny_bind (wpAny_field g1 g2 g3 ?_)
  rw [if_pos (show (rawInt L == rawInt L) = true from by simp)]
  exact wpAny_pure hQ

theorem flight0 {l : List Env} {f : Option Addr} {base : Heap} (ff : h.FunFrames base l) (r : Raw h hr e oe vs) (x : Fl l hr s.heap e T oe vs fl)
    (hQ : ∀ h', Fl l hr h' e T oe vs (f.elim Value.none fun f => rawInt f) → Q () { s with heap := h' }) : wpAny M A (setFlight (.ref e) f) Q E s := by
  obtain ⟨oT, ts, g1, g2, g3⟩ := x.hT
  have hsz3 : 3 < ts.size := (Array.getElem?_eq_some_iff.mp g3).1
  have other : ∀ b, b ≠ T → (s.heap.update T (Obj.mapFields (·.setIfInBounds 3 (f.elim Value.none fun f => rawInt f)))).get? b = s.heap.get? b :=
    fun b hb => Heap.get?_update_other _ _ (Ne.symm hb)
  have hne : ∀ b o, hr.get? b = some o → b ≠ T := fun b o q z => by rw [z, x.newT] at q; cases q
  unfold setFlight
  refine wpAny_bind (wpAny_field x.ex (x.dat r) (x.one r) ?_)
  rw [if_pos (show (Value.ref T != Value.none) = true from by simp)]
  refine wpAny_setField g1 g2 hsz3 (hQ _ ?_)
  constructor
  · intro b o h1 h2 q
    exact (other b (hne b o q)).trans (x.keep b o h1 h2 q)
  · intro b o h1 q
    obtain ⟨sl, q'⟩ := x.slot b o h1 q
    exact ⟨sl, (other b (hne b o q)).trans q'⟩
  · exact (other e (Ne.symm (x.ne r))).trans x.ex
  · exact ⟨_, _, Heap.get?_update_self _ g1 (Obj.isFreed_of_fields (Obj.data_mapFields g2 _)), Obj.data_mapFields g2 _, by simp [hsz3]⟩
  · exact x.newT

theorem came0 {base : Heap} (ff : h.FunFrames base (env :: outer)) (ef : env.frame = some L) (r : Raw h hr e oe vs) (x : Fl (env :: outer) hr s.heap e T oe vs fl)
    (hQ : ∀ h', Fl (env :: outer) hr h' e T oe vs (rawInt L) → E (.ref e) { s with heap := h' }) : cameBackBy M A env E (.ref e) s := by
  unfold cameBackBy
  refine wpAny_bind (wpAny_field x.ex (x.dat r) (x.one r) ?_)
  rw [if_neg (show ¬ ((Value.ref T == Value.none) = true) from by simp)]
  rw [ef]
  first
    | exact flight0 ff r x hQ
    | exact wpAny_bind (wpAny_pure (flight0 ff r x hQ))
end

section
variable {w : World} {A : Around} {E : Value → Shared → Prop} {s : Shared} {env : Env} {outer : List Env} {L : Addr}

/-- try with one clause of a built-in class and no name; the raise comes held (from a loop's code) or fresh (from the suite itself) -/
theorem try1 {body suite : List Stmt} {b₀ : Stmt} {tx : Str} {tp hpos pos : Pos} {T : String} {Q : Flow → Shared → Prop}
    (fa : A.frames = some (env :: outer)) (ef : env.frame = some L)
    (hexc : isSubtype (.type T) (.type "BaseException") = pure true) (hnt : isSubtype (.type ((Manifest.find? T).elim "type" fun x => x.metatype)) (.type "tuple") = pure false)
    (hself : isSubtype (.type T) (.type T) = pure true)
    (h : wpAny (model prg w) A (execs body env) (fun f s₁ => Q f s₁)
      (fun x s₁ => ∃ e oe vs hp hr base, x = .ref e ∧ oe.cls = .type T ∧ hp.FunFrames base (env :: outer) ∧ Raw hp hr e oe vs ∧ (hr = s₁.heap ∨ ∃ Tb, Fl (env :: outer) hr s₁.heap e Tb oe vs (rawInt L)) ∧
        ∀ h' Tb, Fl (env :: outer) hr h' e Tb oe vs .none →
          wpAny (model prg w) (A.mark (some (.ref e))) (eval (.Name tx tp) env) (fun c s₂ => c = .type T ∧ s₂ = { s₁ with heap := h' } ∧
            ∀ h'', Fl (env :: outer) hr h'' e Tb oe vs .none → wpAny (model prg w) (A.mark (some (.ref e))) (execs (b₀ :: suite) env) Q
              (notedBy (model prg w) (A.mark (some (.ref e))) env (cameBackBy (model prg w) A env E)) { s₁ with heap := h'' }) (fun _ _ => False) { s₁ with heap := h' }) s) :
    wpAny (model prg w) A (exec (.Try body [.ExceptHandler (some (.Name tx tp)) none (b₀ :: suite) hpos] [] [] pos) env) Q E s := by
  refine wpAny_Try_except (wpAny_mono h (fun f s₁ q => ?_) fun x s₁ q => ?_)
  · cases f <;> first | exact wpAny_execs_nil q | exact q
  · obtain ⟨e, oe, vs, hp, hr, base, rfl, hcls, ff, r, hx, hk⟩ := q
    have go : ∀ h₁ Tb, Fl (env :: outer) hr h₁ e Tb oe vs (rawInt L) → wpAny (model prg w) A (setFlight (.ref e) none) (fun _ s₃ => wpAny (model prg w) A (handleBy (.ref e) env [.ExceptHandler (some (.Name tx tp)) none (b₀ :: suite) hpos]) Q E s₃) E { s₁ with heap := h₁ } := by
      intro h₁ Tb hh
      refine flight0 (s := { s₁ with heap := h₁ }) ff r hh fun h₂ hf => ?_
      refine wpAny_handleBy_builtin (X := T) (b := true) hexc hnt hself ?_
      refine wpAny_mono (hk h₂ Tb hf) (fun c s₂ hc => ?_) fun _ _ f => f.elim
      obtain ⟨rfl, rfl, hk2⟩ := hc
      refine ⟨rfl, ⟨_, hf.ex, by rw [Obj.cls_mapFields, hcls]⟩, ?_⟩
      simp only [if_true]
      exact flight0 (s := { s₁ with heap := h₂ }) ff r hf fun h₃ hf₃ => hk2 h₃ hf₃
    rcases hx with hx | ⟨Tb, hx⟩
    · subst hx
      exact note0 fa ff ef r fun h' Tb hh => go h' Tb hh
    · exact note1 ef r hx (go s₁.heap Tb hx)
end
end Mine
end

noncomputable section -- NbSkip
open PySem PySem.W PyProof.Rows
set_option maxRecDepth 100000
namespace Mine

section
variable {w : World} {A : Around} {E : Value → Shared → Prop} {s : Shared} {hs : Heap} {outer : List Env} {env' : Env} {L : Addr} {m : Str → Option Value} {st : Stmt} {a : Addr} {cd : Value} {q : Str} {Q : Value → Shared → Prop}

theorem gname {x : Str} {pos : Pos} {v : Value} (B : Bd w hs outer env' L s.heap m) (g : GN (bs hs outer) x v) (h : Q v s)
    (hk : (scpOfS st).kind = .function := by rfl) (hx : (envAt st L a cd q).kindOf x = some .globalImplicit := by rfl)
    (hd : (x == ("__debug__" : Str)) = false := by decide) : wpAny (model prg w) A (eval (.Name x pos) (envAt st L a cd q)) Q E s := by
  obtain ⟨mg, g1, g2⟩ := g
  exact Calls.Name_function_global hk hx (Calls.loadGlobal_global (env := envAt st L a cd q) (g1.keeps B.fr.keep) g2 h) hd

theorem bname {x : Str} {pos : Pos} {v : Value} (B : Bd w hs outer env' L s.heap m) (g : BN (bs hs outer) x v) (h : Q v s)
    (hk : (scpOfS st).kind = .function := by rfl) (hx : (envAt st L a cd q).kindOf x = some .globalImplicit := by rfl)
    (hd : (x == ("__debug__" : Str)) = false := by decide) : wpAny (model prg w) A (eval (.Name x pos) (envAt st L a cd q)) Q E s := by
  obtain ⟨mg, mb, g1, g2, g3, g4⟩ := g
  exact Calls.Name_function_global hk hx (Calls.loadGlobal_builtin (env := envAt st L a cd q) (g1.keeps B.fr.keep) g2 (g3.keeps B.fr.keep) g4 h) hd

theorem stBs {x : Str} {v : Value} {Q : Unit → Shared → Prop} (B : Bd w hs outer env' L s.heap m)
    (h : ∀ h', Bd w hs outer env' L h' (fun y => if y = x then some v else m y) → Heap.SameBut L s.heap h' → Q () { s with heap := h', toks := s.toks + 1 })
    (hk : (scpOfS st).kind = .function := by rfl) (hl : (envAt st L a cd q).kindOf x = some .local := by rfl) :
    wpAny (model prg w) A (storeName (envAt st L a cd q) x v) Q E s :=
  wpAny_storeName_local hl B.fr.ns (fun h' hn hs => h h' (B.set hn hs) hs)
    (by show ((scpOfS st).kind == .class || ((scpOfS st).kind == .module && L != mainGlobals)) = false; rw [hk]; rfl)
/-- store a local name -/
theorem stB {x : Str} {v : Value} {Q : Unit → Shared → Prop} (B : Bd w hs outer env' L s.heap m)
    (h : ∀ h', Bd w hs outer env' L h' (fun y => if y = x then some v else m y) → Q () { s with heap := h', toks := s.toks + 1 })
    (hk : (scpOfS st).kind = .function := by rfl) (hl : (envAt st L a cd q).kindOf x = some .local := by rfl) :
    wpAny (model prg w) A (storeName (envAt st L a cd q) x v) Q E s :=
  wpAny_storeName_local hl B.fr.ns (fun h' hn hs => h h' (B.set hn hs))
    (by show ((scpOfS st).kind == .class || ((scpOfS st).kind == .module && L != mainGlobals)) = false; rw [hk]; rfl)
end

noncomputable def skipFrom (p : Nat → Bool) (l : List Nat) (pos : Nat) : Nat := pos + ((l.drop pos).takeWhile p).length

section
variable {w : World} {A : Around} {n : Nat} {outer : List Env} {s : Shared} {Q : Value → Shared → Prop} {E : Value → Shared → Prop}

theorem skip_step {p : Nat → Bool} {l : List Nat} {k c : Nat} (hc : l[k]? = some c) (hp : p c = true) : skipFrom p l (k + 1) = skipFrom p l k := by
  unfold skipFrom
  have hk : k < l.length := (List.getElem?_eq_some_iff.mp hc).1
  have hd : l.drop k = c :: l.drop (k + 1) := by
    rw [List.drop_eq_getElem_cons hk]; congr 1; exact (List.getElem?_eq_some_iff.mp hc).2
  rw [hd, List.takeWhile_cons, hp]; simp only [if_true, List.length_cons]; omega
theorem skip_stop {p : Nat → Bool} {l : List Nat} {k c : Nat} (hc : l[k]? = some c) (hp : p c = false) : skipFrom p l k = k := by
  unfold skipFrom
  have hk : k < l.length := (List.getElem?_eq_some_iff.mp hc).1
  have hd : l.drop k = c :: l.drop (k + 1) := by
    rw [List.drop_eq_getElem_cons hk]; congr 1; exact (List.getElem?_eq_some_iff.mp hc).2
  rw [hd, List.takeWhile_cons, hp]; simp
theorem skip_end {p : Nat → Bool} {l : List Nat} {k : Nat} (hk : l.length ≤ k) : skipFrom p l k = k := by
  unfold skipFrom
  rw [List.drop_eq_nil_of_le hk]; simp

theorem item_nat {x : Str} {k : Nat} (hk : k < x.length) : Txt.item x (k : Int) = ⟨#[x.cps.toList.getD k 0]⟩ ∧ x.cps.toList[k]? = some (x.cps.toList.getD k 0) := by
  have hk' : k < x.cps.toList.length := by rw [Array.length_toList]; exact hk
  have e : x.cps.toList[k]? = some (x.cps.toList.getD k 0) := by
    rw [List.getD_eq_getElem?_getD, List.getElem?_eq_getElem hk']; rfl
  refine ⟨?_, e⟩
  unfold Txt.item Txt.charAt
  have hs : seqIndex? (k : Int) x.length = some k := by
    unfold seqIndex?
    have : ¬ ((k : Int) < 0) := by omega
    simp only [this, if_false]
    rw [if_pos (by simp only [Bool.and_eq_true, decide_eq_true_eq]; omega)]
    simp
  rw [hs]
  show Str.mk #[(x.cps[k]?).getD 0] = _
  rw [← Array.getElem?_toList, e]; rfl

theorem one_item {p : Nat → Bool} (c : Nat) : one p ⟨#[c]⟩ = p c := rfl

theorem isStr_self (w : World) (x : Str) (t : Tok) : (PySem.strKind prg w).is x (.str x t) = true := by
  show Value.isStrOf x (.str x t) = true
  simp [Value.isStrOf]
theorem sub_ie_be : isSubtype (.type "IndexError") (.type "BaseException") = pure true := by rw [isSubtype_type]; kernel_rfl
theorem sub_ie_self : isSubtype (.type "IndexError") (.type "IndexError") = pure true := by rw [isSubtype_type]; kernel_rfl
theorem ie_notuple : isSubtype (.type ((Manifest.find? "IndexError").elim "type" fun x => x.metatype)) (.type "tuple") = pure false := by rw [isSubtype_type]; kernel_rfl

theorem fits_small {i : Int} (h0 : 0 ≤ i) (h1 : i ≤ 1000000) : fitsSsize i = true := by
  unfold fitsSsize
  simp only [Bool.not_eq_true', Bool.or_eq_false_iff, decide_eq_false_iff_not]
  constructor <;> omega

theorem skip_chars_spec (ok : Ok w A n outer s.heap) (hn : n ≤ 18) (hh : A.handled = none) (src : Str) (hsz : src.length ≤ 1000) (pos : Nat) (hp : pos ≤ 2000) {t1 t2 : Tok}
    (hQ : ∀ h' tk' t, Eff outer s.heap h' → Pool h' → Q (.int (skipFrom wsC src.cps.toList pos : Nat) t) { s with heap := h', toks := tk' }) :
    wpAny (model prg w) A (call (.ref 82) [.str src t1, .int pos t2, .ref 62]) Q E s := by
  refine call_fn (binds := [("src", .str src t1), ("pos", .int pos t2), ("chars", .ref 62)]) ok (by omega) ok.pb.f_skip_chars (fun _ _ _ => by rfl) (by rfl) (fun h₁ cd B => ?_)
  refine wpAny_execs_cons ?_
  have fa : (A.deeper (envAt (stAt 9) s.heap.objs.size 82 cd)).frames = some (envAt (stAt 9) s.heap.objs.size 82 cd :: outer) := Around.frames_deeper ok.fa
  have ret : ∀ h' tk' m t, Bd w s.heap outer (envAt (stAt 9) s.heap.objs.size 82 cd) s.heap.objs.size h' m → m "pos" = some (.int (skipFrom wsC src.cps.toList pos : Nat) t) → ∀ E' : Value → Shared → Prop,
      wpAny (model prg w) (A.deeper (envAt (stAt 9) s.heap.objs.size 82 cd)) (execs ((bdyOfS (stAt 9)).drop 1) (envAt (stAt 9) s.heap.objs.size 82 cd)) (fun f s' => Q (match f with | .ret v => v | _ => .none) s') E' { s with heap := h', toks := tk' } := by
    intro h' tk' m t B' hm E'
    refine wpAny_execs_cons (wpAny_Return_some ?_)
    exact ld (s := { s with heap := h', toks := tk' }) B'.fr hm (hQ h' tk' t B'.eff B'.pl)
  refine try1 (T := "IndexError") (L := s.heap.objs.size) fa rfl sub_ie_be ie_notuple sub_ie_self ?_
  refine wpAny_execs_cons (wpAny_While ?_)
  refine codeAny_whileLoop (I := fun j s' => ∃ k h tk m t, s' = { s with heap := h, toks := tk } ∧ Bd w s.heap outer (envAt (stAt 9) s.heap.objs.size 82 cd) s.heap.objs.size h m ∧
      m "src" = some (.str src t1) ∧ m "chars" = some (.ref 62) ∧ m "pos" = some (.int ((k : Nat) : Int) t) ∧ k ≤ 2000 ∧ skipFrom wsC src.cps.toList k = skipFrom wsC src.cps.toList pos ∧ j = src.length + 1 - k)
    ?_ (src.length + 1 - pos) ⟨pos, h₁, _, _, t2, rfl, B, rfl, rfl, rfl, hp, rfl, rfl⟩
  rintro j s' ⟨k, h, tk, m, t, rfl, B', m1, m2, m3, hk, hsk, rfl⟩
  refine wpAny_isTrue_Compare1 (Subscript_ (ld (s := { s with heap := h, toks := tk }) B'.fr m1 (ld (s := { s with heap := h, toks := tk }) B'.fr m3 ?_)))
  refine item_str_or (by exact hh) (fits_small (by omega) (by omega)) (fun hout h' tk' e hx => ?_) (fun _ hin => ?_)
  · -- beyond the end
    have hend : src.cps.toList.length ≤ k := by rw [Array.length_toList]; have : (src.length : Int) ≤ k := by omega
                                                exact Int.ofNat_le.mp this
    obtain ⟨oe, t0, hcls, rw0⟩ := Raw.of_new hx
    refine note0 (s := { s with heap := h', toks := tk' }) fa B'.ff rfl rw0 fun h2 Tb hx2 => ?_
    refine came0 (s := { s with heap := h2, toks := tk' }) B'.ff rfl rw0 hx2 fun h3 hx3 => ?_
    refine ⟨e, oe, _, h, h', _, rfl, hcls, B'.ff, rw0, .inr ⟨Tb, hx3⟩, fun h4 Tb4 fl4 => ?_⟩
    have B4 := B'.afterF (fl4.eff rw0)
    refine bname (s := { s with heap := h4, toks := tk' }) B4 B4.pb.b_ie ⟨rfl, rfl, fun h5 fl5 => ?_⟩
    refine wpAny_execs_cons (wpAny_Pass ?_)
    refine wpAny_execs_nil ?_
    exact ret h5 tk' m t (B'.afterF (fl5.eff rw0)) (by rw [m3, ← hsk, skip_end hend]) _
  · have hlt : k < src.length := by omega
    obtain ⟨i1, i2⟩ := item_nat hlt
    rw [i1]
    refine ld (s := { s with heap := h, toks := tk + 1 }) B'.fr m2 ?_
    refine in_froz (s := { s with heap := h, toks := tk + 1 }) (knd := PySem.strKind prg w) (k := ⟨#[src.cps.toList.getD k 0]⟩) B'.fr B'.pb.ws (isStr_self _ _ _) rfl (by decide) ?_
    refine wpAny_truthy_bool ?_
    rw [one_item]
    cases hc : wsC (src.cps.toList.getD k 0) with
    | false =>
      simp only [Bool.false_eq_true, if_false]
      refine wpAny_execs_nil ?_
      refine wpAny_execs_nil ?_
      exact ret h _ m t B' (by rw [m3, ← hsk, skip_stop i2 hc]) _
    | true =>
      simp only [if_true]
      refine wpAny_execs_cons (wpAny_AugAssign_Name ?_)
      refine ldn (s := { s with heap := h, toks := tk + 1 + 1 }) B'.fr m3 ?_
      refine wpAny_Constant_int ?_
      refine iadd_int ?_
      refine stB (s := { s with heap := h, toks := tk + 1 + 1 + 1 + 1 }) B' fun h2 B2 => ?_
      refine wpAny_execs_nil ⟨src.length + 1 - (k + 1), by omega, k + 1, h2, _, _, tk + 1 + 1 + 1, rfl, B2, (if_neg (by decide)).trans m1, (if_neg (by decide)).trans m2, if_pos rfl, by omega, ?_, rfl⟩
      rw [← hsk]; exact skip_step i2 hc
end
end Mine
end

noncomputable section -- NbText
open PySem PySem.W PyProof.Rows
open PySem.Builtin PySem.Builtin.Str
set_option maxRecDepth 100000
namespace Mine

/-! ## places in a text -/
noncomputable def atP (x : Str) (c hi i : Nat) : Bool := decide (i < hi) && (x.cps.toList[i]? == some c)

theorem at_iff {x : Str} {c hi i : Nat} (hhi : hi ≤ x.length) : (i + (⟨#[c]⟩ : Str).length ≤ hi ∧ subAt x ⟨#[c]⟩ i = true) ↔ atP x c hi i = true := by
  have e : (⟨#[c]⟩ : Str).length = 1 := rfl
  unfold atP
  rw [Bool.and_eq_true, decide_eq_true_eq, beq_iff_eq]
  constructor
  · rintro ⟨a, b⟩
    exact ⟨by omega, (StrLaws.subAt_one x c i).mp ⟨by omega, b⟩⟩
  · rintro ⟨a, b⟩
    exact ⟨by omega, ((StrLaws.subAt_one x c i).mpr b).2⟩

theorem occ_run {x : Str} {c hi limit : Nat} (hhi : hi ≤ x.length) : ∀ (l : List Nat) (st : Array Nat × Nat), (∀ i ∈ l, st.2 ≤ i) → l.Pairwise (· < ·) →
    (forIn l st (StrLaws.occBody x ⟨#[c]⟩ hi limit)).run.fst.toList = st.1.toList ++ (l.filter (atP x c hi)).take (limit - st.1.size)
  | [], st, _, _ => by simp
  | a :: l, st, h, hp => by
    have hp' := List.pairwise_cons.mp hp
    rw [List.forIn_cons]
    unfold StrLaws.occBody
    have ha := h a (List.mem_cons_self ..)
    by_cases hc : ((st.fst.size < limit ∧ st.snd ≤ a) ∧ a + (⟨#[c]⟩ : Str).length ≤ hi) ∧ subAt x ⟨#[c]⟩ a = true
    · rw [if_pos hc]
      have hat : atP x c hi a = true := (at_iff hhi).mp ⟨hc.1.2, hc.2⟩
      have := occ_run (limit := limit) (c := c) hhi l (st.fst.push a, a + (⟨#[c]⟩ : Str).length) (fun i hi' => hp'.1 i hi') hp'.2
      show (forIn l (st.fst.push a, a + (⟨#[c]⟩ : Str).length) (StrLaws.occBody x ⟨#[c]⟩ hi limit)).run.fst.toList = _
      rw [this, List.filter_cons, if_pos hat]
      have e : limit - st.1.size = (limit - (st.1.push a).size) + 1 := by rw [Array.size_push]; omega
      rw [e, List.take_succ_cons]
      simp
    · rw [if_neg hc]
      have := occ_run (limit := limit) (c := c) hhi l (st.fst, st.snd) (fun i hi' => h i (List.mem_cons_of_mem _ hi')) hp'.2
      show (forIn l (st.fst, st.snd) (StrLaws.occBody x ⟨#[c]⟩ hi limit)).run.fst.toList = _
      rw [this, List.filter_cons]
      by_cases hat : atP x c hi a = true
      · have h2 := (at_iff hhi).mpr hat
        have hs : ¬ st.fst.size < limit := fun q => hc ⟨⟨⟨q, ha⟩, h2.1⟩, h2.2⟩
        have e : limit - st.1.size = 0 := by omega
        simp [e]
      · rw [if_neg hat]

theorem occ_one {x : Str} {c lo hi limit : Nat} (hhi : hi ≤ x.length) : occurrences x ⟨#[c]⟩ lo hi limit = ((List.range' lo (hi + 1 - lo)).filter (atP x c hi)).take limit := by
  rw [StrLaws.occ_eq, occ_run (c := c) (limit := limit) hhi (List.range' lo (hi + 1 - lo)) (#[], lo) (fun i hi' => (List.mem_range'_1.mp hi').1) (List.pairwise_lt_range' ..)]
  simp

theorem takeWhile_all {p : Nat → Bool} : ∀ l : List Nat, (∀ c ∈ l, p c = true) → l.takeWhile p = l
  | [], _ => rfl
  | a :: l, h => by rw [List.takeWhile_cons, h a (List.mem_cons_self ..)]; simp only [if_true]; rw [takeWhile_all l fun c hc => h c (List.mem_cons_of_mem _ hc)]
theorem takeWhile_mem {p : Nat → Bool} {c : Nat} : ∀ l : List Nat, c ∈ l.takeWhile p → p c = true
  | [], h => nomatch h
  | a :: l, h => by
    rw [List.takeWhile_cons] at h
    split at h
    · rename_i ha
      rcases List.mem_cons.mp h with q | q
      · rw [q]; exact ha
      · exact takeWhile_mem l q
    · cases h
theorem snoc_ind {P : List Nat → Prop} (h0 : P []) (h1 : ∀ l c, P l → P (l ++ [c])) (l : List Nat) : P l := by
  have key : ∀ r : List Nat, P r.reverse := by
    intro r
    induction r with
    | nil => exact h0
    | cons a r ih => rw [List.reverse_cons]; exact h1 _ _ ih
  have := key l.reverse
  rwa [List.reverse_reverse] at this
theorem skip_at {p : Nat → Bool} {l : List Nat} {i c : Nat} (hc : l[i]? = some c) (hp : p c = false) : ∀ (d lo : Nat), lo + d = i → (∀ k c', lo ≤ k → k < i → l[k]? = some c' → p c' = true) → skipFrom p l lo = i
  | 0, lo, e, _ => by rw [Nat.add_zero] at e; subst e; exact skip_stop hc hp
  | d + 1, lo, e, h => by
    have hi : i < l.length := (List.getElem?_eq_some_iff.mp hc).1
    have hl : l[lo]? = some l[lo] := List.getElem?_eq_getElem (by omega)
    rw [← skip_step hl (h lo _ (Nat.le_refl _) (by omega) hl)]
    exact skip_at hc hp d (lo + 1) (by omega) fun k c' h1 h2 h3 => h k c' (by omega) h2 h3
theorem skip_all {p : Nat → Bool} {l : List Nat} {lo : Nat} (h : ∀ k c', lo ≤ k → l[k]? = some c' → p c' = true) (hlo : lo ≤ l.length) : skipFrom p l lo = l.length := by
  unfold skipFrom
  have : (l.drop lo).takeWhile p = l.drop lo := by
    refine takeWhile_all _ fun c hc => ?_
    obtain ⟨k, hk, e⟩ := List.getElem_of_mem hc
    rw [List.getElem_drop] at e
    exact h (lo + k) c (by omega) (by rw [← e]; exact List.getElem?_eq_getElem _)
  rw [this, List.length_drop]; omega
theorem skip_ge {p : Nat → Bool} {l : List Nat} {lo : Nat} : lo ≤ skipFrom p l lo := by unfold skipFrom; omega
theorem skip_le {p : Nat → Bool} {l : List Nat} {lo : Nat} (h : lo ≤ l.length) : skipFrom p l lo ≤ l.length := by
  unfold skipFrom
  have h1 : ((l.drop lo).takeWhile p).length ≤ (l.drop lo).length := List.Sublist.length_le (List.takeWhile_sublist _)
  rw [List.length_drop] at h1; omega
/-- where it stops short of the end the sign there is told -/
theorem skip_found {p : Nat → Bool} {l : List Nat} {lo : Nat} (h : skipFrom p l lo < l.length) : ∃ c, l[skipFrom p l lo]? = some c ∧ p c = false := by
  have hlo : lo ≤ l.length := by have := @skip_ge p l lo; omega
  unfold skipFrom at h ⊢
  have hd : l.drop lo = (l.drop lo).takeWhile p ++ (l.drop lo).dropWhile p := (List.takeWhile_append_dropWhile).symm
  cases hw : (l.drop lo).dropWhile p with
  | nil =>
    rw [hw, List.append_nil] at hd
    have : (l.drop lo).length = ((l.drop lo).takeWhile p).length := by rw [← hd]
    rw [List.length_drop] at this; omega
  | cons c r =>
    refine ⟨c, ?_, ?_⟩
    · have e : l[lo + ((l.drop lo).takeWhile p).length]? = (l.drop lo)[((l.drop lo).takeWhile p).length]? := by rw [List.getElem?_drop]
      rw [e]
      conv => lhs; arg 1; rw [hd]
      rw [hw, List.getElem?_append_right (Nat.le_refl _)]; simp
    · have := List.dropWhile_cons_of_pos (p := p) (a := c) (l := r)
      by_cases q : p c = true
      · exfalso
        have hh : ((l.drop lo).dropWhile p).head? = some c := by rw [hw]; rfl
        have := List.head?_dropWhile_not p (l.drop lo)
        rw [hh] at this; simp [q] at this
      · simpa using q
theorem skip_before {p : Nat → Bool} {l : List Nat} {lo k c : Nat} (h1 : lo ≤ k) (h2 : k < skipFrom p l lo) (hc : l[k]? = some c) : p c = true := by
  unfold skipFrom at h2
  have hk : k - lo < ((l.drop lo).takeWhile p).length := by omega
  have hd : l.drop lo = (l.drop lo).takeWhile p ++ (l.drop lo).dropWhile p := (List.takeWhile_append_dropWhile).symm
  have e : (l.drop lo)[k - lo]? = some c := by rw [List.getElem?_drop, show lo + (k - lo) = k by omega]; exact hc
  rw [hd, List.getElem?_append_left hk] at e
  have hm : c ∈ (l.drop lo).takeWhile p := List.mem_of_getElem? e
  exact takeWhile_mem _ hm

/-- the next place of a sign -/
noncomputable def nextC (c : Nat) (l : List Nat) (lo : Nat) : Nat := skipFrom (fun y => y != c) l lo

theorem occ_index {x : Str} {c lo : Nat} : (nextC c x.cps.toList lo < x.length ∧ ∃ r, occurrences x ⟨#[c]⟩ lo x.length 1 = nextC c x.cps.toList lo :: r) ∨
    (x.length ≤ nextC c x.cps.toList lo ∧ occurrences x ⟨#[c]⟩ lo x.length 1 = []) := by
  have hlen : x.cps.toList.length = x.length := Array.length_toList
  rcases StrLaws.occ_head_from x ⟨#[c]⟩ lo 1 (Nat.le_refl 1) with ⟨h0, hn⟩ | ⟨i, r, h0, hlo, hi, hn⟩
  · refine .inr ⟨?_, h0⟩
    by_cases hl : lo ≤ x.length
    · have : nextC c x.cps.toList lo = x.cps.toList.length := skip_all (fun k c' h1 h2 => by
        by_cases q : c' = c
        · subst q; exact absurd ((StrLaws.subAt_one x c' k).mpr h2) (hn k h1)
        · simpa using q) (by omega)
      omega
    · have : nextC c x.cps.toList lo = lo := skip_end (by omega)
      omega
  · have hm : x.cps.toList[i]? = some c := (StrLaws.subAt_one x c i).mp hi
    have hlt : i < x.cps.toList.length := (List.getElem?_eq_some_iff.mp hm).1
    have e : nextC c x.cps.toList lo = i := skip_at hm (by simp) (i - lo) lo (by omega) fun k c' h1 h2 h3 => by
      by_cases q : c' = c
      · subst q; exact absurd ((StrLaws.subAt_one x c' k).mpr h3) (hn k h1 h2)
      · simpa using q
    exact .inl ⟨by omega, r, by rw [e]; exact h0⟩

theorem count_range (l : List Nat) (c : Nat) : ∀ h, h ≤ l.length → ((List.range h).filter fun i => l[i]? == some c).length = (l.take h).count c
  | 0, _ => by simp
  | h + 1, hh => by
    have e : l[h]? = some l[h] := List.getElem?_eq_getElem (by omega)
    rw [List.range_succ, List.filter_append, List.length_append, count_range l c h (by omega), List.take_add_one, List.count_append, e]
    congr 1
    by_cases q : l[h] = c
    · simp [q, e]
    · simp [q, e]

theorem occ_count {x : Str} {c p : Nat} (hp : p ≤ x.length) : (occurrences x ⟨#[c]⟩ 0 p (x.length + 1)).length = (x.cps.toList.take p).count c := by
  have hlen : x.cps.toList.length = x.length := Array.length_toList
  rw [occ_one hp, ← count_range _ _ _ (by omega), Nat.sub_zero, ← List.range_eq_range', List.range_succ, List.filter_append]
  have e1 : (List.filter (atP x c p) [p]) = [] := by simp [atP]
  have e2 : List.filter (atP x c p) (List.range p) = List.filter (fun i => x.cps.toList[i]? == some c) (List.range p) :=
    List.filter_congr fun i hi => by simp [atP, List.mem_range.mp hi]
  rw [e1, List.append_nil, e2, List.take_of_length_le]
  have := List.length_filter_le (fun i => x.cps.toList[i]? == some c) (List.range p)
  rw [List.length_range] at this; omega

/-! ## line and column by a scan -/
noncomputable def scanS (st : Nat × Nat) (c : Nat) : Nat × Nat := if c = 10 then (st.1 + 1, 1) else (st.1, st.2 + 1)
noncomputable def scan (l : List Nat) : Nat × Nat := l.foldl scanS (1, 1)
theorem scan_snoc (l : List Nat) (c : Nat) : scan (l ++ [c]) = scanS (scan l) c := by simp [scan, List.foldl_append]
theorem scan_line (l : List Nat) : (scan l).1 = l.count 10 + 1 := by
  refine snoc_ind (P := fun l => (scan l).1 = l.count 10 + 1) rfl (fun l c ih => ?_) l
  · rw [scan_snoc, List.count_append]
    unfold scanS
    by_cases q : c = 10
    · simp [q, ih]
    · simp [q, ih]
theorem scan_first (l : List Nat) : l.count 10 = 0 → (scan l).2 = l.length + 1 := by
  refine snoc_ind (P := fun l => l.count 10 = 0 → (scan l).2 = l.length + 1) (fun _ => rfl) (fun l c ih => ?_) l
  · intro h
    rw [List.count_append] at h
    rw [scan_snoc]
    unfold scanS
    have q : c ≠ 10 := by rintro rfl; simp at h
    simp [q, ih (by omega)]
theorem scan_col (l : List Nat) : ∀ a, l[a]? = some 10 → (∀ k, a < k → l[k]? ≠ some 10) → (scan l).2 = l.length - a := by
  refine snoc_ind (P := fun l => ∀ a, l[a]? = some 10 → (∀ k, a < k → l[k]? ≠ some 10) → (scan l).2 = l.length - a) (fun a h => by simp at h) (fun l c ih => ?_) l
  · intro a ha hb
    rw [scan_snoc]
    unfold scanS
    have hla : a < (l ++ [c]).length := (List.getElem?_eq_some_iff.mp ha).1
    rw [List.length_append, List.length_singleton] at hla ⊢
    by_cases q : c = 10
    · have : a = l.length := by
        by_cases r : a = l.length
        · exact r
        · exact absurd (by rw [List.getElem?_append_right (Nat.le_refl _)]; simp [q]) (hb l.length (by omega))
      simp [q, this]
    · have r : a < l.length := by
        by_cases r : a < l.length
        · exact r
        · have : a = l.length := by omega
          subst this
          rw [List.getElem?_append_right (Nat.le_refl _)] at ha
          simp at ha; exact absurd ha q
      rw [List.getElem?_append_left r] at ha
      have := ih a ha fun k hk e => hb k hk (by
        have : k < l.length := (List.getElem?_eq_some_iff.mp e).1
        rw [List.getElem?_append_left this]; exact e)
      simp [q, this]; omega

theorem last_col {x : Str} {p : Nat} (hp : p ≤ x.length) (hc : (x.cps.toList.take p).count 10 ≠ 0) : ∃ a, lastOccurrence x ⟨#[10]⟩ 0 p = some a ∧ (scan (x.cps.toList.take p)).2 = p - a ∧ a ≤ p := by
  have hlen : x.cps.toList.length = x.length := Array.length_toList
  have hr := StrLaws.last_run x ⟨#[10]⟩ p (List.range' 0 (p + 1 - 0)) [] none (fun i hi => nomatch hi) (fun i hi => nomatch hi) (List.pairwise_lt_range' ..)
  rw [← StrLaws.last_eq, List.nil_append] at hr
  have hat : ∀ i, StrLaws.At x ⟨#[10]⟩ p i ↔ atP x 10 p i = true := fun i => at_iff hp
  have hin : ∀ i, (x.cps.toList.take p)[i]? = some 10 ↔ atP x 10 p i = true := fun i => by
    unfold atP
    rw [List.getElem?_take, Bool.and_eq_true, decide_eq_true_eq, beq_iff_eq]
    constructor
    · intro h; split at h
      · exact ⟨by assumption, h⟩
      · cases h
    · rintro ⟨a, b⟩; rw [if_pos a]; exact b
  cases hl : lastOccurrence x ⟨#[10]⟩ 0 p with
  | none =>
    rw [hl] at hr
    exfalso
    apply hc
    rw [List.count_eq_zero]
    intro hm
    obtain ⟨i, hi, e⟩ := List.getElem_of_mem hm
    have e' : (x.cps.toList.take p)[i]? = some 10 := by rw [← e]; exact List.getElem?_eq_getElem _
    have hi' : i < p := by rw [List.length_take] at hi; omega
    exact hr i (List.mem_range'_1.mpr (by omega)) ((hat i).mpr ((hin i).mp e'))
  | some a =>
    rw [hl] at hr
    obtain ⟨h1, h2⟩ := hr
    have ha := (hin a).mpr ((hat a).mp h1)
    have hap : a < p := by have := (List.getElem?_eq_some_iff.mp ha).1; rw [List.length_take] at this; omega
    refine ⟨a, rfl, ?_, by omega⟩
    rw [scan_col _ a ha fun k hk e => ?_, List.length_take, hlen, Nat.min_eq_left hp]
    have hkp : k < p := by have := (List.getElem?_eq_some_iff.mp e).1; rw [List.length_take] at this; omega
    exact h2 k (List.mem_range'_1.mpr (by omega)) hk ((hat k).mpr ((hin k).mp e))

/-! ## the calls -/
section
variable {w : World} {A : Around} {E : Value → Shared → Prop} {s : Shared} {x y : Str} {t u v v' : Tok} {Q : Value → Shared → Prop}

theorem gives_count4 (x y : Str) (p : Nat) (t u v v' : Tok) : Gives («str.count» ⟨[.str x t, .str y u, .int 0 v, .int (p : Nat) v'], []⟩) (.int (occurrences x y 0 (min p x.length) (x.length + 1)).length) := by
  show Gives (retInt (occurrences x y (max 0 (if (0 : Int) < 0 then (0 : Int) + x.length else 0)).toNat (min (max 0 (if ((p : Nat) : Int) < 0 then ((p : Nat) : Int) + x.length else (p : Nat))).toNat x.length) (x.length + 1)).length) _
  rw [if_neg (by omega), if_neg (by omega), show (max (0 : Int) 0).toNat = 0 from rfl, show (max (0 : Int) (p : Nat)).toNat = p by omega]
  exact .of_eq rfl
theorem count4 {p : Nat} (h : Q (.int (occurrences x y 0 (min p x.length) (x.length + 1)).length s.toks) { s with toks := s.toks + 1 }) :
    wpAny (model prg w) A (call (.builtin "str.count") [.str x t, .str y u, .int 0 v, .int (p : Nat) v']) Q E s :=
  call_gives F.slot_str_count (typeIs_str _ _ _) F.entry_str_count (F.args_str_count_4 _ _ _ _) (gives_count4 x y p t u v v') h

theorem gives_rindex4 (x y : Str) (p a : Nat) (t u v v' : Tok) (ha : lastOccurrence x y 0 (min p x.length) = some a) : Gives («str.rindex» ⟨[.str x t, .str y u, .int 0 v, .int (p : Nat) v'], []⟩) (.int a) := by
  show Gives (match lastOccurrence x y (max 0 (if (0 : Int) < 0 then (0 : Int) + x.length else 0)).toNat (min (max 0 (if ((p : Nat) : Int) < 0 then ((p : Nat) : Int) + x.length else (p : Nat))).toNat x.length) with
    | some i => retInt i
    | none => _) _
  rw [if_neg (by omega), if_neg (by omega), show (max (0 : Int) 0).toNat = 0 from rfl, show (max (0 : Int) (p : Nat)).toNat = p by omega, ha]
  exact .of_eq rfl
theorem rindex4 {p a : Nat} (ha : lastOccurrence x y 0 (min p x.length) = some a) (h : Q (.int a s.toks) { s with toks := s.toks + 1 }) :
    wpAny (model prg w) A (call (.builtin "str.rindex") [.str x t, .str y u, .int 0 v, .int (p : Nat) v']) Q E s :=
  call_gives F.slot_str_rindex (typeIs_str _ _ _) F.entry_str_rindex (F.args_str_rindex_4 _ _ _ _) (gives_rindex4 x y p a t u v v' ha) h

theorem from_nat (len p : Nat) : (max (0 : Int) (if ((p : Nat) : Int) < 0 then ((p : Nat) : Int) + len else (p : Nat))).toNat = p := by
  rw [if_neg (by omega)]; omega
theorem gives_index3 (x y : Str) (p i : Nat) (r : List Nat) (t u v : Tok) (ho : occurrences x y p x.length 1 = i :: r) : Gives («str.index» ⟨[.str x t, .str y u, .int (p : Nat) v], []⟩) (.int i) := by
  show Gives (match occurrences x y (max 0 (if ((p : Nat) : Int) < 0 then ((p : Nat) : Int) + x.length else (p : Nat))).toNat (min x.length x.length) 1 with
    | i :: _ => retInt i
    | [] => _) _
  rw [from_nat, Nat.min_self, ho]
  exact .of_eq rfl
theorem raises_index3 (x y : Str) (p : Nat) (t u v : Tok) (ho : occurrences x y p x.length 1 = []) : Meets («str.index» ⟨[.str x t, .str y u, .int (p : Nat) v], []⟩) (raisesNew "ValueError") := by
  intro prog w A R s hS
  show wpAny _ _ (match occurrences x y (max 0 (if ((p : Nat) : Int) < 0 then ((p : Nat) : Int) + x.length else (p : Nat))).toNat (min x.length x.length) 1 with
    | i :: _ => retInt i
    | [] => _) _ _ s
  rw [from_nat, Nat.min_self, ho]
  first
    | exact wpAny_bind (wpAny_rule (by exact_raiseError plainExc_ValueError hS.1 hS.2))
    | exact wpAny_bind (wpAny_rule (wpAny_bind (by exact_raiseError plainExc_ValueError hS.1 hS.2)))

theorem index3 {c p : Nat} (hh : A.handled = none)
    (h1 : nextC c x.cps.toList p < x.length → Q (.int (nextC c x.cps.toList p : Nat) s.toks) { s with toks := s.toks + 1 })
    (h0 : x.length ≤ nextC c x.cps.toList p → ∀ h' tk e, Heap.NewExc s.heap h' e "ValueError" → E (.ref e) { s with heap := h', toks := tk }) :
    wpAny (model prg w) A (call (.builtin "str.index") [.str x t, .str ⟨#[c]⟩ u, .int (p : Nat) v]) Q E s := by
  rcases occ_index (x := x) (c := c) (lo := p) with ⟨hlt, r, ho⟩ | ⟨hle, ho⟩
  · exact call_gives F.slot_str_index (typeIs_str _ _ _) F.entry_str_index (F.args_str_index_3 _ _ _) (gives_index3 x _ p _ r t u v ho) (h1 hlt)
  · exact call_meets F.slot_str_index (typeIs_str _ _ _) F.entry_str_index (F.args_str_index_3 _ _ _) (raises_index3 x _ p t u v ho) ⟨hh, h0 hle⟩
end
end Mine
end

noncomputable section -- NbSuff
open PySem PySem.W PyProof.Rows
open PySem.Builtin PySem.Builtin.Str
set_option maxRecDepth 100000
namespace Mine

noncomputable def decS (n : Nat) : Str := Str.ofString (toString (n : Int))
noncomputable def coordTxt (l : List Nat) (pos : Nat) : Str :=
  if l.length ≤ pos then "end of document" else "line " ++ decS (scan (l.take pos)).1 ++ ", column " ++ decS (scan (l.take pos)).2

noncomputable def stI : Stmt := (bdyOfS (stAt 14)).headD (.Pass default)

section
variable {w : World} {A : Around} {n : Nat} {outer : List Env} {s : Shared} {Q : Value → Shared → Prop} {E : Value → Shared → Prop}

theorem meth {x : Str} {t : Tok} {name : Str} {id : String} {o : Expr} {apos pos : Pos} {args : List Expr} {env : Env} {as : List (Bool × Sem Value)}
    (slot : Slot "str" name id) (ty : typeOf (.builtin id) = pure (.type "method_descriptor"))
    (hbase : attributeBase o name env (eval o env) = eval o env)
    (hs : backTo pos (starEach args env) = as)
    (hfew : (as.all (fun x => !x.1) && (backToKw pos (keywordEach [] env)).all (fun x => x.1.isSome)
      && decide (args.length + ([] : List Keyword).length + (if ([] : List Keyword).isEmpty then 0 else 1) < 30)) = true)
    (hline : (apos.endLine == pos.line) = true)
    (h : wpAny (model prg w) A (eval o env) (fun ov s₁ => ov = .str x t ∧ wpAny (model prg w) A (callWith pos (.builtin id) [.str x t] as []) Q E s₁) E s) :
    wpAny (model prg w) A (eval (.Call (.Attribute o name apos) args [] pos) env) Q E s := by
  subst hs
  exact wpAny_Call_method_lateS hbase hfew hline (wpAny_mono h (fun _ _ ⟨e, q⟩ => e ▸ ⟨"str", id, F.plainAttrs_str, slot, ty, typeIs_str _ _ _, (fun _ e => nomatch e), q⟩) fun _ _ e => e)

theorem meth1 {x : Str} {t : Tok} {name : Str} {id : String} {o e₁ : Expr} {apos pos : Pos} {env : Env} (slot : Slot "str" name id) (ty : typeOf (.builtin id) = pure (.type "method_descriptor"))
    (h : wpAny (model prg w) A (eval o env) (fun ov s₁ => ov = .str x t ∧ wpAny (model prg w) A (callWith pos (.builtin id) [.str x t] [(false, eval e₁ env)] []) Q E s₁) E s)
    (hbase : attributeBase o name env (eval o env) = eval o env := by rfl) (hs : backTo pos (starEach [e₁] env) = [(false, eval e₁ env)] := by rfl) (hline : (apos.endLine == pos.line) = true := by rfl) :
    wpAny (model prg w) A (eval (.Call (.Attribute o name apos) [e₁] [] pos) env) Q E s := meth slot ty hbase hs rfl hline h
theorem meth2 {x : Str} {t : Tok} {name : Str} {id : String} {o e₁ e₂ : Expr} {apos pos : Pos} {env : Env} (slot : Slot "str" name id) (ty : typeOf (.builtin id) = pure (.type "method_descriptor"))
    (h : wpAny (model prg w) A (eval o env) (fun ov s₁ => ov = .str x t ∧ wpAny (model prg w) A (callWith pos (.builtin id) [.str x t] [(false, eval e₁ env), (false, eval e₂ env)] []) Q E s₁) E s)
    (hbase : attributeBase o name env (eval o env) = eval o env := by rfl) (hs : backTo pos (starEach [e₁, e₂] env) = [(false, eval e₁ env), (false, eval e₂ env)] := by rfl) (hline : (apos.endLine == pos.line) = true := by rfl) :
    wpAny (model prg w) A (eval (.Call (.Attribute o name apos) [e₁, e₂] [] pos) env) Q E s := meth slot ty hbase hs rfl hline h
theorem meth3 {x : Str} {t : Tok} {name : Str} {id : String} {o e₁ e₂ e₃ : Expr} {apos pos : Pos} {env : Env} (slot : Slot "str" name id) (ty : typeOf (.builtin id) = pure (.type "method_descriptor"))
    (h : wpAny (model prg w) A (eval o env) (fun ov s₁ => ov = .str x t ∧ wpAny (model prg w) A (callWith pos (.builtin id) [.str x t] [(false, eval e₁ env), (false, eval e₂ env), (false, eval e₃ env)] []) Q E s₁) E s)
    (hbase : attributeBase o name env (eval o env) = eval o env := by rfl) (hs : backTo pos (starEach [e₁, e₂, e₃] env) = [(false, eval e₁ env), (false, eval e₂ env), (false, eval e₃ env)] := by rfl) (hline : (apos.endLine == pos.line) = true := by rfl) :
    wpAny (model prg w) A (eval (.Call (.Attribute o name apos) [e₁, e₂, e₃] [] pos) env) Q E s := meth slot ty hbase hs rfl hline h

theorem cw1 {pos : Pos} {id : String} {first : List Value} {a : Sem Value}
    (h : wpAny (model prg w) A a (fun v s₁ => wpAny (model prg w) A (call (.builtin id) (first ++ [v])) Q E s₁) E s) : wpAny (model prg w) A (callWith pos (.builtin id) first [(false, a)] []) Q E s :=
  Calls.callWith_builtin rfl (Calls.evalArgs_plain (Calls.spliced_cons (wpAny_mono h (fun _ _ h₁ => Calls.spliced_nil h₁) fun _ _ e => e)))
theorem cw2 {pos : Pos} {id : String} {first : List Value} {a b : Sem Value}
    (h : wpAny (model prg w) A a (fun v s₁ => wpAny (model prg w) A b (fun v' s₂ => wpAny (model prg w) A (call (.builtin id) (first ++ [v, v'])) Q E s₂) E s₁) E s) :
    wpAny (model prg w) A (callWith pos (.builtin id) first [(false, a), (false, b)] []) Q E s :=
  Calls.callWith_builtin rfl (Calls.evalArgs_plain (Calls.spliced_cons (wpAny_mono h (fun _ _ h₁ => Calls.spliced_cons (wpAny_mono h₁ (fun _ _ h₂ => Calls.spliced_nil h₂) fun _ _ e => e)) fun _ _ e => e)))
theorem cw3 {pos : Pos} {id : String} {first : List Value} {a b c : Sem Value}
    (h : wpAny (model prg w) A a (fun v s₁ => wpAny (model prg w) A b (fun v' s₂ => wpAny (model prg w) A c (fun v'' s₃ => wpAny (model prg w) A (call (.builtin id) (first ++ [v, v', v''])) Q E s₃) E s₂) E s₁) E s) :
    wpAny (model prg w) A (callWith pos (.builtin id) first [(false, a), (false, b), (false, c)] []) Q E s :=
  Calls.callWith_builtin rfl (Calls.evalArgs_plain (Calls.spliced_cons (wpAny_mono h (fun _ _ h₁ => Calls.spliced_cons (wpAny_mono h₁ (fun _ _ h₂ => Calls.spliced_cons (wpAny_mono h₂ (fun _ _ h₃ => Calls.spliced_nil h₃) fun _ _ e => e)) fun _ _ e => e)) fun _ _ e => e)))

theorem log2_small {n : Nat} (h : n ≤ 100000) : ((n : Int)).natAbs.log2 < 1920 := by
  show n.log2 < 1920
  by_cases h0 : n = 0
  · subst h0; decide
  · have := Nat.log2_lt h0 (k := 1920)
    rw [this]
    exact Nat.lt_of_le_of_lt h (Nat.lt_of_lt_of_le (by decide : 100000 < 2 ^ 17) (Nat.pow_le_pow_right (by decide) (by decide)))
theorem decS_len {n : Nat} (h : n < 10 ^ 8) : (decS n).length ≤ 9 := by
  unfold decS
  rw [PySem.ofString_length]
  have := int_text_length_le10 (a := (n : Int)) (k := 8) (by decide) (by simpa using h)
  omega

theorem scan_bound (l : List Nat) : (scan l).2 ≤ l.length + 1 := by
  refine snoc_ind (P := fun l => (scan l).2 ≤ l.length + 1) (Nat.le_refl _) (fun l c ih => ?_) l
  rw [scan_snoc, List.length_append, List.length_singleton]
  unfold scanS
  split
  · show 1 ≤ _; omega
  · show (scan l).2 + 1 ≤ _; omega

theorem coord_spec {a : Addr} {cd : Value} (ok : Ok w A n outer s.heap) (hn : n ≤ 18) (hfn : FnAt (bs s.heap outer) a innerQ stI cd) (src : Str) (hsz : src.length ≤ 1000) (pos : Nat) (hp : pos ≤ 2000) {t1 t2 : Tok}
    (hQ : ∀ h' tk' t, Eff outer s.heap h' → Pool h' → Q (.str (coordTxt src.cps.toList pos) t) { s with heap := h', toks := tk' }) :
    wpAny (model prg w) A (call (.ref a) [.str src t1, .int pos t2]) Q E s := by
  refine call_fnC (binds := [("src", .str src t1), ("pos", .int pos t2)]) ok (by omega) hfn (fun _ _ _ => by rfl) (by rfl) (fun h₁ B => ?_)
  have hlen : src.cps.toList.length = src.length := Array.length_toList
  refine wpAny_execs_cons (wpAny_If ?_)
  refine wpAny_isTrue_Compare1 (ld (s := { s with heap := h₁, toks := _ }) B.fr rfl ?_)
  refine Call_name1 rfl (bname (s := { s with heap := h₁, toks := _ }) B B.pb.b_len ?_)
  refine callWith_builtin1 (ld (s := { s with heap := h₁, toks := _ }) B.fr rfl ?_)
  refine len_str (by omega) ?_
  refine ge_int (wpAny_truthy_bool ?_)
  by_cases hge : src.length ≤ pos
  · rw [if_pos (by simp; omega)]
    refine wpAny_execs_cons (wpAny_Return_some (Calls.Constant_str ?_))
    have : coordTxt src.cps.toList pos = "end of document" := by unfold coordTxt; rw [if_pos (by omega)]
    rw [← this]
    exact hQ _ _ _ B.eff B.pl
  rw [if_neg (by simp; omega)]
  have hpl : pos ≤ src.length := by omega
  refine wpAny_execs_nil ?_
  -- line
  refine wpAny_execs_cons (wpAny_Assign_Name (wpAny_BinOp ?_))
  refine meth3 (x := src) (t := t1) F.slot_str_count F.type_str_count (ld (s := { s with heap := h₁, toks := _ }) B.fr rfl ⟨rfl, ?_⟩)
  refine cw3 (Calls.Constant_str (wpAny_Constant_int (ld (s := { s with heap := h₁, toks := _ }) B.fr rfl ?_)))
  refine count4 ?_
  refine wpAny_Constant_int (add_int ?_)
  rw [show (Str.ofString "\n") = ⟨#[10]⟩ from by decide +kernel, Nat.min_eq_left hpl, occ_count hpl]
  have hline := scan_line (src.cps.toList.take pos)
  have e1 : (((src.cps.toList.take pos).count 10 : Nat) : Int) + 1 = (((scan (src.cps.toList.take pos)).1 : Nat) : Int) := by rw [hline]; omega
  rw [e1]
  refine stB (s := { s with heap := h₁, toks := _ }) B fun h₂ B₂ => ?_
  refine wpAny_execs_cons (wpAny_If ?_)
  refine wpAny_isTrue_Compare1 (ld (s := { s with heap := h₂, toks := _ }) B₂.fr rfl (wpAny_Constant_int (eq_int (wpAny_truthy_bool ?_))))
  have fin : ∀ h₃ tk₃ m t₃ t₄, Bd w s.heap outer (envAt stI s.heap.objs.size a cd innerQ) s.heap.objs.size h₃ m → m "line" = some (.int (scan (src.cps.toList.take pos)).1 t₃) → m "column" = some (.int (scan (src.cps.toList.take pos)).2 t₄) → ∀ E' : Value → Shared → Prop,
      wpAny (model prg w) (A.deeper (envAt stI s.heap.objs.size a cd innerQ)) (execs ((bdyOfS stI).drop 3) (envAt stI s.heap.objs.size a cd innerQ)) (fun f s' => Q (match f with | .ret v => v | _ => .none) s') E' { s with heap := h₃, toks := tk₃ } := by
    intro h₃ tk₃ m t₃ t₄ B₃ m1 m2 E'
    have hl1 := scan_line (src.cps.toList.take pos)
    have hl2 : (src.cps.toList.take pos).count 10 ≤ 1000 := Nat.le_trans List.count_le_length (by rw [List.length_take]; omega)
    have hl3 := scan_bound (src.cps.toList.take pos)
    rw [List.length_take] at hl3
    have d1 := decS_len (n := (scan (src.cps.toList.take pos)).1) (by omega)
    have d2 := decS_len (n := (scan (src.cps.toList.take pos)).2) (by omega)
    have c1 : (Str.ofString "line ").length = 5 := by decide +kernel
    have c2 : (Str.ofString ", column ").length = 9 := by decide +kernel
    have c0 : Str.empty.length = 0 := rfl
    refine wpAny_execs_cons (wpAny_Return_some (JoinedStr_many ?_))
    refine joinParts_cons (Calls.Constant_str ⟨by simp only [Str.length_append, sizeLine_eq]; omega, ?_⟩)
    refine joinParts_cons (FormattedValue_plain (ld (s := { s with heap := h₃, toks := _ }) B₃.fr m1 (formatField_int_small (log2_small (by omega)) ⟨?_, ?_⟩)))
    · simp only [Str.length_append, sizeLine_eq]; unfold decS at d1; omega
    refine joinParts_cons (Calls.Constant_str ⟨?_, ?_⟩)
    · simp only [Str.length_append, sizeLine_eq]; unfold decS at d1; omega
    refine joinParts_cons (FormattedValue_plain (ld (s := { s with heap := h₃, toks := _ }) B₃.fr m2 (formatField_int_small (log2_small (by omega)) ⟨?_, ?_⟩)))
    · simp only [Str.length_append, sizeLine_eq]; unfold decS at d1 d2; omega
    refine joinParts_nil ?_ ?_
    · have e : coordTxt src.cps.toList pos = Str.empty ++ "line " ++ decS (scan (src.cps.toList.take pos)).1 ++ ", column " ++ decS (scan (src.cps.toList.take pos)).2 := by
        unfold coordTxt; rw [if_neg (by omega), Str.empty_append]
      show Q (.str (Str.empty ++ "line " ++ decS (scan (src.cps.toList.take pos)).1 ++ ", column " ++ decS (scan (src.cps.toList.take pos)).2) _) _
      rw [← e]
      exact hQ _ _ _ B₃.eff B₃.pl
    · simp only [Str.length_append, sizeLine_eq]; unfold decS at d1 d2; omega
  have hl1 := scan_line (src.cps.toList.take pos)
  by_cases hl : (src.cps.toList.take pos).count 10 = 0
  · rw [if_pos (by rw [hl1, hl]; rfl)]
    refine wpAny_execs_cons (wpAny_Assign_Name (wpAny_BinOp (ld (s := { s with heap := h₂, toks := _ }) B₂.fr rfl (wpAny_Constant_int (add_int ?_)))))
    refine stB (s := { s with heap := h₂, toks := _ }) B₂ fun h₃ B₃ => ?_
    refine wpAny_execs_nil ?_
    exact fin h₃ _ _ _ _ B₃ rfl (by
      have := scan_first _ hl
      rw [List.length_take, hlen, Nat.min_eq_left hpl] at this
      rw [this]; rfl) _
  · obtain ⟨b, hb1, hb2, hb3⟩ := last_col hpl hl
    rw [if_neg (by rw [hl1]; simp; omega)]
    refine wpAny_execs_cons (wpAny_Assign_Name (wpAny_BinOp (ld (s := { s with heap := h₂, toks := _ }) B₂.fr rfl ?_)))
    refine meth3 (x := src) (t := t1) F.slot_str_rindex F.type_str_rindex (ld (s := { s with heap := h₂, toks := _ }) B₂.fr rfl ⟨rfl, ?_⟩)
    refine cw3 (Calls.Constant_str (wpAny_Constant_int (ld (s := { s with heap := h₂, toks := _ }) B₂.fr rfl ?_)))
    refine rindex4 (a := b) (by rw [Nat.min_eq_left hpl]; exact hb1) (sub_int ?_)
    refine stB (s := { s with heap := h₂, toks := _ }) B₂ fun h₃ B₃ => ?_
    refine wpAny_execs_nil ?_
    exact fin h₃ _ _ _ _ B₃ rfl (by rw [hb2, Int.ofNat_sub hb3]; rfl) _
end
end Mine
end

noncomputable section -- NbSuff2
open PySem PySem.W PyProof.Rows
open PySem.Builtin PySem.Builtin.Str
set_option maxRecDepth 100000
namespace Mine

section
variable {w : World} {A : Around} {s : Shared} {Q : Value → Shared → Prop} {E : Value → Shared → Prop}

theorem Call_nm {x : Str} {np pos : Pos} {args : List Expr} {env : Env} {as : List (Bool × Sem Value)}
    (h : wpAny (model prg w) A (eval (.Name x np) env) (fun f s₁ => wpAny (model prg w) A (callWith pos f [] as []) Q E s₁) E s) (hs : backTo pos (starEach args env) = as := by rfl) :
    wpAny (model prg w) A (eval (.Call (.Name x np) args [] pos) env) Q E s := by
  show wpAny _ A (do callWith pos (← eval (.Name x np) env) [] (backTo pos (starEach args env)) (backToKw pos (keywordEach [] env))) Q E s
  rw [hs]
  exact wpAny_bind h
theorem Call_nm1 {x : Str} {np pos : Pos} {e₁ : Expr} {env : Env}
    (h : wpAny (model prg w) A (eval (.Name x np) env) (fun f s₁ => wpAny (model prg w) A (callWith pos f [] [(false, eval e₁ env)] []) Q E s₁) E s)
    (hs : backTo pos (starEach [e₁] env) = [(false, eval e₁ env)] := by rfl) :
    wpAny (model prg w) A (eval (.Call (.Name x np) [e₁] [] pos) env) Q E s := Call_nm h hs
theorem Call_nm2 {x : Str} {np pos : Pos} {e₁ e₂ : Expr} {env : Env}
    (h : wpAny (model prg w) A (eval (.Name x np) env) (fun f s₁ => wpAny (model prg w) A (callWith pos f [] [(false, eval e₁ env), (false, eval e₂ env)] []) Q E s₁) E s)
    (hs : backTo pos (starEach [e₁, e₂] env) = [(false, eval e₁ env), (false, eval e₂ env)] := by rfl) :
    wpAny (model prg w) A (eval (.Call (.Name x np) [e₁, e₂] [] pos) env) Q E s := Call_nm h hs
theorem Call_nm3 {x : Str} {np pos : Pos} {e₁ e₂ e₃ : Expr} {env : Env}
    (h : wpAny (model prg w) A (eval (.Name x np) env) (fun f s₁ => wpAny (model prg w) A (callWith pos f [] [(false, eval e₁ env), (false, eval e₂ env), (false, eval e₃ env)] []) Q E s₁) E s)
    (hs : backTo pos (starEach [e₁, e₂, e₃] env) = [(false, eval e₁ env), (false, eval e₂ env), (false, eval e₃ env)] := by rfl) :
    wpAny (model prg w) A (eval (.Call (.Name x np) [e₁, e₂, e₃] [] pos) env) Q E s := Call_nm h hs

noncomputable def IsFn (h : Heap) (a : Addr) : Prop := ∃ o fd, h.get? a = some o ∧ o.data = .func fd
theorem FnAt.isFn {h h' : Heap} {a : Addr} {q : Str} {st : Stmt} {cd : Value} (x : FnAt h a q st cd) (k : h.StaysIn h') : IsFn h' a := let ⟨o, _, _, e, d, _⟩ := x; ⟨o, _, k _ _ e, d⟩
theorem Fn1.isFn {h h' : Heap} {a : Addr} {st : Stmt} (x : Fn1 h a st) (k : h.StaysIn h') : IsFn h' a := let ⟨_, e⟩ := x; e.isFn k

theorem cf {pos : Pos} {a : Addr} {as : List (Bool × Sem Value)} {x : Sem Value}
    (h : wpAny (model prg w) A (spliced ((false, x) :: as)) (fun vs s₁ => IsFn s₁.heap a ∧ wpAny (model prg w) A (call (.ref a) vs) Q E s₁) E s) :
    wpAny (model prg w) A (callWith pos (.ref a) [] ((false, x) :: as) []) Q E s := by
  unfold callWith
  refine wpAny_bind (wpAny_holding (Calls.evalArgs_plain (wpAny_mono h (fun vs s₁ h₁ => ?_) fun _ _ e => e)))
  obtain ⟨⟨o, fd, ho, hd⟩, hc⟩ := h₁
  refine wpAny_bind (wpAny_standAt ?_)
  have hk : ∀ Q' : Keeper → Shared → Prop, Q' .frame s₁ → wpAny (model prg w) A (keeperOf (.ref a)) Q' E s₁ := fun Q' hq => by
    unfold keeperOf
    refine wpAny_bind (wpAny_load ho ?_)
    rw [hd]; exact wpAny_pure hq
  refine wpAny_bind (hk _ ?_)
  have tail : ∀ {t : Sem Value}, wpAny (model prg w) A t Q E s₁ → wpAny (model prg w) A (t >>= fun r => holding [r] point >>= fun _ => pure r) Q E s₁ :=
    fun hq => wpAny_bind (wpAny_mono hq (fun r s₂ h₂ => wpAny_bind (wpAny_holding (wpAny_point (wpAny_pure h₂)))) fun _ _ e => e)
  have keep : wpAny (model prg w) A (callMarked plainCall (.ref a) ([] ++ vs) []) Q E s₁ := by
    unfold callMarked
    intro Γ p hΓ
    rw [Sem.wp_keep]; exact hc Γ p hΓ
  cases hst : (((false, x) :: as).any fun x => x.1) || ([] : List (Option Str × Sem Value)).any (fun x => x.1.isNone) with
  | true =>
    refine tail ?_
    show wpAny _ _ (callMarked starredCall (.ref a) ([] ++ vs) []) Q E s₁
    unfold callMarked
    intro Γ p hΓ
    rw [Sem.wp_keep]; exact hc Γ p hΓ
  | false =>
    show wpAny _ _ (if ((false, x) :: as).length + 2 * ([] : List (Option Str × Sem Value)).length > 30 then (call (.ref a) ([] ++ vs) [] >>= fun r => holding [r] point >>= fun _ => pure r) else (callMarked plainCall (.ref a) ([] ++ vs) [] >>= fun r => holding [r] point >>= fun _ => pure r)) Q E s₁
    split
    · exact tail hc
    · exact tail keep
theorem cf1 {pos : Pos} {a : Addr} {x : Sem Value}
    (h : wpAny (model prg w) A x (fun v s₁ => IsFn s₁.heap a ∧ wpAny (model prg w) A (call (.ref a) [v]) Q E s₁) E s) : wpAny (model prg w) A (callWith pos (.ref a) [] [(false, x)] []) Q E s :=
  cf (Calls.spliced_cons (wpAny_mono h (fun _ _ h₁ => Calls.spliced_nil h₁) fun _ _ e => e))
theorem cf2 {pos : Pos} {a : Addr} {x y : Sem Value}
    (h : wpAny (model prg w) A x (fun v s₁ => wpAny (model prg w) A y (fun v' s₂ => IsFn s₂.heap a ∧ wpAny (model prg w) A (call (.ref a) [v, v']) Q E s₂) E s₁) E s) :
    wpAny (model prg w) A (callWith pos (.ref a) [] [(false, x), (false, y)] []) Q E s :=
  cf (Calls.spliced_cons (wpAny_mono h (fun _ _ h₁ => Calls.spliced_cons (wpAny_mono h₁ (fun _ _ h₂ => Calls.spliced_nil h₂) fun _ _ e => e)) fun _ _ e => e))
theorem cf3 {pos : Pos} {a : Addr} {x y z : Sem Value}
    (h : wpAny (model prg w) A x (fun v s₁ => wpAny (model prg w) A y (fun v' s₂ => wpAny (model prg w) A z (fun v'' s₃ => IsFn s₃.heap a ∧ wpAny (model prg w) A (call (.ref a) [v, v', v'']) Q E s₃) E s₂) E s₁) E s) :
    wpAny (model prg w) A (callWith pos (.ref a) [] [(false, x), (false, y), (false, z)] []) Q E s :=
  cf (Calls.spliced_cons (wpAny_mono h (fun _ _ h₁ => Calls.spliced_cons (wpAny_mono h₁ (fun _ _ h₂ => Calls.spliced_cons (wpAny_mono h₂ (fun _ _ h₃ => Calls.spliced_nil h₃) fun _ _ e => e)) fun _ _ e => e)) fun _ _ e => e))
end

section
variable {w : World} {hs h h' : Heap} {outer : List Env} {env : Env} {L : Addr} {m : Str → Option Value}
/-- the pool grows, all else stays -/
theorem Bd.extPool (B : Bd w hs outer env L h m) (hx : Heap.ExtBut poolA h h') (pl : Pool h') : Bd w hs outer env L h' m := by
  have hLp : L ≠ poolA := fun q => B.lp (by rw [q]; exact List.mem_cons_self ..)
  obtain ⟨ps, ⟨_, _, _, _, _, _, _, _, _, op, _, _, _, _, _, _, _, h8, h9, _⟩, _⟩ := B.pl
  have hnf : ∀ b o, h.get? b = some o → (∀ vs, o.data ≠ .fields vs) → b ≠ poolA := fun b o e hn q => by
    rw [q, h8] at e; injection e with e; subst e; exact hn _ h9
  have keep : (bs hs outer).StaysIn h' := fun b o e => hx b o (fun q => by
    have := (hide_some e).1
    exact this (by rw [q]; exact List.mem_cons_self ..)) (B.fr.keep b o e)
  exact ⟨⟨B.fr.ns.extBut hx hLp, keep, B.fr.above⟩, fun b o e hn => let ⟨sl, e'⟩ := B.up b o e hn; ⟨sl, hx b _ (hnf b _ e' hn) e'⟩,
    funFrames_keeps (fun b o e hn => ⟨o, hx b o (hnf b o e hn) e, hn⟩) B.ff, B.pb, pl, B.ef, B.lo⟩

theorem lsOf_lt {base : Heap} (pl : Pool h) {l : List Env} (ff : h.FunFrames base l) {b : Addr} (hb : b ∈ lsOf l) : b < h.objs.size := by
  rcases List.mem_cons.mp hb with q | q
  · obtain ⟨ps, ⟨_, _, _, _, _, _, _, _, _, op, _, _, _, _, _, _, _, h8, _⟩, _⟩ := pl
    rw [q]; exact Heap.lt_size h8
  · obtain ⟨_, o, e, _⟩ := ff.mem q
    exact Heap.lt_size e
theorem codeRec_notIn {base : Heap} (pl : Pool h) {l : List Env} (ff : h.FunFrames base l) {c : Addr} {q : Str} (hc : h.CodeRec (.ref c) q) : c ∉ lsOf l := by
  obtain ⟨c', o, vs, t, e, ho, hd, hv⟩ := hc
  injection e with e; subst e
  intro hm
  rcases List.mem_cons.mp hm with r | r
  · obtain ⟨ps, ⟨_, _, _, _, _, _, _, _, _, op, _, _, _, _, _, _, _, h8, h9, _⟩, _, hp⟩ := pl
    rw [r, h8] at ho; injection ho with ho; subst ho
    rw [h9] at hd; injection hd with hd; subst hd
    rcases hp with rfl | ⟨_, rfl, _⟩
    · simp at hv
    · simp [rawInt] at hv
  · obtain ⟨_, o', e', hn⟩ := ff.mem r
    rw [ho] at e'; injection e' with e'; subst e'; exact hn _ hd
end

section
variable {w : World} {A : Around} {n : Nat} {outer : List Env} {s : Shared} {hs : Heap} {L : Addr} {m : Str → Option Value} {E : Value → Shared → Prop}

theorem inner_def {Q : Flow → Shared → Prop} (B : Bd w hs outer (envAt (stAt 14) L 117 (.ref 116)) L s.heap m)
    (hQ : ∀ h' tk a cd, Bd w hs outer (envAt (stAt 14) L 117 (.ref 116)) L h' (fun y => if y = "coord_repr" then some (.ref a) else m y) →
      FnAt (bs h' (envAt (stAt 14) L 117 (.ref 116) :: outer)) a innerQ stI cd → Q .next { s with heap := h', toks := tk }) :
    wpAny (model prg w) A (exec stI (envAt (stAt 14) L 117 (.ref 116))) Q E s := by
  obtain ⟨mg, ob, g1, g2, g3, g4, g5, g6⟩ := B.pb.bmod
  have hclos : closureFor (scpOfS stI) (envAt (stAt 14) L 117 (.ref 116)) = pure [] := by rfl
  rw [show exec stI (envAt (stAt 14) L 117 (.ref 116)) = (do
      standAt stI.pos
      let f ← makeTail (nameOfS stI) innerQ (prmOfS stI) (.stmts (bdyOfS stI)) (scpOfS stI) (envAt (stAt 14) L 117 (.ref 116)) .none .none none stI.pos stI.pos.line
      standAt stI.pos
      bindName (envAt (stAt 14) L 117 (.ref 116)) (nameOfS stI) f
      pure .next) from by rfl]
  refine wpAny_bind (wpAny_standAt (wpAny_bind ?_))
  have hdoc : docOf (bdyOfS stI) = none := by rfl
  -- behind the code
  have go : ∀ (h₁ : Heap) (tk : Nat) (c' : Addr), Bd w hs outer (envAt (stAt 14) L 117 (.ref 116)) L h₁ m → h₁.CodeRec (.ref c') innerQ →
      wpAny (model prg w) A (do
        let b ← builtinsFor (envAt (stAt 14) L 117 (.ref 116)).globals (envAt (stAt 14) L 117 (.ref 116)).builtins
        let pm ← nsGet (envAt (stAt 14) L 117 (.ref 116)).globals "__name__"
        newObj (.type "function") (.func ({ name := nameOfS stI, qualname := innerQ, params := prmOfS stI, body := .stmts (bdyOfS stI), scope := scpOfS stI, globals := (envAt (stAt 14) L 117 (.ref 116)).globals, closure := [], closureTuple := .none, defaults := .none, kwdefaults := .none, doc := .none, pyModule := pm.getD .none, annotations := none, code := .ref c', builtins := b } : FuncData)))
        (fun f s₁ => wpAny (model prg w) A (do standAt stI.pos; bindName (envAt (stAt 14) L 117 (.ref 116)) (nameOfS stI) f; pure Flow.next) Q E s₁) E { s with heap := h₁, toks := tk } := by
    intro h₁ tk c' B₁ hc
    refine wpAny_bind (wpAny_builtinsFor (g1.keeps B₁.fr.keep) g2 (by decide) (B₁.fr.keep _ _ g3) g4 g5 g6 ?_)
    refine wpAny_bind (wpAny_nsGet (g1.keeps B₁.fr.keep) ?_)
    refine wpAny_newObj_type ?_ (by size_fits)
    refine wpAny_bind (wpAny_standAt (wpAny_bind (wpAny_bindName ?_)))
    have hpush : ∀ b o, h₁.get? b = some o → (h₁.push { cls := .type "function", data := .func (fnData (nameOfS stI) innerQ (prmOfS stI) (bdyOfS stI) (scpOfS stI) ((mg "__name__").getD .none) (.ref c') .none) }).get? b = some o := fun b o e => Heap.get?_push_of_some _ e
    have B₂ := B₁.keeps hpush
    have hnew := Heap.get?_push_size h₁ (o := ({ cls := .type "function", data := .func (fnData (nameOfS stI) innerQ (prmOfS stI) (bdyOfS stI) (scpOfS stI) ((mg "__name__").getD .none) (.ref c') .none) } : Obj)) rfl
    refine stBs (s := { s with heap := _, toks := tk }) B₂ fun h₂ B₃ hsb => wpAny_pure ?_
    have hc₂ := hc.keeps hpush
    have hLlt : L < h₁.objs.size := B₁.fr.ns.lt
    have hc₃ : h₂.CodeRec (.ref c') innerQ := CodeRec.keepsF hc₂ fun b o vs e hd => by
      have hne : b ≠ L := fun q => by
        obtain ⟨oL, es, ep, hoL, hdL, _⟩ := B₂.fr.ns
        rw [q, hoL] at e; injection e with e; subst e; rw [hdL] at hd; cases hd
      exact (hsb.2 b hne).trans e
    have ha₃ := (hsb.2 h₁.objs.size (Nat.ne_of_gt hLlt)).trans hnew
    refine hQ h₂ _ h₁.objs.size (.ref c') B₃ ⟨_, _, _, hide_of (fun hm => ?_) ha₃, rfl, ?_⟩
    · have hm' : h₁.objs.size ∈ lsOf (envAt (stAt 14) L 117 (.ref 116) :: outer) := hm
      exact Nat.lt_irrefl _ (lsOf_lt B₁.pl B₁.ff hm')
    · have hni := codeRec_notIn B₃.pl B₃.ff hc₃
      obtain ⟨c₁, o, vs, t, e, ho, hd, hv⟩ := hc₃
      injection e with e; subst e
      exact ⟨c', o, vs, t, rfl, hide_of hni ho, hd, hv⟩
  obtain ⟨ps, ic, ta, hp⟩ := id B.pl
  unfold makeTail
  rw [hclos]
  refine wpAny_bind (wpAny_pure (wpAny_bind (wpAny_pure ?_)))
  rcases hp with rfl | ⟨c', rfl, hc⟩
  · refine wpAny_bind (wpAny_functionCodeX rfl ic ta rfl fun c' h' tk hx hge hlt hok' hrec htab _ => ?_)
    refine go h' tk c' (B.extPool hx ⟨_, hok', htab, .inr ⟨c', by rfl, hrec⟩⟩) hrec
  · refine wpAny_bind (wpAny_functionCode_hit (c' := .ref c') rfl ic rfl ?_)
    exact go s.heap s.toks c' B hc
end

section
variable {w : World} {A : Around} {n : Nat} {outer : List Env} {s : Shared} {Q : Value → Shared → Prop} {E : Value → Shared → Prop}

theorem cexc {pos : Pos} {x : Sem Value}
    (h : wpAny (model prg w) A x (fun v s₁ => TomlCls s₁.heap ∧ ∀ h' e, Heap.MadeExcOf s₁.heap h' e (.ref 72) [v] → Q (.ref e) { s₁ with heap := h' }) E s) :
    wpAny (model prg w) A (callWith pos (.ref 72) [] [(false, x)] []) Q E s := by
  unfold callWith
  refine wpAny_bind (wpAny_holding (Calls.evalArgs_plain (Calls.spliced_cons (wpAny_mono h (fun v s₁ h₁ => Calls.spliced_nil ?_) fun _ _ e => e))))
  obtain ⟨⟨nm, q, bs, bm, hdct, sn, sub, ab, col, dd, k0, k1, k2, k3, k5, newId, initId, mN, hC, F, hn, hni, _⟩, hq⟩ := h₁
  refine wpAny_bind (wpAny_standAt ?_)
  obtain ⟨hp, g, d, tk, os⟩ := s₁
  refine wpAny_bind (wpAny_keeperOf_exc hC ?_)
  have call_ : wpAny (model prg w) A (call (.ref 72) [v]) Q E ⟨hp, g, d, tk, os⟩ := wpAny_call_exc_sub F hC hn hni fun h' e hm => hq h' e hm
  exact wpAny_bind (wpAny_mono call_ (fun r s₂ h₂ => wpAny_bind (wpAny_holding (wpAny_point (wpAny_pure h₂)))) fun _ _ e => e)

noncomputable def errTxt (msg : Str) (l : List Nat) (pos : Nat) : Str := msg ++ " (at " ++ coordTxt l pos ++ ")"

theorem coord_len (l : List Nat) (hl : l.length ≤ 1000) (pos : Nat) : (coordTxt l pos).length ≤ 40 := by
  unfold coordTxt
  split
  · decide +kernel
  · have hl1 := scan_line (l.take pos)
    have hl2 : (l.take pos).count 10 ≤ 1000 := Nat.le_trans List.count_le_length (by rw [List.length_take]; omega)
    have hl3 := scan_bound (l.take pos)
    rw [List.length_take] at hl3
    have d1 := decS_len (n := (scan (l.take pos)).1) (by omega)
    have d2 := decS_len (n := (scan (l.take pos)).2) (by omega)
    have c1 : (Str.ofString "line ").length = 5 := by decide +kernel
    have c2 : (Str.ofString ", column ").length = 9 := by decide +kernel
    simp only [Str.length_append]
    omega

theorem suffixed_spec (ok : Ok w A n outer s.heap) (hn : n ≤ 17) (src : Str) (hsz : src.length ≤ 1000) (pos : Nat) (hp : pos ≤ 2000) (msg : Str) (hm : msg.length ≤ 100) {t1 t2 t3 : Tok}
    (hQ : ∀ h₁ h' tk' e t, Eff outer s.heap h₁ → Pool h₁ → Heap.MadeExcOf h₁ h' e (.ref 72) [.str (errTxt msg src.cps.toList pos) t] → Q (.ref e) { s with heap := h', toks := tk' }) :
    wpAny (model prg w) A (call (.ref 117) [.str src t1, .int pos t2, .str msg t3]) Q E s := by
  refine call_fnC (binds := [("src", .str src t1), ("pos", .int pos t2), ("msg", .str msg t3)]) ok (by omega) ok.pb.f_suffixed (fun _ _ _ => by rfl) (by rfl) (fun h₁ B => ?_)
  refine wpAny_execs_cons (inner_def (s := { s with heap := h₁, toks := _ }) B fun h₂ tk a cd B₂ fn₂ => ?_)
  refine wpAny_execs_cons (wpAny_Return_some ?_)
  refine Call_nm1 (gname (s := { s with heap := h₂, toks := _ }) B₂ B₂.pb.tomlerr ?_)
  refine cexc (JoinedStr_many ?_)
  have cl := coord_len src.cps.toList (by rw [Array.length_toList]; exact hsz) pos
  have c1 : (Str.ofString " (at ").length = 5 := by decide +kernel
  have c2 : (Str.ofString ")").length = 1 := by decide +kernel
  have c0 : Str.empty.length = 0 := rfl
  refine joinParts_cons (FormattedValue_plain (ld (s := { s with heap := h₂, toks := _ }) B₂.fr rfl (formatField_str (fun t' tk' => ⟨?_, ?_⟩) (by simp only [sizeLine_eq]; omega))))
  · simp only [Str.length_append, sizeLine_eq]; omega
  refine joinParts_cons (Calls.Constant_str ⟨?_, ?_⟩)
  · simp only [Str.length_append, sizeLine_eq]; omega
  refine joinParts_cons (FormattedValue_plain ?_)
  refine Call_nm2 (ld (s := { s with heap := h₂, toks := _ }) B₂.fr rfl ?_)
  refine cf2 (ld (s := { s with heap := h₂, toks := _ }) B₂.fr rfl (ld (s := { s with heap := h₂, toks := _ }) B₂.fr rfl ⟨fn₂.isFn fun b o e => (hide_some e).2, ?_⟩))
  refine coord_spec (s := { s with heap := h₂, toks := _ }) (B₂.ok ok.fa ok.dep ok.uni) (by omega) fn₂ src hsz pos hp fun h₃ tk₃ t₃ ef₃ pl₃ => ?_
  have B₃ := B₂.after ef₃ pl₃
  refine formatField_str (fun t' tk' => ⟨?_, ?_⟩) (by simp only [sizeLine_eq]; omega)
  · simp only [Str.length_append, sizeLine_eq]; omega
  refine joinParts_cons (Calls.Constant_str ⟨?_, ?_⟩)
  · simp only [Str.length_append, sizeLine_eq]; omega
  refine joinParts_nil ⟨B₃.pb.cls.mono B₃.fr.keep, fun h₄ e hx => ?_⟩ ?_
  · rw [Str.empty_append] at hx
    exact hQ h₃ h₄ _ e _ B₃.eff B₃.pl hx
  · simp only [Str.length_append, sizeLine_eq]; omega
end
end Mine
end

noncomputable section -- NbUntil
open PySem PySem.W PyProof.Rows
open PySem.Builtin PySem.Builtin.Str
set_option maxRecDepth 100000
namespace Mine

section
variable {w : World} {A : Around} {s : Shared} {E : Value → Shared → Prop} {env : Env}

theorem raise_plain {b : Heap} {x : Expr} {pos : Pos} {Q : Flow → Shared → Prop} (cls : TomlCls b) (hh : A.handled = none)
    (h : wpAny (model prg w) A (eval x env) (fun v s₁ => ∃ e t, v = .ref e ∧ b.StaysIn s₁.heap ∧
      s₁.heap.get? e = some { cls := .ref 72, data := .fields #[.ref t, .none, .none, .none, .bool false, .none] } ∧ E (.ref e) s₁) E s) :
    wpAny (model prg w) A (exec (.Raise (some x) none pos) env) Q E s := by
  obtain ⟨nm, q, bs', bm, hdct, sn, sub, ab, col, dd, k0, k1, k2, k3, k5, newId, initId, mN, hC, F, hn, hni, _⟩ := cls
  rw [arm_exec_Raise]
  refine wpAny_bind (wpAny_standAt ?_)
  refine wpAny_raiseStmt_made_sub (C := 72) (nm := nm) (q := q) (N := 71) (bs := bs') (bm := bm) (hdct := hdct) (sn := sn) (sub := sub) (ab := ab) (col := col) (dd := dd) (k0 := k0) (k1 := k1) (k2 := k2) (k3 := k3) (k5 := k5) (newId := newId) F.hasBase hh ?_
  refine wpAny_bind (wpAny_mono h (fun v s₁ h₁ => wpAny_bind (wpAny_standAt (wpAny_pure ?_))) fun _ _ x => x)
  obtain ⟨e, t, rfl, k, he, hE⟩ := h₁
  exact ⟨e, t, rfl, k _ _ hC, he, hE⟩

theorem raise_from {b : Heap} {x : Expr} {pos cp : Pos} {ck : Nat} {e₀ : Addr} {Q : Flow → Shared → Prop} (cls : TomlCls b) (hd : A.handled = some (.ref e₀))
    (h : wpAny (model prg w) A (eval x env) (fun v s₁ => ∃ e t oe₀ vs₀, v = .ref e ∧ e₀ ≠ e ∧ b.StaysIn s₁.heap ∧ b.get? e = none ∧
      s₁.heap.get? e = some { cls := .ref 72, data := .fields #[.ref t, .none, .none, .none, .bool false, .none] } ∧ s₁.heap.get? e₀ = some oe₀ ∧ oe₀.data = .fields vs₀ ∧ vs₀[2]? = some .none ∧
      ∀ h', (∀ c o, c ≠ e → s₁.heap.get? c = some o → h'.get? c = some o) → h'.get? e = some { cls := .ref 72, data := .fields #[.ref t, .none, .ref e₀, .none, .bool true, .none] } → E (.ref e) { s₁ with heap := h' }) E s) :
    wpAny (model prg w) A (exec (.Raise (some x) (some (.Constant .none ck cp)) pos) env) Q E s := by
  obtain ⟨nm, q, bs', bm, hdct, sn, sub, ab, col, dd, k0, k1, k2, k3, k5, newId, initId, mN, hC, F, hn, hni, _⟩ := cls
  have hcB : (Value.ref 72 :: bm).contains (.type "BaseException") = true := by rw [List.contains_cons, F.hasBase, Bool.or_true]
  rw [arm_exec_Raise]
  refine wpAny_bind (wpAny_standAt ?_)
  show wpAny _ _ (raiseStmt env (some (do let v ← eval x env; standAt pos; pure v)) (some (do let v ← (pure Value.none : Sem Value); standAt pos; pure v))) _ _ _
  unfold raiseStmt
  refine wpAny_bind (wpAny_bind (wpAny_mono h (fun v s₁ h₁ => wpAny_bind (wpAny_standAt (wpAny_pure ?_))) fun _ _ x => x))
  obtain ⟨e, t, oe₀, vs₀, rfl, hne, k, hbe, he, he₀, hd₀, hv₀, hE⟩ := h₁
  have hC₁ := k _ _ hC
  obtain ⟨hp, g, d, tk, os⟩ := s₁
  refine wpAny_bind (wpAny_holding (wpAny_bind (wpAny_pure (wpAny_bind (wpAny_standAt (wpAny_pure (wpAny_bind (wpAny_pure ?_))))))))
  have hx : ∀ (Q' : Value → Shared → Prop), Q' (.ref e) ⟨hp, g, d, tk, os⟩ → wpAny (model prg w) A (excFromValue (.ref e) "exceptions must derive from BaseException") Q' E ⟨hp, g, d, tk, os⟩ := by
    intro Q' hq
    unfold excFromValue isExcClass
    repeat (first | with_reducible refine wpAny_loadPart_at he ?_ | with_reducible refine wpAny_loadPart_at hC₁ ?_ | (with_reducible refine wpAny_isSubtype_exc hC₁ ?_; rw [hcB]) | wp_step)
    exact hq
  refine wpAny_bind (wpAny_holding (hx _ ?_))
  dsimp only
  rw [if_pos (by decide)]
  refine wpAny_bind (wpAny_pure ?_)
  refine wpAny_bind (wpAny_setField he rfl (show 3 < 6 by decide) ?_)
  have he1 := Heap.get?_update_self (Obj.mapFields (·.setIfInBounds 3 Value.none)) he rfl
  refine wpAny_bind (wpAny_setField he1 rfl (show 4 < 6 by decide) ?_)
  have he2 := Heap.get?_update_self (Obj.mapFields (·.setIfInBounds 4 (Value.bool true))) he1 rfl
  generalize hh2 : (hp.update e (Obj.mapFields (·.setIfInBounds 3 Value.none))).update e (Obj.mapFields (·.setIfInBounds 4 (Value.bool true))) = h2 at he2 ⊢
  have o2 : ∀ c o, c ≠ e → hp.get? c = some o → h2.get? c = some o := fun c o hc q => by
    rw [← hh2, Heap.get?_update_other _ _ (Ne.symm hc), Heap.get?_update_other _ _ (Ne.symm hc)]; exact q
  have hne72 : (72 : Addr) ≠ e := fun z => by rw [← z, hC] at hbe; cases hbe
  have hC₂ := o2 _ _ hne72 hC₁
  have he3 : h2.get? e = some { cls := .ref 72, data := .fields #[.ref t, .none, .none, .none, .bool true, .none] } := he2
  dsimp only
  have hty : ∀ (Q' : Bool → Shared → Prop), Q' false ⟨h2, g, d, tk, os⟩ → wpAny (model prg w) A (isType (Value.ref e)) Q' E ⟨h2, g, d, tk, os⟩ := by
    intro Q' hq
    repeat (first | with_reducible refine wpAny_loadPart_at he3 ?_ | with_reducible refine wpAny_loadPart_at hC₂ ?_ | (with_reducible refine wpAny_isSubtype_exc hC₂ ?_; rw [hcB]) | wp_step)
    exact hq
  refine wpAny_bind (hty _ ?_)
  rw [if_neg (by decide)]
  have hri : ∀ (Q' : Value → Shared → Prop), Q' (.ref e) ⟨h2, g, d, tk, os⟩ → wpAny (model prg w) A (raisedInstance (Value.ref e)) Q' E ⟨h2, g, d, tk, os⟩ := by
    intro Q' hq
    unfold raisedInstance
    repeat (first | with_reducible refine wpAny_loadPart_at he3 ?_ | with_reducible refine wpAny_loadPart_at hC₂ ?_ | (with_reducible refine wpAny_isSubtype_exc hC₂ ?_; rw [hcB]) | wp_step)
    exact hq
  refine wpAny_bind (hri _ ?_)
  unfold setFlight
  refine wpAny_bind (wpAny_bind (wpAny_field (x := .none) he3 rfl rfl ?_))
  rw [if_neg (by decide)]
  refine wpAny_pure ?_
  unfold raiseNew
  refine wpAny_bind (wpAny_handled ?_)
  rw [hd]
  dsimp only
  rw [if_pos (show (Value.ref e₀ != Value.ref e) = true from by simpa using hne)]
  have he₀2 := o2 _ _ hne he₀
  refine wpAny_bind (wpAny_holding (wpAny_runValue (codeAny_builtin (b := Builtin.«proto.unchain») (entryFor_of_tree (by kernel_rfl)) ?_)))
  unfold Builtin.«proto.unchain»
  refine wpAny_bind (wpAny_field he₀2 hd₀ hv₀ ?_)
  rw [if_pos (by decide)]
  refine wpAny_bind (wpAny_pure (wpAny_pure ?_))
  unfold updateField
  refine wpAny_bind (wpAny_bind (wpAny_load he3 ?_))
  dsimp only
  rw [if_pos (by simp)]
  refine wpAny_update he3 (wpAny_throw (hE _ (fun c o hc q => ?_) ?_))
  · rw [Heap.get?_update_other _ _ (Ne.symm hc)]; exact o2 c o hc q
  · exact Heap.get?_update_self _ he3 rfl
end
end Mine
end

noncomputable section -- NbSet
open PySem PySem.W PyProof.Rows
open PySem.Builtin PySem.Builtin.Str
set_option maxRecDepth 100000
namespace Mine

/-! ## slices -/
noncomputable def sub (l : List Nat) (a b : Nat) : List Nat := (l.drop a).take (b - a)
noncomputable def S (l : List Nat) : Str := ⟨l.toArray⟩

theorem clip_nat (a n : Nat) : max (0 : Int) (min (a : Int) (n : Int)) = ((min a n : Nat) : Int) := by
  rcases Nat.le_total a n with h | h
  · rw [Nat.min_eq_left h, Int.min_eq_left (Int.ofNat_le.mpr h), Int.max_eq_right (Int.natCast_nonneg a)]
  · rw [Nat.min_eq_right h, Int.min_eq_right (Int.ofNat_le.mpr h), Int.max_eq_right (Int.natCast_nonneg n)]
theorem span_nat (m n : Nat) : (((n : Int) - (m : Int) + 1 - 1) / 1).toNat = n - m := by
  rw [Int.ediv_one]; omega
theorem spot_nat (m k : Nat) : ((m : Int) + 1 * (k : Int)).toNat = m + k := by omega
theorem indices_nat {a b len : Nat} : strSliceIndices (some (a : Int)) (some (b : Int)) 1 len = (List.range (min b len - min a len)).map (fun k => min a len + k) := by
  have h1 : ¬ ((a : Int) < 0) := Int.not_lt.mpr (Int.natCast_nonneg a)
  have h2 : ¬ ((b : Int) < 0) := Int.not_lt.mpr (Int.natCast_nonneg b)
  simp only [strSliceIndices, sliceRange, h1, h2, if_false, clip_nat, show ((1 : Int) > 0) = True from by simp, if_true]
  generalize min a len = m
  generalize min b len = n
  by_cases hlt : (m : Int) < (n : Int)
  · simp only [hlt, if_true, span_nat]
    exact List.map_congr_left fun k _ => spot_nat m k
  · have : n - m = 0 := Nat.sub_eq_zero_of_le (Int.ofNat_le.mp (Int.not_lt.mp hlt))
    simp [hlt, this]
theorem indices_to {b len : Nat} : strSliceIndices none (some (b : Int)) 1 len = strSliceIndices (some ((0 : Nat) : Int)) (some (b : Int)) 1 len := by
  simp only [strSliceIndices]
  have e : max (0 : Int) (min (if ((0 : Nat) : Int) < 0 then ((0 : Nat) : Int) + (len : Int) else ((0 : Nat) : Int)) (len : Int)) = 0 := by
    rw [if_neg (by omega)]; omega
  simp only [show ((1 : Int) > 0) = True from by simp, if_true, e]

theorem min_sub_min (a b n : Nat) : min b n - min a n = min (b - a) (n - a) := by
  rcases Nat.le_total a n with ha | ha
  · rw [Nat.min_eq_left ha]
    rcases Nat.le_total b n with hb | hb
    · rw [Nat.min_eq_left hb, Nat.min_eq_left (Nat.sub_le_sub_right hb a)]
    · rw [Nat.min_eq_right hb, Nat.min_eq_right (Nat.sub_le_sub_right hb a)]
  · rw [Nat.min_eq_right ha, Nat.sub_eq_zero_of_le ha, Nat.min_zero]
    exact Nat.sub_eq_zero_of_le (Nat.min_le_right b n)
theorem picked {x : Str} {a b : Nat} : (strSliceIndices (some (a : Int)) (some (b : Int)) 1 x.length).filterMap (x.cps[·]?) = sub x.cps.toList a b := by
  have hl : x.cps.toList.length = x.length := Array.length_toList
  rw [indices_nat, ← hl]
  have hf : (fun i : Nat => x.cps[i]?) = fun i : Nat => x.cps.toList[i]? := by funext i; exact Array.getElem?_toList.symm
  rw [hf]
  generalize x.cps.toList = l
  rcases Nat.le_total a l.length with ha | ha
  · rw [Nat.min_eq_left ha]
    unfold sub
    rcases Nat.le_total b l.length with hb | hb
    · rw [Nat.min_eq_left hb]
      exact StrLaws.picks l (b - a) a (by rcases Nat.le_total a b with h | h; (rw [Nat.add_sub_cancel' h]; exact hb); (rw [Nat.sub_eq_zero_of_le h]; exact ha))
    · rw [Nat.min_eq_right hb, StrLaws.picks l (l.length - a) a (by rw [Nat.add_sub_cancel' ha]; exact Nat.le_refl _)]
      rw [List.take_of_length_le (by rw [List.length_drop]; exact Nat.le_refl _), List.take_of_length_le (by rw [List.length_drop]; exact Nat.sub_le_sub_right hb a)]
  · rw [Nat.min_eq_right ha, Nat.sub_eq_zero_of_le (Nat.min_le_right b l.length)]
    unfold sub
    rw [List.drop_eq_nil_of_le ha, List.take_nil]; rfl
theorem picked_len {x : Str} {a b : Nat} : (strSliceIndices (some (a : Int)) (some (b : Int)) 1 x.length).length = (sub x.cps.toList a b).length := by
  have hl : x.cps.toList.length = x.length := Array.length_toList
  rw [indices_nat, List.length_map, List.length_range]
  unfold sub
  rw [List.length_take, List.length_drop, hl]
  exact min_sub_min a b _
theorem sub_whole {x : Str} {a b : Nat} (h : (sub x.cps.toList a b).length = x.length) : S (sub x.cps.toList a b) = x := by
  have hl : x.cps.toList.length = x.length := Array.length_toList
  have : sub x.cps.toList a b = x.cps.toList := by
    have hs : (sub x.cps.toList a b).Sublist x.cps.toList := (List.take_sublist _ _).trans (List.drop_sublist _ _)
    exact hs.eq_of_length (by omega)
  rw [this]; unfold S; simp

theorem slice_post {x : Str} {t ta tb : Tok} {a b : Nat} {s : Shared} {Q : Value → Shared → Prop} (hsz : x.length ≤ sizeLine) (h : ∀ t' k, Q (.str (S (sub x.cps.toList a b)) t') { s with toks := k }) :
    (sliceMade x t (some ((a : Int), ta)) (some ((b : Int), tb)) none).post Q s := by
  unfold sliceMade
  have e : slicePicked x (some ((a : Int), ta)) (some ((b : Int), tb)) none = strSliceIndices (some (a : Int)) (some (b : Int)) 1 x.length := rfl
  rw [e, picked, picked_len]
  split
  · rename_i hc
    simp only [Option.map_none, Option.getD_none, beq_self_eq_true, Bool.true_and, beq_iff_eq] at hc
    have := h t s.toks
    rw [sub_whole hc] at this
    exact this
  · refine ⟨?_, h _ _⟩
    have hl : x.cps.toList.length = x.length := Array.length_toList
    show (sub x.cps.toList a b).toArray.size ≤ sizeLine
    rw [List.size_toArray]
    have hs : (sub x.cps.toList a b).Sublist x.cps.toList := (List.take_sublist _ _).trans (List.drop_sublist _ _)
    have := hs.length_le
    omega
theorem slice_post0 {x : Str} {t tb : Tok} {b : Nat} {s : Shared} {Q : Value → Shared → Prop} (hsz : x.length ≤ sizeLine) (h : ∀ t' k, Q (.str (S (sub x.cps.toList 0 b)) t') { s with toks := k }) :
    (sliceMade x t none (some ((b : Int), tb)) none).post Q s := by
  have := slice_post (t := t) (ta := 0) (tb := tb) (a := 0) (b := b) hsz h
  unfold sliceMade at this ⊢
  have e : slicePicked x none (some ((b : Int), tb)) none = slicePicked x (some (((0 : Nat) : Int), 0)) (some ((b : Int), tb)) none := indices_to
  rw [e]; exact this

/-! ## isdisjoint of a frozenset and a text -/
theorem plainAttrs_frozenset : PlainAttrs "frozenset" :=
  ⟨⟨"object.__getattribute__", by rw [typeLookup_type, builtinLookup_eq_fast]; kernel_rfl, by decide +kernel⟩, by rw [typeLookup_type, builtinLookup_eq_fast]; kernel_rfl⟩
theorem slot_isdisjoint : Slot "frozenset" "isdisjoint" "frozenset.isdisjoint" :=
  .of (owner := "frozenset") (n := "isdisjoint") (by rw [typeLookup_type, builtinLookup_eq_fast]; kernel_rfl) (by decide +kernel) (by decide +kernel) (by decide +kernel)
    (by first | exact .inl (by decide +kernel) | exact .inr (by decide +kernel)) (by rw [isSubtype_type]; kernel_rfl)
theorem type_isdisjoint : typeOf (.builtin "frozenset.isdisjoint") = pure (.type "method_descriptor") := by show builtinType _ = _; rw [builtinType_eq_fast]; kernel_rfl
theorem entry_isdisjoint : entryFor table "frozenset.isdisjoint" = some Builtin.«frozenset.isdisjoint» := entryFor_of_tree (by kernel_rfl)
theorem entry_isdisjoint_loop : entryFor table "frozenset.isdisjoint.loop" = some Builtin.«frozenset.isdisjoint.loop» := entryFor_of_tree (by kernel_rfl)
theorem plain_isdisjoint_loop : plainId "frozenset.isdisjoint.loop" = true := by decide +kernel
theorem args_isdisjoint_2 (a b : Value) : argsOk "frozenset.isdisjoint" ⟨[a, b], []⟩ := by
  unfold argsOk; rw [signature?_of (id := "frozenset.isdisjoint") (n := ['t', 'n', 'i', 'o', 'j', 's', 'i', 'd', 's', 'i']) (o := ['t', 'e', 's', 'n', 'e', 'z', 'o', 'r', 'f']) (by kernel_rfl) PySem.W.FB.owner_frozenset]; kernel_rfl

section
variable {w : World} {A : Around} {E : Value → Shared → Prop} {s : Shared} {a : Addr} {p : Nat → Bool} {n : Nat}

theorem contains_froz {c : Nat} {u : Tok} {Q : Bool → Shared → Prop} (hS : FrozAt (PySem.strKind prg w) s.heap a (one p) n) (hb : n < 4096) (h : Q (p c) { s with toks := s.toks + 1 }) :
    wpAny (model prg w) A (setContains a (.str ⟨#[c]⟩ u)) Q E s := by
  obtain ⟨es, ep, t, ho, hel, hmem, hn, hf⟩ := hS
  unfold setContains
  refine wpAny_holding ?_
  refine wpAny_bind ((PySem.strKind prg w).pyHash (k := ⟨#[c]⟩) (isStr_self _ _ _) ?_)
  refine wpAny_bind (setFind_any (s := { s with toks := s.toks + 1 }) (knd := PySem.strKind prg w) (k := ⟨#[c]⟩) (isStr_self _ _ _) rfl ho rfl hel hmem (by rw [hn]; exact hb) hf fun r hr => ?_)
  refine wpAny_pure ?_
  rw [hr]; exact h

theorem disjoint_loop {R : Result → Shared → Prop} {x : Str} {I : Addr} {St : Nat → Heap → Prop} (hb : n < 4096) (hIa : a ≠ I)
    (W : Walks prg w A.in1 I [I] [I] x.cps.size (SignAt x) St) :
    ∀ (k i : Nat) (s : Shared), x.cps.size - i = k → i ≤ x.cps.size → St i s.heap → FrozAt (PySem.strKind prg w) s.heap a (one p) n →
      (∀ h' tk, (∀ b o, b ≠ I → s.heap.get? b = some o → h'.get? b = some o) → R (.ok (.ret (.bool ((x.cps.toList.drop i).all fun c => !p c)))) { s with heap := h', toks := tk }) →
      codeAny (model prg w) A (.builtin "frozenset.isdisjoint.loop" ⟨[.ref a, .ref I], []⟩) R s := by
  intro k
  induction k with
  | zero =>
    intro i s hk hi hst hS hR
    have hin : i = x.cps.size := by omega
    subst hin
    refine codeAny_builtin entry_isdisjoint_loop ?_
    rw [Around.under_plainId plain_isdisjoint_loop _]
    show wpAny _ A.in1 (pyNext (.ref I) >>= _) _ _ s
    refine wpAny_bind (W.done s _ _ hst fun h' tk hm => ?_)
    show wpAny _ A.in1 (ret (Value.bool true)) _ _ _
    have := hR h' tk fun b o hne e => hm b o (by simpa using hne) e
    rw [List.drop_eq_nil_of_le (by rw [Array.length_toList]; exact Nat.le_refl _)] at this
    exact wpAny_pure this
  | succ k ih =>
    intro i s hk hi hst hS hR
    have hlt : i < x.cps.size := by omega
    refine codeAny_builtin entry_isdisjoint_loop ?_
    rw [Around.under_plainId plain_isdisjoint_loop _]
    show wpAny _ A.in1 (pyNext (.ref I) >>= _) _ _ s
    refine wpAny_bind (W.item i s _ _ hlt hst fun v h' tk hP hst' hm => ?_)
    obtain ⟨c, u, hc, rfl⟩ := hP
    have hS' : FrozAt (PySem.strKind prg w) h' a (one p) n := by
      obtain ⟨es, ep, t, ho, r⟩ := hS
      exact ⟨es, ep, t, hm a _ (by simpa using hIa) ho, r⟩
    have hdrop : x.cps.toList.drop i = c :: x.cps.toList.drop (i + 1) := by
      have hl : i < x.cps.toList.length := by rw [Array.length_toList]; exact hlt
      rw [List.drop_eq_getElem_cons hl]
      congr 1
      have : x.cps.toList[i]? = some c := by rw [Array.getElem?_toList]; exact hc
      exact (List.getElem?_eq_some_iff.mp this).2
    show wpAny _ A.in1 (holding [Value.str ⟨#[c]⟩ u] (setContains a (.str ⟨#[c]⟩ u)) >>= _) _ _ { s with heap := h', toks := tk }
    refine wpAny_bind (wpAny_holding (contains_froz (s := { s with heap := h', toks := tk }) hS' hb ?_))
    cases hpc : p c with
    | true =>
      have := hR h' (tk + 1) fun b o hne e => hm b o (by simpa using hne) e
      rw [hdrop, List.all_cons, hpc] at this
      exact wpAny_pure this
    | false =>
      refine wpAny_pure ⟨plainId_quiet plain_isdisjoint_loop _, ih (i + 1) _ (by omega) (by omega) hst' hS' fun h'' tk'' hm' => ?_⟩
      have := hR h'' tk'' fun b o hne e => hm' b o hne (hm b o (by simpa using hne) e)
      rw [hdrop, List.all_cons, hpc] at this
      simpa using this

theorem isdisjoint_call {x : Str} {t : Tok} {Q : Value → Shared → Prop} (hh : A.handled = none) (hS : FrozAt (PySem.strKind prg w) s.heap a (one p) n) (hb : n < 4096)
    (h : ∀ h' tk, (∀ b o, s.heap.get? b = some o → h'.get? b = some o) → Q (.bool (x.cps.toList.all fun c => !p c)) { s with heap := h', toks := tk }) :
    wpAny (model prg w) A (call (.builtin "frozenset.isdisjoint") [.ref a, .str x t]) Q E s := by
  obtain ⟨es, ep, tb, ho, r⟩ := id hS
  have hT : s.TypeIs (.ref a) "frozenset" := ⟨_, ho, rfl⟩
  refine wpAny_call (codeAny_call_builtin slot_isdisjoint.plain entry_isdisjoint (slot_isdisjoint.check _ _ _ _ _ _ _ _ hT (args_isdisjoint_2 _ _) ?_))
  unfold Builtin.«frozenset.isdisjoint» Builtin.Frozenset.oneOther
  simp only [List.isEmpty_nil, bind_assoc]
  unfold Builtin.Frozenset.addrOf
  refine wpAny_bind (wpAny_pure ?_)
  try dsimp only
  refine wpAny_bind (wpAny_pure ?_)
  try dsimp only
  rw [if_neg (by simp)]
  refine wpAny_bind (wpAny_typeOf (typeIs_str _ x t) ?_)
  rw [if_neg (by decide)]
  refine wpAny_bind (wpAny_pyIter_str fun o St W hst => wpAny_pure ⟨plainId_quiet plain_isdisjoint_loop _, ?_⟩)
  have hlt := Heap.lt_size ho
  refine disjoint_loop (x := x) (p := p) (n := n) hb (Nat.ne_of_lt hlt) (W _ hh) x.cps.size 0 _ (by omega) (by omega) hst (FrozAt.mono hS fun b o e => Heap.get?_push_of_some _ e) fun h' tk hm => ?_
  rw [List.drop_zero]
  exact h h' tk fun b o e => hm b o (Nat.ne_of_lt (Heap.lt_size e)) (Heap.get?_push_of_some _ e)
end
end Mine
end

noncomputable section -- NbUntil2
open PySem PySem.W PyProof.Rows
open PySem.Builtin PySem.Builtin.Str
set_option maxRecDepth 100000
namespace Mine

inductive Out where
  | val (v : Nat)
  | err (msg : Str)

noncomputable def expMsg (c : Nat) : Str := "Expected " ++ reprText ⟨#[c]⟩
noncomputable def badMsg (c : Nat) : Str := "Found invalid character " ++ reprText ⟨#[c]⟩
noncomputable def nextBad (l : List Nat) (pos : Nat) : Nat := skipFrom (fun c => !badC c) l pos
noncomputable def untilOut (c : Nat) (eof : Bool) (l : List Nat) (pos : Nat) : Out :=
  if l.length ≤ nextC c l pos ∧ eof = true then .err (errTxt (expMsg c) l l.length)
  else if nextBad l pos < min (nextC c l pos) l.length then .err (errTxt (badMsg (l.getD (nextBad l pos) 0)) l (nextBad l pos))
  else .val (min (nextC c l pos) l.length)

theorem sub_clean {l : List Nat} {pos q : Nat} (hq : q ≤ l.length) : ((sub l pos q).all fun c => !badC c) = true ↔ ¬ nextBad l pos < q := by
  constructor
  · intro h hb
    have hge : pos ≤ nextBad l pos := skip_ge
    obtain ⟨c, hc, hp⟩ := skip_found (p := fun c => !badC c) (l := l) (lo := pos) (by show nextBad l pos < l.length; omega)
    have hin : c ∈ sub l pos q := by
      have e : (sub l pos q)[nextBad l pos - pos]? = some c := by
        unfold sub
        rw [List.getElem?_take, if_pos (by omega), List.getElem?_drop, show pos + (nextBad l pos - pos) = nextBad l pos by omega]
        exact hc
      exact List.mem_of_getElem? e
    have := List.all_eq_true.mp h c hin
    rw [this] at hp; cases hp
  · intro h
    rw [List.all_eq_true]
    intro c hc
    obtain ⟨k, hk, e⟩ := List.getElem_of_mem hc
    have e' : (sub l pos q)[k]? = some c := by rw [← e]; exact List.getElem?_eq_getElem _
    unfold sub at e'
    rw [List.getElem?_take] at e'
    split at e'
    · rename_i hkq
      rw [List.getElem?_drop] at e'
      exact skip_before (p := fun c => !badC c) (lo := pos) (k := pos + k) (by omega) (by show pos + k < nextBad l pos; omega) e'
    · cases e'

/-- a fault in flight behind a call of the program's own -/
noncomputable def FlyB (outer : List Env) (hs h' : Heap) (e : Addr) (msg : Str) : Prop :=
  ∃ b t tt, (bs hs outer).StaysIn b ∧ Pool b ∧ Heap.FlyingW b outer e (.ref 72) (.ref t) h' ∧ h'.TupAt t [.str msg tt] ∧ hs.UpToSlots h'

section
variable {w : World} {hs h hr h' : Heap} {outer : List Env} {env : Env} {L : Addr} {m : Str → Option Value} {e T : Addr} {oe : Obj} {vs : Array Value}

theorem mkFlyB {t : Addr} {msg : Str} {tt : Tok} (B : Bd w hs outer env L h m) (r : Raw h hr e oe vs) (hcls : oe.cls = .ref 72) (hv : vs[0]? = some (.ref t)) (htn : h.get? t = none) (ht : hr.TupAt t [.str msg tt])
    (x : Fl (env :: outer) hr h' e T oe vs .none) : FlyB outer hs h' e msg := by
  have hb : (hide h (frs (env :: outer))).StaysIn h := fun b o q => (hide_some q).2
  have fl := x.flying r hb (ff_hide B.ff _ fun _ q => q) hv
  refine ⟨hide h (frs (env :: outer)), t, tt, fun b o q => hide_of (fun hm => ?_) (B.fr.keep b o q), B.pl.keepsF fun b o ws q hd => hide_of (ff_rec B.ff q hd) q, ?_, ?_, B.up.trans (x.eff r).up⟩
  · unfold frs at hm
    rw [List.filterMap_cons, B.ef] at hm
    rcases List.mem_cons.mp hm with z | z
    · rw [z, B.new] at q; cases q
    · exact (hide_some q).1 (List.mem_cons_of_mem _ z)
  · obtain ⟨f1, f2, ⟨_, _, f3⟩, f4⟩ := fl
    rw [hcls] at f4
    exact ⟨f1, f2, f3, f4⟩
  · obtain ⟨o, n, ho, hc, hd⟩ := ht
    refine ⟨o, n, x.keep t o (fun z => ?_) (fun hm => ?_) ho, hc, hd⟩
    · rw [z, r.at_] at ho; injection ho with ho; subst ho; rw [r.dat] at hd; cases hd
    · obtain ⟨_, o', q, _⟩ := B.ff.mem hm
      rw [htn] at q; cases q

theorem FlyB.eff {msg : Str} (x : FlyB outer hs h' e msg) : Eff outer hs h' ∧ Pool h' := by
  obtain ⟨b, t, tt, k1, k2, k3, k4, k5⟩ := x
  exact ⟨⟨fun c o q => k3.1 c o (k1 c o q), k5⟩, k2.keeps k3.1⟩

/-- it goes on through a frame -/
theorem FlyB.leave {A : Around} {M : Model} {E : Value → Shared → Prop} {s : Shared} {Q : Unit → Shared → Prop} {msg : Str} (B : Bd w hs outer env L h m) (fa : A.frames = some (env :: outer))
    (x : FlyB (env :: outer) h s.heap e msg) (hQ : ∀ h', FlyB outer hs h' e msg → Q () { s with heap := h' }) : wpAny M A (leaving env (.ref e)) Q E s := by
  obtain ⟨b, t, tt, k1, k2, k3, k4, k5⟩ := x
  refine wpAny_leaves_onW fa B.ef k3 fun h' hf hu => hQ h' ⟨b, t, tt, fun c o q => k1 c o (B.base c o q), k2, hf, k4.of_slots hu, (B.up.trans k5).trans hu⟩
end

theorem Ok.mark {w : World} {A : Around} {n : Nat} {outer : List Env} {h : Heap} (x : Ok w A n outer h) (v : Option Value) : Ok w (A.mark v) n outer h := ⟨x.fa, x.dep, x.uni, x.ff, x.pb, x.pl⟩

section
variable {A : Around} {M : Model} {E : Value → Shared → Prop} {s : Shared} {Q : Unit → Shared → Prop} {env : Env} {outer : List Env} {L : Addr} {h hr base : Heap} {e T : Addr} {oe : Obj} {vs : Array Value}
theorem leave_raw (fa : A.frames = some (env :: outer)) (ff : h.FunFrames base (env :: outer)) (ef : env.frame = some L) (r : Raw h s.heap e oe vs)
    (hQ : ∀ h' T, Fl (env :: outer) s.heap h' e T oe vs .none → Q () { s with heap := h' }) : wpAny M A (leaving env (.ref e)) Q E s := by
  unfold leaving
  refine wpAny_bind (note0 fa ff ef r fun h' T x => ?_)
  exact flight0 (s := { s with heap := h' }) ff r x fun h'' x' => hQ h'' T x'
theorem leave_held (ff : h.FunFrames base (env :: outer)) (ef : env.frame = some L) (r : Raw h hr e oe vs) (x : Fl (env :: outer) hr s.heap e T oe vs (rawInt L))
    (hQ : ∀ h', Fl (env :: outer) hr h' e T oe vs .none → Q () { s with heap := h' }) : wpAny M A (leaving env (.ref e)) Q E s := by
  unfold leaving
  refine wpAny_bind (note1 ef r x ?_)
  exact flight0 ff r x hQ
end

theorem Raw.of_made {h hr : Heap} {e : Addr} {args : List Value} (x : Heap.MadeExcOf h hr e (.ref 72) args) : ∃ t, Raw h hr e { cls := .ref 72, data := .fields #[.ref t, .none, .none, .none, .bool false, .none] } #[.ref t, .none, .none, .none, .bool false, .none] ∧ h.get? t = none ∧ hr.TupAt t args := by
  obtain ⟨t, h1, h2, h3⟩ := x.there
  exact ⟨t, ⟨x.keeps, x.new, h1, rfl, rfl⟩, h2, _, _, h3, rfl, rfl⟩

theorem sub_ve_be : isSubtype (.type "ValueError") (.type "BaseException") = pure true := by rw [isSubtype_type]; kernel_rfl
theorem sub_ve_self : isSubtype (.type "ValueError") (.type "ValueError") = pure true := by rw [isSubtype_type]; kernel_rfl
theorem ve_notuple : isSubtype (.type ((Manifest.find? "ValueError").elim "type" fun x => x.metatype)) (.type "tuple") = pure false := by rw [isSubtype_type]; kernel_rfl

theorem repr1_len {c : Nat} (hc : c < 16 ^ 8) : (reprText ⟨#[c]⟩).length ≤ 12 := StrLaws.reprText_len ⟨#[c]⟩ (by simpa using hc)

end Mine
end

noncomputable section -- NbUntil3
open PySem PySem.W PyProof.Rows
open PySem.Builtin PySem.Builtin.Str
set_option maxRecDepth 100000
namespace Mine

section
variable {w : World} {A : Around} {n : Nat} {outer : List Env} {s : Shared} {Q : Value → Shared → Prop} {E : Value → Shared → Prop}

theorem notIn_ls {h base : Heap} {l : List Env} (pl : Pool h) (ff : h.FunFrames base l) {e : Addr} {o : Obj} {vs : Array Value} (ho : h.get? e = some o) (hd : o.data = .fields vs) (hc : o.cls ≠ .none) : e ∉ lsOf l := fun hm => by
  rcases List.mem_cons.mp hm with r | r
  · obtain ⟨ps, _, ⟨_, h5⟩, _⟩ := pl
    rw [r, h5] at ho; injection ho with ho; subst ho; exact hc rfl
  · exact ff_rec ff ho hd r

theorem skip_until_spec (ok : Ok w A n outer s.heap) (hn : n ≤ 15) (hh : A.handled = none) (src : Str) (hsz : src.length ≤ 1000) (hcp : ∀ c ∈ src.cps.toList, c < 16 ^ 8) (pos : Nat) (hp : pos ≤ 1500) (c : Nat) (hc : c < 16 ^ 8) (eof : Bool) {t1 t2 t3 : Tok}
    (hQ : ∀ v, untilOut c eof src.cps.toList pos = .val v → ∀ h' tk' t, Eff outer s.heap h' → Pool h' → Q (.int (v : Nat) t) { s with heap := h', toks := tk' })
    (hE : ∀ msg, untilOut c eof src.cps.toList pos = .err msg → ∀ h' tk' e, FlyB outer s.heap h' e msg → E (.ref e) { s with heap := h', toks := tk' }) :
    wpAny (model prg w) A (call (.ref 89) [.str src t1, .int pos t2, .str ⟨#[c]⟩ t3] [("error_on", .ref 53), ("error_on_eof", .bool eof)]) Q E s := by
  refine call_fn (binds := [("src", .str src t1), ("pos", .int pos t2), ("expect", .str ⟨#[c]⟩ t3), ("error_on", .ref 53), ("error_on_eof", .bool eof)]) ok (by omega) ok.pb.f_skip_until (fun _ _ _ => by rfl) (by rfl) (fun h₁ cd B => ?_)
  have hlen : src.cps.toList.length = src.length := Array.length_toList
  have fa : (A.deeper (envAt (stAt 10) s.heap.objs.size 89 cd)).frames = some (envAt (stAt 10) s.heap.objs.size 89 cd :: outer) := Around.frames_deeper ok.fa
  -- behind the try
  have rest : ∀ (q : Nat) (h₂ : Heap) (tk₂ : Nat) (m : Str → Option Value) (t₄ : Tok), q = min (nextC c src.cps.toList pos) src.cps.toList.length → ¬ (src.cps.toList.length ≤ nextC c src.cps.toList pos ∧ eof = true) →
      Bd w s.heap outer (envAt (stAt 10) s.heap.objs.size 89 cd) s.heap.objs.size h₂ m → m "src" = some (.str src t1) → m "pos" = some (.int pos t2) → m "error_on" = some (.ref 53) → m "new_pos" = some (.int (q : Nat) t₄) →
      wpAny (model prg w) (A.deeper (envAt (stAt 10) s.heap.objs.size 89 cd)) (execs ((bdyOfS (stAt 10)).drop 1) (envAt (stAt 10) s.heap.objs.size 89 cd)) (fun f s' => Q (match f with | .ret v => v | _ => .none) s')
        (fun e s' => wpAny (model prg w) (A.deeper (envAt (stAt 10) s.heap.objs.size 89 cd)) (leaving (envAt (stAt 10) s.heap.objs.size 89 cd) e) (fun _ s'' => E e s'') (fun e' s'' => E e' s'') s') { s with heap := h₂, toks := tk₂ } := by
    intro q h₂ tk₂ m t₄ hq hnot B₂ m1 m2 m3 m4
    have hqn : q ≤ src.cps.toList.length := by omega
    refine wpAny_execs_cons (wpAny_If (isTrue_not (isTrue_plain ?_)))
    refine wpAny_Call_method_lateS rfl rfl rfl (ld (s := { s with heap := h₂, toks := tk₂ }) B₂.fr m3 ?_)
    refine ⟨"frozenset", "frozenset.isdisjoint", plainAttrs_frozenset, slot_isdisjoint, type_isdisjoint, ?_, ?_, ?_⟩
    · obtain ⟨es, ep, tb, ho, _⟩ := B₂.pb.bad
      exact ⟨_, B₂.fr.keep _ _ ho, rfl⟩
    · obtain ⟨es, ep, tb, ho, _⟩ := B₂.pb.bad
      intro a' ha'; injection ha' with ha'; subst ha'
      exact ⟨_, B₂.fr.keep _ _ ho, rfl⟩
    refine cw1 (wpAny_Subscript_str_slice (ld (s := { s with heap := h₂, toks := tk₂ }) B₂.fr m1 (ld (s := { s with heap := h₂, toks := tk₂ }) B₂.fr m2 (ld (s := { s with heap := h₂, toks := tk₂ }) B₂.fr m4 ?_))))
    refine ⟨src, t1, some ((pos : Int), t2), some ((q : Int), t₄), rfl, rfl, rfl, slice_post (by simp only [sizeLine_eq]; omega) fun t₅ tk₅ => ?_⟩
    have B₃ := B₂.keeps (h' := h₂.push { cls := .type "slice", data := .fields #[.int (pos : Int) t2, .int (q : Int) t₄, .none] }) fun b o e => Heap.get?_push_of_some _ e
    refine isdisjoint_call (s := { s with heap := h₂.push { cls := .type "slice", data := .fields #[.int (pos : Int) t2, .int (q : Int) t₄, .none] }, toks := tk₅ }) (by exact hh) (FrozAt.mono B₃.pb.bad B₃.fr.keep) (by decide) fun h₄ tk₄ k₄ => ?_
    have B₄ := B₃.keeps k₄
    refine wpAny_truthy_bool ?_
    have hS : (S (sub src.cps.toList pos q)).cps.toList = sub src.cps.toList pos q := by simp [S]
    rw [hS]
    by_cases hb : nextBad src.cps.toList pos < q
    · have hall : ((sub src.cps.toList pos q).all fun c => !badC c) = false := by
        rw [← Bool.not_eq_true, sub_clean hqn]; simpa using hb
      rw [hall]
      simp only [Bool.not_false, if_true]
      have hout : untilOut c eof src.cps.toList pos = .err (errTxt (badMsg (src.cps.toList.getD (nextBad src.cps.toList pos) 0)) src.cps.toList (nextBad src.cps.toList pos)) := by
        unfold untilOut; rw [if_neg hnot, if_pos (by omega)]
      refine wpAny_execs_cons (wpAny_While ?_)
      refine codeAny_whileLoop (I := fun j s' => ∃ k h tk m t, s' = { s with heap := h, toks := tk } ∧ Bd w s.heap outer (envAt (stAt 10) s.heap.objs.size 89 cd) s.heap.objs.size h m ∧
        m "src" = some (.str src t1) ∧ m "error_on" = some (.ref 53) ∧ m "pos" = some (.int ((k : Nat) : Int) t) ∧ nextBad src.cps.toList k = nextBad src.cps.toList pos ∧ j = src.length - k)
        ?_ (src.length - pos) ⟨pos, h₄, _, m, t2, rfl, B₄, m1, m3, m2, rfl, rfl⟩
      rintro j s' ⟨k, h, tk, m', t, rfl, B', p1, p2, p3, hsk, rfl⟩
      have hkb : k ≤ nextBad src.cps.toList pos := by rw [← hsk]; exact skip_ge
      have hkn : k < src.length := by omega
      obtain ⟨i1, i2⟩ := item_nat hkn
      refine wpAny_isTrue_Compare1 (Subscript_ (ld (s := { s with heap := h, toks := tk }) B'.fr p1 (ld (s := { s with heap := h, toks := tk }) B'.fr p3 ?_)))
      refine item_str_or (by exact hh) (fits_small (by omega) (by omega)) (fun hout' => by omega) (fun _ _ => ?_)
      rw [i1]
      refine ld (s := { s with heap := h, toks := tk + 1 }) B'.fr p2 ?_
      refine notin_froz (s := { s with heap := h, toks := tk + 1 }) (knd := PySem.strKind prg w) (k := ⟨#[src.cps.toList.getD k 0]⟩) B'.fr B'.pb.bad (isStr_self _ _ _) rfl (by decide) ?_
      refine wpAny_truthy_bool ?_
      rw [one_item]
      cases hcb : badC (src.cps.toList.getD k 0) with
      | false =>
        simp only [Bool.not_false, if_true]
        refine wpAny_execs_cons (wpAny_AugAssign_Name ?_)
        refine ldn (s := { s with heap := h, toks := tk + 1 + 1 }) B'.fr p3 ?_
        refine wpAny_Constant_int (iadd_int ?_)
        refine stB (s := { s with heap := h, toks := tk + 1 + 1 + 1 + 1 }) B' fun h2 B2 => ?_
        refine wpAny_execs_nil ⟨src.length - (k + 1), by omega, k + 1, h2, _, _, tk + 1 + 1 + 1, rfl, B2, (if_neg (by decide)).trans p1, (if_neg (by decide)).trans p2, if_pos rfl, ?_, rfl⟩
        rw [← hsk]; exact skip_step i2 (by rw [hcb]; rfl)
      | true =>
        simp only [Bool.not_true, Bool.false_eq_true, if_false]
        have hk : nextBad src.cps.toList pos = k := by rw [← hsk]; exact skip_stop i2 (by rw [hcb]; rfl)
        rw [hk] at hout
        refine wpAny_execs_nil ?_
        have hcv : src.cps.toList.getD k 0 < 16 ^ 8 := hcp _ (List.mem_of_getElem? i2)
        have r1 := repr1_len hcv
        have c1 : (Str.ofString "Found invalid character ").length = 24 := by decide +kernel
        have c0 : Str.empty.length = 0 := rfl
        refine wpAny_execs_cons (raise_plain (b := bs s.heap outer) B'.pb.cls (by exact hh) ?_)
        refine Call_nm3 (gname (s := { s with heap := h, toks := _ }) B' B'.pb.suffixed ?_)
        refine cf3 (ld (s := { s with heap := h, toks := _ }) B'.fr p1 (ld (s := { s with heap := h, toks := _ }) B'.fr p3 (JoinedStr_many ?_)))
        refine joinParts_cons (Calls.Constant_str ⟨by simp only [Str.length_append, sizeLine_eq]; omega, ?_⟩)
        refine joinParts_cons (wpAny_FormattedValue_repr (Subscript_ (ld (s := { s with heap := h, toks := _ }) B'.fr p1 (ld (s := { s with heap := h, toks := _ }) B'.fr p3 ?_))))
        refine item_str_or (by exact hh) (fits_small (by omega) (by omega)) (fun hout' => by omega) (fun _ _ => ?_)
        rw [i1]
        refine pyReprObj_str (formatField_str (fun t' tk' => ⟨?_, ?_⟩) (by simp only [sizeLine_eq]; omega)) (by simp only [sizeLine_eq]; omega)
        · simp only [Str.length_append, sizeLine_eq]; omega
        refine joinParts_nil ⟨B'.pb.f_suffixed.isFn B'.fr.keep, ?_⟩ (by simp only [Str.length_append, sizeLine_eq]; omega)
        rw [Str.empty_append]
        refine suffixed_spec (s := { s with heap := h, toks := _ }) (B'.ok ok.fa ok.dep ok.uni) (by omega) src hsz k (by omega) (badMsg (src.cps.toList.getD k 0)) (by unfold badMsg; rw [Str.length_append]; omega) fun h₇ h₈ tk₈ e t₈ ef₇ pl₇ hx₈ => ?_
        have B₇ := B'.after ef₇ pl₇
        obtain ⟨t', raw8, htn, tup⟩ := Raw.of_made hx₈
        refine ⟨e, t', rfl, fun b o q' => hx₈.keeps b o (B₇.fr.keep b o q'), raw8.at_, ?_⟩
        refine leave_raw (s := { s with heap := h₈, toks := tk₈ }) fa B₇.ff rfl raw8 fun h12 T x12 => ?_
        exact hE _ hout h12 _ e (mkFlyB B₇ raw8 rfl rfl htn tup x12)
    · have hall : ((sub src.cps.toList pos q).all fun c => !badC c) = true := (sub_clean hqn).mpr hb
      rw [hall]
      simp only [Bool.not_true, Bool.false_eq_true, if_false]
      refine wpAny_execs_nil ?_
      refine wpAny_execs_cons (wpAny_Return_some ?_)
      have hout : untilOut c eof src.cps.toList pos = .val q := by
        unfold untilOut; rw [if_neg hnot, if_neg (by omega), hq]
      exact ld (s := { s with heap := h₄, toks := tk₄ }) B₄.fr m4 (hQ q hout h₄ _ _ B₄.eff B₄.pl)
  refine wpAny_execs_cons ?_
  refine try1 (T := "ValueError") (L := s.heap.objs.size) fa rfl sub_ve_be ve_notuple sub_ve_self ?_
  refine wpAny_execs_cons (wpAny_Assign_Name ?_)
  refine meth2 (x := src) (t := t1) F.slot_str_index F.type_str_index (ld (s := { s with heap := h₁, toks := _ }) B.fr rfl ⟨rfl, ?_⟩)
  refine cw2 (ld (s := { s with heap := h₁, toks := _ }) B.fr rfl (ld (s := { s with heap := h₁, toks := _ }) B.fr rfl ?_))
  refine index3 (by exact hh) (fun hlt => ?_) (fun hle h' tk e₀ hx => ?_)
  · refine stB (s := { s with heap := h₁, toks := _ }) B fun h₂ B₂ => ?_
    refine wpAny_execs_nil ?_
    exact rest (nextC c src.cps.toList pos) h₂ _ _ _ (by omega) (by omega) B₂ rfl rfl rfl rfl
  · obtain ⟨oe, ta, hcls, rw0⟩ := Raw.of_new hx
    refine ⟨e₀, oe, _, h₁, h', _, rfl, hcls, B.ff, rw0, .inl rfl, fun h₄ Tb fl₄ => ?_⟩
    have B₄ := B.afterF (fl₄.eff rw0)
    refine bname (s := { s with heap := h₄, toks := tk }) B₄ B₄.pb.b_ve ⟨rfl, rfl, fun h₅ fl₅ => ?_⟩
    have B₅ := B.afterF (fl₅.eff rw0)
    refine wpAny_execs_cons (wpAny_Assign_Name ?_)
    refine Call_nm1 (bname (s := { s with heap := h₅, toks := tk }) B₅ B₅.pb.b_len ?_)
    refine cw1 (ld (s := { s with heap := h₅, toks := tk }) B₅.fr rfl (len_str (by omega) ?_))
    refine stBs (s := { s with heap := h₅, toks := _ }) B₅ fun h₆ B₆ hsb => ?_
    refine wpAny_execs_cons (wpAny_If (isTrue_plain (ld (s := { s with heap := h₆, toks := _ }) B₆.fr rfl (wpAny_truthy_bool ?_))))
    have hq : min (nextC c src.cps.toList pos) src.cps.toList.length = src.length := by omega
    cases eof with
    | false =>
      simp only [Bool.false_eq_true, if_false]
      refine wpAny_execs_nil ?_
      refine wpAny_execs_nil ?_
      exact rest src.length h₆ _ _ _ hq.symm (by simp) B₆ rfl rfl rfl rfl
    | true =>
      simp only [if_true]
      have hout : untilOut c true src.cps.toList pos = .err (errTxt (expMsg c) src.cps.toList src.length) := by
        unfold untilOut; rw [if_pos ⟨by omega, rfl⟩, hlen]
      have he₆ : h₆.get? e₀ = some (oe.mapFields (·.setIfInBounds 1 (.ref Tb))) := by
        refine (hsb.2 e₀ fun z => ?_).trans fl₅.ex
        obtain ⟨oL, es, ep, hoL, hdL, _⟩ := B₅.fr.ns
        have := fl₅.ex
        rw [z] at this
        rw [hoL] at this; injection this with this
        have hd := fl₅.dat rw0
        rw [← this, hdL] at hd; cases hd
      refine wpAny_execs_cons (raise_from (b := bs s.heap outer) B₆.pb.cls (e₀ := e₀) rfl ?_)
      refine Call_nm3 (gname (s := { s with heap := h₆, toks := _ }) B₆ B₆.pb.suffixed ?_)
      refine cf3 (ld (s := { s with heap := h₆, toks := _ }) B₆.fr rfl (ld (s := { s with heap := h₆, toks := _ }) B₆.fr rfl (JoinedStr_many ?_)))
      have r1 := repr1_len hc
      have c1 : (Str.ofString "Expected ").length = 9 := by decide +kernel
      have c0 : Str.empty.length = 0 := rfl
      refine joinParts_cons (Calls.Constant_str ⟨by simp only [Str.length_append, sizeLine_eq]; omega, ?_⟩)
      refine joinParts_cons (wpAny_FormattedValue_repr (ld (s := { s with heap := h₆, toks := _ }) B₆.fr rfl (pyReprObj_str (formatField_str (fun t' tk' => ⟨?_, ?_⟩) (by simp only [sizeLine_eq]; omega)) (by simp only [sizeLine_eq]; omega))))
      · simp only [Str.length_append, sizeLine_eq]; omega
      refine joinParts_nil ⟨B₆.pb.f_suffixed.isFn B₆.fr.keep, ?_⟩ (by simp only [Str.length_append, sizeLine_eq]; omega)
      rw [Str.empty_append]
      have ok₆ := (B₆.ok ok.fa ok.dep ok.uni).mark (some (.ref e₀))
      refine suffixed_spec (s := { s with heap := h₆, toks := _ }) ok₆ (by omega) src hsz src.length (by omega) (expMsg c) (by unfold expMsg; rw [Str.length_append]; omega) fun h₇ h₈ tk₈ e t ef₇ pl₇ hx₈ => ?_
      have B₇ := B₆.after ef₇ pl₇
      obtain ⟨t', raw8, htn, tup⟩ := Raw.of_made hx₈
      have hcls₀ : (oe.mapFields (·.setIfInBounds 1 (.ref Tb))).cls = .type "ValueError" := by rw [Obj.cls_mapFields, hcls]
      have hni := notIn_ls B₆.pl B₆.ff he₆ (fl₅.dat rw0) (by rw [hcls₀]; intro z; cases z)
      have he₇ : h₇.get? e₀ = some (oe.mapFields (·.setIfInBounds 1 (.ref Tb))) := ef₇.get hni he₆
      have hne : e₀ ≠ e := fun z => by have := hx₈.new; rw [← z, he₇] at this; cases this
      refine ⟨e, t', _, _, rfl, hne, fun b o q => hx₈.keeps b o (B₇.fr.keep b o q), ?_, raw8.at_, hx₈.keeps _ _ he₇, fl₅.dat rw0, by simp, fun h₉ k₉ he₉ => ?_⟩
      · cases hq : (bs s.heap outer).get? e with
        | none => rfl
        | some o => have := B₇.fr.keep _ _ hq; rw [hx₈.new] at this; cases this
      have raw9 : Raw h₇ h₉ e { cls := .ref 72, data := .fields #[.ref t', .none, .ref e₀, .none, .bool true, .none] } #[.ref t', .none, .ref e₀, .none, .bool true, .none] :=
        ⟨fun b o q => k₉ b o (fun z => by rw [z, hx₈.new] at q; cases q) (hx₈.keeps b o q), hx₈.new, he₉, rfl, rfl⟩
      have tup9 : h₉.TupAt t' [.str (errTxt (expMsg c) src.cps.toList src.length) t] := by
        obtain ⟨o, n', ho, hc', hd'⟩ := tup
        refine ⟨o, n', k₉ t' o (fun z => ?_) ho, hc', hd'⟩
        rw [z, raw8.at_] at ho; injection ho with ho; subst ho; cases hd'
      refine note0 (s := { s with heap := h₉, toks := tk₈ }) fa B₇.ff rfl raw9 fun h10 T x10 => ?_
      refine came0 (s := { s with heap := h10, toks := tk₈ }) B₇.ff rfl raw9 x10 fun h11 x11 => ?_
      refine leave_held (s := { s with heap := h11, toks := tk₈ }) B₇.ff rfl raw9 x11 fun h12 x12 => ?_
      exact hE _ hout h12 _ e (mkFlyB B₇ raw9 rfl rfl htn tup9 x12)
end
end Mine
end

noncomputable section -- NbCom
open PySem PySem.W PyProof.Rows
open PySem.Builtin PySem.Builtin.Str
set_option maxRecDepth 100000
namespace Mine

section
variable {w : World} {A : Around} {s : Shared} {Q : Value → Shared → Prop} {E : Value → Shared → Prop}
/-- a call of an own def, three places and two names -/
theorem call32 {x k₁ k₂ : Str} {np pos q₁ q₂ : Pos} {e₁ e₂ e₃ v₁ v₂ : Expr} {env : Env} {b : Heap} {a : Addr} {st : Stmt} (fn : Fn1 b a st)
    (h : wpAny (model prg w) A (eval (.Name x np) env) (fun f s₁ => f = .ref a ∧ wpAny (model prg w) A (eval e₁ env) (fun a₁ s₁ => wpAny (model prg w) A (eval e₂ env) (fun a₂ s₂ => wpAny (model prg w) A (eval e₃ env) (fun a₃ s₃ =>
      wpAny (model prg w) A (eval v₁ env) (fun b₁ s₄ => wpAny (model prg w) A (eval v₂ env) (fun b₂ s₅ => b.StaysIn s₅.heap ∧ wpAny (model prg w) A (call (.ref a) [a₁, a₂, a₃] [(k₁, b₁), (k₂, b₂)]) Q E s₅) E s₄) E s₃) E s₂) E s₁) E s₁) E s)
    (hs : backTo pos (starEach [e₁, e₂, e₃] env) = [(false, eval e₁ env), (false, eval e₂ env), (false, eval e₃ env)] := by rfl)
    (hk : backToKw pos (keywordEach [⟨some k₁, v₁, q₁⟩, ⟨some k₂, v₂, q₂⟩] env) = [(some k₁, do let v ← eval v₁ env; standAt pos; pure v), (some k₂, do let v ← eval v₂ env; standAt pos; pure v)] := by rfl) :
    wpAny (model prg w) A (eval (.Call (.Name x np) [e₁, e₂, e₃] [⟨some k₁, v₁, q₁⟩, ⟨some k₂, v₂, q₂⟩] pos) env) Q E s := by
  obtain ⟨cd, o, pm, doc, ho, hd, _⟩ := fn
  show wpAny _ A (do callWith pos (← eval (.Name x np) env) [] (backTo pos (starEach [e₁, e₂, e₃] env)) (backToKw pos (keywordEach [⟨some k₁, v₁, q₁⟩, ⟨some k₂, v₂, q₂⟩] env))) Q E s
  rw [hs, hk]
  refine wpAny_bind (wpAny_mono h (fun f s₁ h₁ => ?_) fun _ _ e => e)
  obtain ⟨rfl, h₁⟩ := h₁
  refine callWith_function_kw (o := o) (fd := fnData (nameOfS st) (nameOfS st) (prmOfS st) (bdyOfS st) (scpOfS st) pm cd doc) (evalArgs_kw rfl ?_)
  refine Calls.spliced_cons (wpAny_mono h₁ (fun a₁ s₁ h₁ => Calls.spliced_cons (wpAny_mono h₁ (fun a₂ s₂ h₂ => Calls.spliced_cons (wpAny_mono h₂ (fun a₃ s₃ h₃ => Calls.spliced_nil ?_) fun _ _ e => e)) fun _ _ e => e)) fun _ _ e => e)
  refine wpAny_evalAll_cons (wpAny_bind (wpAny_mono h₃ (fun b₁ s₄ h₄ => wpAny_bind (wpAny_standAt (wpAny_pure ?_))) fun _ _ e => e))
  refine wpAny_evalAll_cons (wpAny_bind (wpAny_mono h₄ (fun b₂ s₅ h₅ => wpAny_bind (wpAny_standAt (wpAny_pure ?_))) fun _ _ e => e))
  refine wpAny_evalAll_nil ⟨⟨h₅.1 _ _ ho, hd⟩, h₅.2⟩
end

theorem one_eq (a b : Nat) : ((⟨#[a]⟩ : Str) == ⟨#[b]⟩) = (a == b) := by
  rw [Bool.eq_iff_iff]; simp [Str.mk.injEq]
noncomputable def comOut (l : List Nat) (pos : Nat) : Out := if l[pos]? = some 35 then untilOut 10 false l (pos + 1) else .val pos

section
variable {w : World} {A : Around} {n : Nat} {outer : List Env} {s : Shared} {Q : Value → Shared → Prop} {E : Value → Shared → Prop}

theorem skip_comment_spec (ok : Ok w A n outer s.heap) (hn : n ≤ 14) (hh : A.handled = none) (src : Str) (hsz : src.length ≤ 1000) (hcp : ∀ c ∈ src.cps.toList, c < 16 ^ 8) (pos : Nat) (hp : pos ≤ 1400) {t1 t2 : Tok}
    (hQ : ∀ v, comOut src.cps.toList pos = .val v → ∀ h' tk' t, Eff outer s.heap h' → Pool h' → Q (.int (v : Nat) t) { s with heap := h', toks := tk' })
    (hE : ∀ msg, comOut src.cps.toList pos = .err msg → ∀ h' tk' e, FlyB outer s.heap h' e msg → E (.ref e) { s with heap := h', toks := tk' }) :
    wpAny (model prg w) A (call (.ref 96) [.str src t1, .int pos t2]) Q E s := by
  refine call_fn (binds := [("src", .str src t1), ("pos", .int pos t2)]) ok (by omega) ok.pb.f_skip_comment (fun _ _ _ => by rfl) (by rfl) (fun h₁ cd B => ?_)
  have hlen : src.cps.toList.length = src.length := Array.length_toList
  have fa : (A.deeper (envAt (stAt 11) s.heap.objs.size 96 cd)).frames = some (envAt (stAt 11) s.heap.objs.size 96 cd :: outer) := Around.frames_deeper ok.fa
  have fin : ∀ h' tk' m E', comOut src.cps.toList pos = .val pos → Bd w s.heap outer (envAt (stAt 11) s.heap.objs.size 96 cd) s.heap.objs.size h' m → m "pos" = some (.int pos t2) →
      wpAny (model prg w) (A.deeper (envAt (stAt 11) s.heap.objs.size 96 cd)) (execs ((bdyOfS (stAt 11)).drop 2) (envAt (stAt 11) s.heap.objs.size 96 cd)) (fun f s' => Q (match f with | .ret v => v | _ => .none) s') E' { s with heap := h', toks := tk' } := by
    intro h' tk' m E' hv B' hm
    refine wpAny_execs_cons (wpAny_Return_some ?_)
    exact ld (s := { s with heap := h', toks := tk' }) B'.fr hm (hQ pos hv h' _ _ B'.eff B'.pl)
  refine wpAny_execs_cons ?_
  refine try1 (T := "IndexError") (L := s.heap.objs.size) fa rfl sub_ie_be ie_notuple sub_ie_self ?_
  refine wpAny_execs_cons (wpAny_Assign_Name (Subscript_ (ld (s := { s with heap := h₁, toks := _ }) B.fr rfl (ld (s := { s with heap := h₁, toks := _ }) B.fr rfl ?_))))
  refine item_str_or (by exact hh) (fits_small (by omega) (by omega)) (fun hout h' tk' e hx => ?_) (fun _ hin => ?_)
  · have hnone : src.cps.toList[pos]? = none := List.getElem?_eq_none (by omega)
    have hv : comOut src.cps.toList pos = .val pos := by unfold comOut; rw [hnone, if_neg (by intro z; cases z)]
    obtain ⟨oe, ta, hcls, rw0⟩ := Raw.of_new hx
    refine ⟨e, oe, _, h₁, h', _, rfl, hcls, B.ff, rw0, .inl rfl, fun h₄ Tb fl₄ => ?_⟩
    have B₄ := B.afterF (fl₄.eff rw0)
    refine bname (s := { s with heap := h₄, toks := _ }) B₄ B₄.pb.b_ie ⟨rfl, rfl, fun h₅ fl₅ => ?_⟩
    have B₅ := B.afterF (fl₅.eff rw0)
    refine wpAny_execs_cons (wpAny_Assign_Name ?_)
    refine Constant_none ?_
    refine stB (s := { s with heap := h₅, toks := _ }) B₅ fun h₆ B₆ => ?_
    refine wpAny_execs_nil ?_
    refine wpAny_execs_cons (wpAny_If (wpAny_isTrue_Compare1 (ld (s := { s with heap := h₆, toks := _ }) B₆.fr rfl (Calls.Constant_str (EqNone.eq_none_str (wpAny_truthy_bool ?_))))))
    simp only [Bool.false_eq_true, if_false]
    refine wpAny_execs_nil ?_
    exact fin h₆ _ _ _ hv B₆ rfl
  · obtain ⟨i1, i2⟩ := item_nat (x := src) (k := pos) (by omega)
    rw [i1]
    refine stB (s := { s with heap := h₁, toks := _ }) B fun h₂ B₂ => ?_
    refine wpAny_execs_nil ?_
    refine wpAny_execs_cons (wpAny_If (wpAny_isTrue_Compare1 (ld (s := { s with heap := h₂, toks := _ }) B₂.fr rfl (Calls.Constant_str (PyProof.Rows.eq_str (wpAny_truthy_bool ?_))))))
    rw [show (Str.ofString "#") = ⟨#[35]⟩ from rfl, one_eq]
    by_cases hc : src.cps.toList.getD pos 0 = 35
    · rw [if_pos (by simpa using hc)]
      have ho : comOut src.cps.toList pos = untilOut 10 false src.cps.toList (pos + 1) := by unfold comOut; rw [i2, if_pos (by rw [hc])]
      refine wpAny_execs_cons (wpAny_Return_some ?_)
      refine call32 B₂.pb.f_skip_until (gname (s := { s with heap := h₂, toks := _ }) B₂ B₂.pb.skip_until ⟨rfl, ?_⟩)
      refine ld (s := { s with heap := h₂, toks := _ }) B₂.fr rfl (wpAny_BinOp (ld (s := { s with heap := h₂, toks := _ }) B₂.fr rfl (wpAny_Constant_int (add_int ?_))))
      refine Calls.Constant_str (gname (s := { s with heap := h₂, toks := _ }) B₂ B₂.pb.com_chars (Constant_bool ⟨B₂.fr.keep, ?_⟩))
      refine skip_until_spec (s := { s with heap := h₂, toks := _ }) (B₂.ok ok.fa ok.dep ok.uni) (by omega) hh src hsz hcp (pos + 1) (by omega) 10 (by decide) false (fun v hv h' tk' t ef pl => ?_) (fun msg hv h' tk' e fl => ?_)
      · have B₃ := B₂.after ef pl
        exact hQ v (ho.trans hv) h' _ _ B₃.eff B₃.pl
      · exact fl.leave (s := { s with heap := h', toks := tk' }) B₂ fa fun h'' fl' => hE msg (ho.trans hv) h'' _ e fl'
    · rw [if_neg (by simpa using hc)]
      refine wpAny_execs_nil ?_
      exact fin h₂ _ _ _ (by unfold comOut; rw [i2, if_neg (by intro z; injection z with z; exact hc z)]) B₂ rfl
end
end Mine
end

noncomputable section -- NbCws
open PySem PySem.W PyProof.Rows
open PySem.Builtin PySem.Builtin.Str
set_option maxRecDepth 100000
namespace Mine

/-! ## a fault that leaves a loop's code -/
section
variable {M : Model} {A : Around} {E : Value → Shared → Prop} {s : Shared}
theorem setFlight_some {base : Heap} {l : List Env} {e L : Addr} {cls a0 fl : Value} {Q : Unit → Shared → Prop}
    (hkb : base.StaysIn s.heap) (hl : s.heap.FunFrames base l) (ht : s.heap.TracedAtW base e cls a0 fl)
    (h : ∀ h', base.StaysIn h' → h'.FunFrames base l → h'.TracedAtW base e cls a0 (rawInt L) → (∀ b o, s.heap.get? b = some o → (∀ vs, o.data ≠ .fields vs) → h'.get? b = some o) → Q () { s with heap := h' }) :
    wpAny M A (do if (← field (.ref e) 1) == .none then unsupported "frame.own-activation:exception-without-traceback"
                  setFlight (.ref e) (some L)) Q E s := by
  obtain ⟨oe, vs, T, oT, ts, he, hcls, hd, h1, hnT, hTe, hT, hdT, h3⟩ := ht
  have hsz3 : 3 < ts.size := (Array.getElem?_eq_some_iff.mp h3).1
  have other : ∀ b, b ≠ T → (s.heap.update T (Obj.mapFields (·.setIfInBounds 3 ((some L : Option Addr).elim Value.none fun f => rawInt f)))).get? b = s.heap.get? b :=
    fun b hb => Heap.get?_update_other _ _ (Ne.symm hb)
  have noRecord : ∀ b o, s.heap.get? b = some o → (∀ vs, o.data ≠ .fields vs) → b ≠ T := fun b o hb hnf q => by
    rw [q, hT] at hb; injection hb with hb; subst hb; exact hnf ts hdT
  refine wpAny_bind (wpAny_field he hd h1 ?_)
  rw [if_neg (show ¬ ((Value.ref T == Value.none) = true) from by simp)]
  have go : wpAny M A (setFlight (.ref e) (some L)) Q E s := by
    unfold setFlight
    refine wpAny_bind (wpAny_field he hd h1 ?_)
    rw [if_pos (show (Value.ref T != Value.none) = true from by simp)]
    refine wpAny_setField hT hdT hsz3 (h _ (fun b o hbo => (other b fun q => by rw [q, hnT] at hbo; cases hbo).trans (hkb b o hbo))
      (hl.of_keeps fun b o hb hnf => ⟨o, (other b (noRecord b o hb hnf)).trans hb, rfl⟩) ?_ fun b o hb hnf => (other b (noRecord b o hb hnf)).trans hb)
    exact ⟨oe, vs, T, _, _, (other e (Ne.symm hTe)).trans he, hcls, hd, h1, hnT, hTe, Heap.get?_update_self _ hT (Obj.isFreed_of_fields (Obj.data_mapFields hdT _)), Obj.data_mapFields hdT _, by simp [hsz3]⟩
  first
    | exact go
    | exact wpAny_bind (wpAny_pure go)
end

theorem FlyB.loop {w : World} {hs h : Heap} {outer : List Env} {env : Env} {L : Addr} {m : Str → Option Value} {e : Addr} {A : Around} {M : Model} {E : Value → Shared → Prop} {s : Shared} {msg : Str} (B : Bd w hs outer env L h m) (fa : A.frames = some (env :: outer))
    (x : FlyB (env :: outer) h s.heap e msg) (hQ : ∀ h', FlyB outer hs h' e msg → E (.ref e) { s with heap := h' }) :
    notedBy M A env (cameBackBy M A env fun x s' => wpAny M A (leaving env x) (fun _ s'' => E x s'') (fun e' s'' => E e' s'') s') (.ref e) s := by
  obtain ⟨b, t, tt, k1, k2, k3, k4, k5⟩ := x
  unfold notedBy
  refine wpAny_looks_onW fa B.ef k3 fun h₁ hh₁ hu₁ => ?_
  unfold cameBackBy
  rw [B.ef]
  obtain ⟨f1, f2, f3, f4⟩ := hh₁
  refine setFlight_some (s := { s with heap := h₁ }) f1 f3 f4 fun h₂ g1 g2 g3 g4 => ?_
  have hu₂ : h₁.UpToSlots h₂ := fun b o hb hn => ⟨o.slots, g4 b o hb hn⟩
  show wpAny M A (leaving env (.ref e)) (fun _ s'' => E (.ref e) s'') (fun e' s'' => E e' s'') { s with heap := h₂ }
  unfold leaving
  refine wpAny_bind (wpAny_noteFrame_againW (s := { s with heap := h₂ }) B.ef g3 ?_)
  refine wpAny_landsW (s := { s with heap := h₂ }) (l := env :: outer) (L := L) ⟨g1, f2, g2, g3⟩ fun h' hf hu => ?_
  obtain ⟨r1, r2, ⟨_, _, r3⟩, r4⟩ := hf
  have hall := (hu₁.trans hu₂).trans hu
  exact hQ h' ⟨b, t, tt, fun c o q => k1 c o (B.base c o q), k2, ⟨r1, r2, r3, r4⟩, k4.of_slots hall, (B.up.trans k5).trans hall⟩

/-! ## white and remarks -/
inductive Wh (l : List Nat) : Nat → Out → Prop
  | fin {pos} : l.length ≤ pos → Wh l pos (.val pos)
  | hashErr {pos msg} : l[pos]? = some 35 → untilOut 10 false l (pos + 1) = .err msg → Wh l pos (.err msg)
  | hash {pos q o} : l[pos]? = some 35 → untilOut 10 false l (pos + 1) = .val q → Wh l q o → Wh l pos o
  | ws {pos c o} : l[pos]? = some c → wsC c = true → Wh l (pos + 1) o → Wh l pos o
  | other {pos c} : l[pos]? = some c → c ≠ 35 → wsC c = false → Wh l pos (.val pos)

theorem Wh.ws_inv {l : List Nat} {pos c : Nat} {o : Out} (h : Wh l pos o) (hc : l[pos]? = some c) (hw : wsC c = true) : Wh l (pos + 1) o := by
  cases h with
  | fin h => rw [List.getElem?_eq_none h] at hc; cases hc
  | hashErr h _ => rw [h] at hc; injection hc with hc; subst hc; cases hw
  | hash h _ _ => rw [h] at hc; injection hc with hc; subst hc; cases hw
  | ws _ _ h => exact h
  | other h _ h' => rw [h] at hc; injection hc with hc; subst hc; rw [hw] at h'; cases h'

theorem Wh.skip {l : List Nat} : ∀ (j pos : Nat) {o : Out}, l.length - pos = j → Wh l pos o → Wh l (skipFrom wsC l pos) o := by
  intro j
  induction j with
  | zero => intro pos o hj h; rw [skip_end (by omega)]; exact h
  | succ j ih =>
    intro pos o hj h
    have hlt : pos < l.length := by omega
    have hc : l[pos]? = some l[pos] := List.getElem?_eq_getElem hlt
    cases hw : wsC l[pos] with
    | true => rw [← skip_step hc hw]; exact ih (pos + 1) (by omega) (h.ws_inv hc hw)
    | false => rw [skip_stop hc hw]; exact h

theorem untilOut_ge {c : Nat} {eof : Bool} {l : List Nat} {pos q : Nat} (h : untilOut c eof l pos = .val q) : (pos ≤ q ∨ l.length ≤ q) ∧ q ≤ l.length := by
  unfold untilOut at h
  split at h
  · cases h
  · split at h
    · cases h
    · injection h with h
      have : pos ≤ nextC c l pos := skip_ge
      omega

theorem cws_step {l : List Nat} {k : Nat} {o : Out} (h : Wh l k o) :
    (∃ msg, comOut l (skipFrom wsC l k) = .err msg ∧ o = .err msg) ∨
    (comOut l (skipFrom wsC l k) = .val k ∧ o = .val k) ∨
    (∃ r, comOut l (skipFrom wsC l k) = .val r ∧ k < r ∧ r ≤ l.length ∧ Wh l r o) := by
  have hq := h.skip _ _ rfl
  have hge : k ≤ skipFrom wsC l k := skip_ge
  have hle : skipFrom wsC l k ≤ max k l.length := by
    by_cases hk : k ≤ l.length
    · have := skip_le (p := wsC) hk; omega
    · rw [skip_end (by omega)]; omega
  have hfd : skipFrom wsC l k < l.length → ∃ c, l[skipFrom wsC l k]? = some c ∧ wsC c = false := skip_found
  have hkl : ¬ k < l.length → skipFrom wsC l k = k := fun z => skip_end (by omega)
  generalize skipFrom wsC l k = q at hq hge hle hfd hkl
  have plain : ∀ (hn : l[q]? ≠ some 35), comOut l q = .val q := fun hn => by unfold comOut; rw [if_neg hn]
  have hash : l[q]? = some 35 → comOut l q = untilOut 10 false l (q + 1) := fun hn => by unfold comOut; rw [if_pos hn]
  have pl : comOut l q = .val q → o = .val q → (comOut l q = .val k ∧ o = .val k) ∨ (∃ r, comOut l q = .val r ∧ k < r ∧ r ≤ l.length ∧ Wh l r o) := fun z ho => by
    by_cases hk : q = k
    · subst hk; exact .inl ⟨z, ho⟩
    · exact .inr ⟨q, z, by omega, by omega, hq⟩
  cases hq with
  | fin hl => exact .inr (pl (plain (by rw [List.getElem?_eq_none hl]; intro z; cases z)) rfl)
  | hashErr hc hu => exact .inl ⟨_, (hash hc).trans hu, rfl⟩
  | hash hc hu hw =>
    have := untilOut_ge hu
    have hlt := (List.getElem?_eq_some_iff.mp hc).1
    exact .inr (.inr ⟨_, (hash hc).trans hu, by omega, by omega, hw⟩)
  | ws hc hw h' =>
    exfalso
    have hlt := (List.getElem?_eq_some_iff.mp hc).1
    obtain ⟨c, h1, h2⟩ := hfd hlt
    rw [hc] at h1; injection h1 with h1; subst h1; rw [hw] at h2; cases h2
  | other hc hn hw => exact .inr (pl (plain (by rw [hc]; intro z; injection z with z; exact hn z)) rfl)

section
variable {w : World} {A : Around} {n : Nat} {outer : List Env} {s : Shared} {Q : Value → Shared → Prop} {E : Value → Shared → Prop}

theorem skip_cws_spec (ok : Ok w A n outer s.heap) (hn : n ≤ 13) (hh : A.handled = none) (src : Str) (hsz : src.length ≤ 1000) (hcp : ∀ c ∈ src.cps.toList, c < 16 ^ 8) (pos : Nat) (hp : pos ≤ 1300) {t1 t2 : Tok} {o : Out} (ho : Wh src.cps.toList pos o)
    (hQ : ∀ v, o = .val v → ∀ h' tk' t, Eff outer s.heap h' → Pool h' → Q (.int (v : Nat) t) { s with heap := h', toks := tk' })
    (hE : ∀ msg, o = .err msg → ∀ h' tk' e, FlyB outer s.heap h' e msg → E (.ref e) { s with heap := h', toks := tk' }) :
    wpAny (model prg w) A (call (.ref 103) [.str src t1, .int pos t2]) Q E s := by
  refine call_fn (binds := [("src", .str src t1), ("pos", .int pos t2)]) ok (by omega) ok.pb.f_skip_cws (fun _ _ _ => by rfl) (by rfl) (fun h₁ cd B => ?_)
  have hlen : src.cps.toList.length = src.length := Array.length_toList
  have fa : (A.deeper (envAt (stAt 12) s.heap.objs.size 103 cd)).frames = some (envAt (stAt 12) s.heap.objs.size 103 cd :: outer) := Around.frames_deeper ok.fa
  refine wpAny_execs_cons (wpAny_While ?_)
  refine codeAny_whileLoop (I := fun j s' => ∃ k h tk m t, s' = { s with heap := h, toks := tk } ∧ Bd w s.heap outer (envAt (stAt 12) s.heap.objs.size 103 cd) s.heap.objs.size h m ∧
      m "src" = some (.str src t1) ∧ m "pos" = some (.int ((k : Nat) : Int) t) ∧ k ≤ 1300 ∧ Wh src.cps.toList k o ∧ j = src.length - k)
    ?_ (src.length - pos) ⟨pos, h₁, _, _, t2, rfl, B, rfl, rfl, hp, ho, rfl⟩
  rintro j s' ⟨k, h, tk, m, t, rfl, B', m1, m2, hk, hw, rfl⟩
  refine isTrue_plain (Constant_bool (wpAny_truthy_bool ?_))
  simp only [if_true]
  refine wpAny_execs_cons (wpAny_Assign_Name (ld (s := { s with heap := h, toks := _ }) B'.fr m2 ?_))
  refine stB (s := { s with heap := h, toks := _ }) B' fun h₂ B₂ => ?_
  have m1₂ : (if ("src" : Str) = "pos_before_skip" then some (Value.int (k : Int) t) else m "src") = some (.str src t1) := (if_neg (by decide)).trans m1
  have m2₂ : (if ("pos" : Str) = "pos_before_skip" then some (Value.int (k : Int) t) else m "pos") = some (.int (k : Int) t) := (if_neg (by decide)).trans m2
  refine wpAny_execs_cons (wpAny_Assign_Name ?_)
  refine Call_nm3 (gname (s := { s with heap := h₂, toks := _ }) B₂ B₂.pb.skip_chars ?_)
  refine cf3 (ld (s := { s with heap := h₂, toks := _ }) B₂.fr m1₂ (ld (s := { s with heap := h₂, toks := _ }) B₂.fr m2₂ (gname (s := { s with heap := h₂, toks := _ }) B₂ B₂.pb.wsnl ⟨B₂.pb.f_skip_chars.elim fun _ z => z.isFn B₂.fr.keep, ?_⟩)))
  refine skip_chars_spec (s := { s with heap := h₂, toks := _ }) (B₂.ok ok.fa ok.dep ok.uni) (by omega) hh src hsz k (by omega) fun h₃ tk₃ t₃ ef₃ pl₃ => ?_
  have B₃ := B₂.after ef₃ pl₃
  refine stB (s := { s with heap := h₃, toks := _ }) B₃ fun h₄ B₄ => ?_
  refine wpAny_execs_cons (wpAny_Assign_Name ?_)
  refine Call_nm2 (gname (s := { s with heap := h₄, toks := _ }) B₄ B₄.pb.skip_comment ?_)
  refine cf2 (ld (s := { s with heap := h₄, toks := _ }) B₄.fr ((if_neg (by decide)).trans m1₂) (ld (s := { s with heap := h₄, toks := _ }) B₄.fr (if_pos rfl) ⟨B₄.pb.f_skip_comment.elim fun _ z => z.isFn B₄.fr.keep, ?_⟩))
  have hle : skipFrom wsC src.cps.toList k ≤ max k src.cps.toList.length := by
    by_cases hk : k ≤ src.cps.toList.length
    · have := skip_le (p := wsC) hk; omega
    · rw [skip_end (by omega)]; omega
  refine skip_comment_spec (s := { s with heap := h₄, toks := _ }) (B₄.ok ok.fa ok.dep ok.uni) (by omega) hh src hsz hcp (skipFrom wsC src.cps.toList k) (by omega) (fun v hv h' tk' t' ef pl => ?_) (fun msg hv h' tk' e fl => ?_)
  · have B₅ := B₄.after ef pl
    refine stB (s := { s with heap := h', toks := _ }) B₅ fun h₆ B₆ => ?_
    refine wpAny_execs_cons (wpAny_If (wpAny_isTrue_Compare1 (ld (s := { s with heap := h₆, toks := _ }) B₆.fr (if_pos rfl) (ld (s := { s with heap := h₆, toks := _ }) B₆.fr ((if_neg (by decide)).trans ((if_neg (by decide)).trans (if_pos rfl))) (PyProof.Rows.eq_int (wpAny_truthy_bool ?_))))))
    rcases cws_step hw with ⟨msg, z, _⟩ | ⟨z, ho'⟩ | ⟨r, z, z1, z2, z3⟩
    · rw [hv] at z; cases z
    · rw [hv] at z; injection z with z; subst z
      rw [if_pos (by simp)]
      refine wpAny_execs_cons (wpAny_Return_some ?_)
      exact ld (s := { s with heap := h₆, toks := _ }) B₆.fr (if_pos rfl) (hQ v ho' h₆ _ _ B₆.eff B₆.pl)
    · rw [hv] at z; injection z with z; subst z
      rw [if_neg (by simp; omega)]
      refine wpAny_execs_nil (wpAny_execs_nil ?_)
      exact ⟨src.length - v, by omega, v, h₆, _, _, t', rfl, B₆, (if_neg (by decide)).trans ((if_neg (by decide)).trans m1₂), if_pos rfl, by omega, z3, rfl⟩
  · rcases cws_step hw with ⟨msg', z, ho'⟩ | ⟨z, _⟩ | ⟨r, z, _⟩
    · rw [hv] at z; injection z with z; subst z
      exact FlyB.loop (s := { s with heap := h', toks := tk' }) B₄ fa fl fun h'' fl' => hE msg ho' h'' _ e fl'
    · rw [hv] at z; cases z
    · rw [hv] at z; cases z

theorem tupB {hs : Heap} {env : Env} {L : Addr} {m : Str → Option Value} {M : Model} {vs : List Value} (B : Bd w hs outer env L s.heap m)
    (h : ∀ h', Bd w hs outer env L h' m → h'.IsTuple s.heap.objs.size vs.toArray → Q (.ref s.heap.objs.size) { s with heap := h' }) (hsz : vs.length ≤ sizeLine := by size_fits) : wpAny M A (newTuple vs) Q E s :=
  wpAny_newTuple (h _ (B.keeps fun _ _ e => Heap.get?_push_of_some _ e) ⟨_, Heap.get?_push_size _ rfl, rfl, _, rfl⟩) hsz
theorem listB {hs : Heap} {env : Env} {L : Addr} {m : Str → Option Value} {M : Model} {vs : List Value} (B : Bd w hs outer env L s.heap m)
    (h : ∀ h', Bd w hs outer env L h' m → (∀ b o, s.heap.get? b = some o → h'.get? b = some o) → h'.IsList s.heap.objs.size vs.toArray → Q (.ref s.heap.objs.size) { s with heap := h' }) (hsz : vs.length ≤ sizeLine := by size_fits) : wpAny M A (newList vs) Q E s :=
  wpAny_newObj_type (h _ (B.keeps fun _ _ e => Heap.get?_push_of_some _ e) (fun _ _ e => Heap.get?_push_of_some _ e) ⟨_, Heap.get?_push_size _ rfl, rfl, _, rfl⟩) (by show vs.toArray.size ≤ sizeLine; rw [List.size_toArray]; exact hsz)

theorem parse_lit_spec (ok : Ok w A n outer s.heap) (hn : n ≤ 14) (hh : A.handled = none) (src : Str) (hsz : src.length ≤ 1000) (hcp : ∀ c ∈ src.cps.toList, c < 16 ^ 8) (pos : Nat) (hp : pos ≤ 1400) {t1 t2 : Tok}
    (hQ : ∀ v, untilOut 39 true src.cps.toList (pos + 1) = .val v → ∀ h' tk' a ta tb, Eff outer s.heap h' → Pool h' → h'.IsTuple a #[.int ((v + 1 : Nat) : Int) ta, .str (S (sub src.cps.toList (pos + 1) v)) tb] → Q (.ref a) { s with heap := h', toks := tk' })
    (hE : ∀ msg, untilOut 39 true src.cps.toList (pos + 1) = .err msg → ∀ h' tk' e, FlyB outer s.heap h' e msg → E (.ref e) { s with heap := h', toks := tk' }) :
    wpAny (model prg w) A (call (.ref 110) [.str src t1, .int pos t2]) Q E s := by
  refine call_fn (binds := [("src", .str src t1), ("pos", .int pos t2)]) ok (by omega) ok.pb.f_parse_lit (fun _ _ _ => by rfl) (by rfl) (fun h₁ cd B => ?_)
  have hlen : src.cps.toList.length = src.length := Array.length_toList
  have fa : (A.deeper (envAt (stAt 13) s.heap.objs.size 110 cd)).frames = some (envAt (stAt 13) s.heap.objs.size 110 cd :: outer) := Around.frames_deeper ok.fa
  refine wpAny_execs_cons (wpAny_AugAssign_Name ?_)
  refine ldn (s := { s with heap := h₁, toks := _ }) B.fr rfl (wpAny_Constant_int (iadd_int ?_))
  refine stB (s := { s with heap := h₁, toks := _ }) B fun h₂ B₂ => ?_
  refine wpAny_execs_cons (wpAny_Assign_Name (ld (s := { s with heap := h₂, toks := _ }) B₂.fr rfl ?_))
  refine stB (s := { s with heap := h₂, toks := _ }) B₂ fun h₃ B₃ => ?_
  refine wpAny_execs_cons (wpAny_Assign_Name ?_)
  refine call32 B₃.pb.f_skip_until (gname (s := { s with heap := h₃, toks := _ }) B₃ B₃.pb.skip_until ⟨rfl, ?_⟩)
  refine ld (s := { s with heap := h₃, toks := _ }) B₃.fr rfl (ld (s := { s with heap := h₃, toks := _ }) B₃.fr rfl ?_)
  refine Calls.Constant_str (gname (s := { s with heap := h₃, toks := _ }) B₃ B₃.pb.lit_chars (Constant_bool ⟨B₃.fr.keep, ?_⟩))
  refine skip_until_spec (s := { s with heap := h₃, toks := _ }) (B₃.ok ok.fa ok.dep ok.uni) (by omega) hh src hsz hcp (pos + 1) (by omega) 39 (by decide) true (fun v hv h' tk' t ef pl => ?_) (fun msg hv h' tk' e fl => ?_)
  · have B₄ := B₃.after ef pl
    refine stB (s := { s with heap := h', toks := _ }) B₄ fun h₅ B₅ => ?_
    refine wpAny_execs_cons (wpAny_Return_some (Tuple_ ?_))
    refine Calls.spliced_cons (wpAny_BinOp (ld (s := { s with heap := h₅, toks := _ }) B₅.fr rfl (wpAny_Constant_int (add_int ?_))))
    refine Calls.spliced_cons ?_
    refine wpAny_Subscript_str_slice (ld (s := { s with heap := h₅, toks := _ }) B₅.fr rfl (ld (s := { s with heap := h₅, toks := _ }) B₅.fr rfl (ld (s := { s with heap := h₅, toks := _ }) B₅.fr rfl ?_)))
    refine ⟨src, t1, some (((pos + 1 : Nat) : Int), _), some ((v : Int), t), rfl, rfl, rfl, slice_post (by simp only [sizeLine_eq]; omega) fun t₅ tk₅ => ?_⟩
    refine Calls.spliced_nil ?_
    refine tupB (B₅.keeps fun b o e => Heap.get?_push_of_some _ e) fun h₆ B₆ ht => ?_
    exact hQ v hv _ _ _ _ _ B₆.eff B₆.pl ht
  · exact fl.leave (s := { s with heap := h', toks := tk' }) B₃ fa fun h'' fl' => hE msg hv h'' _ e fl'
end
end Mine
end

noncomputable section -- NbAsk
open PySem PySem.W PyProof.Rows
open PySem.Builtin PySem.Builtin.Str PySem.Builtin.BaseException
set_option maxRecDepth 100000
namespace Mine

section
variable {prog : Program} {w : World} {A : Around} {E : Value → Shared → Prop} {h : Heap} {g : Array GenState} {d : Drawn} {tk : Nat} {os : OsState} {e t0 : Addr} {oe : Obj} {vs : Array Value}

theorem ve_str : typeLookup (.type "ValueError") "__str__" = pure (some (.builtin "BaseException.__str__")) := by rw [typeLookup_type, builtinLookup_eq_fast]; kernel_rfl
theorem bstr_kind : builtinKind "BaseException.__str__" = some .slot := by decide +kernel
theorem bstr_split : splitId "BaseException.__str__" = some ("BaseException", "__str__") := by decide +kernel
theorem bstr_bind (self : Value) : bindSpecial (.builtin "BaseException.__str__") self = pure (.builtin "BaseException.__str__", [self]) := by
  have hk := bstr_kind
  simp only [bindSpecial, typeOf, builtinType, hk]; rfl

theorem bexcArgs_own {M : Model} {items : List Value} {Q : Value × List Value → Shared → Prop} (ho : h.get? e = some oe) (hd : oe.data = .fields vs) (h0 : vs[0]? = some (.ref t0)) (ht : h.TupAt t0 items) (hq : Q (.ref t0, items) ⟨h, g, d, tk, os⟩) :
    wpAny M A (bexcArgs (.ref e)) Q E ⟨h, g, d, tk, os⟩ := by
  obtain ⟨ot, k, hto, _, htd⟩ := ht
  unfold bexcArgs
  refine wpAny_bind (wpAny_field ho hd h0 (wpAny_bind (wpAny_seqItems hto htd ?_)))
  have : items.toArray.toList = items := by simp
  show wpAny M A (pure (Value.ref t0, items.toArray.toList)) Q E _
  rw [this]; exact wpAny_pure hq

theorem call_bstr_own {msg : Str} {u : Tok} {Q : Value → Shared → Prop} (C : TomlCls h) (ho : h.get? e = some oe) (hc : oe.cls = .ref 72) (hd : oe.data = .fields vs) (h0 : vs[0]? = some (.ref t0)) (ht : h.TupAt t0 [.str msg u])
    (hq : Q (.str msg u) ⟨h, g, d, tk, os⟩) : wpAny (model prog w) A (call (.builtin "BaseException.__str__") [.ref e]) Q E ⟨h, g, d, tk, os⟩ := by
  obtain ⟨nm, q, bs, bm, hdct, sn, sub, ab, col, dd, k0, k1, k2, k3, k5, newId, initId, mN, hC, FB, hN, _, hs⟩ := C
  refine wpAny_call (codeAny_call_builtin (by decide +kernel) F.entry_bexc_str ?_)
  · have hcB : (Value.ref 72 :: bm).contains (.type "BaseException") = true := by rw [List.contains_cons, FB.hasBase]; rfl
    have hk := bstr_kind
    have hsplit := bstr_split
    have ha := F.args_bexc_str (.ref e)
    simp only [checkBuiltinCall, hk, hsplit]
    refine wpAny_bind ?_
    unfold isInstance
    repeat (first | with_reducible refine bexcArgs_own ho hd h0 ht ?_ | (with_reducible refine wpAny_loadPart_at ho ?_; rw [hc]) | (with_reducible refine wpAny_isSubtype_exc hC ?_; rw [hcB]) | wp_step)
    exact hq

theorem strOf_own {msg : Str} {u : Tok} {Q : Value → Shared → Prop} (hu : A.units < cLine) (C : TomlCls h) (ho : h.get? e = some oe) (hc : oe.cls = .ref 72) (hd : oe.data = .fields vs) (h0 : vs[0]? = some (.ref t0)) (ht : h.TupAt t0 [.str msg u])
    (hq : Q (.str msg u) ⟨h, g, d, tk, os⟩) : wpAny (model prog w) A (PySem.Builtin.Str.strOf (.ref e)) Q E ⟨h, g, d, tk, os⟩ := by
  obtain ⟨nm, q, bs, bm, hdct, sn, sub, ab, col, dd, k0, k1, k2, k3, k5, newId, initId, mN, hC, FB, hN, _, hs⟩ := C
  have sp : ∀ {Q' : Option Value → Shared → Prop}, Q' (some (.str msg u)) ⟨h, g, d, tk, os⟩ → wpAny (model prog w) A (callSpecial? (.ref e) "__str__") Q' E ⟨h, g, d, tk, os⟩ := by
    intro Q' hq'
    simp only [callSpecial?, specialOf]
    refine wpAny_bind (wpAny_bind ?_)
    repeat (first | (with_reducible refine wpAny_loadPart_at ho ?_; rw [hc]) | wp_step)
    refine wpAny_typeLookup_exc hC hN FB.mroIs ve_str ?_
    rw [hs]
    refine wpAny_holding (wpAny_bind (wpAny_of_eq (bstr_bind _) ?_))
    refine wpAny_bind (wpAny_mono (call_bstr_own (Q := fun v s' => v = .str msg u ∧ s' = ⟨h, g, d, tk, os⟩) ⟨nm, q, bs, bm, hdct, sn, sub, ab, col, dd, k0, k1, k2, k3, k5, newId, initId, mN, hC, FB, hN, ‹_›, hs⟩ ho hc hd h0 ht ⟨rfl, rfl⟩) (fun v s' z => ?_) fun _ _ z => z)
    obtain ⟨rfl, rfl⟩ := z
    exact wpAny_pure hq'
  unfold PySem.Builtin.Str.strOf
  repeat (first | with_reducible refine wpAny_cRoomFor hu ?_ | with_reducible refine sp ?_ | wp_step)
  exact hq

theorem str_of_own {msg : Str} {u : Tok} {Q : Value → Shared → Prop} (hu : A.units + 100 < cLine) (C : TomlCls h) (ho : h.get? e = some oe) (hc : oe.cls = .ref 72) (hd : oe.data = .fields vs) (h0 : vs[0]? = some (.ref t0)) (ht : h.TupAt t0 [.str msg u])
    (hq : Q (.str msg u) ⟨h, g, d, tk, os⟩) : wpAny (model prog w) A (call (.type "str") [.ref e]) Q E ⟨h, g, d, tk, os⟩ :=
  callType_new F.called_str (by decide) (F.typeCall_str_1 _) (F.newCall_str_1 _) (fun obj => F.args_object_init_2 obj _) F.entry_str_new
    (meets_str_new (S := fun A R s => A.units + 50 < cLine ∧ s = ⟨h, g, d, tk, os⟩ ∧ R (.ok (.ret (.str msg u))) s) fun _ _ A _ _ hq => by
      obtain ⟨h1, rfl, h2⟩ := hq
      exact strOf_own (by show A.units + _ < _; omega) C ho hc hd h0 ht h2) ⟨by show A.units + _ + _ < _; omega, rfl, typeIs_str _ _ _, hq⟩
end
end Mine
end

noncomputable section -- NbAsk2
open PySem PySem.W PyProof.Rows
open PySem.Builtin PySem.Builtin.Str PySem.Builtin.BaseException
set_option maxRecDepth 100000
namespace Mine

inductive Ans where
  | num (v : Nat)
  | txt (m : Str)
  | pair (v : Nat) (x : List Nat)
noncomputable def AnsAt (h : Heap) (v : Value) : Ans → Prop
  | .num n => ∃ t, v = .int (n : Nat) t
  | .txt m => ∃ t, v = .str m t
  | .pair n x => ∃ a ta tb, v = .ref a ∧ h.IsTuple a #[.int (n : Nat) ta, .str (S x) tb]
noncomputable def Out.ans : Out → Ans
  | .val v => .num v
  | .err m => .txt m
noncomputable def litAns (l : List Nat) (pos : Nat) : Ans := match untilOut 39 true l (pos + 1) with
  | .val v => .pair (v + 1) (sub l (pos + 1) v)
  | .err m => .txt m
noncomputable def Asked (l : List Nat) (place : Nat) : Nat → Ans → Prop
  | 0, a => a = litAns l place
  | 1, a => a = (comOut l place).ans
  | _, a => ∃ o, Wh l place o ∧ a = o.ans

section
variable {w : World} {A : Around} {n : Nat} {outer : List Env} {s : Shared} {Q : Value → Shared → Prop} {E : Value → Shared → Prop}

theorem ct1 {pos : Pos} {T : String} {a : Sem Value}
    (h : wpAny (model prg w) A a (fun v s₁ => wpAny (model prg w) A (call (.type T) [v]) Q E s₁) E s) : wpAny (model prg w) A (callWith pos (.type T) [] [(false, a)] []) Q E s :=
  PySem.callWith_type rfl (Calls.evalArgs_plain (Calls.spliced_cons (wpAny_mono h (fun _ _ h₁ => Calls.spliced_nil h₁) fun _ _ e => e)))
theorem asked_spec (ok : Ok w A n outer s.heap) (hn : n ≤ 12) (hh : A.handled = none) (src : Str) (hsz : src.length ≤ 1000) (hcp : ∀ c ∈ src.cps.toList, c < 16 ^ 8) (place : Nat) (hp : place ≤ 1300) (kind : Nat) (hk : kind < 3) {t0 t1 t2 : Tok} {a : Ans} (hA : Asked src.cps.toList place kind a)
    (hQ : ∀ h' tk' v, Eff outer s.heap h' → Pool h' → AnsAt h' v a → Q v { s with heap := h', toks := tk' }) :
    wpAny (model prg w) A (call (.ref 153) [.int kind t0, .str src t1, .int place t2]) Q E s := by
  refine call_fn (binds := [("kind", .int kind t0), ("text", .str src t1), ("place", .int place t2)]) ok (by omega) ok.pb.f_asked (fun _ _ _ => by rfl) (by rfl) (fun h₁ cd B => ?_)
  have fa : (A.deeper (envAt (stAt 23) s.heap.objs.size 153 cd)).frames = some (envAt (stAt 23) s.heap.objs.size 153 cd :: outer) := Around.frames_deeper ok.fa
  have caught : ∀ (h : Heap) (m : Str → Option Value) (h' : Heap) (tk' : Nat) (e : Addr) (msg : Str) {hpos tp p1 p2 p3 p4 : Pos} (Q' : Flow → Shared → Prop) (E' : Value → Shared → Prop), Bd w s.heap outer (envAt (stAt 23) s.heap.objs.size 153 cd) s.heap.objs.size h m →
      FlyB (envAt (stAt 23) s.heap.objs.size 153 cd :: outer) h h' e msg → a = .txt msg → (∀ v s', Q v s' → Q' (.ret v) s') →
      wpAny (model prg w) (A.deeper (envAt (stAt 23) s.heap.objs.size 153 cd)) (noteFrame (.ref e) (envAt (stAt 23) s.heap.objs.size 153 cd)) (fun _ s₂ => wpAny (model prg w) (A.deeper (envAt (stAt 23) s.heap.objs.size 153 cd)) (setFlight (.ref e) none) (fun _ s₃ =>
        wpAny (model prg w) (A.deeper (envAt (stAt 23) s.heap.objs.size 153 cd)) (handleBy (.ref e) (envAt (stAt 23) s.heap.objs.size 153 cd) [.ExceptHandler (some (.Name "TOMLDecodeError" tp)) (some "fault") [.Return (some (.Call (.Name "str" p1) [.Name "fault" p2] [] p3)) p4] hpos]) Q' E' s₃) E' s₂) E' { s with heap := h', toks := tk' } := by
    intro h m h' tk' e msg hpos tp p1 p2 p3 p4 Q' E' B' fl ha hq'
    obtain ⟨b, t, tt, k1, k2, k3, k4, k5⟩ := fl
    refine wpAny_looks_onW (s := { s with heap := h', toks := tk' }) fa rfl k3 fun h₁ hh₁ hu₁ => ?_
    refine wpAny_landsW (s := { s with heap := h₁, toks := tk' }) hh₁ fun h₂ f₂ hu₂ => ?_
    have mk : ∀ h'', Heap.FlyingW b (envAt (stAt 23) s.heap.objs.size 153 cd :: outer) e (.ref 72) (.ref t) h'' → h'.UpToSlots h'' → Bd w s.heap outer (envAt (stAt 23) s.heap.objs.size 153 cd) s.heap.objs.size h'' m := fun h'' f hu =>
      B'.after ⟨fun c o q => f.1 c o (k1 c o q), k5.trans hu⟩ (k2.keeps f.1)
    have B₂ := mk h₂ f₂ (hu₁.trans hu₂)
    obtain ⟨oe, he, hoc⟩ := f₂.there
    refine wpAny_handleBy_cons (codeAny_handlers_test (gname (s := { s with heap := h₂, toks := tk' }) B₂ B₂.pb.tomlerr ?_)) (by intro q; cases q)
    have C₂ : TomlCls h₂ := B₂.pb.cls.mono B₂.fr.keep
    obtain ⟨nm, q, bs', bm, hdct, sn, sub', ab, col, dd, c0, c1, c2, c3, c5, newId, initId, mN, hC, FB, hN, _, hs⟩ := id C₂
    refine wpAny_excMatches_sub_self hC he hoc FB.hasBase (codeAny_handlers_suite_as ?_)
    refine lands_againW (s := { s with heap := h₂, toks := tk' }) f₂ fun h₃ f₃ hu₃ => ?_
    have B₃ := mk h₃ f₃ ((hu₁.trans hu₂).trans hu₃)
    obtain ⟨oe₃, vs₃, he₃, hoc₃, hd₃, h0₃⟩ := f₃.first
    have tup₃ := k4.of_slots ((hu₁.trans hu₂).trans hu₃)
    refine stBs (s := { s with heap := h₃, toks := tk' }) B₃ fun h₄ B₄ hsb => ?_
    obtain ⟨oL, es, ep, hoL, hdL, _⟩ := B₃.fr.ns
    have he₄ : h₄.get? e = some oe₃ := (hsb.2 e fun z => by rw [z, hoL] at he₃; injection he₃ with he₃; rw [← he₃, hdL] at hd₃; cases hd₃).trans he₃
    have tup₄ : h₄.TupAt t [.str msg tt] := by
      obtain ⟨o, n', ho, hc', hd'⟩ := tup₃
      refine ⟨o, n', (hsb.2 t fun z => ?_).trans ho, hc', hd'⟩
      rw [z, hoL] at ho; injection ho with ho; rw [← ho, hdL] at hd'; cases hd'
    refine wpAny_execs_cons (wpAny_Return_some ?_)
    refine Call_nm1 (bname (s := { s with heap := h₄, toks := _ }) B₄ B₄.pb.b_str ?_)
    refine ct1 (ld (s := { s with heap := h₄, toks := _ }) B₄.fr (if_pos rfl) ?_)
    refine str_of_own (by have := ok.uni; show A.units + 3 + 100 < 9900; omega) (B₄.pb.cls.mono B₄.fr.keep) he₄ hoc₃ hd₃ h0₃ tup₄ ?_
    refine wpAny_nameGoes (s := { s with heap := h₄, toks := _ }) rfl B₄.fr.ns rfl fun h₅ m₅ hn₅ hs₅ => ?_
    have B₅ := B₄.set hn₅ hs₅
    refine hq' _ _ (hQ h₅ _ _ B₅.eff B₅.pl ?_)
    rw [ha]; exact ⟨_, rfl⟩
  refine wpAny_execs_cons (wpAny_Try_except ?_)
  refine wpAny_execs_cons (wpAny_If (wpAny_isTrue_Compare1 (ld (s := { s with heap := h₁, toks := _ }) B.fr rfl (wpAny_Constant_int (PyProof.Rows.eq_int (wpAny_truthy_bool ?_))))))
  have hk3 : kind = 0 ∨ kind = 1 ∨ kind = 2 := by omega
  rcases hk3 with rfl | rfl | rfl
  · rw [if_pos (by decide)]
    refine wpAny_execs_cons (wpAny_Return_some ?_)
    refine Call_nm2 (gname (s := { s with heap := h₁, toks := _ }) B B.pb.parse_lit ?_)
    refine cf2 (ld (s := { s with heap := h₁, toks := _ }) B.fr rfl (ld (s := { s with heap := h₁, toks := _ }) B.fr rfl ⟨B.pb.f_parse_lit.elim fun _ z => z.isFn B.fr.keep, ?_⟩))
    refine parse_lit_spec (s := { s with heap := h₁, toks := _ }) (B.ok ok.fa ok.dep ok.uni) (by omega) hh src hsz hcp place (by omega) (fun v hv h' tk' x ta tb ef pl ht => ?_) (fun msg hv h' tk' e fl => ?_)
    · have B₂ := B.after ef pl
      refine hQ h' _ _ B₂.eff B₂.pl ?_
      have : a = .pair (v + 1) (sub src.cps.toList (place + 1) v) := by rw [show a = litAns src.cps.toList place from hA]; unfold litAns; rw [hv]
      rw [this]; exact ⟨x, ta, tb, rfl, ht⟩
    · have : a = .txt msg := by rw [show a = litAns src.cps.toList place from hA]; unfold litAns; rw [hv]
      exact caught _ _ h' tk' e msg _ _ B fl this fun v s' z => z
  · rw [if_neg (by decide)]
    refine wpAny_execs_nil ?_
    refine wpAny_execs_cons (wpAny_If (wpAny_isTrue_Compare1 (ld (s := { s with heap := h₁, toks := _ }) B.fr rfl (wpAny_Constant_int (PyProof.Rows.eq_int (wpAny_truthy_bool ?_))))))
    rw [if_pos (by decide)]
    refine wpAny_execs_cons (wpAny_Return_some ?_)
    refine Call_nm2 (gname (s := { s with heap := h₁, toks := _ }) B B.pb.skip_comment ?_)
    refine cf2 (ld (s := { s with heap := h₁, toks := _ }) B.fr rfl (ld (s := { s with heap := h₁, toks := _ }) B.fr rfl ⟨B.pb.f_skip_comment.elim fun _ z => z.isFn B.fr.keep, ?_⟩))
    refine skip_comment_spec (s := { s with heap := h₁, toks := _ }) (B.ok ok.fa ok.dep ok.uni) (by omega) hh src hsz hcp place (by omega) (fun v hv h' tk' t ef pl => ?_) (fun msg hv h' tk' e fl => ?_)
    · have B₂ := B.after ef pl
      refine hQ h' _ _ B₂.eff B₂.pl ?_
      have : a = .num v := by rw [show a = (comOut src.cps.toList place).ans from hA, hv]; rfl
      rw [this]; exact ⟨t, rfl⟩
    · have : a = .txt msg := by rw [show a = (comOut src.cps.toList place).ans from hA, hv]; rfl
      exact caught _ _ h' tk' e msg _ _ B fl this fun v s' z => z
  · obtain ⟨o, hw, ha⟩ := hA
    rw [if_neg (by decide)]
    refine wpAny_execs_nil ?_
    refine wpAny_execs_cons (wpAny_If (wpAny_isTrue_Compare1 (ld (s := { s with heap := h₁, toks := _ }) B.fr rfl (wpAny_Constant_int (PyProof.Rows.eq_int (wpAny_truthy_bool ?_))))))
    rw [if_neg (by decide)]
    refine wpAny_execs_nil ?_
    refine wpAny_execs_cons (wpAny_Return_some ?_)
    refine Call_nm2 (gname (s := { s with heap := h₁, toks := _ }) B B.pb.skip_cws ?_)
    refine cf2 (ld (s := { s with heap := h₁, toks := _ }) B.fr rfl (ld (s := { s with heap := h₁, toks := _ }) B.fr rfl ⟨B.pb.f_skip_cws.elim fun _ z => z.isFn B.fr.keep, ?_⟩))
    refine skip_cws_spec (s := { s with heap := h₁, toks := _ }) (B.ok ok.fa ok.dep ok.uni) (by omega) hh src hsz hcp place (by omega) hw (fun v hv h' tk' t ef pl => ?_) (fun msg hv h' tk' e fl => ?_)
    · have B₂ := B.after ef pl
      refine hQ h' _ _ B₂.eff B₂.pl ?_
      have : a = .num v := by rw [ha, hv]; rfl
      rw [this]; exact ⟨t, rfl⟩
    · have : a = .txt msg := by rw [ha, hv]; rfl
      exact caught _ _ h' tk' e msg _ _ B fl this fun v s' z => z
end
end Mine
end

noncomputable section -- NbRe1
open PySem PySem.W PyProof.Rows
open PySem.Builtin PySem.Builtin.Str PySem.Builtin.BaseException
set_option maxRecDepth 100000
namespace Mine
open PySem.Sre

noncomputable def stepN : Nat → M → M
  | 0, m => m
  | n + 1, m => stepN n m.step

theorem step_done {m : M} (h : m.outcome.isSome = true) : m.step = m := by unfold M.step; rw [if_pos h]
theorem stepN_done {m : M} (h : m.outcome.isSome = true) : ∀ n, stepN n m = m
  | 0 => rfl
  | n + 1 => by rw [stepN, step_done h]; exact stepN_done h n
theorem stepN_add : ∀ (a b : Nat) (m : M), stepN (a + b) m = stepN b (stepN a m)
  | 0, b, m => by rw [Nat.zero_add]; rfl
  | a + 1, b, m => by rw [Nat.add_right_comm]; exact stepN_add a b m.step
theorem runFor_eq : ∀ (n : Nat) (m : M), M.runFor n m = stepN n m
  | 0, _ => rfl
  | n + 1, m => by
    show (if m.outcome.isSome then m else M.runFor n m.step) = stepN n m.step
    split
    · rename_i h; rw [step_done h, stepN_done h]
    · exact runFor_eq n m.step

/-- the engine comes to m' within n steps -/
noncomputable def Comes (n : Nat) (m m' : M) : Prop := ∃ k, k ≤ n ∧ stepN k m = m'
theorem Comes.refl (m : M) : Comes 0 m m := ⟨0, Nat.le_refl _, rfl⟩
theorem Comes.step {n : Nat} {m m₁ m' : M} (h : m.step = m₁) (x : Comes n m₁ m') : Comes (n + 1) m m' := by
  obtain ⟨k, hk, e⟩ := x
  exact ⟨k + 1, by omega, by rw [stepN, h]; exact e⟩
theorem Comes.mono {n n' : Nat} {m m' : M} (x : Comes n m m') (h : n ≤ n') : Comes n' m m' := let ⟨k, hk, e⟩ := x; ⟨k, by omega, e⟩

section
variable {w : World} {A : Around} {s : Shared} {E : Value → Shared → Prop} {MM : Model}
theorem drive : ∀ (turns : Nat) (m : M) (N : Nat) {m' : M} {Q : M → Shared → Prop}, N ≤ 4 * turns → Comes N m m' → m'.outcome.isSome = true → Q m' s → 0 < turns → wpAny MM A (Re.reDrive turns m) Q E s
  | 0, _, _, _, _, _, _, _, _, h => absurd h (Nat.lt_irrefl 0)
  | turns + 1, m, N, m', Q, hN, ⟨k, hk, e⟩, ho, hq, _ => by
    unfold Re.reDrive
    show wpAny MM A (if (M.runFor 4 m).outcome.isSome then pure (M.runFor 4 m) else do rule "sre.turn"; Re.reDrive turns (M.runFor 4 m)) Q E s
    rw [runFor_eq]
    by_cases h4 : k ≤ 4
    · have : stepN 4 m = m' := by
        rw [show 4 = k + (4 - k) by omega, stepN_add, e, stepN_done ho]
      rw [this, if_pos ho]
      exact wpAny_pure hq
    · have e' : stepN (k - 4) (stepN 4 m) = m' := by rw [← stepN_add, show 4 + (k - 4) = k by omega]; exact e
      split
      · rename_i h
        have : stepN 4 m = m' := by rw [← e', stepN_done h]
        rw [this]; exact wpAny_pure hq
      · refine wpAny_bind (wpAny_rule ?_)
        exact drive turns (stepN 4 m) (N - 4) (by omega) ⟨k - 4, by omega, e'⟩ ho hq (by omega)
end

/-! ## the second: line ends -/
noncomputable def m2 (text : Array Nat) (s pc pos handed : Nat) (om : Bool) (fs : List Sre.Frame) (wt : Nat) (ans : Option Bool) (seen : Sre.Seen) : M :=
  { code := code2, text, lim := text.size, start := s, lastStart := text.size, pc, pos, handed, outermost := om, marks := #[], frames := fs, weight := wt, answer := ans, seen }

noncomputable def fS (s pc : Nat) (om : Bool) : Sre.Frame := { wait := .nextStart, pc, pos := s, outermost := om }
theorem set2 (c : Nat) (seen : Sre.Seen) : ∃ seen', inSet code2 c code2.size 5 true seen = .ok (c == 10 || c == 13, seen') := by
  show ∃ seen', (if c == 10 then .ok (true, _) else if c == 13 then .ok (true, _) else Except.ok (!true, _)) = Except.ok (c == 10 || c == 13, seen')
  by_cases h : (c == 10) = true
  · rw [if_pos h, h]; exact ⟨_, rfl⟩
  · rw [if_neg h]
    by_cases h' : (c == 13) = true
    · rw [if_pos h', h']; exact ⟨_, by rw [Bool.or_true]⟩
    · rw [if_neg h']
      simp only [Bool.not_eq_true] at h h'
      rw [h, h']; exact ⟨_, rfl⟩

/-! ## steps -/
section
variable {m : M}
theorem step_exec (ho : m.outcome = none) (ha : m.answer = none) (hp : m.pc < m.code.size) : m.step = m.exec := by
  unfold M.step; rw [ho, ha]; simp only [Option.isSome_none, Bool.false_eq_true, if_false]; rw [if_pos hp]
theorem step_back {f : Sre.Frame} {rest : List Sre.Frame} {yes : Bool} (ho : m.outcome = none) (ha : m.answer = some yes) (hf : m.frames = f :: rest) :
    m.step = M.resume { m with answer := none, frames := rest, weight := m.weight - (1 + f.kept.marks.size), pc := f.pc, pos := f.pos, outermost := f.outermost } f yes := by
  unfold M.step; rw [ho, ha, hf]; simp only [Option.isSome_none, Bool.false_eq_true, if_false]
theorem step_end {yes : Bool} (ho : m.outcome = none) (ha : m.answer = some yes) (hf : m.frames = []) :
    m.step = { m with outcome := some (if yes then .matched else .failed) } := by
  unfold M.step; rw [ho, ha, hf]; simp only [Option.isSome_none, Bool.false_eq_true, if_false]

theorem exec_lit {c : Nat} (hw : m.word 0 = 16) (hc : m.code.getD m.pc 0 = 16) (h1' : m.code.getD (m.pc + 1) 0 = c) : ∃ seen', m.exec = if m.pos < m.lim ∧ m.text.getD m.pos 0 = c then { m with seen := seen', pc := m.pc + 2, pos := m.pos + 1 } else { m with seen := seen', answer := some false } := by
  refine ⟨m.seen.add 16, ?_⟩
  have e1 : ops[16]? = some .LITERAL := rfl
  have ea : ∀ x seen, accepts m.code m.pc x seen = .ok (x == c, seen) := fun x seen => by unfold accepts; rw [hc, h1']; rfl
  have ei : itemWidth m.code m.pc = 2 := by unfold itemWidth; rw [hc]; rfl
  unfold M.exec
  rw [hw, e1]
  simp only [ea, ei]
  by_cases hp : m.pos < m.lim
  · rw [if_neg (by omega)]
    by_cases hx : m.text.getD m.pos 0 = c
    · rw [if_pos ⟨hp, hx⟩]
      have : (m.text.getD m.pos 0 == c) = true := by simpa using hx
      rw [this]
    · rw [if_neg (fun z => hx z.2)]
      have : (m.text.getD m.pos 0 == c) = false := by simpa using hx
      rw [this]; rfl
  · rw [if_pos (by omega), if_neg (fun z => hp z.1)]; rfl
end

/-- a literal of the second pattern -/
theorem lit2 {text : Array Nat} {s pos handed : Nat} {om : Bool} {fs : List Sre.Frame} {wt : Nat} {seen : Sre.Seen} (pc c : Nat) (hc : code2.getD pc 0 = 16) (h1 : code2.getD (pc + 1) 0 = c) (hp : pc < 36) :
    ∃ seen', (m2 text s pc pos handed om fs wt none seen).step = if pos < text.size ∧ text.getD pos 0 = c then m2 text s (pc + 2) (pos + 1) handed om fs wt none seen' else m2 text s pc pos handed om fs wt (some false) seen' := by
  obtain ⟨seen', e⟩ := exec_lit (m := m2 text s pc pos handed om fs wt none seen) (c := c) hc hc h1
  exact ⟨seen', by rw [step_exec rfl rfl hp, e]; rfl⟩

noncomputable def kp0 : Sre.Kept := { lastmark := -1, lastindex := -1, whole := false, marks := #[] }
noncomputable def fB (alt pos : Nat) (om : Bool) : Sre.Frame := { wait := .nextBranch, pc := alt, pos, outermost := om, kept := kp0 }

theorem br2 {text : Array Nat} {s pos handed : Nat} {om : Bool} {fs : List Sre.Frame} {seen : Sre.Seen} :
    ∃ seen', (m2 text s 10 pos handed om fs 1 none seen).step = m2 text s 12 pos pos om (fB 11 pos om :: fs) 2 none seen' := by
  rw [step_exec rfl rfl (by show 10 < 36; decide)]
  exact ⟨_, rfl⟩
theorem alt2 {text : Array Nat} {s pos handed : Nat} {om om' : Bool} {fs : List Sre.Frame} {seen : Sre.Seen} {pc p : Nat} :
    (m2 text s pc p handed om' (fB 11 pos om :: fs) 2 (some false) seen).step = m2 text s 19 pos pos om (fB 18 pos om :: fs) 2 none seen := by
  rw [step_back rfl rfl rfl]; rfl
theorem alt3 {text : Array Nat} {s pos handed : Nat} {om om' : Bool} {fs : List Sre.Frame} {seen : Sre.Seen} {pc p : Nat} :
    (m2 text s pc p handed om' (fB 18 pos om :: fs) 2 (some false) seen).step = m2 text s 24 pos pos om (fB 23 pos om :: fs) 2 none seen := by
  rw [step_back rfl rfl rfl]; rfl
theorem jump2 {text : Array Nat} {s pos handed : Nat} {om : Bool} {fs : List Sre.Frame} {wt : Nat} {seen : Sre.Seen} (pc : Nat) (h : pc = 16 ∨ pc = 21 ∨ pc = 32) :
    ∃ seen', (m2 text s pc pos handed om fs wt none seen).step = m2 text s 35 pos handed om fs wt none seen' := by
  rcases h with rfl | rfl | rfl <;> (rw [step_exec rfl rfl (by first | (show 16 < 36; decide) | (show 21 < 36; decide) | (show 32 < 36; decide) | (show 35 < 36; decide) | (show 31 < 36; decide))]; exact ⟨_, rfl⟩)
theorem succ2 {text : Array Nat} {s pos handed : Nat} {om : Bool} {fs : List Sre.Frame} {wt : Nat} {seen : Sre.Seen} (pc : Nat) (h : pc = 35 ∨ pc = 31) :
    ∃ seen', (m2 text s pc pos handed om fs wt none seen).step = m2 text s pc pos pos om fs wt (some true) seen' := by
  have key : ∀ b : Bool, (b && ((false && (pos != text.size)) || (false && pos == s))) = false := by intro b; cases b <;> rfl
  rcases h with rfl | rfl <;>
  · rw [step_exec rfl rfl (by first | (show 16 < 36; decide) | (show 21 < 36; decide) | (show 32 < 36; decide) | (show 35 < 36; decide) | (show 31 < 36; decide))]
    refine ⟨seen.add 1, ?_⟩
    unfold M.exec
    rw [show (m2 text s _ pos handed om fs wt none seen).word 0 = 1 from rfl, show ops[1]? = some .SUCCESS from rfl]
    dsimp only
    rw [if_neg (by rw [Bool.not_eq_true]; exact key om)]
    rfl
theorem up2 {text : Array Nat} {s pos handed : Nat} {om om' : Bool} {fs : List Sre.Frame} {seen : Sre.Seen} {pc p a : Nat} :
    (m2 text s pc p handed om' (fB a pos om :: fs) 2 (some true) seen).step = m2 text s a pos handed om fs 1 (some true) seen := by
  rw [step_back rfl rfl rfl]; rfl
theorem top2 {text : Array Nat} {s pos handed : Nat} {om om' : Bool} {seen : Sre.Seen} {pc p pc' : Nat} :
    (m2 text s pc p handed om' [fS pos pc' om] 1 (some true) seen).step = m2 text s pc' pos handed om [] 0 (some true) seen := by
  rw [step_back rfl rfl rfl]; rfl
noncomputable def fL (pos : Nat) (om : Bool) : Sre.Frame := { wait := .lookNot, pc := 26, pos, outermost := om, kept := kp0 }
theorem look2 {text : Array Nat} {s pos handed : Nat} {om : Bool} {fs : List Sre.Frame} {seen : Sre.Seen} :
    ∃ seen', (m2 text s 26 pos handed om fs 2 none seen).step = m2 text s 29 pos pos false (fL pos om :: fs) 3 none seen' := by
  rw [step_exec rfl rfl (by show 26 < 36; decide)]
  refine ⟨seen.add 5, ?_⟩
  unfold M.exec
  rw [show (m2 text s 26 pos handed om fs 2 none seen).word 0 = 5 from rfl, show ops[5]? = some .ASSERT_NOT from rfl]
  dsimp only
  rw [if_neg (by show ¬ pos < 0; omega)]
  rfl
theorem looked2 {text : Array Nat} {s pos handed : Nat} {om om' : Bool} {fs : List Sre.Frame} {seen : Sre.Seen} {pc p : Nat} :
    (m2 text s pc p handed om' (fL pos om :: fs) 3 (some false) seen).step = m2 text s 32 pos handed om fs 2 none seen := by
  rw [step_back rfl rfl rfl]; rfl

/-- the engine stands at a line end -/
noncomputable def len2 (l : List Nat) (p : Nat) : Nat := if l[p]? = some 13 ∧ l[p + 1]? = some 10 then 2 else 1
theorem getD_iff {text : Array Nat} {p c : Nat} : (p < text.size ∧ text.getD p 0 = c) ↔ text.toList[p]? = some c := by
  rw [Array.getElem?_toList]
  constructor
  · rintro ⟨h, e⟩
    rw [Array.getElem?_eq_getElem h]
    unfold Array.getD at e; rw [dif_pos h] at e
    exact congrArg some e
  · intro h
    obtain ⟨h1, h2⟩ := Array.getElem?_eq_some_iff.mp h
    refine ⟨h1, ?_⟩
    unfold Array.getD; rw [dif_pos h1]; exact h2

theorem hit2 {text : Array Nat} {p handed : Nat} {om : Bool} {seen : Sre.Seen} (h : text.toList[p]? = some 10 ∨ text.toList[p]? = some 13) :
    ∃ m', Comes 20 (m2 text p 10 p handed om [fS p 10 om] 1 none seen) m' ∧ m'.outcome = some .matched ∧ m'.start = p ∧ m'.handed = p + len2 text.toList p := by
  have fin : ∀ pos hd om' a seen, ∃ m', Comes 4 (m2 text p 35 pos hd om' (fB a p om :: [fS p 10 om]) 2 none seen) m' ∧ m'.outcome = some .matched ∧ m'.start = p ∧ m'.handed = pos := by
    intro pos hd om' a seen
    obtain ⟨s1, e1⟩ := succ2 (text := text) (s := p) (pos := pos) (handed := hd) (om := om') (fs := fB a p om :: [fS p 10 om]) (wt := 2) (seen := seen) 35 (.inl rfl)
    refine ⟨{ m2 text p 10 p pos om [] 0 (some true) s1 with outcome := some .matched }, .step e1 (.step up2 (.step top2 (.step (step_end rfl rfl rfl) (.refl _)))), rfl, rfl, rfl⟩
  obtain ⟨s1, e1⟩ := br2 (text := text) (s := p) (pos := p) (handed := handed) (om := om) (fs := [fS p 10 om]) (seen := seen)
  obtain ⟨s2, e2⟩ := lit2 (text := text) (s := p) (pos := p) (handed := p) (om := om) (fs := fB 11 p om :: [fS p 10 om]) (wt := 2) (seen := s1) 12 13 rfl rfl (by decide)
  have second : ∀ pc q sn, (text.toList[p]? = some 10 → ∃ m', Comes 8 (m2 text p pc q p om (fB 11 p om :: [fS p 10 om]) 2 (some false) sn) m' ∧ m'.outcome = some .matched ∧ m'.start = p ∧ m'.handed = p + 1) ∧
      (text.toList[p]? = some 13 → text.toList[p + 1]? ≠ some 10 → ∃ m', Comes 16 (m2 text p pc q p om (fB 11 p om :: [fS p 10 om]) 2 (some false) sn) m' ∧ m'.outcome = some .matched ∧ m'.start = p ∧ m'.handed = p + 1) := by
    intro pc q sn
    obtain ⟨s3, e3⟩ := lit2 (text := text) (s := p) (pos := p) (handed := p) (om := om) (fs := fB 18 p om :: [fS p 10 om]) (wt := 2) (seen := sn) 19 10 rfl rfl (by decide)
    constructor
    · intro h10
      rw [if_pos (getD_iff.mpr h10)] at e3
      obtain ⟨s4, e4⟩ := jump2 (text := text) (s := p) (pos := p + 1) (handed := p) (om := om) (fs := fB 18 p om :: [fS p 10 om]) (wt := 2) (seen := s3) 21 (by decide)
      obtain ⟨m', c, r⟩ := fin (p + 1) p om 18 s4
      exact ⟨m', (Comes.step alt2 (.step e3 (.step e4 c))).mono (by omega), r⟩
    · intro h13 hn
      rw [if_neg (fun z => by have := getD_iff.mp z; rw [h13] at this; cases this)] at e3
      obtain ⟨s4, e4⟩ := lit2 (text := text) (s := p) (pos := p) (handed := p) (om := om) (fs := fB 23 p om :: [fS p 10 om]) (wt := 2) (seen := s3) 24 13 rfl rfl (by decide)
      rw [if_pos (getD_iff.mpr h13)] at e4
      obtain ⟨s5, e5⟩ := look2 (text := text) (s := p) (pos := p + 1) (handed := p) (om := om) (fs := fB 23 p om :: [fS p 10 om]) (seen := s4)
      obtain ⟨s6, e6⟩ := lit2 (text := text) (s := p) (pos := p + 1) (handed := p + 1) (om := false) (fs := fL (p + 1) om :: fB 23 p om :: [fS p 10 om]) (wt := 3) (seen := s5) 29 10 rfl rfl (by decide)
      rw [if_neg (fun z => hn (getD_iff.mp z))] at e6
      obtain ⟨s7, e7⟩ := jump2 (text := text) (s := p) (pos := p + 1) (handed := p + 1) (om := om) (fs := fB 23 p om :: [fS p 10 om]) (wt := 2) (seen := s6) 32 (by decide)
      obtain ⟨m', c, r⟩ := fin (p + 1) (p + 1) om 23 s7
      exact ⟨m', (Comes.step alt2 (.step e3 (.step alt3 (.step e4 (.step e5 (.step e6 (.step looked2 (.step e7 c)))))))).mono (by omega), r⟩
  rcases h with h10 | h13
  · rw [if_neg (fun z => by have := getD_iff.mp z; rw [h10] at this; cases this)] at e2
    obtain ⟨m', c, r1, r2, r3⟩ := (second 12 p s2).1 h10
    refine ⟨m', (Comes.step e1 (.step e2 c)).mono (by omega), r1, r2, r3.trans ?_⟩
    unfold len2; rw [if_neg (by rw [h10]; rintro ⟨z, _⟩; cases z)]
  · rw [if_pos (getD_iff.mpr h13)] at e2
    obtain ⟨s3, e3⟩ := lit2 (text := text) (s := p) (pos := p + 1) (handed := p) (om := om) (fs := fB 11 p om :: [fS p 10 om]) (wt := 2) (seen := s2) 14 10 rfl rfl (by decide)
    by_cases h10 : text.toList[p + 1]? = some 10
    · rw [if_pos (getD_iff.mpr h10)] at e3
      obtain ⟨s4, e4⟩ := jump2 (text := text) (s := p) (pos := p + 1 + 1) (handed := p) (om := om) (fs := fB 11 p om :: [fS p 10 om]) (wt := 2) (seen := s3) 16 (by decide)
      obtain ⟨m', c, r1, r2, r3⟩ := fin (p + 1 + 1) p om 11 s4
      refine ⟨m', (Comes.step e1 (.step e2 (.step e3 (.step e4 c)))).mono (by omega), r1, r2, r3.trans ?_⟩
      unfold len2; rw [if_pos ⟨h13, h10⟩]
    · rw [if_neg (fun z => h10 (getD_iff.mp z))] at e3
      obtain ⟨m', c, r1, r2, r3⟩ := (second 14 (p + 1) s3).2 h13 h10
      refine ⟨m', (Comes.step e1 (.step e2 (.step e3 c))).mono (by omega), r1, r2, r3.trans ?_⟩
      unfold len2; rw [if_neg (fun z => h10 z.2)]
end Mine
end

noncomputable section -- NbRe2
open PySem PySem.W PyProof.Rows
open PySem.Builtin PySem.Builtin.Str PySem.Builtin.BaseException
set_option maxRecDepth 100000
namespace Mine
open PySem.Sre

noncomputable def nlC (c : Nat) : Bool := c == 10 || c == 13
noncomputable def nextNL (l : List Nat) (s : Nat) : Nat := skipFrom (fun c => !nlC c) l s

theorem adm2 {m : M} (hc : m.code = code2) (hl : m.lim = m.text.size) : ∀ (fuel s : Nat) (seen : Sre.Seen), s + fuel = m.text.size + 1 →
    ∃ seen', M.admitted m fuel s seen = .ok (if nextNL m.text.toList s < m.text.size then some (nextNL m.text.toList s) else none, seen') := by
  intro fuel
  induction fuel with
  | zero =>
    intro s seen hs
    have : nextNL m.text.toList s = s := skip_end (by rw [Array.length_toList]; omega)
    exact ⟨seen, by rw [this, if_neg (by omega)]; rfl⟩
  | succ fuel ih =>
    intro s seen hs
    unfold M.admitted
    rw [hl]
    by_cases hge : s ≥ m.text.size
    · rw [if_pos hge]
      have : nextNL m.text.toList s = s := skip_end (by rw [Array.length_toList]; omega)
      exact ⟨seen, by rw [this, if_neg (by omega)]⟩
    · rw [if_neg hge]
      obtain ⟨sn, e⟩ := set2 (m.text.getD s 0) seen
      rw [hc, e]
      have hcs : m.text.toList[s]? = some (m.text.getD s 0) := getD_iff.mp ⟨by omega, rfl⟩
      cases hb : (m.text.getD s 0 == 10 || m.text.getD s 0 == 13) with
      | true =>
        have : nextNL m.text.toList s = s := skip_stop hcs (by show (!nlC _) = false; unfold nlC; rw [hb]; rfl)
        exact ⟨sn, by rw [this, if_pos (by omega)]⟩
      | false =>
        obtain ⟨sn', e'⟩ := ih (s + 1) sn (by omega)
        have : nextNL m.text.toList (s + 1) = nextNL m.text.toList s := skip_step hcs (by show (!nlC _) = true; unfold nlC; rw [hb]; rfl)
        exact ⟨sn', by rw [this] at e'; exact e'⟩

theorem search2 (text : Array Nat) (s : Nat) (hs : s ≤ text.size) :
    (text.size ≤ nextNL text.toList s → ∃ m', Comes 2 (forSearch code2 text 0 s text.size false) m' ∧ m'.outcome = some .failed) ∧
    (nextNL text.toList s < text.size → ∃ m', Comes 20 (forSearch code2 text 0 s text.size false) m' ∧ m'.outcome = some .matched ∧ m'.start = nextNL text.toList s ∧ m'.handed = nextNL text.toList s + len2 text.toList (nextNL text.toList s)) := by
  have hge : s ≤ nextNL text.toList s := skip_ge
  have e0 : forSearch code2 text 0 s text.size false = if (decide (s > text.size) || decide (text.size - s < 1)) = true then m2 text s 10 s s true [] 0 (some false) (({} : Sre.Seen).add 14) |> fun m => { m with lastStart := 0 }
      else (m2 text s 10 s s true [] 0 none (({} : Sre.Seen).add 14)).attemptFrom s true := rfl
  rw [e0]
  by_cases hlt : s < text.size
  · rw [if_neg (by simp; omega)]
    obtain ⟨sn, ea⟩ := adm2 (m := m2 text s 10 s s true [] 0 none (({} : Sre.Seen).add 14)) rfl rfl (text.size + 1 - s) s (({} : Sre.Seen).add 14) (by show s + (text.size + 1 - s) = text.size + 1; omega)
    have ea' : M.admitted (m2 text s 10 s s true [] 0 none (({} : Sre.Seen).add 14)) (text.size + 1 - s) s (({} : Sre.Seen).add 14) = .ok (if nextNL text.toList s < text.size then some (nextNL text.toList s) else none, sn) := ea
    have ef : (m2 text s 10 s s true [] 0 none (({} : Sre.Seen).add 14)).attemptFrom s true = match M.admitted (m2 text s 10 s s true [] 0 none (({} : Sre.Seen).add 14)) (text.size + 1 - s) s (({} : Sre.Seen).add 14) with
      | .ok (some s', seen) => { m2 text s 10 s s true [] 0 none (({} : Sre.Seen).add 14) with mustAdvance := false, seen }.attemptAt s' true
      | .ok (none, seen) => { m2 text s 10 s s true [] 0 none (({} : Sre.Seen).add 14) with seen }.say false
      | .error why => (m2 text s 10 s s true [] 0 none (({} : Sre.Seen).add 14)).stick why := rfl
    rw [ef, ea']
    constructor
    · intro hn
      rw [if_neg (by omega)]
      exact ⟨_, (Comes.step (step_end rfl rfl rfl) (.refl _)).mono (by omega), rfl⟩
    · intro hn
      rw [if_pos hn]
      obtain ⟨c, hc, hb⟩ := skip_found (p := fun c => !nlC c) (l := text.toList) (lo := s) (by rw [Array.length_toList]; exact hn)
      have hc' : text.toList[nextNL text.toList s]? = some 10 ∨ text.toList[nextNL text.toList s]? = some 13 := by
        have : nlC c = true := by simpa using hb
        unfold nlC at this
        rcases Bool.or_eq_true_iff.mp this with z | z
        · left; rw [show text.toList[nextNL text.toList s]? = some c from hc, eq_of_beq z]
        · right; rw [show text.toList[nextNL text.toList s]? = some c from hc, eq_of_beq z]
      exact hit2 (om := true) (handed := nextNL text.toList s) (seen := sn) hc'
  · have hsz : s = text.size := by omega
    rw [if_pos (by simp; omega)]
    constructor
    · intro _
      exact ⟨_, (Comes.step (step_end rfl rfl rfl) (.refl _)).mono (by omega), rfl⟩
    · intro h; omega

/-! ## the first: a dot at a line's start -/
noncomputable def m1 (text : Array Nat) (s pc pos handed : Nat) (om : Bool) (fs : List Sre.Frame) (wt : Nat) (ans : Option Bool) (seen : Sre.Seen) : M :=
  { code := code1, text, lim := text.size, start := s, lastStart := text.size, pc, pos, handed, outermost := om, marks := #[], frames := fs, weight := wt, answer := ans, seen }
/-- a dot at a line's start -/
noncomputable def dotAt (l : List Nat) (s : Nat) : Prop := (s = 0 ∨ l[s - 1]? = some 10) ∧ l[s]? = some 46
theorem lit1 {text : Array Nat} {s pos handed : Nat} {om : Bool} {fs : List Sre.Frame} {wt : Nat} {seen : Sre.Seen} :
    ∃ seen', (m1 text s 7 pos handed om fs wt none seen).step = if pos < text.size ∧ text.getD pos 0 = 46 then m1 text s 9 (pos + 1) handed om fs wt none seen' else m1 text s 7 pos handed om fs wt (some false) seen' := by
  obtain ⟨seen', e⟩ := exec_lit (m := m1 text s 7 pos handed om fs wt none seen) (c := 46) rfl rfl rfl
  exact ⟨seen', by rw [step_exec rfl rfl (by show 7 < 10; decide), e]; rfl⟩
theorem at1 {text : Array Nat} {s pos handed : Nat} {om : Bool} {fs : List Sre.Frame} {wt : Nat} {seen : Sre.Seen} :
    ∃ seen', (m1 text s 5 pos handed om fs wt none seen).step = if (pos == 0 || text.getD (pos - 1) 0 == 10) = true then m1 text s 7 pos handed om fs wt none seen' else m1 text s 5 pos handed om fs wt (some false) seen' := by
  rw [step_exec rfl rfl (by show 5 < 10; decide)]
  exact ⟨_, rfl⟩
theorem succ1 {text : Array Nat} {s pos handed : Nat} {om : Bool} {fs : List Sre.Frame} {wt : Nat} {seen : Sre.Seen} :
    ∃ seen', (m1 text s 9 pos handed om fs wt none seen).step = m1 text s 9 pos pos om fs wt (some true) seen' := by
  have key : ∀ b : Bool, (b && ((false && (pos != text.size)) || (false && pos == s))) = false := by intro b; cases b <;> rfl
  rw [step_exec rfl rfl (by show 9 < 10; decide)]
  refine ⟨seen.add 1, ?_⟩
  unfold M.exec
  rw [show (m1 text s _ pos handed om fs wt none seen).word 0 = 1 from rfl, show ops[1]? = some .SUCCESS from rfl]
  dsimp only
  rw [if_neg (by rw [Bool.not_eq_true]; exact key om)]
  rfl
theorem top1 {text : Array Nat} {s pos handed : Nat} {om om' : Bool} {seen : Sre.Seen} {pc p pc' : Nat} :
    (m1 text s pc p handed om' [fS pos pc' om] 1 (some true) seen).step = m1 text s pc' pos handed om [] 0 (some true) seen := by
  rw [step_back rfl rfl rfl]; rfl
theorem on1 {text : Array Nat} {s pos handed : Nat} {om om' : Bool} {seen : Sre.Seen} {pc p : Nat} :
    (m1 text s pc p handed om' [fS pos 5 om] 1 (some false) seen).step = if pos < text.size then m1 text (pos + 1) 5 (pos + 1) (pos + 1) false [fS (pos + 1) 5 false] 1 none seen else m1 text s 5 pos handed om [] 0 (some false) seen := by
  rw [step_back rfl rfl rfl]; rfl

/-- no dot at a line's start from s on -/
theorem run1 {text : Array Nat} : ∀ (j s handed : Nat) (om : Bool) (seen : Sre.Seen), text.size - s = j → s ≤ text.size →
    ((∀ p, s ≤ p → ¬ dotAt text.toList p) → ∃ m', Comes (4 * j + 4) (m1 text s 5 s handed om [fS s 5 om] 1 none seen) m' ∧ m'.outcome = some .failed) ∧
    (∀ p, s ≤ p → dotAt text.toList p → (∀ q, s ≤ q → q < p → ¬ dotAt text.toList q) → ∃ m', Comes (4 * j + 8) (m1 text s 5 s handed om [fS s 5 om] 1 none seen) m' ∧ m'.outcome = some .matched ∧ m'.start = p ∧ m'.handed = p + 1) := by
  intro j
  induction j with
  | zero =>
    intro s handed om seen hj hs
    have hsz : s = text.size := by omega
    have hnone : ∀ p, s ≤ p → ¬ dotAt text.toList p := fun p hp hd => by
      have := (List.getElem?_eq_some_iff.mp hd.2).1
      rw [Array.length_toList] at this; omega
    refine ⟨fun _ => ?_, fun p hp hd => absurd hd (hnone p hp)⟩
    obtain ⟨s1, e1⟩ := at1 (text := text) (s := s) (pos := s) (handed := handed) (om := om) (fs := [fS s 5 om]) (wt := 1) (seen := seen)
    have last : ∀ pc sn, Comes 2 (m1 text s pc s handed om [fS s 5 om] 1 (some false) sn) { m1 text s 5 s handed om [] 0 (some false) sn with outcome := some .failed } := fun pc sn => by
      have e := on1 (text := text) (s := s) (pos := s) (handed := handed) (om := om) (om' := om) (seen := sn) (pc := pc) (p := s)
      rw [if_neg (by omega)] at e
      exact .step e (.step (step_end rfl rfl rfl) (.refl _))
    split at e1
    · obtain ⟨s2, e2⟩ := lit1 (text := text) (s := s) (pos := s) (handed := handed) (om := om) (fs := [fS s 5 om]) (wt := 1) (seen := s1)
      rw [if_neg (by omega)] at e2
      exact ⟨_, (Comes.step e1 (.step e2 (last _ _))).mono (by omega), rfl⟩
    · exact ⟨_, (Comes.step e1 (last _ _)).mono (by omega), rfl⟩
  | succ j ih =>
    intro s handed om seen hj hs
    have hlt : s < text.size := by omega
    obtain ⟨s1, e1⟩ := at1 (text := text) (s := s) (pos := s) (handed := handed) (om := om) (fs := [fS s 5 om]) (wt := 1) (seen := seen)
    have dot : dotAt text.toList s ↔ (s == 0 || text.getD (s - 1) 0 == 10) = true ∧ text.getD s 0 = 46 := by
      unfold dotAt
      rw [Bool.or_eq_true_iff, beq_iff_eq, beq_iff_eq, ← getD_iff (p := s - 1), ← getD_iff (p := s)]
      constructor
      · rintro ⟨h1 | h1, h2⟩
        · exact ⟨.inl h1, h2.2⟩
        · exact ⟨.inr h1.2, h2.2⟩
      · rintro ⟨h1 | h1, h2⟩
        · exact ⟨.inl h1, hlt, h2⟩
        · exact ⟨.inr ⟨by omega, h1⟩, hlt, h2⟩
    -- a fall goes on from the next place
    have fall : ¬ dotAt text.toList s → ∃ sn, Comes 3 (m1 text s 5 s handed om [fS s 5 om] 1 none seen) (m1 text (s + 1) 5 (s + 1) (s + 1) false [fS (s + 1) 5 false] 1 none sn) := fun hnd => by
      have nx : ∀ pc sn, Comes 1 (m1 text s pc s handed om [fS s 5 om] 1 (some false) sn) (m1 text (s + 1) 5 (s + 1) (s + 1) false [fS (s + 1) 5 false] 1 none sn) := fun pc sn => by
        have e := on1 (text := text) (s := s) (pos := s) (handed := handed) (om := om) (om' := om) (seen := sn) (pc := pc) (p := s)
        rw [if_pos hlt] at e
        exact .step e (.refl _)
      by_cases hb : (s == 0 || text.getD (s - 1) 0 == 10) = true
      · rw [if_pos hb] at e1
        obtain ⟨s2, e2⟩ := lit1 (text := text) (s := s) (pos := s) (handed := handed) (om := om) (fs := [fS s 5 om]) (wt := 1) (seen := s1)
        rw [if_neg (fun z => hnd (dot.mpr ⟨hb, z.2⟩))] at e2
        exact ⟨s2, .step e1 (.step e2 (nx _ _))⟩
      · rw [if_neg hb] at e1
        exact ⟨s1, (Comes.step e1 (nx _ _)).mono (by omega)⟩
    constructor
    · intro hn
      obtain ⟨sn, k, hk, e⟩ := fall (hn s (Nat.le_refl _))
      obtain ⟨m', ⟨k', hk', e'⟩, r⟩ := (ih (s + 1) (s + 1) false sn (by omega) (by omega)).1 fun p hp => hn p (by omega)
      exact ⟨m', ⟨k + k', by omega, by rw [stepN_add, e, e']⟩, r⟩
    · intro p hp hd hbef
      by_cases hps : p = s
      · subst hps
        obtain ⟨hb, hc⟩ := dot.mp hd
        rw [if_pos hb] at e1
        obtain ⟨s2, e2⟩ := lit1 (text := text) (s := p) (pos := p) (handed := handed) (om := om) (fs := [fS p 5 om]) (wt := 1) (seen := s1)
        rw [if_pos ⟨hlt, hc⟩] at e2
        obtain ⟨s3, e3⟩ := succ1 (text := text) (s := p) (pos := p + 1) (handed := handed) (om := om) (fs := [fS p 5 om]) (wt := 1) (seen := s2)
        exact ⟨_, (Comes.step e1 (.step e2 (.step e3 (.step top1 (.step (step_end rfl rfl rfl) (.refl _)))))).mono (by omega), rfl, rfl, rfl⟩
      · obtain ⟨sn, k, hk, e⟩ := fall (hbef s (Nat.le_refl _) (by omega))
        obtain ⟨m', ⟨k', hk', e'⟩, r⟩ := (ih (s + 1) (s + 1) false sn (by omega) (by omega)).2 p (by omega) hd fun q hq hqp => hbef q (by omega) hqp
        exact ⟨m', ⟨k + k', by omega, by rw [stepN_add, e, e']⟩, r⟩

theorem search1 (text : Array Nat) (s : Nat) (hs : s ≤ text.size) :
    ((∀ p, s ≤ p → ¬ dotAt text.toList p) → ∃ m', Comes (4 * text.size + 8) (forSearch code1 text 0 s text.size false) m' ∧ m'.outcome = some .failed) ∧
    (∀ p, s ≤ p → dotAt text.toList p → (∀ q, s ≤ q → q < p → ¬ dotAt text.toList q) → ∃ m', Comes (4 * text.size + 8) (forSearch code1 text 0 s text.size false) m' ∧ m'.outcome = some .matched ∧ m'.start = p ∧ m'.handed = p + 1) := by
  have e0 : forSearch code1 text 0 s text.size false = if (decide (s > text.size) || decide (text.size - s < 1)) = true then m1 text s 5 s s true [] 0 (some false) (({} : Sre.Seen).add 14) |> fun m => { m with lastStart := 0 }
      else m1 text s 5 s s true [fS s 5 true] 1 none (({} : Sre.Seen).add 14) := rfl
  rw [e0]
  by_cases hlt : s < text.size
  · rw [if_neg (by simp; omega)]
    obtain ⟨r1, r2⟩ := run1 (text := text) (text.size - s) s s true (({} : Sre.Seen).add 14) rfl hs
    refine ⟨fun h => ?_, fun p h1 h2 h3 => ?_⟩
    · obtain ⟨m', c, r⟩ := r1 h; exact ⟨m', c.mono (by omega), r⟩
    · obtain ⟨m', c, r⟩ := r2 p h1 h2 h3; exact ⟨m', c.mono (by omega), r⟩
  · rw [if_pos (by simp; omega)]
    refine ⟨fun _ => ⟨_, (Comes.step (step_end rfl rfl rfl) (.refl _)).mono (by omega), rfl⟩, fun p hp hd => ?_⟩
    have := (List.getElem?_eq_some_iff.mp hd.2).1
    rw [Array.length_toList] at this; omega
end Mine
end

noncomputable section -- NbRe3
open PySem PySem.W PyProof.Rows
open PySem.Builtin PySem.Builtin.Str PySem.Builtin.BaseException
set_option maxRecDepth 100000
namespace Mine
open PySem.Builtin.Re

section
variable {M : Model} {A : Around} {s : Shared} {E : Value → Shared → Prop} {a : Addr} {code : Array Nat} {x : Str} {t : Tok}

theorem getD_of {vs : Array Value} {i : Nat} {v d : Value} (h : vs[i]? = some v) : vs.getD i d = v := by
  rw [Array.getD_eq_getD_getElem?, h]; rfl

theorem words_back (code : Array Nat) : ((code.map fun (c : Nat) => rawInt c).map reRawOf).map (·.toNat) = code := by
  rw [Array.map_map, Array.map_map]
  rw [show (((fun x => x.toNat) ∘ reRawOf) ∘ fun (c : Nat) => rawInt c) = _root_.id from by funext c; rfl]; simp

theorem whole_target {Q : ReTarget → Shared → Prop} (p : PatAt s.heap a code)
    (h : Q { pattern := .ref a, string := .str x t, code, text := x.cps, kind := 0, groups := 0, pos := 0, lim := x.cps.size } s) : wpAny M A (reWholeTarget (.ref a) (.str x t)) Q E s := by
  obtain ⟨o, vs, a5, o5, n, h1, h2, h3, h4, h5, h6, h7, h8⟩ := p
  unfold reWholeTarget
  refine wpAny_bind (wpAny_fieldsOf h1 h3 ?_)
  refine wpAny_bind (wpAny_pure ?_)
  dsimp only
  rw [getD_of h4, getD_of h5, getD_of h6]
  have e1 : (reRawNat (rawInt 0) == 0 && (0 : Nat) == 1) = false := rfl
  have e2 : (reRawNat (rawInt 0) == 1 && (0 : Nat) == 0) = false := rfl
  rw [if_neg (by decide), if_neg (by decide)]
  unfold reNoCollectionInside
  rw [if_neg (by decide)]
  refine wpAny_bind (wpAny_pure ?_)
  unfold reRawItems seqItems?
  refine wpAny_bind (wpAny_bind (wpAny_bind (wpAny_load h7 ?_)))
  rw [h8]
  refine wpAny_pure (wpAny_pure (wpAny_pure ?_))
  show Q { pattern := .ref a, string := .str x t, code := ((code.map fun (c : Nat) => rawInt c).map reRawOf).map (·.toNat), text := x.cps, kind := 0, groups := 0, pos := 0, lim := x.cps.size } s
  rw [words_back]; exact h

theorem run_to_end {m m' : Sre.M} {N : Nat} {Q : Option Sre.M → Shared → Prop} (hc : Comes N m m') (hN : N ≤ 1000000) 
    (h : (m'.outcome = some .matched ∧ Q (some m') s) ∨ (m'.outcome = some .failed ∧ Q none s)) : wpAny M A (reRunToEnd m) Q E s := by
  unfold reRunToEnd
  have ho : m'.outcome.isSome = true := by rcases h with ⟨e, _⟩ | ⟨e, _⟩ <;> rw [e] <;> rfl
  refine wpAny_bind (drive (2 ^ 64) m N (by omega) hc ho ?_ (by decide))
  refine wpAny_bind (wpAny_forIn_list _ (fun _ _ s' => s' = s) _ (fun i rest b s' hs => ?_) (fun b s' hs => ?_) _ _ rfl)
  · subst hs
    split
    · exact wpAny_bind (wpAny_rule (wpAny_pure rfl))
    · exact wpAny_pure rfl
  · subst hs
    rcases h with ⟨e, q⟩ | ⟨e, q⟩ <;> rw [e] <;> exact wpAny_pure q
end

/-- what the substitution gives from d on -/
inductive Subs (nx : Nat → Option (Nat × Nat)) (rep l : List Nat) : Nat → List Nat → Prop
  | fin {d} : nx d = none → Subs nx rep l d (l.drop d)
  | hit {d p q r} : nx d = some (p, q) → Subs nx rep l q r → Subs nx rep l d (Mine.sub l d p ++ rep ++ r)

noncomputable def cat (xs : List (Str × Tok)) : List Nat := xs.flatMap fun p => p.1.cps.toList

theorem entry_sub : entryFor table "re.Pattern.sub" = some Builtin.«re.Pattern.sub» := entryFor_of_tree (by kernel_rfl)
theorem entry_sub_loop : entryFor table "re.Pattern.sub.loop" = some Builtin.«re.Pattern.sub.loop» := entryFor_of_tree (by kernel_rfl)
theorem plain_sub_loop : plainId "re.Pattern.sub.loop" = true := by decide +kernel
theorem plainAttrs_pattern : PlainAttrs "re.Pattern" :=
  ⟨⟨"object.__getattribute__", by rw [typeLookup_type, builtinLookup_eq_fast]; kernel_rfl, by decide +kernel⟩, by rw [typeLookup_type, builtinLookup_eq_fast]; kernel_rfl⟩
theorem slot_sub : Slot "re.Pattern" "sub" "re.Pattern.sub" :=
  .of (owner := "re.Pattern") (n := "sub") (by rw [typeLookup_type, builtinLookup_eq_fast]; kernel_rfl) (by decide +kernel) (by decide +kernel) (by decide +kernel)
    (by first | exact .inl (by decide +kernel) | exact .inr (by decide +kernel)) (by rw [isSubtype_type]; kernel_rfl)
theorem type_sub : typeOf (.builtin "re.Pattern.sub") = pure (.type "method_descriptor") := by show builtinType _ = _; rw [builtinType_eq_fast]; kernel_rfl
theorem args_sub (a b c : Value) : argsOk "re.Pattern.sub" ⟨[a, b, c], []⟩ := by
  unfold argsOk; kernel_rfl
end Mine
end

noncomputable section -- NbRe4
open PySem PySem.W PyProof.Rows
open PySem.Builtin PySem.Builtin.Str PySem.Builtin.BaseException
set_option maxRecDepth 100000
namespace Mine
open PySem.Builtin.Re

theorem cat_snoc (xs : List (Str × Tok)) (y : Str × Tok) : cat (xs ++ [y]) = cat xs ++ y.1.cps.toList := by simp [cat]
theorem join_cat (xs : List (Str × Tok)) : Txt.join ⟨#[]⟩ (xs.map (·.1)) = S (cat xs) := by
  show glued ⟨#[]⟩ (xs.map (·.1)) = _
  rw [StrLaws.glued_eq_join, ← fold_cat_join_nil]
  have key : ∀ (l : List (Str × Tok)) (T : Str), (l.map (·.1)).foldl HAppend.hAppend T = S (T.cps.toList ++ cat l) := by
    intro l
    induction l with
    | nil => intro T; show T = S (T.cps.toList ++ []); rw [List.append_nil]; unfold S; simp
    | cons y l ih =>
      intro T
      show (l.map (·.1)).foldl HAppend.hAppend (T ++ y.1) = _
      rw [ih]
      congr 1
      show (T.cps ++ y.1.cps).toList ++ cat l = T.cps.toList ++ (y.1.cps.toList ++ cat l)
      rw [Array.toList_append, List.append_assoc]
  have := key xs ⟨#[]⟩
  rw [this]; rfl
theorem join_ok (xs : List (Str × Tok)) (h : (cat xs).length ≤ 100000) : JoinOk ⟨#[]⟩ (xs.map (·.1)) = true := by
  unfold JoinOk
  have key : ∀ (l : List (Str × Tok)) (n : Nat), (l.map (·.1)).toArray.foldl (fun a (b : Str) => a + b.length + (⟨#[]⟩ : Str).length) n = n + (cat l).length := by
    intro l
    induction l with
    | nil => intro n; simp [cat]
    | cons y l ih =>
      intro n
      have := ih (n + y.1.length)
      rw [List.foldl_toArray] at this ⊢
      show List.foldl _ (n + y.1.length + 0) _ = _
      rw [Nat.add_zero, this]
      have : (cat (y :: l)).length = y.1.length + (cat l).length := by
        show (y.1.cps.toList ++ cat l).length = _
        rw [List.length_append, Array.length_toList]; rfl
      omega
  have e := key xs 0
  rw [e]
  unfold tooLong
  simp only [sizeLine_eq, Bool.not_eq_true', decide_eq_false_iff_not]
  omega

section
variable {w : World} {A : Around} {E : Value → Shared → Prop} {a P : Addr} {code : Array Nat} {x rep : Str} {t u : Tok} {nx : Nat → Option (Nat × Nat)}

theorem push_list {s : Shared} {xs : List (Str × Tok)} {y : Str × Tok} {Q : Unit → Shared → Prop} {M : Model} (hl : s.heap.IsList P (strValues xs).toArray) (hz : xs.length ≤ 10000)
    (h : ∀ h', h'.IsList P (strValues (xs ++ [y])).toArray → (∀ b o, b ≠ P → s.heap.get? b = some o → h'.get? b = some o) → Q () { s with heap := h' }) : wpAny M A (updateSeq P (·.push (.str y.1 y.2))) Q E s := by
  obtain ⟨o, ho, hc, n, hd⟩ := hl
  have hlen : (strValues xs).toArray.size = xs.length := by simp [strValues]
  refine wpAny_updateSeq ho hd (h _ ⟨Obj.mapSeq (·.push (.str y.1 y.2)) o, ?_, ?_, ?_⟩ fun b o' hb e => (Heap.get?_update_other _ _ (Ne.symm hb)).trans e) (by rw [hlen, sizeLine_eq]; omega) (by rw [Array.size_push, hlen, sizeLine_eq]; omega)
  · refine Heap.get?_update_self _ ho ?_
    obtain ⟨c, d, dt, sl⟩ := o
    simp only at hd; subst hd; rfl
  · obtain ⟨c, d, dt, sl⟩ := o
    simp only at hd; subst hd; exact hc
  · obtain ⟨c, d, dt, sl⟩ := o
    simp only at hd; subst hd
    have e : (strValues xs).toArray.push (.str y.1 y.2) = (strValues (xs ++ [y])).toArray := by simp [strValues]
    rw [← e]
    exact ⟨_, rfl⟩

/-- the engine finds as told -/
noncomputable def Finds (code text : Array Nat) (nx : Nat → Option (Nat × Nat)) : Prop := ∀ d, d ≤ text.size → match nx d with
  | none => ∃ m', Comes 10000 (Sre.forSearch code text 0 d text.size false) m' ∧ m'.outcome = some .failed
  | some (p, q) => (∃ m', Comes 10000 (Sre.forSearch code text 0 d text.size false) m' ∧ m'.outcome = some .matched ∧ m'.start = p ∧ m'.handed = q) ∧ d ≤ p ∧ p < q ∧ q ≤ text.size

theorem extract_sub {x : Str} {d p : Nat} : (⟨x.cps.extract d p⟩ : Str) = S (Mine.sub x.cps.toList d p) := by
  unfold S Mine.sub
  congr 1
  apply Array.ext'
  rw [Array.toList_extract]

theorem slice_str {s : Shared} {M : Model} {d p : Nat} {Q : Value → Shared → Prop} (hx : x.length ≤ 1000) (h : Q (.str (S (Mine.sub x.cps.toList d p)) s.toks) { s with toks := s.toks + 1 }) : wpAny M A (reSlice x.cps 0 d p) Q E s := by
  unfold reSlice
  rw [if_pos (by decide), extract_sub]
  refine wpAny_mkStr h ?_
  have hl : x.cps.toList.length = x.length := Array.length_toList
  have hs : (Mine.sub x.cps.toList d p).Sublist x.cps.toList := (List.take_sublist _ _).trans (List.drop_sublist _ _)
  have := hs.length_le
  show (Mine.sub x.cps.toList d p).toArray.size ≤ _
  rw [List.size_toArray, sizeLine_eq]; omega

theorem sub_loop (hx : x.length ≤ 1000) (hrep : rep.length ≤ 10) (F : Finds code x.cps nx) {d : Nat} {r : List Nat} (hS : Subs nx rep.cps.toList x.cps.toList d r) : ∀ (s : Shared) (n : Int) (xs : List (Str × Tok)) (R : Result → Shared → Prop),
    d ≤ x.length → PatAt (hide s.heap [P]) a code → s.heap.IsList P (strValues xs).toArray → xs.length ≤ 2 * d → (cat xs).length ≤ 11 * d →
    (∀ h' tk t', (∀ b o, b ≠ P → s.heap.get? b = some o → h'.get? b = some o) → R (.ok (.ret (.str (S (cat xs ++ r)) t'))) { s with heap := h', toks := tk }) →
    codeAny (model prg w) A (.builtin "re.Pattern.sub.loop" ⟨[.ref a, .str x t, .str rep u, rawInt 0, rawInt 0, rawInt n, rawInt (d : Nat), rawInt (d : Nat), .bool false, .ref P, .bool false], []⟩) R s := by
  have hlen : x.cps.toList.length = x.length := Array.length_toList
  have hsz : x.cps.size = x.length := rfl
  have sublen : ∀ a b, a ≤ b → b ≤ x.length → (Mine.sub x.cps.toList a b).length = b - a := fun a b h1 h2 => by
    unfold Mine.sub; rw [List.length_take, List.length_drop]; omega
  have Slist : ∀ l : List Nat, (S l).cps.toList = l := fun l => by simp [S]
  induction hS with
  | @fin d hnx =>
    intro s n xs R hd hph hl hz hcz hR
    have Fd := F d hd
    rw [hnx] at Fd
    obtain ⟨m', hcm, hout⟩ := Fd
    refine codeAny_builtin entry_sub_loop ?_
    rw [Around.under_plainId plain_sub_loop _]
    unfold Builtin.«re.Pattern.sub.loop»
    refine wpAny_bind (whole_target (hph.mono fun b o e => (hide_some e).2) ?_)
    dsimp only
    rw [if_pos (by decide)]
    unfold reLiteralCannotBeTurned
    refine wpAny_bind (wpAny_bind (wpAny_pure ?_))
    rw [if_neg (by simp)]
    refine wpAny_pure ?_
    rw [if_neg (by simp)]
    refine wpAny_bind ?_
    unfold reNextFound
    refine run_to_end (N := 10000) hcm (by decide) (.inr ⟨hout, ?_⟩)
    dsimp only
    rw [Int.toNat_natCast]
    have tail : ∀ (h' : Heap) (tk : Nat) (ys : List (Str × Tok)), h'.IsList P (strValues ys).toArray → cat ys = cat xs ++ x.cps.toList.drop d → (∀ b o, b ≠ P → s.heap.get? b = some o → h'.get? b = some o) →
        wpAny (model prg w) A.in1 (do
          let joiner ← reSlice x.cps 0 0 0
          let l ← seqItems? (Value.ref P)
          if (l.getD #[]).isEmpty = true then do
            let text ← pure joiner
            if false = true then do
              let v ← holding [text] do
                let k ← mkInt n
                newTuple [text, k]
              ret v
            else ret text
          else do
            let text ← call (Value.builtin (if (0 == 0) = true then "str.join" else "bytes.join")) [joiner, Value.ref P]
            if false = true then do
              let v ← holding [text] do
                let k ← mkInt n
                newTuple [text, k]
              ret v
            else ret text) (fun fin s' => match fin with | .done f => R (.ok f) s' | .again c' => c'.quiet = true ∧ codeAny (model prg w) A c' R s') (fun e s' => R (.error e) s') { s with heap := h', toks := tk } := by
      intro h' tk ys hys hcat hk
      have hc0 : (cat xs ++ x.cps.toList.drop d).length ≤ 20000 := by rw [List.length_append, List.length_drop]; omega
      refine wpAny_bind (slice_str hx ?_)
      have e0 : S (Mine.sub x.cps.toList 0 0) = ⟨#[]⟩ := by unfold Mine.sub S; simp
      rw [e0]
      obtain ⟨o, ho, hcl, n', hd'⟩ := id hys
      unfold seqItems?
      refine wpAny_bind (wpAny_bind (wpAny_load (by exact ho) ?_))
      rw [hd']
      refine wpAny_pure ?_
      simp only [Option.getD_some]
      by_cases hem : (strValues ys).toArray.isEmpty = true
      · rw [if_pos hem]
        have : ys = [] := by cases ys with
          | nil => rfl
          | cons y ys => simp [strValues] at hem
        subst this
        refine wpAny_bind (wpAny_pure ?_)
        rw [if_neg (by simp)]
        have := hR h' (tk + 1) tk hk
        rw [← hcat] at this
        exact wpAny_pure this
      · rw [if_neg hem]
        refine wpAny_bind ?_
        refine SC.join (s := { s with heap := h', toks := _ }) hys rfl (join_ok ys (by rw [hcat]; omega)) fun t' k => ?_
        rw [if_neg (by simp), join_cat, hcat]
        exact wpAny_pure (hR h' k t' hk)
    by_cases hlt : d < x.cps.size
    · rw [if_pos hlt]
      refine wpAny_bind (slice_str hx ?_)
      refine wpAny_bind (push_list (y := (S (Mine.sub x.cps.toList d x.cps.size), s.toks)) hl (by omega) fun h' hl' hk => ?_)
      refine tail h' _ _ hl' ?_ hk
      rw [cat_snoc, Slist]
      congr 1
      unfold Mine.sub
      exact List.take_of_length_le (by rw [List.length_drop]; omega)
    · rw [if_neg hlt]
      refine tail s.heap s.toks xs hl ?_ fun _ _ _ e => e
      rw [List.drop_eq_nil_of_le (by omega), List.append_nil]
  | @hit d p q r hnx hS ih =>
    intro s n xs R hd hph hl hz hcz hR
    have Fd := F d hd
    rw [hnx] at Fd
    obtain ⟨⟨m', hcm, hout, hst, hha⟩, hdp, hpq, hqs⟩ := Fd
    refine codeAny_builtin entry_sub_loop ?_
    rw [Around.under_plainId plain_sub_loop _]
    unfold Builtin.«re.Pattern.sub.loop»
    refine wpAny_bind (whole_target (hph.mono fun b o e => (hide_some e).2) ?_)
    dsimp only
    rw [if_pos (by decide)]
    unfold reLiteralCannotBeTurned
    refine wpAny_bind (wpAny_bind (wpAny_pure ?_))
    rw [if_neg (by simp)]
    refine wpAny_pure ?_
    rw [if_neg (by simp)]
    refine wpAny_bind ?_
    unfold reNextFound
    refine run_to_end (N := 10000) hcm (by decide) (.inl ⟨hout, ?_⟩)
    dsimp only
    rw [hst, hha]
    have hne : (q == p) = false := by simpa using (by omega : q ≠ p)
    rw [Int.toNat_natCast, hne]
    have tail : ∀ (h' : Heap) (tk : Nat) (ys : List (Str × Tok)), h'.IsList P (strValues ys).toArray → cat ys = cat xs ++ Mine.sub x.cps.toList d p → ys.length ≤ 2 * d + 1 → (∀ b o, b ≠ P → s.heap.get? b = some o → h'.get? b = some o) →
        wpAny (model prg w) A.in1 (do
          updateSeq P fun x => x.push (Value.str rep u)
          again (Code.builtin "re.Pattern.sub.loop" { pos := [Value.ref a, Value.str x t, Value.str rep u, rawInt 0, rawInt 0, rawInt (n + 1), rawInt (q : Nat), rawInt (q : Nat), Value.bool false, Value.ref P, Value.bool false] }))
          (fun fin s' => match fin with | .done f => R (.ok f) s' | .again c' => c'.quiet = true ∧ codeAny (model prg w) A c' R s') (fun e s' => R (.error e) s') { s with heap := h', toks := tk } := by
      intro h' tk ys hys hcat hyl hk
      refine wpAny_bind (push_list (s := { s with heap := h', toks := tk }) (y := (rep, u)) hys (by omega) fun h'' hl' hk' => ?_)
      have hk2 : ∀ b o, b ≠ P → s.heap.get? b = some o → h''.get? b = some o := fun b o hb e => hk' b o hb (hk b o hb e)
      have sl := sublen d p hdp (by omega)
      have rl : rep.cps.toList.length = rep.length := Array.length_toList
      refine wpAny_pure ⟨plainId_quiet plain_sub_loop _, ?_⟩
      refine ih { s with heap := h'', toks := tk } (n + 1) (ys ++ [(rep, u)]) R hqs ?_ hl' ?_ ?_ fun h3 tk3 t3 k3 => ?_
      · refine hph.mono fun b o e => ?_
        obtain ⟨hm, e⟩ := hide_some e
        exact hide_of hm (hk2 b o (by simpa using hm) e)
      · rw [List.length_append, List.length_singleton]; omega
      · rw [cat_snoc, hcat]; simp only [List.length_append]; omega
      · have := hR h3 tk3 t3 fun b o hb e => k3 b o hb (hk2 b o hb e)
        rw [cat_snoc, hcat]
        rw [List.append_assoc, List.append_assoc]
        rw [List.append_assoc] at this
        exact this
    by_cases hlt : d < p
    · rw [if_pos hlt]
      refine wpAny_bind (slice_str hx ?_)
      refine wpAny_bind (push_list (y := (S (Mine.sub x.cps.toList d p), s.toks)) hl (by omega) fun h' hl' hk => ?_)
      rw [if_pos (by decide)]
      refine wpAny_bind (wpAny_pure ?_)
      rw [if_pos (by simp)]
      refine tail h' _ _ hl' ?_ ?_ hk
      · rw [cat_snoc, Slist]
      · rw [List.length_append, List.length_singleton]; omega
    · rw [if_neg hlt, if_pos (by decide)]
      refine wpAny_bind (wpAny_pure ?_)
      rw [if_pos (by simp)]
      refine tail s.heap s.toks xs hl ?_ (by omega) fun _ _ _ e => e
      have : p = d := by omega
      subst this
      unfold Mine.sub; simp
end
end Mine
end

noncomputable section -- NbRe5
open PySem PySem.W PyProof.Rows
open PySem.Builtin PySem.Builtin.Str PySem.Builtin.BaseException
set_option maxRecDepth 100000
open scoped Classical
namespace Mine
open PySem.Builtin.Re

theorem named_sub (r s : Value) : reNamed "re.Pattern.sub" "sub" ["repl", "string", "count"] 2 [r, s] [] = pure [some r, some s, none] := by rfl
theorem str_call : typeLookup (.type "str") "__call__" = pure none := by rw [typeLookup_type, builtinLookup_eq_fast]; kernel_rfl

section
variable {w : World} {A : Around} {E : Value → Shared → Prop} {s : Shared} {a : Addr} {code : Array Nat} {x rep : Str} {t u : Tok} {nx : Nat → Option (Nat × Nat)}

theorem sub_call {Q : Value → Shared → Prop} {r : List Nat} (hx : x.length ≤ 1000) (hrep : rep.length ≤ 10) (hno : rep.cps.contains 92 = false) (F : Finds code x.cps nx) (hS : Subs nx rep.cps.toList x.cps.toList 0 r) (hp : PatAt s.heap a code)
    (hQ : ∀ h' tk t', (∀ b o, s.heap.get? b = some o → h'.get? b = some o) → Q (.str (S r) t') { s with heap := h', toks := tk }) :
    wpAny (model prg w) A (call (.builtin "re.Pattern.sub") [.ref a, .str rep u, .str x t]) Q E s := by
  have hT : s.TypeIs (.ref a) "re.Pattern" := by obtain ⟨o, _, _, _, _, h1, h2, _⟩ := hp; exact ⟨o, h1, h2.1⟩
  refine wpAny_call (codeAny_call_builtin slot_sub.plain entry_sub (slot_sub.check _ _ _ _ _ _ _ _ hT (args_sub _ _ _) ?_))
  unfold Builtin.«re.Pattern.sub» reSubstitute
  dsimp only
  rw [named_sub]
  refine wpAny_bind (wpAny_pure ?_)
  dsimp only
  refine wpAny_bind (wpAny_pure ?_)
  refine wpAny_bind (wpAny_specialOf (typeIs_str _ _ _) str_call ?_)
  rw [if_neg (by decide)]
  refine wpAny_bind (wpAny_pure ?_)
  dsimp only
  rw [hno]
  refine wpAny_bind (wpAny_pure ?_)
  rw [if_neg (by decide), if_pos (by decide)]
  refine wpAny_bind (wpAny_pure ?_)
  dsimp only
  refine wpAny_bind (wpAny_holding (whole_target hp ?_))
  rw [if_neg (by decide)]
  refine wpAny_bind ?_
  refine wpAny_newObj_type ?_ (by show (0 : Nat) ≤ sizeLine; exact Nat.zero_le _)
  refine wpAny_pure ⟨plainId_quiet plain_sub_loop _, ?_⟩
  have hpush : ∀ b o, s.heap.get? b = some o → (s.heap.push { cls := .type "list", data := .seq #[] }).get? b = some o := fun b o e => Heap.get?_push_of_some _ e
  refine sub_loop (P := s.heap.objs.size) hx hrep F hS _ 0 [] _ (Nat.zero_le _) ?_ ⟨_, Heap.get?_push_size _ rfl, rfl, _, rfl⟩ (Nat.zero_le _) (Nat.zero_le _) fun h' tk t' hk => ?_
  · refine hp.mono fun b o e => hide_of ?_ (hpush b o e)
    have := Heap.lt_size e
    simp only [List.mem_singleton]
    exact Nat.ne_of_lt this
  · exact hQ h' tk t' fun b o e => hk b o (Nat.ne_of_lt (Heap.lt_size e)) (hpush b o e)
end

/-! ## what the two patterns find -/
noncomputable def nx2 (l : List Nat) (d : Nat) : Option (Nat × Nat) := if nextNL l d < l.length then some (nextNL l d, nextNL l d + len2 l (nextNL l d)) else none
theorem len2_le {l : List Nat} {p : Nat} (h : p < l.length) : 0 < len2 l p ∧ p + len2 l p ≤ l.length := by
  unfold len2
  split
  · rename_i h'
    have := (List.getElem?_eq_some_iff.mp h'.2).1
    omega
  · omega
theorem finds2 (text : Array Nat) : Finds code2 text (nx2 text.toList) := fun d hd => by
  obtain ⟨s1, s2⟩ := search2 text d hd
  have hl : text.toList.length = text.size := Array.length_toList
  unfold nx2
  by_cases h : nextNL text.toList d < text.toList.length
  · rw [if_pos h]
    obtain ⟨m', c, r⟩ := s2 (by omega)
    have := len2_le h
    exact ⟨⟨m', c.mono (by decide), r⟩, skip_ge, by omega, by omega⟩
  · rw [if_neg h]
    obtain ⟨m', c, r⟩ := s1 (by omega)
    exact ⟨m', c.mono (by decide), r⟩

noncomputable def nextDot (l : List Nat) (d : Nat) : Option Nat := (List.range l.length).find? fun p => decide (d ≤ p ∧ dotAt l p)
noncomputable def nx1 (l : List Nat) (d : Nat) : Option (Nat × Nat) := (nextDot l d).map fun p => (p, p + 1)
theorem finds1 (text : Array Nat) (hsz : text.size ≤ 2000) : Finds code1 text (nx1 text.toList) := fun d hd => by
  obtain ⟨s1, s2⟩ := search1 text d hd
  have hl : text.toList.length = text.size := Array.length_toList
  unfold nx1
  cases h : nextDot text.toList d with
  | none =>
    simp only [Option.map_none]
    unfold nextDot at h
    rw [List.find?_eq_none] at h
    obtain ⟨m', c, r⟩ := s1 fun p hp hdot => h p (List.mem_range.mpr (List.getElem?_eq_some_iff.mp hdot.2).1) (decide_eq_true ⟨hp, hdot⟩)
    exact ⟨m', c.mono (by omega), r⟩
  | some p =>
    simp only [Option.map_some]
    unfold nextDot at h
    rw [List.find?_range_eq_some] at h
    obtain ⟨h1, h2, h3⟩ := h
    obtain ⟨hp, hdot⟩ := of_decide_eq_true h1
    obtain ⟨m', c, r⟩ := s2 p hp hdot fun q hq hqp hdq => by
      have := h3 q hqp
      simp [hq, hdq] at this
    have hlt := List.mem_range.mp h2
    exact ⟨⟨m', c.mono (by omega), r⟩, hp, by omega, by omega⟩

/-! ## the same, sign by sign -/
noncomputable def crlfs : List Nat → List Nat
  | [] => []
  | 13 :: 10 :: r => 13 :: 10 :: crlfs r
  | 10 :: r => 13 :: 10 :: crlfs r
  | 13 :: r => 13 :: 10 :: crlfs r
  | c :: r => c :: crlfs r
noncomputable def dots : Bool → List Nat → List Nat
  | _, [] => []
  | b, c :: r => if b && c == 46 then 46 :: 46 :: dots false r else c :: dots (c == 10) r

theorem drop_cons {l : List Nat} {d c : Nat} (h : l[d]? = some c) : l.drop d = c :: l.drop (d + 1) := by
  obtain ⟨h1, h2⟩ := List.getElem?_eq_some_iff.mp h
  rw [List.drop_eq_getElem_cons h1, h2]
theorem sub_cons {l : List Nat} {d c p : Nat} (h : l[d]? = some c) (hp : d < p) : Mine.sub l d p = c :: Mine.sub l (d + 1) p := by
  unfold Mine.sub
  rw [drop_cons h, show p - d = (p - (d + 1)) + 1 by omega, List.take_succ_cons]
theorem sub_none {l : List Nat} {d : Nat} : Mine.sub l d d = [] := by unfold Mine.sub; simp
theorem Subs.one {nx : Nat → Option (Nat × Nat)} {rep l : List Nat} {d c : Nat} {r : List Nat} (h : Subs nx rep l (d + 1) r) (hc : l[d]? = some c) (hnx : nx d = nx (d + 1)) (hge : ∀ p q, nx (d + 1) = some (p, q) → d + 1 ≤ p) : Subs nx rep l d (c :: r) := by
  cases h with
  | fin h => rw [← drop_cons hc]; exact .fin (hnx.trans h)
  | hit h h' =>
    rename_i p q r
    have := hge _ _ h
    have e : Subs nx rep l d (Mine.sub l d p ++ rep ++ r) := .hit (hnx.trans h) h'
    rw [sub_cons hc (by omega)] at e
    exact e

theorem subs2 (l : List Nat) : ∀ (n d : Nat), l.length ≤ d + n → Subs (nx2 l) [13, 10] l d (crlfs (l.drop d)) := by
  intro n
  induction n with
  | zero =>
    intro d hd
    rw [List.drop_eq_nil_of_le (by omega)]
    have : Subs (nx2 l) [13, 10] l d (l.drop d) := .fin (by unfold nx2 nextNL; rw [skip_end (by omega), if_neg (by omega)])
    rw [List.drop_eq_nil_of_le (by omega)] at this
    exact this
  | succ n ih =>
    intro d hd
    by_cases hlt : d < l.length
    · have hc : l[d]? = some l[d] := List.getElem?_eq_getElem hlt
      cases hb : nlC l[d] with
      | false =>
        have h := ih (d + 1) (by omega)
        rw [drop_cons hc]
        have e : crlfs (l[d] :: l.drop (d + 1)) = l[d] :: crlfs (l.drop (d + 1)) := by
          unfold nlC at hb
          simp only [Bool.or_eq_false_iff, beq_eq_false_iff_ne] at hb
          rw [crlfs]
          · exact fun _ z _ => hb.2 z
          · exact hb.1
          · exact hb.2
        rw [e]
        refine h.one hc ?_ fun p q z => ?_
        · unfold nx2 nextNL; rw [skip_step hc (by show (!nlC _) = true; rw [hb]; rfl)]
        · unfold nx2 at z
          split at z
          · injection z with z; injection z with z _; rw [← z]; exact skip_ge
          · cases z
      | true =>
        have hn : nextNL l d = d := skip_stop hc (by show (!nlC _) = false; rw [hb]; rfl)
        have hnx : nx2 l d = some (d, d + len2 l d) := by unfold nx2; rw [hn, if_pos hlt]
        have h := ih (d + len2 l d) (by have := (len2_le hlt).1; omega)
        have g := Subs.hit (rep := [13, 10]) hnx h
        rw [sub_none, List.nil_append] at g
        have e : crlfs (l.drop d) = [13, 10] ++ crlfs (l.drop (d + len2 l d)) := by
          rw [drop_cons hc]
          unfold nlC at hb
          rcases Bool.or_eq_true_iff.mp hb with z | z
          · have z := eq_of_beq z
            have : len2 l d = 1 := by unfold len2; rw [if_neg (by rw [hc, z]; rintro ⟨q, _⟩; cases q)]
            rw [this, z]; rfl
          · have z := eq_of_beq z
            by_cases h10 : l[d + 1]? = some 10
            · have : len2 l d = 2 := by unfold len2; rw [if_pos ⟨by rw [hc, z], h10⟩]
              rw [this, z, drop_cons h10]; rfl
            · have : len2 l d = 1 := by unfold len2; rw [if_neg fun q => h10 q.2]
              rw [this, z]
              cases hd' : l.drop (d + 1) with
              | nil => rfl
              | cons c r =>
                have : c ≠ 10 := fun z => h10 (by rw [← List.head?_drop, hd', z]; rfl)
                rw [crlfs]
                · rfl
                · exact fun _ z => this (by injection z)
        rw [e]; exact g
    · rw [List.drop_eq_nil_of_le (by omega)]
      have : Subs (nx2 l) [13, 10] l d (l.drop d) := .fin (by unfold nx2 nextNL; rw [skip_end (by omega), if_neg (by omega)])
      rw [List.drop_eq_nil_of_le (by omega)] at this
      exact this

theorem nextDot_here {l : List Nat} {d : Nat} (h : dotAt l d) : nextDot l d = some d := by
  unfold nextDot
  rw [List.find?_range_eq_some]
  refine ⟨decide_eq_true ⟨Nat.le_refl _, h⟩, List.mem_range.mpr (List.getElem?_eq_some_iff.mp h.2).1, fun j hj => ?_⟩
  simp; omega
theorem nextDot_next {l : List Nat} {d : Nat} (h : ¬ dotAt l d) : nextDot l d = nextDot l (d + 1) := by
  unfold nextDot
  congr 1
  funext p
  rw [decide_eq_decide]
  constructor
  · rintro ⟨h1, h2⟩
    refine ⟨?_, h2⟩
    by_cases hp : p = d
    · subst hp; exact absurd h2 h
    · omega
  · rintro ⟨h1, h2⟩; exact ⟨by omega, h2⟩
theorem nextDot_none {l : List Nat} {d : Nat} (h : l.length ≤ d) : nextDot l d = none := by
  unfold nextDot
  rw [List.find?_eq_none]
  intro p hp
  have := List.mem_range.mp hp
  simp; omega

theorem subs1 (l : List Nat) : ∀ (n d : Nat), l.length ≤ d + n → Subs (nx1 l) [46, 46] l d (dots (d == 0 || l[d - 1]? == some 10) (l.drop d)) := by
  have nil : ∀ d, l.length ≤ d → Subs (nx1 l) [46, 46] l d (dots (d == 0 || l[d - 1]? == some 10) (l.drop d)) := fun d hd => by
    have : Subs (nx1 l) [46, 46] l d (l.drop d) := .fin (by unfold nx1; rw [nextDot_none hd]; rfl)
    rw [List.drop_eq_nil_of_le hd] at this ⊢
    exact this
  intro n
  induction n with
  | zero => intro d hd; exact nil d (by omega)
  | succ n ih =>
    intro d hd
    by_cases hlt : d < l.length
    · have hc : l[d]? = some l[d] := List.getElem?_eq_getElem hlt
      have h := ih (d + 1) (by omega)
      have hb : (d + 1 == 0 || l[d + 1 - 1]? == some 10) = (l[d] == 10) := by
        rw [show d + 1 - 1 = d by omega, hc]
        simp
      rw [hb] at h
      rw [drop_cons hc]
      unfold dots
      by_cases hdot : dotAt l d
      · have h46 : l[d] = 46 := by have := hdot.2; rw [hc] at this; injection this
        rw [if_pos (by
          rw [Bool.and_eq_true, Bool.or_eq_true, beq_iff_eq, beq_iff_eq, beq_iff_eq]
          exact ⟨hdot.1, h46⟩)]
        have hnx : nx1 l d = some (d, d + 1) := by unfold nx1; rw [nextDot_here hdot]; rfl
        rw [h46] at h
        have g := Subs.hit (rep := [46, 46]) hnx h
        rw [sub_none, List.nil_append] at g
        exact g
      · rw [if_neg (by
          rw [Bool.and_eq_true, Bool.or_eq_true, beq_iff_eq, beq_iff_eq, beq_iff_eq]
          exact fun z => hdot ⟨z.1, by rw [hc, z.2]⟩)]
        refine h.one hc ?_ fun p q z => ?_
        · unfold nx1; rw [nextDot_next hdot]
        · unfold nx1 at z
          cases hn : nextDot l (d + 1) with
          | none => rw [hn] at z; cases z
          | some p' =>
            rw [hn] at z
            injection z with z; injection z with z _
            unfold nextDot at hn
            rw [List.find?_range_eq_some] at hn
            have := (of_decide_eq_true hn.1).1
            omega
    · exact nil d (by omega)
end Mine
end

noncomputable section -- NbQuiet
open PySem PySem.W PyProof.Rows
open PySem.Builtin PySem.Builtin.Str PySem.Builtin.BaseException
set_option maxRecDepth 100000
namespace Mine

section
variable {w : World} {A : Around} {n : Nat} {outer : List Env} {s : Shared} {Q : Value → Shared → Prop} {E : Value → Shared → Prop}

theorem Ok.full (ok : Ok w A n outer s.heap) : PB w s.heap := ok.pb.mono fun _ _ e => (hide_some e).2

/-- a call of a def that keeps all that stood -/
theorem call_q {st : Stmt} {a : Addr} {pos : List Value} {binds : List (Str × Value)} (ok : Ok w A n outer s.heap) (hn : n ≤ 20)
    (hfn : Fn1 (bs s.heap outer) a st)
    (hbind : ∀ pm cd doc, bindArgs (fnData (nameOfS st) (nameOfS st) (prmOfS st) (bdyOfS st) (scpOfS st) pm cd doc) ⟨pos, []⟩ = pure binds)
    (hloc : (binds.all fun x => decide ((scpOfS st).names.lookup x.1 = some .local)) = true)
    (h : PB w s.heap → ∀ h₁ cd, Fr s.heap s.heap.objs.size h₁ (fun x => binds.reverse.lookup x) →
      wpAny (model prg w) (A.deeper (envAt st s.heap.objs.size a cd)) (execs (bdyOfS st) (envAt st s.heap.objs.size a cd))
        (fun f s' => Q (match f with | .ret v => v | _ => .none) s') (fun _ _ => False)
        { s with heap := h₁, toks := s.toks + binds.length })
    (hco : (scpOfS st).isCoroutine = false := by rfl) (hgen : (scpOfS st).isGenerator = false := by rfl) (hk : (scpOfS st).kind = .function := by rfl)
    (hcell : ∀ x ∈ (scpOfS st).names, x.2 ≠ .cell := by decide) :
    wpAny (model prg w) A (call (.ref a) pos) Q E s := by
  have keep : ∀ b o, (bs s.heap outer).get? b = some o → s.heap.get? b = some o := fun b o e => (hide_some e).2
  obtain ⟨cd, o, pm, doc, ho, hd, hcd⟩ := hfn
  refine wpAny_call (call_plain_ret (pm := pm) (doc := doc) (by have := ok.dep; show A.depth < 1000; omega) (keep _ _ ho) hd (ok.pb.nolim.keeps keep) (hcd.keeps keep) (hbind pm cd doc) (locs hloc) (fun h₁ F => ?_) hco hgen hk hcell)
  exact h ok.full h₁ cd F
end

section
variable {w : World} {A : Around} {E : Value → Shared → Prop} {s : Shared} {h₀ : Heap} {L : Addr} {m : Str → Option Value} {Q : Value → Shared → Prop} {e : Env}

/-- a global name, a built-in name, in any environment of the program's -/
theorem gnE {x : Str} {pos : Pos} {v : Value} (k : h₀.StaysIn s.heap) (g : GN h₀ x v) (h : Q v s)
    (hg : e.globals = mainGlobals := by rfl) (hk : e.scope.kind = .function := by rfl) (hx : e.kindOf x = some .globalImplicit := by rfl)
    (hd : (x == ("__debug__" : Str)) = false := by decide) : wpAny (model prg w) A (eval (.Name x pos) e) Q E s := by
  obtain ⟨mg, g1, g2⟩ := g
  refine Calls.Name_function_global hk hx (Calls.loadGlobal_global (env := e) (mg := mg) ?_ g2 h) hd
  rw [hg]; exact g1.keeps k
theorem bnE {x : Str} {pos : Pos} {v : Value} (k : h₀.StaysIn s.heap) (g : BN h₀ x v) (h : Q v s)
    (hg : e.globals = mainGlobals := by rfl) (hb : e.builtins = builtinsNs := by rfl) (hk : e.scope.kind = .function := by rfl) (hx : e.kindOf x = some .globalImplicit := by rfl)
    (hd : (x == ("__debug__" : Str)) = false := by decide) : wpAny (model prg w) A (eval (.Name x pos) e) Q E s := by
  obtain ⟨mg, mb, g1, g2, g3, g4⟩ := g
  refine Calls.Name_function_global hk hx (Calls.loadGlobal_builtin (env := e) (mg := mg) (mb := mb) ?_ g2 ?_ g4 h) hd
  · rw [hg]; exact g1.keeps k
  · rw [hb]; exact g3.keeps k
end

section
variable {w : World} {A : Around} {n : Nat} {outer : List Env} {s : Shared} {Q : Value → Shared → Prop} {E : Value → Shared → Prop}

noncomputable def sentOf (l : List Nat) : List Nat := dots true (crlfs l)

theorem crlfs_len (l : List Nat) : (crlfs l).length ≤ 2 * l.length := by
  induction l using crlfs.induct <;> simp_all [crlfs] <;> omega
theorem dots_len (l : List Nat) : ∀ b, (dots b l).length ≤ 2 * l.length := by
  induction l with
  | nil => intro b; simp [dots]
  | cons c l ih =>
    intro b
    unfold dots
    split
    · simp only [List.length_cons]; have := ih false; omega
    · simp only [List.length_cons]; have := ih (c == 10); omega

theorem quotedata_spec (ok : Ok w A n outer s.heap) (hn : n ≤ 18) (x : Str) (hsz : x.length ≤ 400) {t : Tok}
    (hQ : ∀ h' tk' t', (∀ b o, s.heap.get? b = some o → h'.get? b = some o) → Q (.str (S (sentOf x.cps.toList)) t') { s with heap := h', toks := tk' }) :
    wpAny (model prg w) A (call (.ref 134) [.str x t]) Q E s := by
  refine call_q (binds := [("data", .str x t)]) ok (by omega) ok.pb.f_quotedata (fun _ _ _ => by rfl) (by rfl) (fun H h₁ cd F => ?_)
  refine wpAny_execs_cons (wpAny_Return_some ?_)
  refine wpAny_Call_method_lateS rfl rfl rfl (gnE (s := { s with heap := h₁, toks := _ }) F.keep H.re1 ?_)
  have tp : ∀ {h : Heap} {a : Addr} {code : Array Nat}, PatAt h a code → ∃ o, h.get? a = some o ∧ o.cls = .type "re.Pattern" := fun p => by obtain ⟨o, _, _, _, _, h1, h2, _⟩ := p; exact ⟨o, h1, h2.1⟩
  have td : ∀ {h : Heap} {a : Addr} {code : Array Nat}, PatAt h a code → ∃ o, h.get? a = some o ∧ o.dict = none := fun p => by obtain ⟨o, _, _, _, _, h1, h2, _⟩ := p; exact ⟨o, h1, h2.2⟩
  refine ⟨"re.Pattern", "re.Pattern.sub", plainAttrs_pattern, slot_sub, type_sub, tp (H.pat1.mono F.keep), fun a' ha' => ?_, ?_⟩
  · injection ha' with ha'; subst ha'; exact td (H.pat1.mono F.keep)
  refine cw2 ?_
  simp only [Bool.false_eq_true, if_false]
  refine Calls.Constant_str ?_
  refine wpAny_Call_method_lateS rfl rfl rfl (gnE (s := { s with heap := h₁, toks := _ }) F.keep H.re2 ?_)
  refine ⟨"re.Pattern", "re.Pattern.sub", plainAttrs_pattern, slot_sub, type_sub, tp (H.pat2.mono F.keep), fun a' ha' => ?_, ?_⟩
  · injection ha' with ha'; subst ha'; exact td (H.pat2.mono F.keep)
  obtain ⟨tc, gc⟩ := H.crlf
  refine cw2 (gnE (s := { s with heap := h₁, toks := _ }) F.keep gc (ld (s := { s with heap := h₁, toks := _ }) F rfl ?_))
  refine sub_call (s := { s with heap := h₁, toks := _ }) (nx := nx2 x.cps.toList) (by omega) (by decide) (by decide +kernel) (finds2 _) (subs2 x.cps.toList x.cps.toList.length 0 (by omega)) (H.pat2.mono F.keep) fun h₂ tk₂ t₂ k₂ => ?_
  have l2 := crlfs_len x.cps.toList
  have hlen : x.cps.toList.length = x.length := Array.length_toList
  rw [List.drop_zero]
  have hS : (S (crlfs x.cps.toList)).cps.toList = crlfs x.cps.toList := by simp [S]
  have hlS : (S (crlfs x.cps.toList)).length = (crlfs x.cps.toList).length := by show (crlfs x.cps.toList).toArray.size = _; simp
  have s1 := subs1 (S (crlfs x.cps.toList)).cps.toList (S (crlfs x.cps.toList)).cps.toList.length 0 (by omega)
  refine sub_call (s := { s with heap := h₂, toks := tk₂ }) (nx := nx1 (S (crlfs x.cps.toList)).cps.toList) (by omega) (by decide) (by decide +kernel) (finds1 _ (by show (S (crlfs x.cps.toList)).length ≤ 2000; omega)) s1 ((H.pat1.mono F.keep).mono k₂) fun h₃ tk₃ t₃ k₃ => ?_
  have e : dots (0 == 0 || (S (crlfs x.cps.toList)).cps.toList[0 - 1]? == some 10) ((S (crlfs x.cps.toList)).cps.toList.drop 0) = sentOf x.cps.toList := by rw [hS]; rfl
  rw [e]
  exact hQ h₃ tk₃ t₃ fun b o q => k₃ b o (k₂ b o (F.keep b o q))
end
end Mine
end

noncomputable section -- NbOdd
open PySem PySem.W PyProof.Rows
open PySem.Builtin PySem.Builtin.Str PySem.Builtin.BaseException
set_option maxRecDepth 100000
namespace Mine

noncomputable def oddC (total : Int) : Nat := if 55296 ≤ ((total + 8232).fmod 1112064).toNat then ((total + 8232).fmod 1112064).toNat + 2048 else ((total + 8232).fmod 1112064).toNat
theorem fmod_bd (x : Int) : 0 ≤ x.fmod 1112064 ∧ x.fmod 1112064 < 1112064 := by
  rw [Int.fmod_eq_emod_of_nonneg _ (by decide)]
  exact ⟨Int.emod_nonneg _ (by decide), Int.emod_lt_of_pos _ (by decide)⟩
theorem oddC_lt (total : Int) : oddC total < 1114112 := by
  have := fmod_bd (total + 8232)
  unfold oddC; split <;> omega

section
variable {w : World} {A : Around} {n : Nat} {outer : List Env} {s : Shared} {Q : Value → Shared → Prop} {E : Value → Shared → Prop}

theorem odd_spec (ok : Ok w A n outer s.heap) (hn : n ≤ 18) (total : Int) {t : Tok}
    (hQ : ∀ h' tk' t', (∀ b o, s.heap.get? b = some o → h'.get? b = some o) → Q (.str ⟨#[oddC total]⟩ t') { s with heap := h', toks := tk' }) :
    wpAny (model prg w) A (call (.ref 141) [.int total t]) Q E s := by
  refine call_q (binds := [("total", .int total t)]) ok (by omega) ok.pb.f_odd (fun _ _ _ => by rfl) (by rfl) (fun H h₁ cd F => ?_)
  have hb := fmod_bd (total + 8232)
  have fin : ∀ h' tk' m t' (c : Int), Fr s.heap s.heap.objs.size h' m → m "c" = some (.int c t') → c = (oddC total : Nat) →
      wpAny (model prg w) (A.deeper (envAt (stAt 21) s.heap.objs.size 141 cd)) (execs ((bdyOfS (stAt 21)).drop 2) (envAt (stAt 21) s.heap.objs.size 141 cd)) (fun f s' => Q (match f with | .ret v => v | _ => .none) s') (fun _ _ => False) { s with heap := h', toks := tk' } := by
    intro h' tk' m t' c F' hm hc
    have := oddC_lt total
    refine wpAny_execs_cons (wpAny_Return_some ?_)
    refine Call_nm1 (bnE (s := { s with heap := h', toks := tk' }) F'.keep H.b_chr ?_)
    refine cw1 (ld (s := { s with heap := h', toks := tk' }) F' hm ?_)
    refine chr_of_range (by omega) (by omega) ?_
    rw [hc, Int.toNat_natCast]
    exact hQ h' _ _ F'.keep
  refine wpAny_execs_cons (wpAny_Assign_Name ?_)
  refine wpAny_BinOp (wpAny_BinOp (ld (s := { s with heap := h₁, toks := _ }) F rfl (wpAny_Constant_int (add_int (wpAny_Constant_int (mod_int (by decide) ?_))))))
  refine st (s := { s with heap := h₁, toks := _ }) F fun h₂ F₂ => ?_
  refine wpAny_execs_cons (wpAny_If (wpAny_isTrue_Compare1 (ld (s := { s with heap := h₂, toks := _ }) F₂ rfl (wpAny_Constant_int (ge_int (wpAny_truthy_bool ?_))))))
  by_cases hc : (55296 : Int) ≤ (total + 8232).fmod 1112064
  · rw [if_pos (by simpa using hc)]
    refine wpAny_execs_cons (wpAny_AugAssign_Name ?_)
    refine ldn (s := { s with heap := h₂, toks := _ }) F₂ rfl (wpAny_Constant_int (iadd_int ?_))
    refine st (s := { s with heap := h₂, toks := _ }) F₂ fun h₃ F₃ => ?_
    refine wpAny_execs_nil ?_
    exact fin h₃ _ _ _ _ F₃ rfl (by unfold oddC; rw [if_pos (by omega)]; omega)
  · rw [if_neg (by simpa using hc)]
    refine wpAny_execs_nil ?_
    exact fin h₂ _ _ _ _ F₂ rfl (by unfold oddC; rw [if_neg (by omega)]; omega)
end
end Mine
end

noncomputable section -- NbSigns
open PySem PySem.W PyProof.Rows
open PySem.Builtin PySem.Builtin.Str PySem.Builtin.BaseException
set_option maxRecDepth 100000
namespace Mine

section
variable {w : World} {A : Around} {n : Nat} {outer : List Env} {s : Shared} {Q : Value → Shared → Prop} {E : Value → Shared → Prop}

noncomputable abbrev envC (st : Stmt) (L a : Addr) (cd : Value) : Env := envOfC (nameOfS st) (scpOfS st) L a cd
/-- a call of a def with cells that keeps all that stood -/
theorem call_qc {st : Stmt} {a : Addr} {pos : List Value} {binds : List (Str × Value)} (ok : Ok w A n outer s.heap) (hn : n ≤ 20)
    (hfn : Fn1 (bs s.heap outer) a st)
    (hbind : ∀ pm cd doc, bindArgs (fnData (nameOfS st) (nameOfS st) (prmOfS st) (bdyOfS st) (scpOfS st) pm cd doc) ⟨pos, []⟩ = pure binds)
    (hloc : (binds.all fun x => decide ((scpOfS st).names.lookup x.1 = some .local)) = true)
    (h : PB w s.heap → ∀ h₁ tk cd, Fr s.heap s.heap.objs.size h₁ (bindL (envC st s.heap.objs.size a cd).kindOf binds fun _ => none) →
      Cl s.heap.objs.size (cellsFrom (s.heap.objs.size + 1) (scpOfS st).names []) h₁ (bindC (envC st s.heap.objs.size a cd).kindOf binds fun _ => none) →
      wpAny (model prg w) (A.deeper (envC st s.heap.objs.size a cd)) (execs (bdyOfS st) (envC st s.heap.objs.size a cd))
        (fun f s' => Q (match f with | .ret v => v | _ => .none) s') (fun _ _ => False)
        { s with heap := h₁, toks := tk })
    (hco : (scpOfS st).isCoroutine = false := by rfl) (hgen : (scpOfS st).isGenerator = false := by rfl) (hk : (scpOfS st).kind = .function := by rfl) :
    wpAny (model prg w) A (call (.ref a) pos) Q E s := by
  have keep : ∀ b o, (bs s.heap outer).get? b = some o → s.heap.get? b = some o := fun b o e => (hide_some e).2
  obtain ⟨cd, o, pm, doc, ho, hd, hcd⟩ := hfn
  refine wpAny_call (call_cells_ret (pm := pm) (doc := doc) (by have := ok.dep; show A.depth < 1000; omega) (keep _ _ ho) hd (ok.pb.nolim.keeps keep) (hcd.keeps keep) (hbind pm cd doc) (fun x hx => .inl (locs hloc x hx)) (fun h₁ tk F X => ?_) hco hgen hk)
  exact h ok.full h₁ tk cd F X
end

theorem paired_strs {g : Nat → Str} {F : Value → Value → Prop} (hF : ∀ v y, F v y → ∀ (k : Nat) t, v = .int (k : Int) t → ∃ t', y = .str (g k) t') : ∀ (vs ys : List Value) (start : Nat), (∀ (j : Nat) v, vs[j]? = some v → ∃ t, v = .int ((start + j : Nat) : Int) t) → Paired F vs ys →
    ∃ l : List (Str × Tok), ys = strValues l ∧ l.map (·.1) = (List.range' start vs.length).map g := by
  intro vs
  induction vs with
  | nil => intro ys start _ hp; cases hp; exact ⟨[], rfl, rfl⟩
  | cons v vs ih =>
    intro ys start hP hp
    cases hp with
    | cons h1 h2 =>
      rename_i y ys
      obtain ⟨t, hv⟩ := hP 0 v rfl
      obtain ⟨t', hy⟩ := hF v y h1 start t hv
      obtain ⟨l, e1, e2⟩ := ih ys (start + 1) (fun j v' hj => by
        obtain ⟨t, e⟩ := hP (j + 1) v' hj
        exact ⟨t, by rw [e]; congr 1; omega⟩) h2
      refine ⟨(g start, t') :: l, by rw [hy, e1]; rfl, ?_⟩
      rw [List.map_cons, e2, List.length_cons, List.range'_succ, List.map_cons]

section
variable {M : Model} {A : Around} {s : Shared} {E : Value → Shared → Prop} {env : Env} {pos : Pos} {Q : List Value → Shared → Prop}
theorem spl_nil (h : Q [] s) : wpAny M A (spliced (backTo pos (starEach [] env))) Q E s := Calls.spliced_nil h
theorem spl_cons {e : Expr} {rest : List Expr} (h : wpAny M A (eval e env) (fun v s₁ => wpAny M A (spliced (backTo pos (starEach rest env))) (fun vs s₂ => Q (v :: vs) s₂) E s₁) E s)
    (he : starEach (e :: rest) env = (false, eval e env) :: starEach rest env) : wpAny M A (spliced (backTo pos (starEach (e :: rest) env))) Q E s := by
  rw [he]
  exact Calls.spliced_cons h
theorem spl_str {c : Str} {k : Nat} {p : Pos} {rest : List Expr} (h : wpAny M A (spliced (backTo pos (starEach rest env))) (fun vs s₂ => Q (.str c s.toks :: vs) s₂) E { s with toks := s.toks + 1 }) :
    wpAny M A (spliced (backTo pos (starEach (.Constant (.str c) k p :: rest) env))) Q E s := spl_cons (Calls.Constant_str h) rfl
end

section
variable {M : Model} {A : Around} {E : Value → Shared → Prop} {s : Shared} {name : Str} {scope : Scope} {L a : Addr} {cd : Value} {h₀ : Heap} {m cm : Str → Option Value}
theorem stCs {x : Str} {c : Addr} {v : Value} {Q : Unit → Shared → Prop} (F : Fr h₀ L s.heap m) (X : Cl L (cellsFrom (L + 1) scope.names []) s.heap cm) (hc : (cellsFrom (L + 1) scope.names []).lookup x = some c)
    (h : ∀ h', Fr h₀ L h' m → Cl L (cellsFrom (L + 1) scope.names []) h' (fun y => if y = x then some v else cm y) → Heap.SameBut c s.heap h' → Q () { s with heap := h' })
    (hk : scope.kind = .function := by rfl) (hl : (envOfC name scope L a cd).kindOf x = some .cell := by rfl) :
    wpAny M A (storeName (envOfC name scope L a cd) x v) Q E s := by
  have hLc : L < c := X.above x c (mem_of_lookup hc)
  refine wpAny_storeName_cell hk hl hc (X.cell x c hc) fun h' hv hs => h h' ⟨F.ns.sameBut hs (Nat.ne_of_lt hLc), fun b o e => (hs.2 b (Nat.ne_of_lt (Nat.lt_trans (Nat.lt_of_lt_of_le (Heap.lt_size e) F.above) hLc))).trans (F.keep b o e), F.above⟩
    ⟨fun n c' e => ?_, X.apart, X.above⟩ hs
  by_cases hn : n = x
  · subst hn; rw [hc] at e; cases e; simpa using hv
  · have hcc : c' ≠ c := fun q => hn (name_of_addr X.apart (mem_of_lookup e) (q ▸ mem_of_lookup hc))
    simpa [hn] using (X.cell n c' e).sameBut hs hcc
end

section
variable {w : World} {A : Around} {s : Shared} {E : Value → Shared → Prop} {Q : Value → Shared → Prop}
/-- a range and its iterator -/
theorem range1_it {n : Nat} {t : Tok} (hn : n < 2 ^ 40) (h : ∀ h' tk I, (∀ b o, s.heap.get? b = some o → h'.get? b = some o) → IsRangeIter h' I ((0 : Int) + ((0 : Nat) : Int) * 1) ((n : Int) - ((0 : Nat) : Int)) 1 → s.heap.objs.size ≤ I → I < h'.objs.size → Q (.ref I) { s with heap := h', toks := tk }) :
    wpAny (model prg w) A (call (.type "range") [.int (n : Nat) t]) (fun xv s₁ => wpAny (model prg w) A (pyIter xv) Q E s₁) E s := by
  refine call_range_1 ?_
  have hz : Builtin.Range.rangeSize 0 (n : Int) 1 = (n : Int) := by rw [rangeSize_one]; split <;> omega
  refine wpAny_pyIter_range (IsRange.new ..) (small_one (by decide) (by decide) (by omega) (by omega)) ?_
  refine h _ _ _ (fun b o e => Heap.get?_push_of_some _ (Heap.get?_push_of_some _ e)) ?_ ?_ ?_
  · show Heap.get? _ _ = _
    rw [Heap.get?_push_size _ rfl, hz]
    simp
  · rw [Heap.size_push]; exact Nat.le_succ _
  · simp only [Heap.size_push]; exact Nat.lt_succ_self _
end

noncomputable def sgn (odd : Nat) : List Nat := [39, 35, 46, 13, 10, 97, 32, 9, 127, 0, 34, odd]
noncomputable def signsOf (x : Int) (odd : Nat) : List Nat := (List.range ((x.fmod 17915904).toNat % 6 + 1)).map fun k => (sgn odd).getD ((x.fmod 17915904).toNat / (6 * 12 ^ k) % 12) 0


noncomputable def compOf : Stmt → Expr
  | .Return (some (.Call _ (e :: _) _ _)) _ => e
  | _ => .Constant .none 0 default
noncomputable def signsComp : Expr := compOf ((bdyOfS (stAt 22)).getD 2 (.Pass default))

section
variable {w : World} {A : Around} {s : Shared} {Q : Value → Shared → Prop} {E : Value → Shared → Prop}
theorem signs_comp (hh : A.handled = none) {L a D : Addr} {cd : Value} {h₀ : Heap} (H : PB w h₀) (hk : h₀.StaysIn s.heap) {v odd : Nat} {t : Tok} {vs : List Value} (hv : v < 17915904)
    (cell1 : s.heap.IsCell (L + 1) (some (.ref D))) (cell2 : s.heap.IsCell (L + 1 + 1) (some (.int (v : Int) t))) (hD : s.heap.IsList D vs.toArray)
    (hvs : ∀ k, k < 12 → ∃ t', vs[k]? = some (.str ⟨#[(sgn odd).getD k 0]⟩ t'))
    (hQ : ∀ D' h' tk (l : List (Str × Tok)), h'.IsList D' (strValues l).toArray → l.map (·.1) = (List.range' 0 (v % 6 + 1)).map (fun k => (⟨#[(sgn odd).getD (v / (6 * 12 ^ k) % 12) 0]⟩ : Str)) →
      (∀ b o, s.heap.get? b = some o → h'.get? b = some o) → Q (.ref D') { s with heap := h', toks := tk }) :
    wpAny (model prg w) A (eval signsComp (envC (stAt 22) L a cd)) Q E s := by
  refine wpAny_ListComp_free (cl := [("v", L + 1 + 1), ("signs", L + 1)]) (fun _ => true) (fun v' y => ∃ k : Nat, k < 6 ∧ (∃ t, v' = .int (k : Int) t) ∧ ∃ t', y = .str ⟨#[(sgn odd).getD (v / (6 * 12 ^ k) % 12) 0]⟩ t') rfl (by decide) rfl (by decide) rfl ?_
  refine Call_nm1 (bnE hk H.b_range ?_)
  refine ct1 ?_
  refine wpAny_BinOp (wpAny_BinOp ?_)
  refine wpAny_Name (wpAny_loadName_cell rfl rfl rfl cell2 ?_) (by decide)
  refine wpAny_Constant_int (mod_int (by decide) (wpAny_Constant_int (add_int ?_)))
  have hr : ((v : Int).fmod 6 + 1) = ((v % 6 + 1 : Nat) : Int) := by
    rw [Int.fmod_eq_emod_of_nonneg _ (by decide)]; omega
  rw [hr]
  refine range1_it (by omega) fun h₅ tk₅ I k₅ hI hI1 hI2 => ?_
  have ne : ∀ b o, s.heap.get? b = some o → b ∉ [I] := fun b o e hm => by
    have hb : b = I := by simpa using hm
    have := Heap.lt_size e
    rw [hb] at this
    exact Nat.lt_irrefl _ (Nat.lt_of_lt_of_le this hI1)
  refine ⟨I, [I], [I], v % 6 + 1, _, _, rfl, (Walks.range hh I 0 1 (v % 6 + 1)).bound, by rw [sizeLine_eq]; omega, hI, (fun b hb => by simp at hb; subst hb; exact hI2), ⟨?_, ?_⟩, fun D' h' tk ys vs' hD' hl hpl hlen hP hF hkp => ?_⟩
  · intro C i v' s₃ m₃ E' _ _ _ _ _ _
    exact wpAny_pure ⟨rfl, s₃.heap, s₃.toks, rfl, fun _ _ e => e⟩
  · intro C i v' s₃ m₃ E' _ hP _ hns hm hkp _
    obtain ⟨hin, ti, hvi⟩ := hP
    have hi0 : (0 : Int) + (i : Int) * 1 = (i : Int) := by omega
    rw [hi0] at hvi
    subst hvi
    have old : ∀ b o, s.heap.get? b = some o → s₃.heap.get? b = some o := fun b o e => hkp b o (ne b o e) (k₅ b o e)
    have cl1 : s₃.heap.IsCell (L + 1) (some (.ref D)) := cell1.keeps old
    have cl2 : s₃.heap.IsCell (L + 1 + 1) (some (.int (v : Int) t)) := cell2.keeps old
    refine Subscript_ (ldCellK rfl cl1 ?_)
    refine wpAny_BinOp (wpAny_BinOp (ldCellK rfl cl2 ?_))
    refine wpAny_BinOp (wpAny_Constant_int (wpAny_BinOp (wpAny_Constant_int (ldVarK hns hm ?_))))
    have hi6 : i < 6 := by omega
    have hpw : (12 : Int) ^ (i : Int).toNat = ((12 ^ i : Nat) : Int) := by rw [Int.toNat_natCast]; push_cast; rfl
    have hle : 12 ^ i ≤ 12 ^ 5 := Nat.pow_le_pow_right (by decide) (by omega)
    have hpos : 0 < 12 ^ i := Nat.pow_pos (by decide)
    refine pow_int_small (by omega) (by omega) (by decide) ?_
    rw [hpw]
    refine mul_int ?_ (IntMulOk.of_left (by decide))
    have hm6 : (6 : Int) * ((12 ^ i : Nat) : Int) = ((6 * 12 ^ i : Nat) : Int) := by push_cast; rfl
    rw [hm6]
    refine floordiv_int (by omega) ?_ (.inl (PyProof.noPylong_small (by omega)))
    have hfd : ((v : Int)).fdiv ((6 * 12 ^ i : Nat) : Int) = ((v / (6 * 12 ^ i) : Nat) : Int) := by
      rw [Int.fdiv_eq_ediv_of_nonneg _ (by omega)]; exact (Int.natCast_ediv _ _).symm
    rw [hfd]
    refine wpAny_Constant_int (mod_int (by decide) ?_)
    have hmd : ((v / (6 * 12 ^ i) : Nat) : Int).fmod 12 = ((v / (6 * 12 ^ i) % 12 : Nat) : Int) := by
      rw [Int.fmod_eq_emod_of_nonneg _ (by decide)]; omega
    rw [hmd]
    obtain ⟨t', hx⟩ := hvs (v / (6 * 12 ^ i) % 12) (Nat.mod_lt _ (by decide))
    refine item_listL (hD.imp fun o z => ⟨old _ _ z.1, z.2⟩) (by omega) (by omega) (by rw [Int.toNat_natCast]; exact hx) ?_
    exact ⟨⟨i, hi6, ⟨_, rfl⟩, ⟨_, rfl⟩⟩, _, _, rfl, fun _ _ e => e⟩
  · have hft : vs'.filter (fun _ => true) = vs' := by simp
    rw [hft] at hF
    obtain ⟨l, e1, e2⟩ := paired_strs (g := fun k => (⟨#[(sgn odd).getD (v / (6 * 12 ^ k) % 12) 0]⟩ : Str)) (F := fun v' y => ∃ k : Nat, k < 6 ∧ (∃ t, v' = .int (k : Int) t) ∧ ∃ t', y = .str ⟨#[(sgn odd).getD (v / (6 * 12 ^ k) % 12) 0]⟩ t') (fun v' y hf k t hk => by
        obtain ⟨k', _, ⟨t1, e1⟩, e2⟩ := hf
        rw [e1] at hk; injection hk with hk _
        have : k' = k := by omega
        subst this; exact e2) vs' ys.toList 0 (fun j v' hj => by
          obtain ⟨_, t, e⟩ := hP j v' hj
          exact ⟨t, by rw [e]; congr 1; omega⟩) hF
    · have hys : ys = (strValues l).toArray := by rw [← e1]
      rw [hys] at hl
      exact hQ D' h' tk l hl (by rw [e2, hlen]) fun b o e => hkp b o (ne b o e) (k₅ b o e)
end

section
variable {w : World} {A : Around} {n : Nat} {outer : List Env} {s : Shared} {Q : Value → Shared → Prop} {E : Value → Shared → Prop}
set_option maxHeartbeats 1000000 in
theorem signs_spec (ok : Ok w A n outer s.heap) (hn : n ≤ 18) (hh : A.handled = none) (x : Int) (odd : Nat) {t u : Tok}
    (hQ : ∀ h' tk' t', (∀ b o, s.heap.get? b = some o → h'.get? b = some o) → Q (.str (S (signsOf x odd)) t') { s with heap := h', toks := tk' }) :
    wpAny (model prg w) A (call (.ref 146) [.int x t, .str ⟨#[odd]⟩ u]) Q E s := by
  refine call_qc (binds := [("x", .int x t), ("odd", .str ⟨#[odd]⟩ u)]) ok (by omega) ok.pb.f_signs (fun _ _ _ => by rfl) (by rfl) (fun H h₁ tk cd F X => ?_)
  refine wpAny_execs_cons ?_
  refine wpAny_Assign_Name ?_
  refine List_ ?_
  iterate 11 refine spl_str ?_
  refine spl_cons (ldLoc (s := { s with heap := h₁, toks := _ }) F rfl (spl_nil ?_)) rfl
  have gen : ∀ (vs : List Value) (tk₁ : Nat), vs.length = 12 → (∀ k, k < 12 → ∃ t', vs[k]? = some (.str ⟨#[(sgn odd).getD k 0]⟩ t')) →
      wpAny (model prg w) (A.deeper (envC (stAt 22) s.heap.objs.size 146 cd)) (newList vs) (fun v s₁ => wpAny (model prg w) (A.deeper (envC (stAt 22) s.heap.objs.size 146 cd)) (storeName (envC (stAt 22) s.heap.objs.size 146 cd) "signs" v)
        (fun _ s₂ => wpAny (model prg w) (A.deeper (envC (stAt 22) s.heap.objs.size 146 cd)) (execs ((bdyOfS (stAt 22)).drop 1) (envC (stAt 22) s.heap.objs.size 146 cd)) (fun f s' => Q (match f with | .ret v => v | _ => .none) s') (fun _ _ => False) s₂) (fun _ _ => False) s₁) (fun _ _ => False) { s with heap := h₁, toks := tk₁ } := by
    intro vs tk₁ hlen hvs
    have hsz : vs.toArray.size ≤ sizeLine := by rw [List.size_toArray, hlen, sizeLine_eq]; omega
    refine wpAny_newObj_type ?_ hsz
    have c1 : (cellsFrom (s.heap.objs.size + 1) (scpOfS (stAt 22)).names []).lookup ("signs" : Str) = some (s.heap.objs.size + 1) := by rfl
    have c2 : (cellsFrom (s.heap.objs.size + 1) (scpOfS (stAt 22)).names []).lookup ("v" : Str) = some (s.heap.objs.size + 1 + 1) := by rfl
    have hd1 : s.heap.objs.size + 1 < h₁.objs.size := (X.cell _ _ c1).lt
    have hd2 : s.heap.objs.size + 1 + 1 < h₁.objs.size := (X.cell _ _ c2).lt
    have F₂ := F.push { cls := .type "list", data := .seq vs.toArray }
    have X₂ := X.keeps (h' := h₁.push { cls := .type "list", data := .seq vs.toArray }) fun b o e => Heap.get?_push_of_some _ e
    refine stCs (s := { s with heap := h₁.push { cls := .type "list", data := .seq vs.toArray }, toks := _ }) F₂ X₂ c1 fun h₃ F₃ X₃ sb₃ => ?_
    have hD₃ : h₃.get? h₁.objs.size = some { cls := .type "list", data := .seq vs.toArray } := (sb₃.2 _ (Nat.ne_of_gt hd1)).trans (Heap.get?_push_size _ rfl)
    refine wpAny_execs_cons (wpAny_Assign_Name ?_)
    refine wpAny_BinOp (ldLoc (s := { s with heap := h₃, toks := _ }) F₃ rfl (wpAny_Constant_int (mod_int (by decide) ?_)))
    refine stCs (s := { s with heap := h₃, toks := _ }) F₃ X₃ c2 fun h₄ F₄ X₄ sb₄ => ?_
    have hD₄ : h₄.get? h₁.objs.size = some { cls := .type "list", data := .seq vs.toArray } := (sb₄.2 _ (Nat.ne_of_gt hd2)).trans hD₃
    have hv : ∃ v : Nat, x.fmod 17915904 = (v : Int) ∧ v < 17915904 ∧ (x.fmod 17915904).toNat = v := by
      have h1 : 0 ≤ x.fmod 17915904 := by rw [Int.fmod_eq_emod_of_nonneg _ (by decide)]; exact Int.emod_nonneg _ (by decide)
      have h2 : x.fmod 17915904 < 17915904 := by rw [Int.fmod_eq_emod_of_nonneg _ (by decide)]; exact Int.emod_lt_of_pos _ (by decide)
      exact ⟨(x.fmod 17915904).toNat, by omega, by omega, rfl⟩
    obtain ⟨v, hv1, hv2, hv3⟩ := hv
    rw [hv1] at X₄
    refine wpAny_execs_cons (wpAny_Return_some ?_)
    have cell1 : h₄.IsCell (s.heap.objs.size + 1) (some (.ref h₁.objs.size)) := X₄.cell _ _ c1
    have cell2 : h₄.IsCell (s.heap.objs.size + 1 + 1) (some (.int (v : Int) _)) := X₄.cell _ _ c2
    refine meth1 (x := ⟨#[]⟩) PySem.F.slot_str_join PySem.F.type_str_join (Calls.Constant_str ⟨rfl, ?_⟩)
    refine cw1 ?_
    refine signs_comp (A := A.deeper (envC (stAt 22) s.heap.objs.size 146 cd)) (s := { s with heap := h₄, toks := _ }) (by exact hh) H F₄.keep hv2 cell1 cell2 ⟨_, hD₄, rfl, _, rfl⟩ hvs fun D' h' tk' l hl' he hk' => ?_
    have hcat : cat l = signsOf x odd := by
      unfold signsOf
      rw [hv3, List.range_eq_range']
      have : cat l = (l.map (·.1)).flatMap fun (p : Str) => p.cps.toList := by unfold cat; rw [List.flatMap_map]
      rw [this, he, List.flatMap_map]
      generalize List.range' 0 (v % 6 + 1) = r
      induction r with
      | nil => rfl
      | cons k r ih => rw [List.flatMap_cons, ih]; rfl
    have hlen' : (cat l).length ≤ 6 := by rw [hcat]; unfold signsOf; rw [List.length_map, List.length_range, hv3]; omega
    refine SC.join (s := { s with heap := h', toks := tk' }) hl' rfl (join_ok l (by omega)) fun t'' k => ?_
    rw [join_cat, hcat]
    exact hQ h' k t'' fun b o e => hk' b o (F₄.keep b o e)
  refine gen _ _ rfl fun k hk => ?_
  match k, hk with
  | 0, _ | 1, _ | 2, _ | 3, _ | 4, _ | 5, _ | 6, _ | 7, _ | 8, _ | 9, _ | 10, _ | 11, _ => exact ⟨_, rfl⟩
end
end Mine
end

noncomputable section -- NbRows
open PySem PySem.W PyProof.Rows
open PySem.Builtin PySem.Builtin.Str PySem.Builtin.BaseException
set_option maxRecDepth 100000
namespace Mine
open PySem.StrLaws

noncomputable def unCr : List Nat → List Nat
  | [] => []
  | 13 :: 10 :: r => 10 :: unCr r
  | c :: r => c :: unCr r
theorem unCr_cons {c : Nat} {r : List Nat} (h : ¬ (c = 13 ∧ ∃ r', r = 10 :: r')) : unCr (c :: r) = c :: unCr r := by
  rw [unCr]
  intro r' h1 h2
  exact h ⟨h1, r', h2⟩

theorem at_crlf {x : Str} {k : Nat} : At x ⟨#[13, 10]⟩ x.length k ↔ x.cps.toList[k]? = some 13 ∧ x.cps.toList[k + 1]? = some 10 := by
  have hn : x.cps.toList.length = x.length := Array.length_toList
  unfold At
  rw [subAt_eq]
  have hl : (⟨#[13, 10]⟩ : Str).length = 2 := rfl
  rw [hl]
  show k + 2 ≤ x.length ∧ ((x.cps.toList.drop k).take 2 == [13, 10]) = true ↔ _
  rw [beq_iff_eq]
  constructor
  · rintro ⟨h1, h2⟩
    have e0 : ((x.cps.toList.drop k).take 2)[0]? = some 13 := by rw [h2]; rfl
    have e1 : ((x.cps.toList.drop k).take 2)[1]? = some 10 := by rw [h2]; rfl
    rw [List.getElem?_take_of_lt (by decide), List.getElem?_drop] at e0 e1
    exact ⟨e0, e1⟩
  · rintro ⟨h1, h2⟩
    have := (List.getElem?_eq_some_iff.mp h2).1
    refine ⟨by omega, ?_⟩
    rw [drop_cons h1, drop_cons h2]; rfl

/-- no CR LF between a and c -/
theorem unCr_free {l : List Nat} : ∀ (j a c : Nat), c = a + j → c ≤ l.length → (∀ k, a ≤ k → k < c → ¬ (l[k]? = some 13 ∧ l[k + 1]? = some 10)) → unCr (l.drop a) = Mine.sub l a c ++ unCr (l.drop c) := by
  intro j
  induction j with
  | zero => intro a c hc _ _; rw [Nat.add_zero] at hc; subst hc; rw [sub_none]; rfl
  | succ j ih =>
    intro a c hc hle hn
    have hlt : a < l.length := by omega
    have ha : l[a]? = some l[a] := List.getElem?_eq_getElem hlt
    rw [drop_cons ha, unCr_cons, ih (a + 1) c (by omega) hle fun k h1 h2 => hn k (by omega) h2, sub_cons ha (by omega)]
    · rfl
    · rintro ⟨h1, r', h2⟩
      refine hn a (Nat.le_refl _) (by omega) ⟨by rw [ha, h1], ?_⟩
      rw [← List.head?_drop, h2]; rfl

theorem strSub_sub (x : Str) (a c : Nat) : (strSub x a c).cps.toList = Mine.sub x.cps.toList a c := strSub_toList ..

theorem crlf_parts (x : Str) : ∀ (cuts : List Nat) (a f : Nat), a ≤ x.length → ChainG x ⟨#[13, 10]⟩ x.length a cuts f → (∀ k, f ≤ k → ¬ At x ⟨#[13, 10]⟩ x.length k) →
    (Str.join ⟨#[10]⟩ (partsFrom x 2 a cuts)).cps.toList = unCr (x.cps.toList.drop a)
  | [], a, f, ha, h, hn => by
    have hl : x.cps.toList.length = x.length := Array.length_toList
    have e : f = a := h
    subst e
    show (strSub x f x.length).cps.toList = _
    rw [strSub_sub, unCr_free (x.length - f) f x.length (by omega) (by omega) fun k h1 _ h3 => hn k h1 (at_crlf.mpr h3), List.drop_eq_nil_of_le (by omega : x.cps.toList.length ≤ x.length)]
    simp [unCr]
  | c :: r, a, f, ha, h, hn => by
    have hl : x.cps.toList.length = x.length := Array.length_toList
    obtain ⟨h1, h2, h3, h4⟩ := h
    have hc := h2.1
    have hc' : c + 2 ≤ x.length := hc
    have ih := crlf_parts x r (c + 2) f hc' h4 hn
    obtain ⟨p, q, e⟩ := partsFrom_ne x 2 (c + 2) r
    show (Str.join ⟨#[10]⟩ (strSub x a c :: partsFrom x 2 (c + 2) r)).cps.toList = _
    rw [e] at ih ⊢
    show (strSub x a c ++ ⟨#[10]⟩ ++ Str.join ⟨#[10]⟩ (p :: q)).cps.toList = _
    simp only [Str.cps_append, Array.toList_append]
    rw [ih, strSub_sub, unCr_free (c - a) a c (by omega) (by omega) fun k g1 g2 g3 => h3 k g1 g2 (at_crlf.mpr g3)]
    obtain ⟨g1, g2⟩ := at_crlf.mp h2
    rw [drop_cons g1, drop_cons g2, unCr]
    simp

theorem replace_crlf (x : Str) : (Txt.replace x ⟨#[13, 10]⟩ ⟨#[10]⟩).cps.toList = unCr x.cps.toList := by
  obtain ⟨f, hG, hn⟩ := occ_tight x ⟨#[13, 10]⟩ (by decide)
  have key := crlf_parts x _ 0 f (Nat.zero_le _) hG hn
  rw [List.drop_zero] at key
  unfold Txt.replace
  have h20 : ((⟨#[13, 10]⟩ : Str).length == 0) = false := rfl
  rw [h20, Bool.false_and, Bool.or_false]
  cases he : (occurrences x ⟨#[13, 10]⟩ 0 x.length (x.length + 1)).isEmpty
  · rw [if_neg Bool.false_ne_true, glued_eq_join, partsBetween_eq]; exact key
  · rw [if_pos rfl]
    rw [List.isEmpty_iff.mp he] at key
    rw [← key]
    show x.cps.toList = (strSub x 0 x.length).cps.toList
    rw [StrLaws.sub_whole]

noncomputable def crToLf (l : List Nat) : List Nat := l.map fun c => if c = 13 then 10 else c
theorem change_free (c d : Nat) (l : List Nat) (h : c ∉ l) : l.map (fun k => if k = c then d else k) = l := by
  conv => rhs; rw [← List.map_id l]
  refine List.map_congr_left fun k hk => ?_
  rw [if_neg]
  · rfl
  · intro e; subst e; exact h hk
theorem join_change (c d : Nat) : ∀ parts : List Str, (∀ p ∈ parts, c ∉ p.cps.toList) → (Str.join ⟨#[d]⟩ parts).cps.toList = (Str.join ⟨#[c]⟩ parts).cps.toList.map (fun k => if k = c then d else k)
  | [], _ => rfl
  | [p], h => (change_free c d _ (h p (List.mem_singleton.mpr rfl))).symm
  | p :: q :: r, h => by
    have ih := join_change c d (q :: r) fun a ha => h a (List.mem_cons_of_mem _ ha)
    show (p ++ ⟨#[d]⟩ ++ Str.join ⟨#[d]⟩ (q :: r)).cps.toList = (p ++ ⟨#[c]⟩ ++ Str.join ⟨#[c]⟩ (q :: r)).cps.toList.map _
    simp only [Str.cps_append, Array.toList_append, List.map_append]
    rw [ih, change_free c d _ (h p (List.mem_cons_self ..))]
    simp
theorem replace_cr (x : Str) : (Txt.replace x ⟨#[13]⟩ ⟨#[10]⟩).cps.toList = crToLf x.cps.toList := by
  rw [replace_one, join_change 13 10 _ (split_free x 13), join_split]; rfl

noncomputable def splitNL : List Nat → List (List Nat)
  | [] => [[]]
  | c :: r => if c = 10 then [] :: splitNL r else match splitNL r with
    | p :: ps => (c :: p) :: ps
    | [] => [[c]]
theorem splitNL_app : ∀ (p : List Nat) (r : List Nat), 10 ∉ p → splitNL (p ++ 10 :: r) = p :: splitNL r
  | [], r, _ => by show (if (10 : Nat) = 10 then _ else _) = _; rw [if_pos rfl]
  | c :: p, r, h => by
    have h1 : ¬ c = 10 := fun e => h (e ▸ List.mem_cons_self ..)
    show (if c = 10 then [] :: splitNL (p ++ 10 :: r) else match splitNL (p ++ 10 :: r) with | p :: ps => (c :: p) :: ps | [] => [[c]]) = _
    rw [if_neg h1, splitNL_app p r fun m => h (List.mem_cons_of_mem _ m)]
theorem splitNL_one : ∀ (p : List Nat), 10 ∉ p → splitNL p = [p]
  | [], _ => rfl
  | c :: p, h => by
    have h1 : ¬ c = 10 := fun e => h (e ▸ List.mem_cons_self ..)
    show (if c = 10 then [] :: splitNL p else match splitNL p with | p :: ps => (c :: p) :: ps | [] => [[c]]) = _
    rw [if_neg h1, splitNL_one p fun m => h (List.mem_cons_of_mem _ m)]
theorem split_join : ∀ parts : List Str, parts ≠ [] → (∀ p ∈ parts, 10 ∉ p.cps.toList) → splitNL (Str.join ⟨#[10]⟩ parts).cps.toList = parts.map (·.cps.toList)
  | [], h, _ => absurd rfl h
  | [p], _, h => splitNL_one _ (h p (List.mem_singleton.mpr rfl))
  | p :: q :: r, _, h => by
    have ih := split_join (q :: r) (by simp) fun a ha => h a (List.mem_cons_of_mem _ ha)
    show splitNL (p ++ ⟨#[10]⟩ ++ Str.join ⟨#[10]⟩ (q :: r)).cps.toList = _
    simp only [Str.cps_append, Array.toList_append]
    rw [List.append_assoc]
    show splitNL (p.cps.toList ++ 10 :: (Str.join ⟨#[10]⟩ (q :: r)).cps.toList) = _
    rw [splitNL_app _ _ (h p (List.mem_cons_self ..)), ih]; rfl
theorem split_ne (x : Str) (y : Str) : Txt.split x y ≠ [] := by
  unfold Txt.split
  split
  · simp
  · split
    · simp
    · rw [partsBetween_eq]
      obtain ⟨p, q, e⟩ := partsFrom_ne x y.length 0 (occurrences x y 0 x.length (x.length + 1))
      rw [e]; simp
theorem split_nl (x : Str) : (Txt.split x ⟨#[10]⟩).map (·.cps.toList) = splitNL x.cps.toList := by
  rw [← split_join _ (split_ne x _) (split_free x 10), join_split]
end Mine
end

noncomputable section -- NbRows2
open PySem PySem.W PyProof.Rows
open PySem.Builtin PySem.Builtin.Str PySem.Builtin.BaseException
set_option maxRecDepth 100000
namespace Mine

section
variable {w : World} {A : Around} {s : Shared} {Q : Value → Shared → Prop} {E : Value → Shared → Prop}
theorem methE1 {name : Str} {id : String} {o e₁ : Expr} {apos pos : Pos} {env : Env} (slot : Slot "str" name id) (ty : typeOf (.builtin id) = pure (.type "method_descriptor"))
    (h : wpAny (model prg w) A (eval o env) (fun ov s₁ => ∃ x t, ov = .str x t ∧ wpAny (model prg w) A (callWith pos (.builtin id) [.str x t] [(false, eval e₁ env)] []) Q E s₁) E s)
    (hbase : attributeBase o name env (eval o env) = eval o env := by rfl) (hs : backTo pos (starEach [e₁] env) = [(false, eval e₁ env)] := by rfl) (hline : (apos.endLine == pos.line) = true := by rfl) :
    wpAny (model prg w) A (eval (.Call (.Attribute o name apos) [e₁] [] pos) env) Q E s :=
  wpAny_Call_method_lateS hbase (by rw [hs]; rfl) hline (wpAny_mono h (fun _ _ ⟨_, _, e, q⟩ => e ▸ ⟨"str", id, F.plainAttrs_str, slot, ty, typeIs_str _ _ _, (fun _ e => nomatch e), by rw [hs]; exact q⟩) fun _ _ e => e)
theorem methE2 {name : Str} {id : String} {o e₁ e₂ : Expr} {apos pos : Pos} {env : Env} (slot : Slot "str" name id) (ty : typeOf (.builtin id) = pure (.type "method_descriptor"))
    (h : wpAny (model prg w) A (eval o env) (fun ov s₁ => ∃ x t, ov = .str x t ∧ wpAny (model prg w) A (callWith pos (.builtin id) [.str x t] [(false, eval e₁ env), (false, eval e₂ env)] []) Q E s₁) E s)
    (hbase : attributeBase o name env (eval o env) = eval o env := by rfl) (hs : backTo pos (starEach [e₁, e₂] env) = [(false, eval e₁ env), (false, eval e₂ env)] := by rfl) (hline : (apos.endLine == pos.line) = true := by rfl) :
    wpAny (model prg w) A (eval (.Call (.Attribute o name apos) [e₁, e₂] [] pos) env) Q E s :=
  wpAny_Call_method_lateS hbase (by rw [hs]; rfl) hline (wpAny_mono h (fun _ _ ⟨_, _, e, q⟩ => e ▸ ⟨"str", id, F.plainAttrs_str, slot, ty, typeIs_str _ _ _, (fun _ e => nomatch e), by rw [hs]; exact q⟩) fun _ _ e => e)
end

section
variable {M : Model} {A : Around} {E : Value → Shared → Prop} {s : Shared} {name : Str} {scope : Scope} {L a : Addr} {cd : Value} {h₀ : Heap} {m : Str → Option Value}
/-- store a local name; what else changes -/
theorem stS {x : Str} {v : Value} {Q : Unit → Shared → Prop} (F : Fr h₀ L s.heap m)
    (h : ∀ h', Fr h₀ L h' (fun y => if y = x then some v else m y) → Heap.SameBut L s.heap h' → Q () { s with heap := h', toks := s.toks + 1 })
    (hk : scope.kind = .function := by rfl) (hl : (envOf name scope L a cd).kindOf x = some .local := by rfl) :
    wpAny M A (storeName (envOf name scope L a cd) x v) Q E s :=
  wpAny_storeName_local hl F.ns (fun h' hn hs => h h' (F.set hn hs) hs)
    (by show (scope.kind == .class || (scope.kind == .module && L != mainGlobals)) = false; rw [hk]; rfl)
end
theorem list_ne {h : Heap} {D L : Addr} {items : Array Value} {m : Str → Option Value} (x : h.IsList D items) (n : h.Ns L m) : D ≠ L := fun e => by
  obtain ⟨o, ho, _, k, hd⟩ := x
  obtain ⟨oL, es, ep, hL, hdL, _⟩ := n
  rw [e, hL] at ho; injection ho with ho; subst ho; rw [hdL] at hd; cases hd
theorem list_same {h h' : Heap} {D L : Addr} {items : Array Value} {m : Str → Option Value} (x : h.IsList D items) (n : h.Ns L m) (sb : Heap.SameBut L h h') : h'.IsList D items :=
  x.extBut sb.extBut (list_ne x n)
section
variable {w : World} {A : Around} {s : Shared} {E : Value → Shared → Prop} {Q : Value → Shared → Prop}
/-- a list's iterator -/
theorem list_it {D : Addr} {items : Array Value} (hl : s.heap.IsList D items) (h : ∀ h' I, (∀ b o, s.heap.get? b = some o → h'.get? b = some o) → h'.IsListIter I D 0 ∧ h'.IsList D items → s.heap.objs.size ≤ I → I < h'.objs.size → D ≠ I → Q (.ref I) { s with heap := h' }) :
    wpAny (model prg w) A (pyIter (.ref D)) Q E s := by
  refine wpAny_pyIter_list hl (h _ _ (fun b o e => Heap.get?_push_of_some _ e) ⟨⟨_, Heap.get?_push_size _ rfl, rfl, rfl⟩, hl.imp fun o z => ⟨Heap.get?_push_of_some _ z.1, z.2⟩⟩ (Nat.le_refl _) ?_ ?_)
  · rw [Heap.size_push]; exact Nat.lt_succ_self _
  · obtain ⟨o, ho, _⟩ := hl
    exact Nat.ne_of_lt (Heap.lt_size ho)
end

noncomputable def rowsOf (l : List Nat) : List (List Nat) := (splitNL (crToLf (unCr l))).map fun row => if row.head? = some 46 then 46 :: row else row

theorem splitNL_len : ∀ l : List Nat, (splitNL l).length ≤ l.length + 1 ∧ ∀ p ∈ splitNL l, p.length ≤ l.length
  | [] => ⟨by simp [splitNL], by simp [splitNL]⟩
  | c :: r => by
    obtain ⟨h1, h2⟩ := splitNL_len r
    unfold splitNL
    split
    · refine ⟨by simp only [List.length_cons]; omega, fun p hp => ?_⟩
      rcases List.mem_cons.mp hp with rfl | hp
      · simp
      · have := h2 p hp; simp only [List.length_cons]; omega
    · cases hs : splitNL r with
      | nil => simp
      | cons q qs =>
        rw [hs] at h1 h2
        refine ⟨by simp only [List.length_cons] at h1 ⊢; omega, fun p hp => ?_⟩
        rcases List.mem_cons.mp hp with rfl | hp
        · have := h2 q (List.mem_cons_self ..); simp only [List.length_cons]; omega
        · have := h2 p (List.mem_cons_of_mem _ hp); simp only [List.length_cons]; omega
theorem head_dot (r : Str) : (S (Mine.sub r.cps.toList 0 1) == ⟨#[46]⟩) = true ↔ r.cps.toList.head? = some 46 := by
  rw [beq_iff_eq]
  unfold Mine.sub S
  cases r.cps.toList with
  | nil => simp [Str.mk.injEq]
  | cons c l => simp [Str.mk.injEq]
theorem paired_dots : ∀ (l : List (Str × Tok)) (ys : List Value), Paired (fun v y => ∃ r t t', v = .str r t ∧ y = .str (if r.cps.toList.head? = some 46 then ⟨#[46]⟩ ++ r else r) t') (strValues l) ys →
    ∃ l' : List (Str × Tok), ys = strValues l' ∧ l'.map (·.1.cps.toList) = (l.map (·.1.cps.toList)).map fun row => if row.head? = some 46 then 46 :: row else row
  | [], ys, h => by cases h; exact ⟨[], rfl, rfl⟩
  | p :: l, ys, h => by
    cases h with
    | cons h1 h2 =>
      obtain ⟨l', e1, e2⟩ := paired_dots l _ h2
      obtain ⟨r, t, t', hr, hy⟩ := h1
      injection hr with hr _
      subst hr
      refine ⟨(if p.1.cps.toList.head? = some 46 then ⟨#[46]⟩ ++ p.1 else p.1, t') :: l', by rw [hy, e1]; rfl, ?_⟩
      rw [List.map_cons, e2, List.map_cons, List.map_cons]
      congr 1
      by_cases hd : p.1.cps.toList.head? = some 46
      · dsimp only
        rw [if_pos hd, if_pos hd]
        show ((⟨#[46]⟩ : Str) ++ p.1).cps.toList = _
        rw [Str.cps_append, Array.toList_append]; rfl
      · dsimp only
        rw [if_neg hd, if_neg hd]

theorem unCr_len (l : List Nat) : (unCr l).length ≤ l.length := by
  induction l using unCr.induct <;> simp_all [unCr] <;> omega

section
variable {w : World} {A : Around} {n : Nat} {outer : List Env} {s : Shared} {Q : Value → Shared → Prop} {E : Value → Shared → Prop}

theorem rows_spec (ok : Ok w A n outer s.heap) (hn : n ≤ 18) (hh : A.handled = none) (x : Str) (hsz : x.length ≤ 400) {t : Tok}
    (hQ : ∀ h' tk' D (l : List (Str × Tok)), (∀ b o, s.heap.get? b = some o → h'.get? b = some o) → s.heap.get? D = none → h'.IsList D (strValues l).toArray → l.map (·.1.cps.toList) = rowsOf x.cps.toList → Q (.ref D) { s with heap := h', toks := tk' }) :
    wpAny (model prg w) A (call (.ref 158) [.str x t]) Q E s := by
  refine call_q (binds := [("text", .str x t)]) ok (by omega) ok.pb.f_rows (fun _ _ _ => by rfl) (by rfl) (fun H h₁ cd F => ?_)
  have hlx : x.cps.toList.length = x.length := Array.length_toList
  refine wpAny_execs_cons (wpAny_Assign_Name ?_)
  refine methE1 PySem.F.slot_str_split PySem.F.type_str_split ?_
  refine methE2 PySem.F.slot_str_replace PySem.F.type_str_replace ?_
  refine methE2 PySem.F.slot_str_replace PySem.F.type_str_replace ?_
  refine ld (s := { s with heap := h₁, toks := _ }) F rfl ⟨x, t, rfl, ?_⟩
  refine cw2 (Calls.Constant_str (Calls.Constant_str ?_))
  refine wpAny_with_toks (n := 1) (by show 1 ≤ s.toks + 1 + 1 + 1; omega) ?_
  refine SC.replace (by show s.toks + 1 ≠ 0; omega) (by show s.toks + 1 + 1 ≠ 0; omega) (by show s.toks + 1 ≠ s.toks + 1 + 1; omega) (by decide) (by show x.length + (x.length + 1) * 1 ≤ _; omega) fun t₂ k₂ hk₂ => ?_
  have hk₂' : 1 ≤ k₂ := hk₂
  refine ⟨_, t₂, rfl, ?_⟩
  have e₂ : (Txt.replace x (Str.ofString "\r\n") (Str.ofString "\n")).cps.toList = unCr x.cps.toList := replace_crlf x
  generalize Txt.replace x (Str.ofString "\r\n") (Str.ofString "\n") = x₂ at e₂ ⊢
  have l₂ : x₂.length ≤ x.length := by
    have := unCr_len x.cps.toList
    rw [← e₂] at this
    have h2 : x₂.cps.toList.length = x₂.length := Array.length_toList
    omega
  refine cw2 (Calls.Constant_str (Calls.Constant_str ?_))
  refine SC.replace (by show k₂ ≠ 0; omega) (by show k₂ + 1 ≠ 0; omega) (by show k₂ ≠ k₂ + 1; omega) (by decide) (by show x₂.length + (x₂.length + 1) * 1 ≤ _; omega) fun t₃ k₃ => ?_
  refine ⟨_, t₃, rfl, ?_⟩
  have e₃ : (Txt.replace x₂ (Str.ofString "\r") (Str.ofString "\n")).cps.toList = crToLf (unCr x.cps.toList) := by rw [← e₂]; exact replace_cr x₂
  generalize Txt.replace x₂ (Str.ofString "\r") (Str.ofString "\n") = x₃ at e₃ ⊢
  have l₃ : x₃.length = x₂.length := by
    have h3 : x₃.cps.toList.length = x₃.length := Array.length_toList
    have h2 : x₂.cps.toList.length = x₂.length := Array.length_toList
    rw [e₃, ← e₂] at h3
    unfold crToLf at h3
    rw [List.length_map] at h3
    omega
  refine cw1 (Calls.Constant_str ?_)
  refine SCG.split1 (Fm := fun s' => ∃ h' tk, s' = { s with heap := h', toks := tk } ∧ Fr s.heap s.heap.objs.size h' (fun y => [((Str.ofString "text"), Value.str x t)].reverse.lookup y)) ?_ ⟨h₁, _, rfl, F⟩ (by decide) (fun D l s' hl hF hD => ?_) (by rw [sizeLine_eq]; omega) ?_
  · rintro s' ob k ⟨h', tk, rfl, F'⟩
    exact ⟨h'.push ob, k, rfl, F'.push ob⟩
  · obtain ⟨h₄, tk₄, rfl, F₄⟩ := hF
    have e₄ : l.map (·.1.cps.toList) = splitNL (crToLf (unCr x.cps.toList)) := by
      rw [← e₃, ← split_nl x₃]
      rw [show Txt.split x₃ ⟨#[10]⟩ = l.map (·.1) from hl.symm, List.map_map]; rfl
    refine stS (s := { s with heap := h₄, toks := tk₄ }) F₄ fun h₅ F₅ sb₅ => ?_
    have hD₅ : h₅.IsList D (strValues l).toArray := list_same hD F₄.ns sb₅
    refine wpAny_execs_cons (wpAny_Return_some ?_)
    refine wpAny_ListComp_free (cl := []) (fun _ => true) (fun v y => ∃ r t t', v = .str r t ∧ y = .str (if r.cps.toList.head? = some 46 then ⟨#[46]⟩ ++ r else r) t') rfl (by decide) rfl (by decide) rfl ?_
    refine ld (s := { s with heap := h₅, toks := _ }) F₅ rfl ?_
    refine list_it (s := { s with heap := h₅, toks := _ }) hD₅ fun h₆ I k₆ hI hI1 hI2 hne => ?_
    have ne : ∀ b o, h₅.get? b = some o → b ∉ [I] := fun b o e hm => by
      have hb : b = I := by simpa using hm
      have := Heap.lt_size e
      rw [hb] at this
      exact Nat.lt_irrefl _ (Nat.lt_of_lt_of_le this hI1)
    have hsp := splitNL_len (crToLf (unCr x.cps.toList))
    have hcr : (crToLf (unCr x.cps.toList)).length ≤ 400 := by
      unfold crToLf; rw [List.length_map]; have := unCr_len x.cps.toList; omega
    have hll : l.length ≤ 401 := by
      have : (l.map (·.1.cps.toList)).length = l.length := List.length_map _
      rw [e₄] at this; omega
    have hpl : ∀ p ∈ l, p.1.length ≤ 400 := fun p hp => by
      have hm : p.1.cps.toList ∈ splitNL (crToLf (unCr x.cps.toList)) := by rw [← e₄]; exact List.mem_map.mpr ⟨p, hp, rfl⟩
      have := hsp.2 _ hm
      have h1 : p.1.cps.toList.length = p.1.length := Array.length_toList
      omega
    refine ⟨I, [I, D], [I], _, _, _, rfl, Walks.list (by exact hh) I D hne _, ?_, hI, ?_, ⟨?_, ?_⟩, fun D' h' tk ys vs' hD' hl' hpl' hlen hP hF hkp => ?_⟩
    · simp only [List.size_toArray, strValues, List.length_map, sizeLine_eq]; omega
    · intro b hb
      rcases List.mem_cons.mp hb with rfl | hb
      · exact hI2
      · rw [List.mem_singleton.mp hb]
        obtain ⟨o, ho, _⟩ := hI.2
        exact Heap.lt_size ho
    · intro C i v' s₃ m₃ E' _ _ _ _ _ _
      exact wpAny_pure ⟨rfl, s₃.heap, s₃.toks, rfl, fun _ _ e => e⟩
    · intro C i v' s₃ m₃ E' _ hP _ hns hm hkp _
      have hP' : (strValues l)[i]? = some v' := by
        have : (strValues l).toArray[i]? = some v' := hP
        rwa [List.getElem?_toArray] at this
      obtain ⟨p, hp, rfl⟩ := List.mem_map.mp (List.mem_of_getElem? hP')
      have hp1 := hpl p hp
      obtain ⟨r, t₀⟩ := p
      dsimp only at hp1 hm ⊢
      refine IfExp_ (wpAny_isTrue_Compare1 ?_)
      refine wpAny_Subscript_str_slice (ldVarK hns hm ?_)
      refine wpAny_pure ?_
      refine evalPart_some_step ?_
      refine wpAny_Constant_int ?_
      refine ⟨r, t₀, none, some (((1 : Nat) : Int), _), rfl, rfl, rfl, slice_post0 (by simp only [sizeLine_eq]; omega) fun t₅ tk₅ => ?_⟩
      refine Calls.Constant_str (PyProof.Rows.eq_str (wpAny_truthy_bool ?_))
      have hd := head_dot r
      have hd' : (S (Mine.sub r.cps.toList 0 1) == Str.ofString ".") = true ↔ r.cps.toList.head? = some 46 := hd
      by_cases hdot : r.cps.toList.head? = some 46
      · rw [if_pos (hd'.mpr hdot)]
        refine wpAny_BinOp (Calls.Constant_str (ldVarK (hns.keeps fun b o e => Heap.get?_push_of_some _ e) hm (add_str (fun t₆ tk₆ => ?_) ?_)))
        · refine ⟨⟨r, t₀, t₆, rfl, ?_⟩, _, _, rfl, fun _ _ e => Heap.get?_push_of_some _ e⟩
          rw [if_pos hdot]; rfl
        · show 1 + r.length ≤ sizeLine
          rw [sizeLine_eq]; omega
      · rw [if_neg (fun z => hdot (hd'.mp z))]
        refine ldVarK (hns.keeps fun b o e => Heap.get?_push_of_some _ e) hm ?_
        refine ⟨⟨r, t₀, t₀, rfl, ?_⟩, _, _, rfl, fun _ _ e => Heap.get?_push_of_some _ e⟩
        rw [if_neg hdot]
    · have hft : vs'.filter (fun _ => true) = vs' := by simp
      rw [hft] at hF
      have hvs : vs' = strValues l := by
        have hlen' : vs'.length = (strValues l).length := by rw [hlen, List.size_toArray]
        refine List.ext_getElem? fun j => ?_
        cases hj : vs'[j]? with
        | none => rw [List.getElem?_eq_none_iff] at hj; rw [List.getElem?_eq_none (by omega)]
        | some v =>
          have := hP j v hj
          rw [List.getElem?_toArray] at this
          exact this.symm
      rw [hvs] at hF
      obtain ⟨l', e1, e2⟩ := paired_dots l ys.toList hF
      have hys : ys = (strValues l').toArray := by rw [← e1]
      rw [hys] at hl'
      refine hQ h' tk D' l' (fun b o e => ?_) ?_ hl' (by rw [e2, e₄]; rfl)
      · have := F₅.keep b o e
        exact hkp b o (ne b o this) (k₆ b o this)
      · cases hq : s.heap.get? D' with
        | none => rfl
        | some o => have := k₆ _ _ (F₅.keep _ _ hq); rw [hD'] at this; cases this
  · unfold partsBetween
    rw [List.length_map, List.length_zip, List.length_cons, List.length_append, List.length_map, sizeLine_eq]
    have := StrLaws.occ_length_le x₃ (Str.ofString "\n") 0 x₃.length (x₃.length + 1)
    omega
end
end Mine
end

noncomputable section -- NbFor
open PySem PySem.W PyProof.Rows
open PySem.Builtin PySem.Builtin.Str PySem.Builtin.BaseException
set_option maxRecDepth 100000
namespace Mine

section
variable {w : World} {A : Around} {s : Shared} {E : Value → Shared → Prop} {R : Result → Shared → Prop} {env : Env}

/-- for x in a range -/
theorem for_range (hh : A.handled = none) {x : Str} {px : Pos} {body : List Stmt} {n : Nat} {a c : Int} {It L : Addr} {m₀ : Str → Option Value} (hL : env.locals = L) (hx : env.kindOf x = some .local)
    (hp : (env.scope.kind == .class || (env.scope.kind == .module && env.locals != env.globals)) = false) (hne : It ≠ L)
    (J : Nat → Heap → (Str → Option Value) → Prop)
    (stab : ∀ i h h' m, J i h m → (∃ o vs, h.get? It = some o ∧ o.data = .fields vs) → (∃ m', h.Ns L m') → (∀ b o, b ≠ It → b ≠ L → h.get? b = some o → h'.get? b = some o) → J i h' m)
    (hit : IsRangeIter s.heap It (a + ((0 : Nat) : Int) * c) ((n : Int) - ((0 : Nat) : Int)) c) (hns : s.heap.Ns L m₀) (h0 : J 0 s.heap m₀)
    (step : ∀ i h tk m t, i < n → h.Ns L (fun y => if y = x then some (.int (a + i * c) t) else m y) → J i h m →
      wpAny (model prg w) A (execs body env) (fun f s' => f = .next ∧ ∃ h' tk' m', s' = { s with heap := h', toks := tk' } ∧ h'.Ns L m' ∧ J (i + 1) h' m' ∧ (∀ o, h.get? It = some o → h'.get? It = some o))
        (notedBy (model prg w) A env fun e s' => R (.error e) s') { s with heap := h, toks := tk })
    (fin : ∀ h tk m, h.Ns L m → J n h m → R (.ok .next) { s with heap := h, toks := tk }) :
    codeAny (model prg w) A (.forLoop (.Name x px) (.ref It) body [] env) R s := by
  subst hL
  refine codeAny_forLoop (fun k s' => ∃ i h tk m, s' = { s with heap := h, toks := tk } ∧ i ≤ n ∧ k = n + 1 - i ∧ IsRangeIter h It (a + (i : Nat) * c) ((n : Int) - (i : Nat)) c ∧ h.Ns env.locals m ∧ J i h m) ?_ (n + 1)
    ⟨0, s.heap, s.toks, m₀, rfl, Nat.zero_le _, rfl, hit, hns, h0⟩
  rintro k s' ⟨i, h, tk, m, rfl, hi, rfl, hIt, hn, hJ⟩
  have W := Walks.range (prog := prg) (w := w) (A := A) hh It a c n
  by_cases hlt : i < n
  · refine W.item i _ _ _ hlt hIt fun v h₁ tk₁ hP hst₁ hk₁ => ?_
    obtain ⟨t, rfl⟩ := hP
    have hn₁ : h₁.Ns env.locals m := hn.at' fun o e => hk₁ _ o (by simpa using Ne.symm hne) e
    refine wpAny_assign_Name (wpAny_storeName_local hx hn₁ (fun h₂ hn₂ hs₂ => ?_) hp)
    have hJ₂ : J i h₂ m := stab i h h₂ m hJ ⟨_, _, hIt, rfl⟩ ⟨m, hn⟩ fun b o h1 h2 e => hs₂.extBut b o h2 (hk₁ b o (by simpa using h1) e)
    refine wpAny_mono (step i h₂ _ m t hlt hn₂ hJ₂) (fun f s₃ h₃ => ?_) fun _ _ e => e
    obtain ⟨rfl, h', tk', m', rfl, g1, g2, g3⟩ := h₃
    exact ⟨n + 1 - (i + 1), by omega, i + 1, h', tk', m', rfl, hlt, rfl, g3 _ (hs₂.extBut It _ hne hst₁), g1, g2⟩
  · have hin : i = n := by omega
    subst hin
    refine W.done _ _ _ hIt fun h₁ tk₁ hk₁ => wpAny_execs_nil ?_
    exact fin h₁ tk₁ m (hn.at' fun o e => hk₁ _ o (by simpa using Ne.symm hne) e) (stab i h h₁ m hJ ⟨_, _, hIt, rfl⟩ ⟨m, hn⟩ fun b o h1 _ e => hk₁ b o (by simpa using h1) e)
end
end Mine
end

noncomputable section -- NbMarks
open PySem PySem.W PyProof.Rows
open PySem.Builtin PySem.Builtin.Str PySem.Builtin.BaseException
set_option maxRecDepth 100000
namespace Mine

noncomputable def posTxt (i j : Nat) : Str := Str.ofString "(at line " ++ decS i ++ Str.ofString ", column " ++ decS j ++ Str.ofString ")"
noncomputable def markRow (k : Nat) (row : List Nat) (u : Nat) : List (Nat × Str) := (List.range u).map fun c => (row.getD c 0, posTxt (k + 1) (c + 1))
noncomputable def rowAt (rows : List (List Nat)) (ends : List Nat) (k : Nat) : List Nat := if k + 1 < rows.length then rows.getD k [] ++ ends else rows.getD k []
noncomputable def marksTo (rows : List (List Nat)) (ends : List Nat) (u : Nat) : List (Nat × Str) := (List.range u).flatMap fun k => markRow k (rowAt rows ends k) (rowAt rows ends k).length
noncomputable def marksOf (rows : List (List Nat)) (ends : List Nat) : List (Nat × Str) := marksTo rows ends rows.length

noncomputable def MarkAt (M : Addr) (h : Heap) (v : Value) (mk : Nat × Str) : Prop := ∃ a t t', v = .ref a ∧ a ≠ M ∧ h.IsList a #[.str ⟨#[mk.1]⟩ t, .str mk.2 t']
theorem MarkAt.mono {M : Addr} {h h' : Heap} {v : Value} {mk : Nat × Str} (x : MarkAt M h v mk) (k : ∀ b o xs n, h.get? b = some o → o.data = .seq xs n → b ≠ M → h'.get? b = some o) : MarkAt M h' v mk := by
  obtain ⟨a, t, t', e, hne, o, ho, hc, n, hd⟩ := x
  exact ⟨a, t, t', e, hne, o, k a o _ _ ho hd hne, hc, n, hd⟩
theorem Paired.imp {α β : Type} {F G : α → β → Prop} (h : ∀ a b, F a b → G a b) : ∀ {l₁ : List α} {l₂ : List β}, Paired F l₁ l₂ → Paired G l₁ l₂
  | _, _, .nil => .nil
  | _, _, .cons h₁ t => .cons (h _ _ h₁) (Paired.imp h t)
theorem Paired.len {α β : Type} {F : α → β → Prop} : ∀ {l₁ : List α} {l₂ : List β}, Paired F l₁ l₂ → l₁.length = l₂.length
  | _, _, .nil => rfl
  | _, _, .cons _ t => by simp [Paired.len t]
theorem markRow_succ (k : Nat) (row : List Nat) (u : Nat) : markRow k row (u + 1) = markRow k row u ++ [(row.getD u 0, posTxt (k + 1) (u + 1))] := by
  unfold markRow; rw [List.range_succ, List.map_append]; rfl
theorem marksTo_succ (rows : List (List Nat)) (ends : List Nat) (u : Nat) : marksTo rows ends (u + 1) = marksTo rows ends u ++ markRow u (rowAt rows ends u) (rowAt rows ends u).length := by
  unfold marksTo; rw [List.range_succ, List.flatMap_append]; simp
theorem markRow_len (k : Nat) (row : List Nat) (u : Nat) : (markRow k row u).length = u := by simp [markRow]
theorem marksTo_len {rows : List (List Nat)} {ends : List Nat} (h : ∀ r ∈ rows, r.length ≤ 500) (he : ends.length ≤ 2) : ∀ u, (marksTo rows ends u).length ≤ 502 * u
  | 0 => by simp [marksTo]
  | u + 1 => by
    have := marksTo_len h he u
    rw [marksTo_succ, List.length_append, markRow_len]
    have hr : (rows.getD u []).length ≤ 500 := by
      rw [List.getD_eq_getElem?_getD]
      cases hu : rows[u]? with
      | none => simp
      | some r => exact h r (List.mem_of_getElem? hu)
    unfold rowAt
    split
    · rw [List.length_append]; omega
    · omega

section
variable {w : World} {A : Around} {n : Nat} {outer : List Env} {s : Shared} {Q : Value → Shared → Prop} {E : Value → Shared → Prop}

/-- the state of the loops -/
structure MJ (h₀ : Heap) (M : Addr) (vr ve : Value) (ms : List (Nat × Str)) (h : Heap) (m : Str → Option Value) : Prop where
  keep : ∀ b o, h₀.get? b = some o → h.get? b = some o
  mr : m "rows" = some vr
  me : m "ends" = some ve
  mm : m "marks" = some (.ref M)
  ex : ∃ ys : List Value, h.PlainList M ys.toArray ∧ Paired (MarkAt M h) ys ms

theorem MJ.tr {h₀ h h' : Heap} {M : Addr} {vr ve : Value} {ms : List (Nat × Str)} {m m' : Str → Option Value} (x : MJ h₀ M vr ve ms h m)
    (k : ∀ b o, h₀.get? b = some o → h.get? b = some o → h'.get? b = some o) (ks : ∀ b o xs n, h.get? b = some o → o.data = .seq xs n → h'.get? b = some o)
    (e1 : m' "rows" = m "rows") (e2 : m' "ends" = m "ends") (e3 : m' "marks" = m "marks") : MJ h₀ M vr ve ms h' m' := by
  obtain ⟨a1, a2, a3, a4, ys, a5, a6⟩ := x
  refine ⟨fun b o e => k b o e (a1 b o e), e1.trans a2, e2.trans a3, e3.trans a4, ys, ?_, Paired.imp (fun _ _ z => z.mono fun b o xs n q hd _ => ks b o xs n q hd) a6⟩
  obtain ⟨n, e⟩ := a5
  exact ⟨n, ks _ _ _ _ e rfl⟩
end
end Mine
end

noncomputable section -- NbMarks2
open PySem PySem.W PyProof.Rows
open PySem.Builtin PySem.Builtin.Str PySem.Builtin.BaseException
set_option maxRecDepth 100000
namespace Mine

section
variable {w : World} {A : Around} {n : Nat} {outer : List Env} {s : Shared} {Q : Value → Shared → Prop} {E : Value → Shared → Prop}

noncomputable def inBody (st : Stmt) : List Stmt := match st with
  | .For _ _ b _ _ => b
  | _ => []
noncomputable def mFor : Stmt := (bdyOfS (stAt 25)).getD 1 (.Pass default)
noncomputable def mFor2 : Stmt := (inBody mFor).getD 1 (.Pass default)

/-- one mark more -/
theorem mark_one (hh : A.handled = none) {L M : Addr} {cd : Value} {h₀ : Heap} (H : PB w h₀) (hL : h₀.objs.size ≤ L) {h : Heap} {tk : Nat} {m : Str → Option Value} {vr ve : Value} {ms : List (Nat × Str)} (x : MJ h₀ M vr ve ms h m) (hns : h.Ns L m) (hM : h₀.get? M = none) (hML : M ≠ L)
    (row : Str) {tr tk1 tk2 : Tok} (k c : Nat) (hrow : m "row" = some (.str row tr)) (hk : m "k" = some (.int (k : Nat) tk1)) (hc : m "c" = some (.int (c : Nat) tk2)) (hlt : c < row.length) (hrl : row.length ≤ 502) (hkl : k ≤ 500) (hml : ms.length ≤ 1000000)
    {P : Flow → Shared → Prop} (hP : ∀ h' tk', MJ h₀ M vr ve (ms ++ [(row.cps.toList.getD c 0, posTxt (k + 1) (c + 1))]) h' m → h'.Ns L m → (∀ b o, b ≠ M → h.get? b = some o → h'.get? b = some o) → P .next { s with heap := h', toks := tk' }) :
    wpAny (model prg w) A (execs (inBody mFor2) (envAt (stAt 25) L 165 cd)) P E { s with heap := h, toks := tk } := by
  have F : Fr h₀ L h m := ⟨hns, x.keep, hL⟩
  obtain ⟨ys, hpl, hpa⟩ := x.ex
  refine wpAny_execs_cons (wpAny_Expr_any ?_)
  refine wpAny_Call_method_lateS rfl rfl rfl (ld (s := { s with heap := h, toks := tk }) F x.mm ?_)
  refine ⟨"list", "list.append", PySem.F.plainAttrs_list, PySem.F.slot_list_append, PySem.F.type_list_append, ?_, ?_, ?_⟩
  · obtain ⟨n', e⟩ := hpl; exact ⟨_, e, rfl⟩
  · intro a' ha'; injection ha' with ha'; subst ha'
    obtain ⟨n', e⟩ := hpl; exact ⟨_, e, rfl⟩
  refine cw1 (List_ ?_)
  have hd1 : (decS (k + 1)).length ≤ 9 := decS_len (by omega)
  have hd2 : (decS (c + 1)).length ≤ 9 := decS_len (by omega)
  have c1 : (Str.ofString "(at line ").length = 9 := by decide +kernel
  have c2 : (Str.ofString ", column ").length = 9 := by decide +kernel
  have c3 : (Str.ofString ")").length = 1 := by decide +kernel
  obtain ⟨i1, i2⟩ := item_nat (x := row) (k := c) hlt
  refine spl_cons (Subscript_ (ld (s := { s with heap := h, toks := tk }) F hrow (ld (s := { s with heap := h, toks := tk }) F hc ?_))) rfl
  refine item_str_or (by exact hh) (fits_small (by omega) (by omega)) (fun hout => by omega) (fun _ _ => ?_)
  rw [i1]
  refine spl_cons (wpAny_BinOp (wpAny_BinOp (wpAny_BinOp (wpAny_BinOp (Calls.Constant_str ?_))))) rfl
  refine Call_nm1 (bnE (s := { s with heap := h, toks := _ }) F.keep H.b_str ?_)
  refine ct1 (wpAny_BinOp (ld (s := { s with heap := h, toks := _ }) F hk (wpAny_Constant_int (add_int ?_))))
  have hk1 : ((k : Int) + 1) = ((k + 1 : Nat) : Int) := by omega
  have hc1 : ((c : Int) + 1) = ((c + 1 : Nat) : Int) := by omega
  rw [hk1]
  refine PySem.P.str_of_int (log2_small (by omega)) ?_
  refine add_str (fun t₁ tk₁ => ?_) (by show _ + (decS (k + 1)).length ≤ _; rw [c1, sizeLine_eq]; omega)
  refine Calls.Constant_str (add_str (fun t₂ tk₂ => ?_) (by
    show (Str.ofString "(at line " ++ decS (k + 1)).length + _ ≤ _
    rw [Str.length_append, c1, c2, sizeLine_eq]; omega))
  refine Call_nm1 (bnE (s := { s with heap := h, toks := _ }) F.keep H.b_str ?_)
  refine ct1 (wpAny_BinOp (ld (s := { s with heap := h, toks := _ }) F hc (wpAny_Constant_int (add_int ?_))))
  rw [hc1]
  refine PySem.P.str_of_int (log2_small (by omega)) ?_
  refine add_str (fun t₃ tk₃ => ?_) (by
    show (Str.ofString "(at line " ++ decS (k + 1) ++ Str.ofString ", column ").length + (decS (c + 1)).length ≤ _
    rw [Str.length_append, Str.length_append, c1, c2, sizeLine_eq]; omega)
  refine Calls.Constant_str (add_str (fun t₄ tk₄ => ?_) (by
    show (Str.ofString "(at line " ++ decS (k + 1) ++ Str.ofString ", column " ++ decS (c + 1)).length + _ ≤ _
    rw [Str.length_append, Str.length_append, Str.length_append, c1, c2, c3, sizeLine_eq]; omega))
  refine spl_nil ?_
  refine wpAny_newObj_type ?_ (by show 2 ≤ sizeLine; rw [sizeLine_eq]; omega)
  have hMl : M < h.objs.size := by obtain ⟨n', e⟩ := hpl; exact Heap.lt_size e
  refine wpAny_list_append_plain (hpl.at fun o e => Heap.get?_push_of_some _ e) (fun h' hl' sb' => ?_) ?_
  · have hk' : ∀ b o, b ≠ M → h.get? b = some o → h'.get? b = some o := fun b o hb e => (sb'.2 b hb).trans (Heap.get?_push_of_some _ e)
    refine wpAny_execs_nil (hP h' _ ⟨fun b o e => hk' b o (fun z => by rw [z, hM] at e; cases e) (x.keep b o e), x.mr, x.me, x.mm, ys ++ [.ref h.objs.size], ?_, ?_⟩ ?_ hk')
    · have : (ys ++ [Value.ref h.objs.size]).toArray = ys.toArray.push (.ref h.objs.size) := by simp
      rw [this]; exact hl'
    · refine Paired.snoc (Paired.imp (fun _ _ z => z.mono fun b o xs n q hd hb => hk' b o hb q) hpa) ⟨h.objs.size, _, _, rfl, Nat.ne_of_gt hMl, _, (sb'.2 _ (Nat.ne_of_gt hMl)).trans (Heap.get?_push_size _ rfl), rfl, _, rfl⟩
    · exact hns.at' fun o e => hk' L o (Ne.symm hML) e
  · have := Paired.len hpa
    rw [List.size_toArray, sizeLine_eq]; omega
end
end Mine
end

noncomputable section -- NbMarks3
open PySem PySem.W PyProof.Rows
open PySem.Builtin PySem.Builtin.Str PySem.Builtin.BaseException
set_option maxRecDepth 100000
namespace Mine

section
variable {w : World} {A : Around} {n : Nat} {outer : List Env} {s : Shared} {Q : Value → Shared → Prop} {E : Value → Shared → Prop}

/-- changes at an iterator and at the names leave the marks -/
theorem MJ.stab {h₀ h h' : Heap} {M It L : Addr} {vr ve : Value} {ms : List (Nat × Str)} {m m' : Str → Option Value} (x : MJ h₀ M vr ve ms h m) (hI : h₀.get? It = none) (hL : h₀.get? L = none)
    (hIt : ∃ o vs, h.get? It = some o ∧ o.data = .fields vs) (hNs : ∃ m', h.Ns L m') (k : ∀ b o, b ≠ It → b ≠ L → h.get? b = some o → h'.get? b = some o)
    (e1 : m' "rows" = m "rows") (e2 : m' "ends" = m "ends") (e3 : m' "marks" = m "marks") : MJ h₀ M vr ve ms h' m' := by
  refine x.tr (fun b o e q => k b o (fun z => by rw [z, hI] at e; cases e) (fun z => by rw [z, hL] at e; cases e) q) (fun b o xs n q hd => k b o (fun z => ?_) (fun z => ?_) q) e1 e2 e3
  · obtain ⟨o', vs, g1, g2⟩ := hIt
    rw [z, g1] at q; injection q with q; subst q; rw [g2] at hd; cases hd
  · obtain ⟨m'', oL, es, ep, g1, g2, _⟩ := hNs
    rw [z, g1] at q; injection q with q; subst q; rw [g2] at hd; cases hd

theorem mark_row (hh : A.handled = none) {L M D : Addr} {cd : Value} {h₀ : Heap} (H : PB w h₀) (hL : h₀.objs.size ≤ L) {h : Heap} {tk : Nat} {m : Str → Option Value} {ms : List (Nat × Str)} {l : List (Str × Tok)} {ends : Str} {te : Tok}
    (x : MJ h₀ M (.ref D) (.str ends te) ms h m) (hns : h.Ns L m) (hM : h₀.get? M = none) (hML : M ≠ L) (hD : h₀.IsList D (strValues l).toArray) (hl : l.length ≤ 500) (hr : ∀ p ∈ l, p.1.length ≤ 500) (he : ends.length ≤ 2)
    {tk1 : Tok} (k : Nat) (hk : m "k" = some (.int (k : Nat) tk1)) (hkl : k < l.length) (hml : ms.length ≤ 900000)
    {P : Flow → Shared → Prop} (hP : ∀ h' tk' m', MJ h₀ M (.ref D) (.str ends te) (ms ++ markRow k (rowAt (l.map (·.1.cps.toList)) ends.cps.toList k) (rowAt (l.map (·.1.cps.toList)) ends.cps.toList k).length) h' m' → h'.Ns L m' →
      (∀ b o, b ≠ M → b ≠ L → h.get? b = some o → h'.get? b = some o) → P .next { s with heap := h', toks := tk' }) :
    wpAny (model prg w) A (execs (inBody mFor) (envAt (stAt 25) L 165 cd)) P E { s with heap := h, toks := tk } := by
  have F : Fr h₀ L h m := ⟨hns, x.keep, hL⟩
  have hL0 : h₀.get? L = none := by
    cases hq : h₀.get? L with
    | none => rfl
    | some o => exact absurd (Heap.lt_size hq) (Nat.not_lt.mpr hL)
  have hDk : ∀ {h' : Heap}, (∀ b o, h₀.get? b = some o → h'.get? b = some o) → h'.IsList D (strValues l).toArray := fun kk => hD.imp fun o z => ⟨kk _ _ z.1, z.2⟩
  have hlen : (strValues l).toArray.size = l.length := by simp [strValues]
  obtain ⟨p, hp⟩ : ∃ p, l[k]? = some p := ⟨l[k], List.getElem?_eq_getElem hkl⟩
  have hpm := List.mem_of_getElem? hp
  have hpv : (strValues l)[k]? = some (.str p.1 p.2) := by unfold strValues; rw [List.getElem?_map, hp]; rfl
  have hrk : (l.map (·.1.cps.toList)).getD k [] = p.1.cps.toList := by rw [List.getD_eq_getElem?_getD, List.getElem?_map, hp]; rfl
  -- behind the choice of the row
  have rest : ∀ (row : Str) (tr : Tok) (tk₂ : Nat), row.cps.toList = rowAt (l.map (·.1.cps.toList)) ends.cps.toList k → row.length ≤ 502 →
      wpAny (model prg w) A (storeName (envAt (stAt 25) L 165 cd) "row" (.str row tr)) (fun _ s₁ => wpAny (model prg w) A (execs ((inBody mFor).drop 1) (envAt (stAt 25) L 165 cd)) P E s₁) E { s with heap := h, toks := tk₂ } := by
    intro row tr tk₂ hrow hrl
    refine stS (s := { s with heap := h, toks := tk₂ }) F fun h₁ F₁ sb₁ => ?_
    have hrl2 : row.cps.toList.length = row.length := Array.length_toList
    have x₁ : MJ h₀ M (.ref D) (.str ends te) ms h₁ (fun y => if y = "row" then some (.str row tr) else m y) := x.tr (fun b o e _ => F₁.keep b o e) (fun b o xs n q hd => (sb₁.2 b fun z => by
      obtain ⟨oL, es, ep, g1, g2, _⟩ := hns
      rw [z, g1] at q; injection q with q; subst q; rw [g2] at hd; cases hd).trans q) rfl rfl rfl
    refine wpAny_execs_cons (wpAny_For ?_)
    refine Call_nm1 (bnE (s := { s with heap := h₁, toks := _ }) F₁.keep H.b_range ?_)
    refine ct1 (Call_nm1 (bnE (s := { s with heap := h₁, toks := _ }) F₁.keep H.b_len (cw1 (ld (s := { s with heap := h₁, toks := _ }) F₁ rfl (len_str (by omega) ?_)))))
    refine range1_it (s := { s with heap := h₁, toks := _ }) (by omega) fun h₂ tk₃ It k₂ hIt hI1 hI2 => ?_
    have hI0 : h₀.get? It = none := by
      cases hq : h₀.get? It with
      | none => rfl
      | some o => exact absurd (Heap.lt_size (F₁.keep _ _ hq)) (Nat.not_lt.mpr hI1)
    have hLs : L < h₁.objs.size := by obtain ⟨oL, es, ep, g1, _⟩ := F₁.ns; exact Heap.lt_size g1
    have hMs : M < h₁.objs.size := by obtain ⟨ys, ⟨n', g1⟩, _⟩ := x₁.ex; exact Heap.lt_size g1
    have hIL : It ≠ L := fun z => by rw [z] at hI1; exact Nat.lt_irrefl _ (Nat.lt_of_lt_of_le hLs hI1)
    have hIM : It ≠ M := fun z => by rw [z] at hI1; exact Nat.lt_irrefl _ (Nat.lt_of_lt_of_le hMs hI1)
    refine for_range (s := { s with heap := h₂, toks := tk₃ }) hh rfl rfl rfl hIL
      (fun i h' m' => MJ h₀ M (.ref D) (.str ends te) (ms ++ markRow k row.cps.toList i) h' m' ∧ m' "row" = some (.str row tr) ∧ m' "k" = some (.int (k : Nat) tk1) ∧ (∀ b o, b ≠ M → b ≠ L → b ≠ It → h₁.get? b = some o → h'.get? b = some o))
      ?_ hIt (F₁.ns.keeps k₂) ⟨?_, rfl, hk, fun b o _ _ _ e => k₂ b o e⟩ ?_ ?_
    · rintro i h' h'' m' ⟨j1, j2, j3, j4⟩ g1 g2 g3
      exact ⟨j1.stab hI0 hL0 g1 g2 g3 rfl rfl rfl, j2, j3, fun b o b1 b2 b3 e => g3 b o b3 b2 (j4 b o b1 b2 b3 e)⟩
    · have : ms ++ markRow k row.cps.toList 0 = ms := by simp [markRow]
      rw [this]
      exact x₁.tr (fun b o _ q => k₂ b o q) (fun b o _ _ q _ => k₂ b o q) rfl rfl rfl
    · rintro i h' tk' m' t hi hns' ⟨j1, j2, j3, j4⟩
      have hi0 : (0 : Int) + (i : Int) * 1 = (i : Int) := by omega
      rw [hi0] at hns'
      have j1' : MJ h₀ M (.ref D) (.str ends te) (ms ++ markRow k row.cps.toList i) h' (fun y => if y = "c" then some (.int (i : Int) t) else m' y) := j1.tr (fun b o _ q => q) (fun b o _ _ q _ => q) rfl rfl rfl
      refine mark_one (s := { s with heap := h₂, toks := tk₃ }) (tk := tk') hh H hL j1' hns' hM hML row (tr := tr) (tk1 := tk1) (tk2 := t) k i j2 j3 rfl hi hrl (by omega) ?_ fun h'' tk'' y1 y2 y3 => ⟨rfl, h'', tk'', _, rfl, y2, ⟨?_, j2, j3, fun b o b1 b2 b3 e => y3 b o b1 (j4 b o b1 b2 b3 e)⟩, fun o e => y3 _ o hIM e⟩
      · rw [List.length_append, markRow_len]; omega
      · rw [markRow_succ, ← List.append_assoc]; exact y1
    · rintro h' tk' m' hns' ⟨j1, j2, j3, j4⟩
      refine wpAny_execs_nil ?_
      refine hP h' tk' m' ?_ hns' fun b o b1 b2 e => j4 b o b1 b2 (fun z => ?_) ((sb₁.2 b b2).trans e)
      · rw [← hrow, hrl2]; exact j1
      · rw [z] at e
        have := Heap.lt_size ((sb₁.2 It hIL).trans e)
        exact Nat.lt_irrefl _ (Nat.lt_of_lt_of_le this hI1)
  refine wpAny_execs_cons (wpAny_Assign_Name (IfExp_ ?_))
  refine wpAny_isTrue_Compare1 (ld (s := { s with heap := h, toks := tk }) F hk ?_)
  refine wpAny_BinOp (Call_nm1 (bnE (s := { s with heap := h, toks := _ }) F.keep H.b_len (cw1 (ld (s := { s with heap := h, toks := _ }) F x.mr ?_))))
  refine len_list (hDk x.keep) (by rw [hlen]; omega) ?_
  refine wpAny_Constant_int (sub_int (lt_int (wpAny_truthy_bool ?_)))
  rw [hlen]
  have hpl := hr p hpm
  by_cases hlast : k + 1 < l.length
  · rw [if_pos (by simp; omega)]
    refine wpAny_BinOp (Subscript_ (ld (s := { s with heap := h, toks := _ }) F x.mr (ld (s := { s with heap := h, toks := _ }) F hk ?_)))
    refine item_listL (hDk x.keep) (by omega) (by omega) (by rw [Int.toNat_natCast]; exact hpv) ?_
    refine ld (s := { s with heap := h, toks := _ }) F x.me (add_str (fun t₂ tk₂ => ?_) (by rw [sizeLine_eq]; omega))
    refine rest (p.1 ++ ends) t₂ tk₂ ?_ (by rw [Str.length_append]; omega)
    unfold rowAt
    rw [List.length_map, if_pos hlast, hrk, Str.cps_append, Array.toList_append]
  · rw [if_neg (by simp; omega)]
    refine Subscript_ (ld (s := { s with heap := h, toks := _ }) F x.mr (ld (s := { s with heap := h, toks := _ }) F hk ?_))
    refine item_listL (hDk x.keep) (by omega) (by omega) (by rw [Int.toNat_natCast]; exact hpv) ?_
    refine rest p.1 p.2 _ ?_ (by omega)
    unfold rowAt
    rw [List.length_map, if_neg hlast, hrk]

theorem marks_spec (ok : Ok w A n outer s.heap) (hn : n ≤ 18) (hh : A.handled = none) {D : Addr} {l : List (Str × Tok)} (hD : s.heap.IsList D (strValues l).toArray) (hl : l.length ≤ 500) (hr : ∀ p ∈ l, p.1.length ≤ 500) (ends : Str) (he : ends.length ≤ 2) {te : Tok}
    (hQ : ∀ h' tk' M (ys : List Value), (∀ b o, s.heap.get? b = some o → h'.get? b = some o) → s.heap.get? M = none → h'.IsList M ys.toArray → Paired (MarkAt M h') ys (marksOf (l.map (·.1.cps.toList)) ends.cps.toList) → Q (.ref M) { s with heap := h', toks := tk' }) :
    wpAny (model prg w) A (call (.ref 165) [.ref D, .str ends te]) Q E s := by
  refine call_q (binds := [("rows", .ref D), ("ends", .str ends te)]) ok (by omega) ok.pb.f_marks (fun _ _ _ => by rfl) (by rfl) (fun H h₁ cd F => ?_)
  have hhd : (A.deeper (envAt (stAt 25) s.heap.objs.size 165 cd)).handled = none := hh
  have hlen : (strValues l).toArray.size = l.length := by simp [strValues]
  have hL0 : s.heap.get? s.heap.objs.size = none := by
    cases hq : s.heap.get? s.heap.objs.size with
    | none => rfl
    | some o => exact absurd (Heap.lt_size hq) (Nat.lt_irrefl _)
  refine wpAny_execs_cons (wpAny_Assign_Name (List_ (spl_nil ?_)))
  refine wpAny_newObj_type ?_ (by show (0 : Nat) ≤ sizeLine; exact Nat.zero_le _)
  have hLs : s.heap.objs.size < h₁.objs.size := by obtain ⟨oL, es, ep, g1, _⟩ := F.ns; exact Heap.lt_size g1
  have hM0 : s.heap.get? h₁.objs.size = none := by
    cases hq : s.heap.get? h₁.objs.size with
    | none => rfl
    | some o => exact absurd (Heap.lt_size (F.keep _ _ hq)) (Nat.lt_irrefl _)
  refine stS (s := { s with heap := h₁.push { cls := .type "list", data := .seq ([] : List Value).toArray }, toks := _ }) (F.push _) fun h₂ F₂ sb₂ => ?_
  have hM₂ : h₂.PlainList h₁.objs.size ([] : List Value).toArray := ⟨_, (sb₂.2 _ (Nat.ne_of_gt hLs)).trans (Heap.get?_push_size _ rfl)⟩
  have x₂ : MJ s.heap h₁.objs.size (.ref D) (.str ends te) [] h₂ (fun y => if y = "marks" then some (.ref h₁.objs.size) else [((Str.ofString "rows"), Value.ref D), ((Str.ofString "ends"), Value.str ends te)].reverse.lookup y) :=
    ⟨F₂.keep, rfl, rfl, rfl, [], hM₂, .nil⟩
  refine wpAny_execs_cons (wpAny_For ?_)
  refine Call_nm1 (bnE (s := { s with heap := h₂, toks := _ }) F₂.keep H.b_range ?_)
  refine ct1 (Call_nm1 (bnE (s := { s with heap := h₂, toks := _ }) F₂.keep H.b_len (cw1 (ld (s := { s with heap := h₂, toks := _ }) F₂ rfl (len_list (hD.imp fun o z => ⟨F₂.keep _ _ z.1, z.2⟩) (by rw [hlen]; omega) ?_)))))
  rw [hlen]
  refine range1_it (s := { s with heap := h₂, toks := _ }) (by omega) fun h₃ tk₃ It k₃ hIt hI1 hI2 => ?_
  have hI0 : s.heap.get? It = none := by
    cases hq : s.heap.get? It with
    | none => rfl
    | some o => exact absurd (Heap.lt_size (F₂.keep _ _ hq)) (Nat.not_lt.mpr hI1)
  have hL2 : s.heap.objs.size < h₂.objs.size := by obtain ⟨oL, es, ep, g1, _⟩ := F₂.ns; exact Heap.lt_size g1
  have hM2 : h₁.objs.size < h₂.objs.size := by obtain ⟨n', g1⟩ := hM₂; exact Heap.lt_size g1
  have hIL : It ≠ s.heap.objs.size := fun z => by rw [z] at hI1; exact Nat.lt_irrefl _ (Nat.lt_of_lt_of_le hL2 hI1)
  have hIM : It ≠ h₁.objs.size := fun z => by rw [z] at hI1; exact Nat.lt_irrefl _ (Nat.lt_of_lt_of_le hM2 hI1)
  have hrr : ∀ r ∈ l.map (·.1.cps.toList), r.length ≤ 500 := fun r hr' => by
    obtain ⟨p, hp, rfl⟩ := List.mem_map.mp hr'
    have := hr p hp
    have h1 : p.1.cps.toList.length = p.1.length := Array.length_toList
    omega
  have hee : ends.cps.toList.length ≤ 2 := by have h1 : ends.cps.toList.length = ends.length := Array.length_toList
                                              omega
  refine for_range (s := { s with heap := h₃, toks := tk₃ }) (L := s.heap.objs.size) (env := envAt (stAt 25) s.heap.objs.size 165 cd) (x := "k") hhd rfl rfl rfl hIL
    (fun i h' m' => MJ s.heap h₁.objs.size (.ref D) (.str ends te) (marksTo (l.map (·.1.cps.toList)) ends.cps.toList i) h' m')
    ?_ hIt (F₂.ns.keeps k₃) ?_ ?_ ?_
  · intro i h' h'' m' j g1 g2 g3
    exact j.stab hI0 hL0 g1 g2 g3 rfl rfl rfl
  · exact x₂.tr (fun b o _ q => k₃ b o q) (fun b o _ _ q _ => k₃ b o q) rfl rfl rfl
  · intro i h' tk' m' t hi hns' j
    have hi0 : (0 : Int) + (i : Int) * 1 = (i : Int) := by omega
    rw [hi0] at hns'
    have j' : MJ s.heap h₁.objs.size (.ref D) (.str ends te) (marksTo (l.map (·.1.cps.toList)) ends.cps.toList i) h' (fun y => if y = "k" then some (.int (i : Int) t) else m' y) := j.tr (fun b o _ q => q) (fun b o _ _ q _ => q) rfl rfl rfl
    refine mark_row (s := { s with heap := h₃, toks := tk₃ }) (tk := tk') hhd H (Nat.le_refl _) j' hns' hM0 (Nat.ne_of_gt hLs) hD hl hr he (tk1 := t) i rfl hi ?_ fun h'' tk'' m'' y1 y2 y3 => ⟨rfl, h'', tk'', m'', rfl, y2, by rw [marksTo_succ]; exact y1, fun o e => y3 It o hIM hIL e⟩
    have := marksTo_len hrr hee i
    omega
  · intro h' tk' m' hns' j
    refine wpAny_execs_cons (wpAny_Return_some ?_)
    obtain ⟨ys, hpl, hpa⟩ := j.ex
    refine ld (s := { s with heap := h', toks := tk' }) ⟨hns', j.keep, Nat.le_refl _⟩ j.mm ?_
    refine hQ h' tk' h₁.objs.size ys j.keep hM0 hpl.isList ?_
    unfold marksOf
    rw [List.length_map]; exact hpa
end
end Mine
end

noncomputable section -- NbDue
open PySem PySem.W PyProof.Rows
open PySem.Builtin PySem.Builtin.Str PySem.Builtin.BaseException
set_option maxRecDepth 100000
namespace Mine

/-! ## what is due -/
noncomputable def qt (l : List Nat) (p : Nat) : Nat := min (nextC 39 l p) l.length
noncomputable def ft (l : List Nat) (p : Nat) : Nat := min (nextC 10 l p) l.length
noncomputable def bt (l : List Nat) (p : Nat) : Nat := min (nextBad l p) l.length
noncomputable def nothingS : Str := Str.ofString "Expected \"'\" (at end of document)"
noncomputable def wordsAt (l : List Nat) (tx : Nat → Str) (b : Nat) : Str := Str.ofString "Found invalid character " ++ reprText ⟨#[l.getD b 0]⟩ ++ Str.ofString " " ++ tx b
noncomputable def dLit (l : List Nat) (tx : Nat → Str) (p : Nat) : Ans :=
  if qt l (p + 1) < l.length then (if bt l (p + 1) < qt l (p + 1) then .txt (wordsAt l tx (bt l (p + 1))) else .pair (qt l (p + 1) + 1) (sub l (p + 1) (qt l (p + 1)))) else .txt nothingS
noncomputable def dRem (l : List Nat) (tx : Nat → Str) (p : Nat) : Ans :=
  if l.getD p 0 = 35 then (if bt l (p + 1) < ft l (p + 1) then .txt (wordsAt l tx (bt l (p + 1))) else .num (ft l (p + 1))) else .num p
noncomputable abbrev Row3 := Ans × Ans × Ans
noncomputable def dWhite (l : List Nat) (tx : Nat → Str) (p : Nat) (prev : List Row3) : Ans :=
  if l.getD p 0 = 35 then (if bt l (p + 1) < ft l (p + 1) then .txt (wordsAt l tx (bt l (p + 1))) else ((prev[ft l (p + 1) - (p + 1)]?).elim (.num 0) (·.2.2)))
  else if wsC (l.getD p 0) = true then ((prev[0]?).elim (.num 0) (·.2.2)) else .num p
noncomputable def dueFrom (l : List Nat) (tx : Nat → Str) : Nat → List Row3
  | 0 => [(.txt nothingS, .num l.length, .num l.length), (.txt nothingS, .num (l.length + 1), .num (l.length + 1))]
  | j + 1 => (dLit l tx (l.length - (j + 1)), dRem l tx (l.length - (j + 1)), dWhite l tx (l.length - (j + 1)) (dueFrom l tx j)) :: dueFrom l tx j
theorem dueFrom_len (l : List Nat) (tx : Nat → Str) : ∀ j, (dueFrom l tx j).length = j + 2
  | 0 => rfl
  | j + 1 => by show (dueFrom l tx j).length + 1 = _; rw [dueFrom_len]

noncomputable def RowAt (h : Heap) (v : Value) (r : Row3) : Prop := ∃ a va vb vc, v = .ref a ∧ h.IsList a #[va, vb, vc] ∧ AnsAt h va r.1 ∧ AnsAt h vb r.2.1 ∧ AnsAt h vc r.2.2

/-- texts, lists and tuples stay -/
noncomputable def SeqK (h h' : Heap) : Prop := ∀ b o xs n, h.get? b = some o → o.data = .seq xs n → h'.get? b = some o
theorem SeqK.trans {h₁ h₂ h₃ : Heap} (x : SeqK h₁ h₂) (y : SeqK h₂ h₃) : SeqK h₁ h₃ := fun b o xs n e hd => y b o xs n (x b o xs n e hd) hd
theorem SeqK.of_keeps {h h' : Heap} (k : ∀ b o, h.get? b = some o → h'.get? b = some o) : SeqK h h' := fun b o _ _ e _ => k b o e
theorem SeqK.ns {h h' : Heap} {L : Addr} {m : Str → Option Value} (n : h.Ns L m) (sb : Heap.SameBut L h h') : SeqK h h' := fun b o xs k q hd => (sb.2 b fun z => by
  obtain ⟨oL, es, ep, g1, g2, _⟩ := n
  rw [z, g1] at q; injection q with q; subst q; rw [g2] at hd; cases hd).trans q
theorem AnsAt.mono {h h' : Heap} {v : Value} {a : Ans} (x : AnsAt h v a) (k : SeqK h h') : AnsAt h' v a := by
  cases a with
  | num n => exact x
  | txt m => exact x
  | pair n y =>
    obtain ⟨b, ta, tb, e, o, ho, hc, n', hd⟩ := x
    exact ⟨b, ta, tb, e, o, k b o _ _ ho hd, hc, n', hd⟩
theorem RowAt.mono {h h' : Heap} {v : Value} {r : Row3} (x : RowAt h v r) (k : SeqK h h') : RowAt h' v r := by
  obtain ⟨a, va, vb, vc, e, ⟨o, ho, hc, n', hd⟩, a1, a2, a3⟩ := x
  exact ⟨a, va, vb, vc, e, ⟨o, k a o _ _ ho hd, hc, n', hd⟩, a1.mono k, a2.mono k, a3.mono k⟩
theorem Paired.get {α β : Type} {F : α → β → Prop} : ∀ {l₁ : List α} {l₂ : List β}, Paired F l₁ l₂ → ∀ (k : Nat) (b : β), l₂[k]? = some b → ∃ a, l₁[k]? = some a ∧ F a b
  | _, _, .nil, k, b, h => by simp at h
  | _, _, .cons h₁ t, 0, b, h => by
    have h : some _ = some b := h
    injection h with h; subst h; exact ⟨_, rfl, h₁⟩
  | _, _, .cons h₁ t, k + 1, b, h => Paired.get t k b h

structure DJ (h₀ : Heap) (Mk : Addr) (l : List Nat) (tx : Nat → Str) (j : Nat) (h : Heap) (m : Str → Option Value) : Prop where
  keep : ∀ b o, h₀.get? b = some o → h.get? b = some o
  marks : m "marks" = some (.ref Mk)
  size : ∃ t, m "size" = some (.int (l.length : Nat) t)
  whole : ∃ t, m "whole" = some (.str (S l) t)
  noth : ∃ t, m "nothing" = some (.str nothingS t)
  quote : ∃ t, m "quote" = some (.int (qt l (l.length - j) : Nat) t)
  feed : ∃ t, m "feed" = some (.int (ft l (l.length - j) : Nat) t)
  barred : ∃ t, m "barred" = some (.int (bt l (l.length - j) : Nat) t)
  words : ∃ W t, m "words" = some (.str W t) ∧ (bt l (l.length - j) < l.length → W = wordsAt l tx (bt l (l.length - j)))
  due : ∃ Du ys, m "due" = some (.ref Du) ∧ h.IsList Du (List.toArray ys) ∧ Paired (RowAt h) ys (dueFrom l tx j)

/-- the names that the loop keeps -/
noncomputable def dNames : List Str := ["marks", "size", "whole", "nothing", "quote", "feed", "barred", "words", "due"]
theorem DJ.tr {h₀ h h' : Heap} {Mk : Addr} {l : List Nat} {tx : Nat → Str} {j : Nat} {m m' : Str → Option Value} (x : DJ h₀ Mk l tx j h m) (k : ∀ b o, h₀.get? b = some o → h'.get? b = some o) (ks : SeqK h h') (e : ∀ y ∈ dNames, m' y = m y) : DJ h₀ Mk l tx j h' m' := by
  obtain ⟨a0, a1, a2, a3, a4, a5, a6, a7, a8, Du, ys, a9, ⟨o, ho, hc, n', hd⟩, a11⟩ := x
  refine ⟨k, (e _ (by decide)).trans a1, ?_, ?_, ?_, ?_, ?_, ?_, ?_, Du, ys, (e _ (by decide)).trans a9, ⟨o, ks _ _ _ _ ho hd, hc, n', hd⟩, Paired.imp (fun _ _ z => z.mono ks) a11⟩
  all_goals rw [e _ (by decide)]; assumption
end Mine
end

noncomputable section -- NbDue2
open PySem PySem.W PyProof.Rows
open PySem.Builtin PySem.Builtin.Str PySem.Builtin.BaseException
set_option maxRecDepth 100000
namespace Mine

theorem seq1 {M : Model} {A : Around} {E : Value → Shared → Prop} {s : Shared} {st : Stmt} {rest : List Stmt} {env : Env} {P : Flow → Shared → Prop} {Φ : Shared → Prop}
    (h1 : wpAny M A (exec st env) (fun f s' => f = .next ∧ Φ s') E s) (h2 : ∀ s', Φ s' → wpAny M A (execs rest env) P E s') : wpAny M A (execs (st :: rest) env) P E s :=
  wpAny_execs_cons (wpAny_mono h1 (fun f s' z => by obtain ⟨rfl, z⟩ := z; exact h2 s' z) fun _ _ e => e)

noncomputable def dFor : Stmt := (bdyOfS (stAt 26)).getD 8 (.Pass default)
noncomputable def dS (i : Nat) : Stmt := (inBody dFor).getD i (.Pass default)

structure DX (h₀ : Heap) (Mk : Addr) (l : List Nat) (tx : Nat → Str) (j : Nat) (L It : Addr) (hb : Heap) (h : Heap) (m : Str → Option Value) : Prop where
  dj : DJ h₀ Mk l tx j h m
  ns : h.Ns L m
  sign : ∃ t, m "sign" = some (.str ⟨#[l.getD (l.length - (j + 1)) 0]⟩ t)
  place : ∃ t, m "place" = some (.int ((l.length - (j + 1) : Nat) : Int) t)
  it : ∀ o, hb.get? It = some o → h.get? It = some o
  above : h₀.objs.size ≤ L
  ne : It ≠ L
  lt : j < l.length
  small : l.length ≤ 1000
  codes : ∀ c ∈ l, c < 16 ^ 8

noncomputable def xNames : List Str := "sign" :: "place" :: dNames

section
variable {w : World} {A : Around} {s : Shared} {E : Value → Shared → Prop} {h₀ : Heap} {Mk L It : Addr} {l : List Nat} {tx : Nat → Str} {j : Nat} {hb h h' : Heap} {m m' : Str → Option Value} {cd : Value}

theorem DX.fr (X : DX h₀ Mk l tx j L It hb h m) : Fr h₀ L h m := ⟨X.ns, X.dj.keep, X.above⟩
theorem DX.keeps (X : DX h₀ Mk l tx j L It hb h m) (k : ∀ b o, h.get? b = some o → h'.get? b = some o) : DX h₀ Mk l tx j L It hb h' m :=
  ⟨X.dj.tr (fun b o e => k b o (X.dj.keep b o e)) (.of_keeps k) fun _ _ => rfl, X.ns.keeps k, X.sign, X.place, fun o e => k _ o (X.it o e), X.above, X.ne, X.lt, X.small, X.codes⟩
theorem DX.put {x : Str} {v : Value} (X : DX h₀ Mk l tx j L It hb h m) (hx : x ∉ xNames) (hn : h'.Ns L (fun y => if y = x then some v else m y)) (sb : Heap.SameBut L h h') : DX h₀ Mk l tx j L It hb h' (fun y => if y = x then some v else m y) := by
  have ne : ∀ y ∈ xNames, (if y = x then some v else m y) = m y := fun y hy => if_neg fun e => hx (by rw [← e]; exact hy)
  have F := X.fr.set hn sb
  refine ⟨X.dj.tr F.keep (.ns X.ns sb) fun y hy => ne y (List.mem_cons_of_mem _ (List.mem_cons_of_mem _ hy)), hn, ?_, ?_, fun o e => (sb.2 _ X.ne).trans (X.it o e), X.above, X.ne, X.lt, X.small, X.codes⟩
  · obtain ⟨t, e⟩ := X.sign; exact ⟨t, (ne _ (by decide)).trans e⟩
  · obtain ⟨t, e⟩ := X.place; exact ⟨t, (ne _ (by decide)).trans e⟩
theorem stD {x : Str} {v : Value} {Q : Unit → Shared → Prop} (X : DX h₀ Mk l tx j L It hb s.heap m)
    (h : ∀ h', DX h₀ Mk l tx j L It hb h' (fun y => if y = x then some v else m y) → SeqK s.heap h' → Q () { s with heap := h', toks := s.toks + 1 })
    (hx : x ∉ xNames := by decide) (hl : (envAt (stAt 26) L 170 cd).kindOf x = some .local := by rfl) :
    wpAny (model prg w) A (storeName (envAt (stAt 26) L 170 cd) x v) Q E s :=
  stS X.fr (fun h' F' sb => h h' (X.put hx F'.ns sb) (.ns X.ns sb)) rfl hl

theorem tupD {vs : List Value} {Q : Value → Shared → Prop} (X : DX h₀ Mk l tx j L It hb s.heap m)
    (h : ∀ h', DX h₀ Mk l tx j L It hb h' m → h'.IsTuple s.heap.objs.size vs.toArray → Q (.ref s.heap.objs.size) { s with heap := h' }) (hsz : vs.length ≤ sizeLine := by size_fits) : wpAny (model prg w) A (newTuple vs) Q E s :=
  wpAny_newTuple (h _ (X.keeps fun _ _ e => Heap.get?_push_of_some _ e) ⟨_, Heap.get?_push_size _ rfl, rfl, _, rfl⟩) hsz
theorem listD {vs : List Value} {Q : Value → Shared → Prop} (X : DX h₀ Mk l tx j L It hb s.heap m)
    (h : ∀ h', DX h₀ Mk l tx j L It hb h' m → SeqK s.heap h' → h'.IsList s.heap.objs.size vs.toArray → Q (.ref s.heap.objs.size) { s with heap := h' }) (hsz : vs.length ≤ sizeLine := by size_fits) : wpAny (model prg w) A (newList vs) Q E s :=
  wpAny_newObj_type (h _ (X.keeps fun _ _ e => Heap.get?_push_of_some _ e) (.of_keeps fun _ _ e => Heap.get?_push_of_some _ e) ⟨_, Heap.get?_push_size _ rfl, rfl, _, rfl⟩) (by show vs.toArray.size ≤ sizeLine; rw [List.size_toArray]; exact hsz)

theorem qt_le : qt l p ≤ l.length := Nat.min_le_right _ _
theorem ft_le : ft l p ≤ l.length := Nat.min_le_right _ _
theorem bt_le : bt l p ≤ l.length := Nat.min_le_right _ _

/-- literal = nothing; if quote < size: ... -/
theorem due_lit (hh : A.handled = none) (X : DX h₀ Mk l tx j L It hb h m) {tk : Nat} {P : Flow → Shared → Prop} {rest : List Stmt}
    (hP : ∀ h' tk' m' vl, DX h₀ Mk l tx j L It hb h' m' → m' "literal" = some vl → AnsAt h' vl (dLit l tx (l.length - (j + 1))) → wpAny (model prg w) A (execs rest (envAt (stAt 26) L 170 cd)) P E { s with heap := h', toks := tk' }) :
    wpAny (model prg w) A (execs (dS 1 :: dS 2 :: rest) (envAt (stAt 26) L 170 cd)) P E { s with heap := h, toks := tk } := by
  have hj : l.length - j = l.length - (j + 1) + 1 := by have := X.lt; omega
  obtain ⟨tn, en⟩ := X.dj.noth
  refine wpAny_execs_cons (wpAny_Assign_Name (ld (s := { s with heap := h, toks := tk }) X.fr en ?_))
  refine stD (s := { s with heap := h, toks := tk }) X fun h₁ X₁ k₁ => ?_
  obtain ⟨tq, eq⟩ := X₁.dj.quote
  obtain ⟨ts, es⟩ := X₁.dj.size
  obtain ⟨tb, eb⟩ := X₁.dj.barred
  obtain ⟨W, tw, ew, hW⟩ := X₁.dj.words
  obtain ⟨tp, ep⟩ := X₁.place
  obtain ⟨th, eh⟩ := X₁.dj.whole
  rw [hj] at eq eb hW
  have hqle := qt_le (l := l) (p := l.length - (j + 1) + 1)
  have hble := bt_le (l := l) (p := l.length - (j + 1) + 1)
  have hsm := X.small
  refine wpAny_execs_cons (wpAny_If (wpAny_isTrue_Compare1 (ld (s := { s with heap := h₁, toks := _ }) X₁.fr eq (ld (s := { s with heap := h₁, toks := _ }) X₁.fr es (lt_int (wpAny_truthy_bool ?_))))))
  by_cases hq : qt l (l.length - (j + 1) + 1) < l.length
  · rw [if_pos (by simp; omega)]
    refine wpAny_execs_cons (wpAny_Assign_Name (IfExp_ ?_))
    refine wpAny_isTrue_Compare1 (ld (s := { s with heap := h₁, toks := _ }) X₁.fr eb (ld (s := { s with heap := h₁, toks := _ }) X₁.fr eq (lt_int (wpAny_truthy_bool ?_))))
    by_cases hb' : bt l (l.length - (j + 1) + 1) < qt l (l.length - (j + 1) + 1)
    · rw [if_pos (by simp; omega)]
      refine ld (s := { s with heap := h₁, toks := _ }) X₁.fr ew ?_
      refine stD (s := { s with heap := h₁, toks := _ }) X₁ fun h₂ X₂ k₂ => ?_
      refine wpAny_execs_nil ?_
      refine hP h₂ _ _ _ X₂ rfl ?_
      unfold dLit; rw [if_pos hq, if_pos hb']
      exact ⟨tw, by rw [hW (by omega)]⟩
    · rw [if_neg (by simp; omega)]
      refine Tuple_ ?_
      refine spl_cons (wpAny_BinOp (ld (s := { s with heap := h₁, toks := _ }) X₁.fr eq (wpAny_Constant_int (add_int ?_)))) rfl
      refine spl_cons ?_ rfl
      refine wpAny_Subscript_str_slice (ld (s := { s with heap := h₁, toks := _ }) X₁.fr eh ?_)
      refine evalPart_some_step (wpAny_BinOp (ld (s := { s with heap := h₁, toks := _ }) X₁.fr ep (wpAny_Constant_int (add_int ?_))))
      refine evalPart_some_step (ld (s := { s with heap := h₁, toks := _ }) X₁.fr eq ?_)
      have hp1 : (((l.length - (j + 1) : Nat) : Int) + 1) = ((l.length - (j + 1) + 1 : Nat) : Int) := by omega
      rw [hp1]
      have hSl : (S l).cps.toList = l := by simp [S]
      have hSz : (S l).length ≤ sizeLine := by show (S l).cps.size ≤ _; rw [← Array.length_toList, hSl, sizeLine_eq]; omega
      refine ⟨S l, th, some (((l.length - (j + 1) + 1 : Nat) : Int), _), some ((qt l (l.length - (j + 1) + 1) : Int), tq), rfl, rfl, rfl, slice_post hSz fun t₅ tk₅ => ?_⟩
      rw [hSl]
      refine spl_nil ?_
      refine tupD (X₁.keeps fun b o e => Heap.get?_push_of_some _ e) fun h₂ X₂ ht => ?_
      refine stD (s := { s with heap := h₂, toks := _ }) X₂ fun h₃ X₃ k₃ => ?_
      refine wpAny_execs_nil ?_
      refine hP h₃ _ _ _ X₃ rfl ?_
      unfold dLit; rw [if_pos hq, if_neg hb']
      have ht' : h₂.IsTuple _ #[.int ((qt l (l.length - (j + 1) + 1) + 1 : Nat) : Int) _, .str (S (sub l (l.length - (j + 1) + 1) (qt l (l.length - (j + 1) + 1)))) t₅] := ht
      exact AnsAt.mono (a := .pair _ _) ⟨_, _, _, rfl, ht'⟩ k₃
  · rw [if_neg (by simp; omega)]
    refine wpAny_execs_nil ?_
    refine hP h₁ _ _ _ X₁ rfl ?_
    unfold dLit; rw [if_neg hq]
    exact ⟨tn, rfl⟩
end
end Mine
end

noncomputable section -- NbDue3
open PySem PySem.W PyProof.Rows
open PySem.Builtin PySem.Builtin.Str PySem.Builtin.BaseException
set_option maxRecDepth 100000
namespace Mine

section
variable {w : World} {A : Around} {s : Shared} {E : Value → Shared → Prop} {h₀ : Heap} {Mk L It : Addr} {l : List Nat} {tx : Nat → Str} {j : Nat} {hb h h' : Heap} {m m' : Str → Option Value} {cd : Value}

theorem ft_ge (hlt : j < l.length) : l.length - (j + 1) + 1 ≤ ft l (l.length - (j + 1) + 1) := by
  have : l.length - (j + 1) + 1 ≤ nextC 10 l (l.length - (j + 1) + 1) := skip_ge
  unfold ft; omega

theorem any3 (c : Nat) (t₁ t₂ t₃ : Tok) : ([Value.str (Str.ofString " ") t₁, .str (Str.ofString "\t") t₂, .str (Str.ofString "\n") t₃].toArray.any fun v => match v with | .str y _ => y == ⟨#[c]⟩ | _ => false) = wsC c := by
  rw [List.any_toArray]
  show ((⟨#[32]⟩ : Str) == ⟨#[c]⟩ || ((⟨#[9]⟩ : Str) == ⟨#[c]⟩ || ((⟨#[10]⟩ : Str) == ⟨#[c]⟩ || false))) = _
  rw [one_eq, one_eq, one_eq]
  unfold wsC
  rw [Bool.or_false, Bool.or_assoc]
  congr 1
  · rw [Bool.eq_iff_iff, beq_iff_eq, beq_iff_eq]; exact eq_comm
  · congr 1
    · rw [Bool.eq_iff_iff, beq_iff_eq, beq_iff_eq]; exact eq_comm
    · rw [Bool.eq_iff_iff, beq_iff_eq, beq_iff_eq]; exact eq_comm

/-- the third of a row of what is due already -/
theorem due_third {Q : Value → Shared → Prop} {value slice : Expr} (X : DX h₀ Mk l tx j L It hb s.heap m) {Du : Addr} {ys : List Value} (hD : s.heap.IsList Du ys.toArray) (hp : Paired (RowAt s.heap) ys (dueFrom l tx j)) (k : Nat) (hk : k ≤ j + 1) {u : Tok}
    (hQ : ∀ a va vb vc r, (dueFrom l tx j)[k]? = some r → s.heap.IsList a #[va, vb, vc] → AnsAt s.heap vc r.2.2 → Q (.ref a) s)
    (hs : subscripted slice false (.ref Du) (.int (k : Int) u) = operate [.ref Du, .int (k : Int) u] (getItem (.ref Du) (.int (k : Int) u)) := by with_unfolding_all rfl) (hg : ∀ r, letTemporaryGo value (.ref Du) r = pure () := by intro _; with_unfolding_all rfl) :
    wpAny (model prg w) A (subscriptTail value slice (.ref Du) (.int (k : Int) u)) Q E s := by
  have hlen := dueFrom_len l tx j
  obtain ⟨r, hr⟩ : ∃ r, (dueFrom l tx j)[k]? = some r := ⟨_, List.getElem?_eq_getElem (by omega)⟩
  obtain ⟨v, hv, a, va, vb, vc, rfl, hl, _, _, h3⟩ := Paired.get hp k r hr
  have := X.lt
  have := X.small
  exact item_listL hD (by omega) (by omega) (by rw [Int.toNat_natCast]; exact hv) (hQ a va vb vc r hr hl h3) hs hg

theorem due_rw (X : DX h₀ Mk l tx j L It hb h m) {tk : Nat} {vl : Value} (el : m "literal" = some vl) (al : AnsAt h vl (dLit l tx (l.length - (j + 1)))) {P : Flow → Shared → Prop} {rest : List Stmt}
    (hP : ∀ h' tk' m' vl vr vw, DX h₀ Mk l tx j L It hb h' m' → m' "literal" = some vl → AnsAt h' vl (dLit l tx (l.length - (j + 1))) → m' "remark" = some vr → AnsAt h' vr (dRem l tx (l.length - (j + 1))) →
      m' "white" = some vw → AnsAt h' vw (dWhite l tx (l.length - (j + 1)) (dueFrom l tx j)) → wpAny (model prg w) A (execs rest (envAt (stAt 26) L 170 cd)) P E { s with heap := h', toks := tk' }) :
    wpAny (model prg w) A (execs (dS 3 :: dS 4 :: dS 5 :: rest) (envAt (stAt 26) L 170 cd)) P E { s with heap := h, toks := tk } := by
  have hj : l.length - j = l.length - (j + 1) + 1 := by have := X.lt; omega
  have hlt := X.lt
  have hsm := X.small
  obtain ⟨tp, ep⟩ := X.place
  refine wpAny_execs_cons (wpAny_Assign_Name (ld (s := { s with heap := h, toks := tk }) X.fr ep ?_))
  refine stD (s := { s with heap := h, toks := tk }) X fun h₁ X₁ k₁ => ?_
  refine wpAny_execs_cons (wpAny_Assign_Name (ld (s := { s with heap := h₁, toks := _ }) X₁.fr ((if_neg (by decide)).trans ep) ?_))
  refine stD (s := { s with heap := h₁, toks := _ }) X₁ fun h₂ X₂ k₂ => ?_
  have al₂ : AnsAt h₂ vl (dLit l tx (l.length - (j + 1))) := (al.mono k₁).mono k₂
  obtain ⟨tsg, esg⟩ := X₂.sign
  obtain ⟨tf, ef⟩ := X₂.dj.feed
  obtain ⟨tb, eb⟩ := X₂.dj.barred
  obtain ⟨W, tw, ew, hW⟩ := X₂.dj.words
  rw [hj] at ef eb hW
  have hfle := ft_le (l := l) (p := l.length - (j + 1) + 1)
  have hble := bt_le (l := l) (p := l.length - (j + 1) + 1)
  have hfge := ft_ge hlt
  refine wpAny_execs_cons (wpAny_If (wpAny_isTrue_Compare1 (ld (s := { s with heap := h₂, toks := _ }) X₂.fr esg (Calls.Constant_str (PyProof.Rows.eq_str (wpAny_truthy_bool ?_))))))
  rw [show (Str.ofString "#") = ⟨#[35]⟩ from rfl, one_eq]
  by_cases hc : l.getD (l.length - (j + 1)) 0 = 35
  · rw [if_pos (by simpa using hc)]
    refine wpAny_execs_cons (wpAny_Assign_Name (IfExp_ ?_))
    refine wpAny_isTrue_Compare1 (ld (s := { s with heap := h₂, toks := _ }) X₂.fr eb (ld (s := { s with heap := h₂, toks := _ }) X₂.fr ef (lt_int (wpAny_truthy_bool ?_))))
    by_cases hb' : bt l (l.length - (j + 1) + 1) < ft l (l.length - (j + 1) + 1)
    · rw [if_pos (by simp; omega)]
      refine ld (s := { s with heap := h₂, toks := _ }) X₂.fr ew ?_
      refine stD (s := { s with heap := h₂, toks := _ }) X₂ fun h₃ X₃ k₃ => ?_
      refine wpAny_execs_cons (wpAny_Assign_Name (IfExp_ ?_))
      refine wpAny_isTrue_Compare1 (ld (s := { s with heap := h₃, toks := _ }) X₃.fr eb (ld (s := { s with heap := h₃, toks := _ }) X₃.fr ef (lt_int (wpAny_truthy_bool ?_))))
      rw [if_pos (by simp; omega)]
      refine ld (s := { s with heap := h₃, toks := _ }) X₃.fr ew ?_
      refine stD (s := { s with heap := h₃, toks := _ }) X₃ fun h₄ X₄ k₄ => ?_
      refine wpAny_execs_nil ?_
      refine hP h₄ _ _ vl _ _ X₄ el ((al₂.mono k₃).mono k₄) rfl ?_ rfl ?_
      · unfold dRem; rw [if_pos hc, if_pos hb']; exact ⟨tw, by rw [hW (by omega)]⟩
      · unfold dWhite; rw [if_pos hc, if_pos hb']; exact ⟨tw, by rw [hW (by omega)]⟩
    · rw [if_neg (by simp; omega)]
      refine ld (s := { s with heap := h₂, toks := _ }) X₂.fr ef ?_
      refine stD (s := { s with heap := h₂, toks := _ }) X₂ fun h₃ X₃ k₃ => ?_
      refine wpAny_execs_cons (wpAny_Assign_Name (IfExp_ ?_))
      refine wpAny_isTrue_Compare1 (ld (s := { s with heap := h₃, toks := _ }) X₃.fr eb (ld (s := { s with heap := h₃, toks := _ }) X₃.fr ef (lt_int (wpAny_truthy_bool ?_))))
      rw [if_neg (by simp; omega)]
      obtain ⟨Du, ys, edu, hDu, hpa⟩ := X₃.dj.due
      refine Subscript_ (Subscript_ (ld (s := { s with heap := h₃, toks := _ }) X₃.fr edu (wpAny_BinOp (wpAny_BinOp (ld (s := { s with heap := h₃, toks := _ }) X₃.fr ef (ld (s := { s with heap := h₃, toks := _ }) X₃.fr ep (sub_int (wpAny_Constant_int (sub_int ?_)))))))))
      have hidx : ((ft l (l.length - (j + 1) + 1) : Int) - ((l.length - (j + 1) : Nat) : Int) - 1) = ((ft l (l.length - (j + 1) + 1) - (l.length - (j + 1) + 1) : Nat) : Int) := by omega
      rw [hidx]
      refine due_third (s := { s with heap := h₃, toks := _ }) X₃ hDu hpa _ (by omega) fun a va vb vc r hr hla hvc => ?_
      refine wpAny_Constant_int ?_
      refine item_listR hla (by decide) (by decide) rfl ?_
      refine stD (s := { s with heap := h₃, toks := _ }) X₃ fun h₄ X₄ k₄ => ?_
      refine wpAny_execs_nil ?_
      refine hP h₄ _ _ vl _ _ X₄ el ((al₂.mono k₃).mono k₄) rfl ?_ rfl ?_
      · unfold dRem; rw [if_pos hc, if_neg hb']; exact ⟨tf, rfl⟩
      · unfold dWhite; rw [if_pos hc, if_neg hb', hr]; exact hvc.mono k₄
  · rw [if_neg (by simpa using hc)]
    refine wpAny_execs_cons (wpAny_If (wpAny_isTrue_Compare1 (ld (s := { s with heap := h₂, toks := _ }) X₂.fr esg (List_ ?_))))
    refine spl_str (spl_str (spl_str (spl_nil ?_)))
    refine listD (s := { s with heap := h₂, toks := _ }) X₂ fun h₃ X₃ k₃ hl₃ => ?_
    refine PySem.SeqAt.in_listAt (fun v => match v with | .str y _ => y == ⟨#[l.getD (l.length - (j + 1)) 0]⟩ | _ => false) hl₃ (fun y hy => ?_) (wpAny_truthy_bool ?_)
    · simp only [List.mem_toArray, List.mem_cons, List.not_mem_nil, or_false] at hy
      rcases hy with rfl | rfl | rfl <;> exact SeqAt.EqAt.str_str _ _ _ _
    rw [any3]
    cases hw : wsC (l.getD (l.length - (j + 1)) 0) with
    | false =>
      simp only [Bool.false_eq_true, if_false]
      refine wpAny_execs_nil (wpAny_execs_nil ?_)
      refine hP h₃ _ _ vl _ _ X₃ el (al₂.mono k₃) rfl ?_ rfl ?_
      · unfold dRem; rw [if_neg hc]; exact ⟨tp, rfl⟩
      · unfold dWhite; rw [if_neg hc, hw, if_neg (by simp)]; exact ⟨tp, rfl⟩
    | true =>
      simp only [if_true]
      obtain ⟨Du, ys, edu, hDu, hpa⟩ := X₃.dj.due
      refine wpAny_execs_cons (wpAny_Assign_Name ?_)
      refine Subscript_ (Subscript_ (ld (s := { s with heap := h₃, toks := _ }) X₃.fr edu (wpAny_Constant_int ?_)))
      refine due_third (s := { s with heap := h₃, toks := _ }) X₃ hDu hpa 0 (by omega) fun a va vb vc r hr hla hvc => ?_
      refine wpAny_Constant_int ?_
      refine item_listR hla (by decide) (by decide) rfl ?_
      refine stD (s := { s with heap := h₃, toks := _ }) X₃ fun h₄ X₄ k₄ => ?_
      refine wpAny_execs_nil (wpAny_execs_nil ?_)
      refine hP h₄ _ _ vl _ _ X₄ el ((al₂.mono k₃).mono k₄) rfl ?_ rfl ?_
      · unfold dRem; rw [if_neg hc]; exact ⟨tp, rfl⟩
      · unfold dWhite; rw [if_neg hc, hw, if_pos rfl, hr]; exact hvc.mono k₄
end
end Mine
end

noncomputable section -- NbDue4
open PySem PySem.W PyProof.Rows
open PySem.Builtin PySem.Builtin.Str PySem.Builtin.BaseException
set_option maxRecDepth 100000
namespace Mine

theorem add_lists' {w : World} {A : Around} {E : Value → Shared → Prop} {s : Shared} {l b : Addr} {vs ws : List Value} {Q : Value → Shared → Prop} (hl : s.heap.IsList l vs.toArray) (hb : s.heap.IsList b ws.toArray)
    (h : Q (.ref s.heap.objs.size) { s with heap := s.heap.push { cls := .type "list", data := .seq (vs ++ ws).toArray } })
    (hsz : vs.length + ws.length ≤ sizeLine := by size_fits) :
    wpAny (model prg w) A (binaryOp .Add (.ref l) (.ref b)) Q E s := by
  obtain ⟨⟨cls, dd, data, sl⟩, ho, hc, n, hd⟩ := id hl
  obtain ⟨⟨cls2, dd2, data2, sl2⟩, ho2, hc2, n2, hd2⟩ := id hb
  simp only at hc hd hc2 hd2
  subst hc hd hc2 hd2
  have e : vs.toArray ++ ws.toArray = (vs ++ ws).toArray := by simp
  refine concat_meets ⟨_, ho, rfl⟩ ⟨_, ho2, rfl⟩ noFill_list_add seq_list_add PySem.F.slot_list_add PySem.F.entry_list_add (PySem.F.args_list_add_2 _ _) (list_addW l b vs.toArray ws.toArray n n2 dd dd2 sl sl2 (by simpa using hsz)) ⟨ho, ho2, ?_⟩
  rw [e]
  exact h

/-! ## one place back -/
section
variable {l : List Nat} {p : Nat}
theorem next_step {q : Nat → Bool} (h : p < l.length) : skipFrom (fun c => !q c) l p = if q (l.getD p 0) = true then p else skipFrom (fun c => !q c) l (p + 1) := by
  have hc : l[p]? = some (l.getD p 0) := by rw [List.getD_eq_getElem?_getD, List.getElem?_eq_getElem h]; rfl
  cases hq : q (l.getD p 0) with
  | true => rw [if_pos rfl]; exact skip_stop hc (by show (!q _) = false; rw [hq]; rfl)
  | false => rw [if_neg (by simp)]; exact (skip_step hc (by show (!q _) = true; rw [hq]; rfl)).symm
theorem bt_step (h : p < l.length) : bt l p = if badC (l.getD p 0) = true then p else bt l (p + 1) := by
  unfold bt nextBad
  rw [next_step h]
  split <;> omega
theorem nextC_eq (c : Nat) (l : List Nat) (p : Nat) : nextC c l p = skipFrom (fun k => !(k == c)) l p := by
  unfold nextC; first | rfl | (congr 1; funext k; simp)
theorem qt_step (h : p < l.length) : qt l p = if l.getD p 0 = 39 then p else qt l (p + 1) := by
  unfold qt
  rw [nextC_eq, nextC_eq, next_step (q := fun k => k == 39) h]
  by_cases hc : l.getD p 0 = 39
  · rw [if_pos (by simpa using hc), if_pos hc]; omega
  · rw [if_neg (by simpa using hc), if_neg hc]
theorem ft_step (h : p < l.length) : ft l p = if l.getD p 0 = 10 then p else ft l (p + 1) := by
  unfold ft
  rw [nextC_eq, nextC_eq, next_step (q := fun k => k == 10) h]
  by_cases hc : l.getD p 0 = 10
  · rw [if_pos (by simpa using hc), if_pos hc]; omega
  · rw [if_neg (by simpa using hc), if_neg hc]
end
end Mine
end

noncomputable section -- NbDue5
open PySem PySem.W PyProof.Rows
open PySem.Builtin PySem.Builtin.Str PySem.Builtin.BaseException
set_option maxRecDepth 100000
namespace Mine

structure DC (h₀ : Heap) (Mk : Addr) (l : List Nat) (tx : Nat → Str) (j : Nat) (L It : Addr) (hb : Heap) (h : Heap) (m : Str → Option Value) : Prop where
  keep : ∀ b o, h₀.get? b = some o → h.get? b = some o
  marks : m "marks" = some (.ref Mk)
  size : ∃ t, m "size" = some (.int (l.length : Nat) t)
  whole : ∃ t, m "whole" = some (.str (S l) t)
  noth : ∃ t, m "nothing" = some (.str nothingS t)
  due : ∃ Du ys, m "due" = some (.ref Du) ∧ h.IsList Du (List.toArray ys) ∧ Paired (RowAt h) ys (dueFrom l tx (j + 1))
  ns : h.Ns L m
  sign : ∃ t, m "sign" = some (.str ⟨#[l.getD (l.length - (j + 1)) 0]⟩ t)
  place : ∃ t, m "place" = some (.int ((l.length - (j + 1) : Nat) : Int) t)
  it : ∀ o, hb.get? It = some o → h.get? It = some o
  above : h₀.objs.size ≤ L
  ne : It ≠ L
  lt : j < l.length
  small : l.length ≤ 1000
  codes : ∀ c ∈ l, c < 16 ^ 8
noncomputable def cNames : List Str := ["marks", "size", "whole", "nothing", "due", "sign", "place"]

section
variable {w : World} {A : Around} {s : Shared} {E : Value → Shared → Prop} {h₀ : Heap} {Mk L It : Addr} {l : List Nat} {tx : Nat → Str} {j : Nat} {hb h h' : Heap} {m m' : Str → Option Value} {cd : Value}

theorem DC.fr (X : DC h₀ Mk l tx j L It hb h m) : Fr h₀ L h m := ⟨X.ns, X.keep, X.above⟩
theorem DC.put {x : Str} {v : Value} (X : DC h₀ Mk l tx j L It hb h m) (hx : x ∉ cNames) (hn : h'.Ns L (fun y => if y = x then some v else m y)) (sb : Heap.SameBut L h h') : DC h₀ Mk l tx j L It hb h' (fun y => if y = x then some v else m y) := by
  have ne : ∀ y ∈ cNames, (if y = x then some v else m y) = m y := fun y hy => if_neg fun e => hx (by rw [← e]; exact hy)
  have F := X.fr.set hn sb
  have ks : SeqK h h' := .ns X.ns sb
  obtain ⟨a0, a1, a2, a3, a4, ⟨Du, ys, a5, ⟨o, ho, hc, n', hd⟩, a6⟩, _, a7, a8, a9, r1, r2, r3, r4, r5⟩ := X
  refine ⟨F.keep, (ne _ (by decide)).trans a1, ?_, ?_, ?_, ⟨Du, ys, (ne _ (by decide)).trans a5, ⟨o, ks _ _ _ _ ho hd, hc, n', hd⟩, Paired.imp (fun _ _ z => z.mono ks) a6⟩, hn, ?_, ?_, fun o e => (sb.2 _ r2).trans (a9 o e), r1, r2, r3, r4, r5⟩
  all_goals rw [ne _ (by decide)]; assumption
theorem stE {x : Str} {v : Value} {Q : Unit → Shared → Prop} (X : DC h₀ Mk l tx j L It hb s.heap m)
    (h : ∀ h', DC h₀ Mk l tx j L It hb h' (fun y => if y = x then some v else m y) → Q () { s with heap := h', toks := s.toks + 1 })
    (hx : x ∉ cNames := by decide) (hl : (envAt (stAt 26) L 170 cd).kindOf x = some .local := by rfl) :
    wpAny (model prg w) A (storeName (envAt (stAt 26) L 170 cd) x v) Q E s :=
  stS X.fr (fun h' F' sb => h h' (X.put hx F'.ns sb)) rfl hl

/-- due = [[literal, remark, white]] + due -/
theorem due_add (X : DX h₀ Mk l tx j L It hb h m) {tk : Nat} {vl vr vw : Value} (el : m "literal" = some vl) (al : AnsAt h vl (dLit l tx (l.length - (j + 1)))) (er : m "remark" = some vr) (ar : AnsAt h vr (dRem l tx (l.length - (j + 1))))
    (ew : m "white" = some vw) (aw : AnsAt h vw (dWhite l tx (l.length - (j + 1)) (dueFrom l tx j))) {P : Flow → Shared → Prop} {rest : List Stmt}
    (hP : ∀ h' tk' m', DC h₀ Mk l tx j L It hb h' m' → (∀ y, y ≠ ("due" : Str) → m' y = m y) → wpAny (model prg w) A (execs rest (envAt (stAt 26) L 170 cd)) P E { s with heap := h', toks := tk' }) :
    wpAny (model prg w) A (execs (dS 6 :: rest) (envAt (stAt 26) L 170 cd)) P E { s with heap := h, toks := tk } := by
  obtain ⟨Du, ys, edu, hDu, hpa⟩ := X.dj.due
  have hlen := Paired.len hpa
  rw [dueFrom_len] at hlen
  have := X.lt
  have := X.small
  refine wpAny_execs_cons (wpAny_Assign_Name (wpAny_BinOp (List_ ?_)))
  refine spl_cons (List_ ?_) rfl
  refine spl_cons (ld (s := { s with heap := h, toks := tk }) X.fr el (spl_cons (ld (s := { s with heap := h, toks := tk }) X.fr er (spl_cons (ld (s := { s with heap := h, toks := tk }) X.fr ew (spl_nil ?_)) rfl)) rfl)) rfl
  refine listD (s := { s with heap := h, toks := tk }) X fun h₁ X₁ k₁ hl₁ => ?_
  refine spl_nil ?_
  refine listD (s := { s with heap := h₁, toks := tk }) X₁ fun h₂ X₂ k₂ hl₂ => ?_
  refine ld (s := { s with heap := h₂, toks := tk }) X₂.fr edu ?_
  have hDu₂ : h₂.IsList Du ys.toArray := by obtain ⟨o, ho, hc, n', hd⟩ := hDu; exact ⟨o, k₂ _ _ _ _ (k₁ _ _ _ _ ho hd) hd, hc, n', hd⟩
  refine add_lists' (s := { s with heap := h₂, toks := tk }) hl₂ hDu₂ ?_ (by rw [sizeLine_eq]; simp only [List.length_cons, List.length_nil]; omega)
  have X₃ := X₂.keeps (h' := h₂.push { cls := .type "list", data := .seq (List.toArray ([Value.ref h.objs.size] ++ ys)) }) fun b o e => Heap.get?_push_of_some _ e
  have k₃ : SeqK h₂ (h₂.push { cls := .type "list", data := .seq (List.toArray ([Value.ref h.objs.size] ++ ys)) }) := .of_keeps fun b o e => Heap.get?_push_of_some _ e
  refine stS (s := { s with heap := h₂.push { cls := .type "list", data := .seq (List.toArray ([Value.ref h.objs.size] ++ ys)) }, toks := tk }) X₃.fr fun h₄ F₄ sb₄ => ?_
  have k₄ : SeqK _ h₄ := .ns X₃.ns sb₄
  have kk : SeqK h h₄ := ((k₁.trans k₂).trans k₃).trans k₄
  have ne : ∀ y ∈ (["marks", "size", "whole", "nothing", "sign", "place"] : List Str), (if y = ("due" : Str) then some (Value.ref h₂.objs.size) else m y) = m y := fun y hy => if_neg fun e => by rw [e] at hy; revert hy; decide
  refine hP h₄ _ (fun y => if y = ("due" : Str) then some (Value.ref h₂.objs.size) else m y) ⟨F₄.keep, (ne _ (by decide)).trans X.dj.marks, ?_, ?_, ?_, ⟨h₂.objs.size, [Value.ref h.objs.size] ++ ys, rfl, ?_, ?_⟩, F₄.ns, ?_, ?_, fun o e => (sb₄.2 _ X.ne).trans (X₃.it o e), X.above, X.ne, X.lt, X.small, X.codes⟩ fun y hy => if_neg hy
  · rw [ne _ (by decide)]; exact X.dj.size
  · rw [ne _ (by decide)]; exact X.dj.whole
  · rw [ne _ (by decide)]; exact X.dj.noth
  · exact ⟨_, k₄ _ _ _ _ (Heap.get?_push_size _ rfl) rfl, rfl, _, rfl⟩
  · refine .cons ⟨h.objs.size, vl, vr, vw, rfl, ?_, al.mono kk, ar.mono kk, aw.mono kk⟩ (Paired.imp (fun _ _ z => z.mono kk) hpa)
    obtain ⟨o, ho, hc, n', hd⟩ := hl₁
    exact ⟨o, k₄ _ _ _ _ (k₃ _ _ _ _ (k₂ _ _ _ _ ho hd) hd) hd, hc, n', hd⟩
  · rw [ne _ (by decide)]; exact X.sign
  · rw [ne _ (by decide)]; exact X.place
end
end Mine
end

noncomputable section -- NbDue6
open PySem PySem.W PyProof.Rows
open PySem.Builtin PySem.Builtin.Str PySem.Builtin.BaseException
set_option maxRecDepth 100000
namespace Mine

structure MarksIn (h₀ : Heap) (Mk : Addr) (l : List Nat) (tx : Nat → Str) : Prop where
  ex : ∃ ysm ms, h₀.IsList Mk (List.toArray ysm) ∧ Paired (MarkAt Mk h₀) ysm ms ∧ ms.length = l.length ∧ ∀ k, k < l.length → ms[k]? = some (l.getD k 0, tx k)
  len : ∀ k, (tx k).length ≤ 100

section
variable {w : World} {A : Around} {s : Shared} {E : Value → Shared → Prop} {h₀ : Heap} {Mk L It : Addr} {l : List Nat} {tx : Nat → Str} {j : Nat} {hb h h' : Heap} {m m' : Str → Option Value} {cd : Value}

noncomputable def ifBody : Stmt → List Stmt
  | .If _ b _ _ => b
  | _ => []
theorem lt32 (c : Nat) : (decide ((⟨#[c]⟩ : Str).cps.toList < (Str.ofString " ").cps.toList)) = decide (c < 32) := by
  show decide ([c] < [32]) = _
  rw [decide_eq_decide]
  constructor
  · intro h
    cases h with
    | rel h => exact h
    | cons h => cases h
  · intro h; exact .rel h

/-- marks[k], then a part of it -/
theorem mark_item {Q : Value → Shared → Prop} {value slice : Expr} (I : MarksIn h₀ Mk l tx) (keep : ∀ b o, h₀.get? b = some o → s.heap.get? b = some o) (k : Nat) (hk : k < l.length) (hsm : l.length ≤ 1000) {u : Tok}
    (hQ : ∀ a t t', s.heap.IsList a #[.str ⟨#[l.getD k 0]⟩ t, .str (tx k) t'] → Q (.ref a) s)
    (hs : subscripted slice false (.ref Mk) (.int (k : Int) u) = operate [.ref Mk, .int (k : Int) u] (getItem (.ref Mk) (.int (k : Int) u)) := by with_unfolding_all rfl) (hg : ∀ r, letTemporaryGo value (.ref Mk) r = pure () := by intro _; with_unfolding_all rfl) :
    wpAny (model prg w) A (subscriptTail value slice (.ref Mk) (.int (k : Int) u)) Q E s := by
  obtain ⟨ysm, ms, h1, h2, h3, h4⟩ := I.ex
  obtain ⟨v, hv, a, t, t', rfl, _, hl⟩ := Paired.get h2 k _ (h4 k hk)
  exact item_listL (h1.imp fun o z => ⟨keep _ _ z.1, z.2⟩) (by omega) (by omega) (by rw [Int.toNat_natCast]; exact hv) (hQ a t t' (hl.imp fun o z => ⟨keep _ _ z.1, z.2⟩)) hs hg

theorem due_q (X : DC h₀ Mk l tx j L It hb h m) {tk : Nat} (eq : ∃ t, m "quote" = some (.int (qt l (l.length - (j + 1) + 1) : Nat) t)) {P : Flow → Shared → Prop} {rest : List Stmt}
    (hP : ∀ h' tk' m', DC h₀ Mk l tx j L It hb h' m' → (∃ t, m' "quote" = some (.int (qt l (l.length - (j + 1)) : Nat) t)) → (∀ y, y ≠ ("quote" : Str) → m' y = m y) → wpAny (model prg w) A (execs rest (envAt (stAt 26) L 170 cd)) P E { s with heap := h', toks := tk' }) :
    wpAny (model prg w) A (execs (dS 7 :: rest) (envAt (stAt 26) L 170 cd)) P E { s with heap := h, toks := tk } := by
  have hlt := X.lt
  have hst := qt_step (l := l) (p := l.length - (j + 1)) (by omega)
  obtain ⟨tsg, esg⟩ := X.sign
  obtain ⟨tp, ep⟩ := X.place
  refine wpAny_execs_cons (wpAny_If (wpAny_isTrue_Compare1 (ld (s := { s with heap := h, toks := _ }) X.fr esg (Calls.Constant_str (PyProof.Rows.eq_str (wpAny_truthy_bool ?_))))))
  rw [show (Str.ofString "'") = ⟨#[39]⟩ from rfl, one_eq]
  by_cases hc : l.getD (l.length - (j + 1)) 0 = 39
  · rw [if_pos (by simpa using hc)]
    rw [if_pos hc] at hst
    refine wpAny_execs_cons (wpAny_Assign_Name (ld (s := { s with heap := h, toks := _ }) X.fr ep ?_))
    refine stE (s := { s with heap := h, toks := _ }) X fun h₁ X₁ => ?_
    refine wpAny_execs_nil (hP h₁ _ _ X₁ ⟨tp, by rw [hst]; rfl⟩ fun y hy => if_neg hy)
  · rw [if_neg (by simpa using hc)]
    rw [if_neg hc] at hst
    refine wpAny_execs_nil (hP h _ m X (by rw [hst]; exact eq) fun _ _ => rfl)
theorem due_f (X : DC h₀ Mk l tx j L It hb h m) {tk : Nat} (eq : ∃ t, m "feed" = some (.int (ft l (l.length - (j + 1) + 1) : Nat) t)) {P : Flow → Shared → Prop} {rest : List Stmt}
    (hP : ∀ h' tk' m', DC h₀ Mk l tx j L It hb h' m' → (∃ t, m' "feed" = some (.int (ft l (l.length - (j + 1)) : Nat) t)) → (∀ y, y ≠ ("feed" : Str) → m' y = m y) → wpAny (model prg w) A (execs rest (envAt (stAt 26) L 170 cd)) P E { s with heap := h', toks := tk' }) :
    wpAny (model prg w) A (execs (dS 8 :: rest) (envAt (stAt 26) L 170 cd)) P E { s with heap := h, toks := tk } := by
  have hlt := X.lt
  have hst := ft_step (l := l) (p := l.length - (j + 1)) (by omega)
  obtain ⟨tsg, esg⟩ := X.sign
  obtain ⟨tp, ep⟩ := X.place
  refine wpAny_execs_cons (wpAny_If (wpAny_isTrue_Compare1 (ld (s := { s with heap := h, toks := _ }) X.fr esg (Calls.Constant_str (PyProof.Rows.eq_str (wpAny_truthy_bool ?_))))))
  rw [show (Str.ofString "\n") = ⟨#[10]⟩ from rfl, one_eq]
  by_cases hc : l.getD (l.length - (j + 1)) 0 = 10
  · rw [if_pos (by simpa using hc)]
    rw [if_pos hc] at hst
    refine wpAny_execs_cons (wpAny_Assign_Name (ld (s := { s with heap := h, toks := _ }) X.fr ep ?_))
    refine stE (s := { s with heap := h, toks := _ }) X fun h₁ X₁ => ?_
    refine wpAny_execs_nil (hP h₁ _ _ X₁ ⟨tp, by rw [hst]; rfl⟩ fun y hy => if_neg hy)
  · rw [if_neg (by simpa using hc)]
    rw [if_neg hc] at hst
    refine wpAny_execs_nil (hP h _ m X (by rw [hst]; exact eq) fun _ _ => rfl)

theorem due_b (H : PB w h₀) (I : MarksIn h₀ Mk l tx) (X : DC h₀ Mk l tx j L It hb h m) {tk : Nat} (eb : ∃ t, m "barred" = some (.int (bt l (l.length - (j + 1) + 1) : Nat) t)) (ew : ∃ W t, m "words" = some (.str W t) ∧ (bt l (l.length - (j + 1) + 1) < l.length → W = wordsAt l tx (bt l (l.length - (j + 1) + 1)))) {P : Flow → Shared → Prop}
    (hP : ∀ h' tk' m', DC h₀ Mk l tx j L It hb h' m' → (∃ t, m' "barred" = some (.int (bt l (l.length - (j + 1)) : Nat) t)) → (∃ W t, m' "words" = some (.str W t) ∧ (bt l (l.length - (j + 1)) < l.length → W = wordsAt l tx (bt l (l.length - (j + 1))))) →
      (∀ y, y ≠ ("barred" : Str) → y ≠ ("words" : Str) → m' y = m y) → P .next { s with heap := h', toks := tk' }) :
    wpAny (model prg w) A (execs [dS 9] (envAt (stAt 26) L 170 cd)) P E { s with heap := h, toks := tk } := by
  have hlt := X.lt
  have hsm := X.small
  have hst := bt_step (l := l) (p := l.length - (j + 1)) (by omega)
  obtain ⟨tsg, esg⟩ := X.sign
  obtain ⟨tp, ep⟩ := X.place
  have hcv : l.getD (l.length - (j + 1)) 0 < 16 ^ 8 := by
    rw [List.getD_eq_getElem?_getD, List.getElem?_eq_getElem (by omega)]
    exact X.codes _ (List.getElem_mem _)
  have yes : badC (l.getD (l.length - (j + 1)) 0) = true → ∀ (tk₀ : Nat) (P' : Flow → Shared → Prop), (∀ s', P .next s' → P' .next s') → wpAny (model prg w) A (execs (ifBody (dS 9)) (envAt (stAt 26) L 170 cd)) P' E { s with heap := h, toks := tk₀ } := by
    intro hbad tk₀ P' hP'
    rw [if_pos hbad] at hst
    have r1 := repr1_len hcv
    have htx := I.len (l.length - (j + 1))
    have c1 : (Str.ofString "Found invalid character ").length = 24 := by decide +kernel
    have c2 : (Str.ofString " ").length = 1 := by decide +kernel
    refine wpAny_execs_cons (wpAny_Assign_Name (ld (s := { s with heap := h, toks := tk₀ }) X.fr ep ?_))
    refine stE (s := { s with heap := h, toks := tk₀ }) X fun h₁ X₁ => ?_
    refine wpAny_execs_cons (wpAny_Assign_Name (wpAny_BinOp (wpAny_BinOp (wpAny_BinOp (Calls.Constant_str ?_)))))
    refine Call_nm1 (bnE (s := { s with heap := h₁, toks := _ }) X₁.keep H.b_repr (cw1 (ld (s := { s with heap := h₁, toks := _ }) X₁.fr esg ?_)))
    refine PySem.P.repr_of_str ?_ (by rw [sizeLine_eq]; omega)
    refine add_str (fun t₁ tk₁ => ?_) (by rw [c1, sizeLine_eq]; omega)
    refine Calls.Constant_str (add_str (fun t₂ tk₂ => ?_) (by rw [Str.length_append, c1, c2, sizeLine_eq]; omega))
    refine Subscript_ (Subscript_ (ld (s := { s with heap := h₁, toks := _ }) X₁.fr X₁.marks (ld (s := { s with heap := h₁, toks := _ }) X₁.fr ((if_neg (by decide)).trans ep) ?_)))
    refine mark_item (s := { s with heap := h₁, toks := _ }) I X₁.keep _ (by omega) hsm fun a t t' hla => ?_
    refine wpAny_Constant_int ?_
    refine item_listR hla (by decide) (by decide) rfl ?_
    refine add_str (fun t₃ tk₃ => ?_) (by rw [Str.length_append, Str.length_append, c1, c2, sizeLine_eq]; omega)
    refine stE (s := { s with heap := h₁, toks := tk₃ }) X₁ fun h₂ X₂ => ?_
    refine wpAny_execs_nil (hP' _ (hP h₂ _ _ X₂ ⟨tp, by rw [hst]; rfl⟩ ⟨_, t₃, rfl, fun _ => by rw [hst]; rfl⟩ fun y h1 h2 => (if_neg h2).trans (if_neg h1)))
  have no : badC (l.getD (l.length - (j + 1)) 0) = false → ∀ tk₀, P .next { s with heap := h, toks := tk₀ } := by
    intro hbad tk₀
    rw [hbad, if_neg (by simp)] at hst
    exact hP h tk₀ m X (by rw [hst]; exact eb) (by rw [hst]; exact ew) fun _ _ _ => rfl
  clear hst hcv hP
  generalize l.getD (l.length - (j + 1)) 0 = c at *
  refine wpAny_execs_cons (wpAny_If ?_)
  refine isTrue_or (isTrue_and ?_)
  refine wpAny_isTrue_Compare1 (ld (s := { s with heap := h, toks := _ }) X.fr esg (Calls.Constant_str (PyProof.Rows.lt_str (wpAny_truthy_bool ?_))))
  by_cases h32 : c < 32
  · rw [if_pos (by rw [lt32]; simpa using h32)]
    refine isTrue_and ?_
    refine wpAny_isTrue_Compare1 (ld (s := { s with heap := h, toks := _ }) X.fr esg (Calls.Constant_str (PyProof.Rows.ne_str (wpAny_truthy_bool ?_))))
    rw [show (Str.ofString "\t") = ⟨#[9]⟩ from rfl]
    simp only [bne, one_eq]
    by_cases h9 : c = 9
    · subst h9
      simp only [beq_self_eq_true, Bool.not_true, Bool.false_eq_true, if_false]
      refine isTrue_or (wpAny_isTrue_Compare1 (ld (s := { s with heap := h, toks := _ }) X.fr esg (Calls.Constant_str (PyProof.Rows.eq_str (wpAny_truthy_bool ?_)))))
      rw [show (Str.ofString "\x7f") = ⟨#[127]⟩ from rfl, one_eq, if_neg (by decide)]
      refine isTrue_or_nil ?_
      simp only [Bool.false_eq_true, if_false]
      exact wpAny_execs_nil (wpAny_execs_nil (no (by decide) _))
    · rw [if_pos (by simpa using h9)]
      refine isTrue_and_nil ?_
      simp only [if_true]
      refine yes (by unfold badC; simp [h32, h9]) _ _ fun s' z => wpAny_execs_nil z
  · rw [if_neg (by rw [lt32]; simpa using h32)]
    simp only [Bool.false_eq_true, if_false]
    refine isTrue_or (wpAny_isTrue_Compare1 (ld (s := { s with heap := h, toks := _ }) X.fr esg (Calls.Constant_str (PyProof.Rows.eq_str (wpAny_truthy_bool ?_)))))
    rw [show (Str.ofString "\x7f") = ⟨#[127]⟩ from rfl, one_eq]
    by_cases h127 : c = 127
    · rw [if_pos (by simpa using h127)]
      simp only [if_true]
      refine yes (by unfold badC; simp [h127]) _ _ fun s' z => wpAny_execs_nil z
    · rw [if_neg (by simpa using h127)]
      refine isTrue_or_nil ?_
      simp only [Bool.false_eq_true, if_false]
      exact wpAny_execs_nil (wpAny_execs_nil (no (by unfold badC; simp [h32, h127]) _))
end
end Mine
end

noncomputable section -- NbDue7
open PySem PySem.W PyProof.Rows
open PySem.Builtin PySem.Builtin.Str PySem.Builtin.BaseException
set_option maxRecDepth 100000
namespace Mine

section
variable {w : World} {A : Around} {s : Shared} {E : Value → Shared → Prop} {h₀ : Heap} {Mk L It : Addr} {l : List Nat} {tx : Nat → Str} {j : Nat} {h h' : Heap} {m m' : Str → Option Value} {cd : Value}

theorem DJ.stab (x : DJ h₀ Mk l tx j h m) (hI : h₀.get? It = none) (hL : h₀.get? L = none) (hIt : ∃ o vs, h.get? It = some o ∧ o.data = .fields vs) (hNs : ∃ m', h.Ns L m') (k : ∀ b o, b ≠ It → b ≠ L → h.get? b = some o → h'.get? b = some o) : DJ h₀ Mk l tx j h' m := by
  refine x.tr (fun b o e => k b o (fun z => by rw [z, hI] at e; cases e) (fun z => by rw [z, hL] at e; cases e) (x.keep b o e)) (fun b o xs n q hd => k b o (fun z => ?_) (fun z => ?_) q) fun _ _ => rfl
  · obtain ⟨o', vs, g1, g2⟩ := hIt
    rw [z, g1] at q; injection q with q; subst q; rw [g2] at hd; cases hd
  · obtain ⟨m'', oL, es, ep, g1, g2, _⟩ := hNs
    rw [z, g1] at q; injection q with q; subst q; rw [g2] at hd; cases hd

theorem due_body (hh : A.handled = none) (H : PB w h₀) (I : MarksIn h₀ Mk l tx) (hsm : l.length ≤ 1000) (hcd : ∀ c ∈ l, c < 16 ^ 8) (hL : h₀.objs.size ≤ L) (hne : It ≠ L) (hlt : j < l.length) {tk : Nat} (x : DJ h₀ Mk l tx j h m) (hns : h.Ns L m) (hpl : ∃ t, m "place" = some (.int ((l.length - (j + 1) : Nat) : Int) t))
    {P : Flow → Shared → Prop} (hP : ∀ h' tk' m', DJ h₀ Mk l tx (j + 1) h' m' → h'.Ns L m' → (∀ o, h.get? It = some o → h'.get? It = some o) → P .next { s with heap := h', toks := tk' }) :
    wpAny (model prg w) A (execs (inBody dFor) (envAt (stAt 26) L 170 cd)) P E { s with heap := h, toks := tk } := by
  have F : Fr h₀ L h m := ⟨hns, x.keep, hL⟩
  obtain ⟨tp, ep⟩ := hpl
  have hj : l.length - j = l.length - (j + 1) + 1 := by omega
  show wpAny (model prg w) A (execs (dS 0 :: dS 1 :: dS 2 :: dS 3 :: dS 4 :: dS 5 :: dS 6 :: dS 7 :: dS 8 :: [dS 9]) (envAt (stAt 26) L 170 cd)) P E { s with heap := h, toks := tk }
  refine wpAny_execs_cons (wpAny_Assign_Name ?_)
  refine Subscript_ (Subscript_ (ld (s := { s with heap := h, toks := _ }) F x.marks (ld (s := { s with heap := h, toks := _ }) F ep ?_)))
  refine mark_item (s := { s with heap := h, toks := _ }) I x.keep _ (by omega) hsm fun a t t' hla => ?_
  refine wpAny_Constant_int ?_
  refine item_listR hla (by decide) (by decide) rfl ?_
  refine stS (s := { s with heap := h, toks := _ }) F fun h₁ F₁ sb₁ => ?_
  have ne : ∀ y ∈ dNames, (if y = ("sign" : Str) then some (Value.str ⟨#[l.getD (l.length - (j + 1)) 0]⟩ t) else m y) = m y := fun y hy => if_neg fun e => by rw [e] at hy; revert hy; decide
  have X₁ : DX h₀ Mk l tx j L It h h₁ (fun y => if y = ("sign" : Str) then some (Value.str ⟨#[l.getD (l.length - (j + 1)) 0]⟩ t) else m y) :=
    ⟨x.tr F₁.keep (.ns hns sb₁) ne, F₁.ns, ⟨t, rfl⟩, ⟨tp, (if_neg (by decide)).trans ep⟩, fun o e => (sb₁.2 _ hne).trans e, hL, hne, hlt, hsm, hcd⟩
  refine due_lit hh X₁ fun h₂ tk₂ m₂ vl X₂ el al => ?_
  refine due_rw X₂ el al fun h₃ tk₃ m₃ vl vr vw X₃ el al er ar ew aw => ?_
  have eq₃ := X₃.dj.quote
  have ef₃ := X₃.dj.feed
  have eb₃ := X₃.dj.barred
  have ewd₃ := X₃.dj.words
  rw [hj] at eq₃ ef₃ eb₃ ewd₃
  refine due_add X₃ el al er ar ew aw fun h₄ tk₄ m₄ X₄ e₄ => ?_
  refine due_q X₄ (by rw [e₄ _ (by decide)]; exact eq₃) fun h₅ tk₅ m₅ X₅ q₅ e₅ => ?_
  refine due_f X₅ (by rw [e₅ _ (by decide), e₄ _ (by decide)]; exact ef₃) fun h₆ tk₆ m₆ X₆ f₆ e₆ => ?_
  refine due_b H I X₆ (by rw [e₆ _ (by decide), e₅ _ (by decide), e₄ _ (by decide)]; exact eb₃) (by rw [e₆ _ (by decide), e₅ _ (by decide), e₄ _ (by decide)]; exact ewd₃) fun h₇ tk₇ m₇ X₇ b₇ w₇ e₇ => ?_
  refine hP h₇ tk₇ m₇ ⟨X₇.keep, X₇.marks, X₇.size, X₇.whole, X₇.noth, ?_, ?_, b₇, w₇, X₇.due⟩ X₇.ns X₇.it
  · rw [e₇ _ (by decide) (by decide), e₆ _ (by decide)]; exact q₅
  · rw [e₇ _ (by decide) (by decide)]; exact f₆
end
end Mine
end

noncomputable section -- NbDue8
open PySem PySem.W PyProof.Rows
open PySem.Builtin PySem.Builtin.Str PySem.Builtin.BaseException
set_option maxRecDepth 100000
namespace Mine

section
variable {w : World} {A : Around} {s : Shared} {E : Value → Shared → Prop} {Q : Value → Shared → Prop}
/-- a range that goes down to 0, and its iterator -/
theorem rangeDown_it {n : Nat} {t u v : Tok} (hn : n < 2 ^ 40) (h : ∀ h' tk I, (∀ b o, s.heap.get? b = some o → h'.get? b = some o) → IsRangeIter h' I (((n : Int) - 1) + ((0 : Nat) : Int) * (-1)) ((n : Int) - ((0 : Nat) : Int)) (-1) → s.heap.objs.size ≤ I → I < h'.objs.size → Q (.ref I) { s with heap := h', toks := tk }) :
    wpAny (model prg w) A (call (.type "range") [.int ((n : Int) - 1) t, .int (-1) u, .int (-1) v]) (fun xv s₁ => wpAny (model prg w) A (pyIter xv) Q E s₁) E s := by
  refine call_range_3 (by decide) ?_ (.inl (PyProof.noPylong_small (by decide)))
  have hz : Builtin.Range.rangeSize ((n : Int) - 1) (-1) (-1) = (n : Int) := by
    unfold Builtin.Range.rangeSize
    simp only [show ¬ ((-1 : Int) > 0) by decide, if_false]
    split
    · rw [show -(-1 : Int) = 1 by decide, Int.ediv_one]; omega
    · omega
  have hsm : Builtin.Range.small ((n : Int) - 1) (-1) (-1) = true := by
    unfold Builtin.Range.small
    rw [hz]
    simp only [Builtin.Range.rangeFitsLong, Bool.and_eq_true, Bool.or_eq_true, decide_eq_true_eq, beq_iff_eq, show ¬ ((-1 : Int) > 0) by decide, if_false]
    omega
  refine wpAny_pyIter_range (IsRange.new ..) hsm ?_
  refine h _ _ _ (fun b o e => Heap.get?_push_of_some _ (Heap.get?_push_of_some _ e)) ?_ ?_ ?_
  · show Heap.get? _ _ = _
    rw [Heap.get?_push_size _ rfl, hz]
    simp
  · rw [Heap.size_push]; exact Nat.le_succ _
  · simp only [Heap.size_push]; exact Nat.lt_succ_self _
theorem ct3 {pos : Pos} {T : String} {a b c : Sem Value}
    (h : wpAny (model prg w) A a (fun v₁ s₁ => wpAny (model prg w) A b (fun v₂ s₂ => wpAny (model prg w) A c (fun v₃ s₃ => wpAny (model prg w) A (call (.type T) [v₁, v₂, v₃]) Q E s₃) E s₂) E s₁) E s) : wpAny (model prg w) A (callWith pos (.type T) [] [(false, a), (false, b), (false, c)] []) Q E s :=
  PySem.callWith_type rfl (Calls.evalArgs_plain (Calls.spliced_cons (wpAny_mono h (fun _ _ h₁ => Calls.spliced_cons (wpAny_mono h₁ (fun _ _ h₂ => Calls.spliced_cons (wpAny_mono h₂ (fun _ _ h₃ => Calls.spliced_nil h₃) fun _ _ e => e)) fun _ _ e => e)) fun _ _ e => e)))
end

theorem paired_marks {Mk : Addr} {h : Heap} : ∀ (ysm : List Value) (ms : List (Nat × Str)) (ys : List Value), Paired (MarkAt Mk h) ysm ms → Paired (fun v y => ∀ mk, MarkAt Mk h v mk → ∃ t, y = .str ⟨#[mk.1]⟩ t) ysm ys →
    ∃ l' : List (Str × Tok), ys = strValues l' ∧ cat l' = ms.map (·.1)
  | _, _, _, .nil, .nil => ⟨[], rfl, rfl⟩
  | _, _, _, .cons h1 h2, .cons g1 g2 => by
    obtain ⟨l', e1, e2⟩ := paired_marks _ _ _ h2 g2
    obtain ⟨t, e⟩ := g1 _ h1
    refine ⟨(_, t) :: l', by rw [e, e1]; rfl, ?_⟩
    show [_] ++ cat l' = _
    rw [e2]; rfl

section
variable {w : World} {A : Around} {n : Nat} {outer : List Env} {s : Shared} {Q : Value → Shared → Prop} {E : Value → Shared → Prop}
theorem DJ.start {h₀ : Heap} {Mk L : Addr} {l : List Nat} {tx : Nat → Str} {h : Heap} {m : Str → Option Value} (F : Fr h₀ L h m) (a1 : m "marks" = some (.ref Mk)) (a2 : ∃ t, m "size" = some (.int (l.length : Nat) t)) (a3 : ∃ t, m "whole" = some (.str (S l) t)) (a4 : ∃ t, m "nothing" = some (.str nothingS t))
    (a5 : ∃ t, m "quote" = some (.int (l.length : Nat) t)) (a6 : ∃ t, m "feed" = some (.int (l.length : Nat) t)) (a7 : ∃ t, m "barred" = some (.int (l.length : Nat) t)) (a8 : ∃ W t, m "words" = some (.str W t))
    (a9 : ∃ Du ys, m "due" = some (.ref Du) ∧ h.IsList Du (List.toArray ys) ∧ Paired (RowAt h) ys (dueFrom l tx 0)) : DJ h₀ Mk l tx 0 h m := by
  have q0 : qt l (l.length - 0) = l.length := by unfold qt; rw [Nat.sub_zero, nextC_eq, skip_end (Nat.le_refl _)]; omega
  have f0 : ft l (l.length - 0) = l.length := by unfold ft; rw [Nat.sub_zero, nextC_eq, skip_end (Nat.le_refl _)]; omega
  have b0 : bt l (l.length - 0) = l.length := by unfold bt nextBad; rw [Nat.sub_zero, skip_end (Nat.le_refl _)]; omega
  refine ⟨F.keep, a1, a2, a3, a4, by rw [q0]; exact a5, by rw [f0]; exact a6, by rw [b0]; exact a7, ?_, a9⟩
  obtain ⟨W, t, e⟩ := a8
  exact ⟨W, t, e, fun z => absurd z (by rw [b0]; exact Nat.lt_irrefl _)⟩
theorem num_plus {h : Heap} {k : Nat} {t : Tok} : AnsAt h (.int ((k : Int) + 1) t) (.num (k + 1)) := ⟨t, by rw [show ((k : Int) + 1) = ((k + 1 : Nat) : Int) by omega]⟩
theorem listF {h₀ : Heap} {L : Addr} {m : Str → Option Value} {M : Model} {vs : List Value} (F : Fr h₀ L s.heap m)
    (h : ∀ h', Fr h₀ L h' m → (∀ b o, s.heap.get? b = some o → h'.get? b = some o) → h'.IsList s.heap.objs.size vs.toArray → Q (.ref s.heap.objs.size) { s with heap := h' }) (hsz : vs.length ≤ sizeLine) : wpAny M A (newList vs) Q E s :=
  wpAny_newObj_type (h _ (F.push _) (fun _ _ e => Heap.get?_push_of_some _ e) ⟨_, Heap.get?_push_size _ rfl, rfl, _, rfl⟩) (by show vs.toArray.size ≤ sizeLine; rw [List.size_toArray]; exact hsz)

set_option maxHeartbeats 1000000 in
theorem due_spec (ok : Ok w A n outer s.heap) (hn : n ≤ 18) (hh : A.handled = none) {Mk : Addr} {l : List Nat} {tx : Nat → Str} (I : MarksIn s.heap Mk l tx) (hsm : l.length ≤ 1000) (hcd : ∀ c ∈ l, c < 16 ^ 8)
    (hQ : ∀ h' tk' Du (ys : List Value), (∀ b o, s.heap.get? b = some o → h'.get? b = some o) → h'.IsList Du ys.toArray → Paired (RowAt h') ys (dueFrom l tx l.length) → Q (.ref Du) { s with heap := h', toks := tk' }) :
    wpAny (model prg w) A (call (.ref 170) [.ref Mk]) Q E s := by
  refine call_q (binds := [("marks", .ref Mk)]) ok (by omega) ok.pb.f_due (fun _ _ _ => by rfl) (by rfl) (fun H h₁ cd F => ?_)
  have hhd : (A.deeper (envAt (stAt 26) s.heap.objs.size 170 cd)).handled = none := hh
  obtain ⟨ysm, ms, g1, g2, g3, g4⟩ := id I.ex
  have hyl : ysm.length = l.length := by rw [Paired.len g2, g3]
  have hysz : ysm.toArray.size = l.length := by rw [List.size_toArray, hyl]
  have hms : ms.map (·.1) = l := by
    refine List.ext_getElem? fun k => ?_
    rw [List.getElem?_map]
    by_cases hk : k < l.length
    · rw [g4 k hk]
      show some (l.getD k 0) = _
      rw [List.getD_eq_getElem?_getD, List.getElem?_eq_getElem hk]; rfl
    · rw [List.getElem?_eq_none (by omega), List.getElem?_eq_none (by omega)]; rfl
  -- size
  refine wpAny_execs_cons (wpAny_Assign_Name (Call_nm1 (bnE (s := { s with heap := h₁, toks := _ }) F.keep H.b_len (cw1 (ld (s := { s with heap := h₁, toks := _ }) F rfl (len_list (g1.imp fun o z => ⟨F.keep _ _ z.1, z.2⟩) (by rw [hysz]; omega) ?_))))))
  rw [hysz]
  refine st (s := { s with heap := h₁, toks := _ }) F fun h₂ F₂ => ?_
  -- whole
  refine wpAny_execs_cons (wpAny_Assign_Name ?_)
  refine meth1 (x := ⟨#[]⟩) PySem.F.slot_str_join PySem.F.type_str_join (Calls.Constant_str ⟨rfl, ?_⟩)
  refine cw1 ?_
  refine wpAny_ListComp_free (cl := []) (fun _ => true) (fun v y => ∀ mk, MarkAt Mk s.heap v mk → ∃ t, y = .str ⟨#[mk.1]⟩ t) rfl (by decide) rfl (by decide) rfl ?_
  refine ld (s := { s with heap := h₂, toks := _ }) F₂ rfl ?_
  refine list_it (s := { s with heap := h₂, toks := _ }) (g1.imp fun o z => ⟨F₂.keep _ _ z.1, z.2⟩) fun h₃ It₀ k₃ hI hI1 hI2 hne => ?_
  have ne : ∀ b o, h₂.get? b = some o → b ∉ [It₀] := fun b o e hm => by
    have hb : b = It₀ := by simpa using hm
    have := Heap.lt_size e
    rw [hb] at this
    exact Nat.lt_irrefl _ (Nat.lt_of_lt_of_le this hI1)
  refine ⟨It₀, [It₀, Mk], [It₀], _, _, _, rfl, Walks.list (by exact hh) It₀ Mk hne _, ?_, hI, ?_, ⟨?_, ?_⟩, fun D' h₄ tk₄ ys₄ vs' hD' hl' hpl' hlen hP hF hkp => ?_⟩
  · rw [hysz, sizeLine_eq]; omega
  · intro b hb
    rcases List.mem_cons.mp hb with rfl | hb
    · exact hI2
    · rw [List.mem_singleton.mp hb]
      obtain ⟨o, ho, _⟩ := hI.2
      exact Heap.lt_size ho
  · intro C i v' s₃ m₃ E' _ _ _ _ _ _
    exact wpAny_pure ⟨rfl, s₃.heap, s₃.toks, rfl, fun _ _ e => e⟩
  · intro C i v' s₃ m₃ E' _ hP _ hns hm hkp _
    have hP' : ysm[i]? = some v' := by
      have : ysm.toArray[i]? = some v' := hP
      rwa [List.getElem?_toArray] at this
    have hil : i < l.length := by rw [← hyl]; exact (List.getElem?_eq_some_iff.mp hP').1
    obtain ⟨v, hv, a, t, t', rfl, hne', hla⟩ := Paired.get g2 i _ (g4 i hil)
    rw [hP'] at hv; injection hv with hv; subst hv
    have old : ∀ b o, s.heap.get? b = some o → s₃.heap.get? b = some o := fun b o e => by
      have := F₂.keep b o e
      exact hkp b o (ne b o this) (k₃ b o this)
    refine Subscript_ (ldVarK hns hm (wpAny_Constant_int ?_))
    refine item_list (hla.imp fun o z => ⟨old _ _ z.1, z.2⟩) (by decide) (by decide) rfl ?_
    refine ⟨fun mk hmk => ?_, _, _, rfl, fun _ _ e => e⟩
    obtain ⟨a', t₁, t₂, e, _, o', ho', _, n', hd'⟩ := hmk
    injection e with e; subst e
    obtain ⟨o, ho, _, n'', hd⟩ := hla
    rw [ho] at ho'; injection ho' with ho'; subst ho'
    rw [hd] at hd'; injection hd' with hd' _
    have h0 : some (Value.str ⟨#[l.getD i 0]⟩ t) = some (.str ⟨#[mk.1]⟩ t₁) := congrArg (fun (x : Array Value) => x[0]?) hd'
    exact ⟨t₁, Option.some.inj h0⟩
  have hft : vs'.filter (fun _ => true) = vs' := by simp
  rw [hft] at hF
  have hvs : vs' = ysm := by
    refine List.ext_getElem? fun k => ?_
    cases hk : vs'[k]? with
    | none => rw [List.getElem?_eq_none_iff] at hk; rw [List.getElem?_eq_none (by omega)]
    | some v =>
      have := hP k v hk
      rw [List.getElem?_toArray] at this
      exact this.symm
  rw [hvs] at hF
  obtain ⟨lw, e1, e2⟩ := paired_marks ysm ms ys₄.toList g2 hF
  rw [hms] at e2
  have hys : ys₄ = (strValues lw).toArray := by rw [← e1]
  rw [hys] at hl'
  have k₄ : ∀ b o, h₂.get? b = some o → h₄.get? b = some o := fun b o e => hkp b o (ne b o e) (k₃ b o e)
  refine SC.join (s := { s with heap := h₄, toks := tk₄ }) hl' rfl (join_ok lw (by rw [e2]; omega)) fun tw kw => ?_
  rw [join_cat, e2]
  refine st (s := { s with heap := h₄, toks := kw }) (F₂.after k₄) fun h₅ F₅ => ?_
  -- nothing
  refine wpAny_execs_cons (wpAny_Assign_Name (Calls.Constant_str ?_))
  refine st (s := { s with heap := h₅, toks := _ }) F₅ fun h₆ F₆ => ?_
  -- due
  refine wpAny_execs_cons (wpAny_Assign_Name (List_ ?_))
  refine spl_cons (List_ (spl_cons (ld (s := { s with heap := h₆, toks := _ }) F₆ rfl (spl_cons (ld (s := { s with heap := h₆, toks := _ }) F₆ rfl (spl_cons (ld (s := { s with heap := h₆, toks := _ }) F₆ rfl (spl_nil ?_)) rfl)) rfl)) rfl)) rfl
  refine listF (s := { s with heap := h₆, toks := _ }) F₆ (fun h₇ F₇ k₇ hl₇ => ?_) (by rw [sizeLine_eq]; simp only [List.length_cons, List.length_nil]; omega)
  refine spl_cons (List_ (spl_cons (ld (s := { s with heap := h₇, toks := _ }) F₇ rfl (spl_cons (wpAny_BinOp (ld (s := { s with heap := h₇, toks := _ }) F₇ rfl (wpAny_Constant_int (add_int ?_)))) rfl)) rfl)) rfl
  refine spl_cons (wpAny_BinOp (ld (s := { s with heap := h₇, toks := _ }) F₇ rfl (wpAny_Constant_int (add_int (spl_nil ?_))))) rfl
  refine listF (s := { s with heap := h₇, toks := _ }) F₇ (fun h₈ F₈ k₈ hl₈ => ?_) (by rw [sizeLine_eq]; simp only [List.length_cons, List.length_nil]; omega)
  refine spl_nil ?_
  refine listF (s := { s with heap := h₈, toks := _ }) F₈ (fun h₉ F₉ k₉ hl₉ => ?_) (by rw [sizeLine_eq]; simp only [List.length_cons, List.length_nil]; omega)
  have rows₉ : Paired (RowAt h₉) [Value.ref h₆.objs.size, .ref h₇.objs.size] (dueFrom l tx 0) := by
    refine .cons ⟨_, _, _, _, rfl, hl₇.imp fun o z => ⟨k₉ _ _ (k₈ _ _ z.1), z.2⟩, ⟨_, rfl⟩, ⟨_, rfl⟩, ⟨_, rfl⟩⟩ (.cons ⟨_, _, _, _, rfl, hl₈.imp fun o z => ⟨k₉ _ _ z.1, z.2⟩, ⟨_, rfl⟩, num_plus, num_plus⟩ .nil)
  refine stS (s := { s with heap := h₉, toks := _ }) F₉ fun h10 F10 sb10 => ?_
  have s10 : SeqK h₉ h10 := .ns F₉.ns sb10
  refine wpAny_execs_cons (wpAny_Assign_Name (ld (s := { s with heap := h10, toks := _ }) F10 rfl ?_))
  refine stS (s := { s with heap := h10, toks := _ }) F10 fun h11 F11 sb11 => ?_
  have s11 : SeqK h10 h11 := .ns F10.ns sb11
  refine wpAny_execs_cons (wpAny_Assign_Name (ld (s := { s with heap := h11, toks := _ }) F11 rfl ?_))
  refine stS (s := { s with heap := h11, toks := _ }) F11 fun h12 F12 sb12 => ?_
  have s12 : SeqK h11 h12 := .ns F11.ns sb12
  refine wpAny_execs_cons (wpAny_Assign_Name (ld (s := { s with heap := h12, toks := _ }) F12 rfl ?_))
  refine stS (s := { s with heap := h12, toks := _ }) F12 fun h13 F13 sb13 => ?_
  have s13 : SeqK h12 h13 := .ns F12.ns sb13
  refine wpAny_execs_cons (wpAny_Assign_Name (Calls.Constant_str ?_))
  refine stS (s := { s with heap := h13, toks := _ }) F13 fun h14 F14 sb14 => ?_
  have s14 : SeqK h13 h14 := .ns F13.ns sb14
  have ss : SeqK h₉ h14 := (((s10.trans s11).trans s12).trans s13).trans s14
  have dj14 := DJ.start (tx := tx) F14 (l := l) (Mk := Mk) rfl ⟨_, rfl⟩ ⟨_, rfl⟩ ⟨_, rfl⟩ ⟨_, rfl⟩ ⟨_, rfl⟩ ⟨_, rfl⟩ ⟨_, _, rfl⟩
    ⟨h₈.objs.size, [Value.ref h₆.objs.size, .ref h₇.objs.size], rfl, (by obtain ⟨o, ho, hc, n', hd⟩ := hl₉; exact ⟨o, ss _ _ _ _ ho hd, hc, n', hd⟩), Paired.imp (fun _ _ z => z.mono ss) rows₉⟩
  refine wpAny_execs_cons (wpAny_For ?_)
  refine Call_nm3 (bnE (s := { s with heap := h14, toks := _ }) F14.keep H.b_range ?_)
  refine ct3 (wpAny_BinOp (ld (s := { s with heap := h14, toks := _ }) F14 rfl (wpAny_Constant_int (sub_int ?_))))
  refine wpAny_UnaryOp (wpAny_Constant_int (neg_int ?_))
  refine wpAny_UnaryOp (wpAny_Constant_int (neg_int ?_))
  refine rangeDown_it (s := { s with heap := h14, toks := _ }) (by omega) fun h15 tk15 It k15 hIt hI1' hI2' => ?_
  have hL0 : s.heap.get? s.heap.objs.size = none := by
    cases hq : s.heap.get? s.heap.objs.size with
    | none => rfl
    | some o => exact absurd (Heap.lt_size hq) (Nat.lt_irrefl _)
  have hI0 : s.heap.get? It = none := by
    cases hq : s.heap.get? It with
    | none => rfl
    | some o => exact absurd (Heap.lt_size (F14.keep _ _ hq)) (Nat.not_lt.mpr hI1')
  have hL14 : s.heap.objs.size < h14.objs.size := by obtain ⟨oL, es, ep, g1, _⟩ := F14.ns; exact Heap.lt_size g1
  have hIL : It ≠ s.heap.objs.size := fun z => by rw [z] at hI1'; exact Nat.lt_irrefl _ (Nat.lt_of_lt_of_le hL14 hI1')
  refine for_range (s := { s with heap := h15, toks := tk15 }) (L := s.heap.objs.size) (env := envAt (stAt 26) s.heap.objs.size 170 cd) (x := "place") hhd rfl rfl rfl hIL
    (fun i h' m' => DJ s.heap Mk l tx i h' m') ?_ hIt (F14.ns.keeps k15) ?_ ?_ ?_
  · intro i h' h'' m' j g1 g2 g3
    exact j.stab hI0 hL0 g1 g2 g3
  · exact dj14.tr (fun b o e => k15 b o (F14.keep b o e)) (.of_keeps k15) fun _ _ => rfl
  · intro i h' tk' m' t hi hns' j
    have hi0 : ((l.length : Int) - 1) + (i : Int) * (-1) = ((l.length - (i + 1) : Nat) : Int) := by omega
    rw [hi0] at hns'
    have nn : ∀ y ∈ dNames, (if y = ("place" : Str) then some (Value.int ((l.length - (i + 1) : Nat) : Int) t) else m' y) = m' y := fun y hy => if_neg fun e => by rw [e] at hy; revert hy; decide
    refine due_body (s := { s with heap := h15, toks := tk15 }) (tk := tk') hhd H I hsm hcd (Nat.le_refl _) hIL hi (j.tr j.keep (fun _ _ _ _ q _ => q) nn) hns' ⟨t, rfl⟩ fun h'' tk'' m'' y1 y2 y3 => ⟨rfl, h'', tk'', m'', rfl, y2, y1, y3⟩
  · intro h' tk' m' hns' j
    refine wpAny_execs_cons (wpAny_Return_some ?_)
    obtain ⟨Du, ys, edu, hDu, hpa⟩ := j.due
    refine ld (s := { s with heap := h', toks := tk' }) ⟨hns', j.keep, Nat.le_refl _⟩ edu ?_
    exact hQ h' tk' Du ys j.keep hDu hpa
end
end Mine
end

noncomputable section -- NbPlain
open PySem PySem.W PyProof.Rows
open PySem.Builtin PySem.Builtin.Str PySem.Builtin.BaseException
set_option maxRecDepth 100000
namespace Mine

/-! ## the marks, sign by sign -/
noncomputable def sm : Nat × Nat → List Nat → List (Nat × Str)
  | _, [] => []
  | st, c :: r => (c, posTxt st.1 st.2) :: sm (scanS st c) r
theorem sm_len : ∀ (st : Nat × Nat) (l : List Nat), (sm st l).length = l.length
  | _, [] => rfl
  | st, c :: r => by show (sm _ r).length + 1 = _; rw [sm_len]; rfl
theorem sm_fst : ∀ (st : Nat × Nat) (l : List Nat), (sm st l).map (·.1) = l
  | _, [] => rfl
  | st, c :: r => by show c :: (sm _ r).map (·.1) = _; rw [sm_fst]
theorem sm_get : ∀ (l : List Nat) (st : Nat × Nat) (k : Nat), k < l.length → (sm st l)[k]? = some (l.getD k 0, posTxt ((l.take k).foldl scanS st).1 ((l.take k).foldl scanS st).2)
  | [], _, _, h => by simp at h
  | c :: r, st, 0, _ => rfl
  | c :: r, st, k + 1, h => by
    show (sm (scanS st c) r)[k]? = _
    rw [sm_get r (scanS st c) k (by simpa using h)]
    rfl
theorem sm_app : ∀ (a b : List Nat) (st : Nat × Nat), sm st (a ++ b) = sm st a ++ sm (a.foldl scanS st) b
  | [], _, _ => rfl
  | c :: a, b, st => by show _ :: sm (scanS st c) (a ++ b) = _ :: (sm (scanS st c) a ++ _); rw [sm_app]; rfl

theorem scan_row : ∀ (p : List Nat) (i j : Nat), 10 ∉ p → p.foldl scanS (i, j) = (i, j + p.length)
  | [], _, _, _ => rfl
  | c :: p, i, j, h => by
    have h1 : c ≠ 10 := fun e => h (by rw [e]; exact List.mem_cons_self ..)
    have hs : scanS (i, j) c = (i, j + 1) := by unfold scanS; rw [if_neg h1]
    show p.foldl scanS (scanS (i, j) c) = _
    rw [hs, scan_row p i (j + 1) fun m => h (List.mem_cons_of_mem _ m)]
    simp only [List.length_cons]; congr 1; omega

/-- no line feed but as the last -/
noncomputable def Row10 (l : List Nat) : Prop := ∀ k, k + 1 < l.length → l[k]? ≠ some 10
theorem markRow_cons (k : Nat) (c : Nat) (r : List Nat) (j : Nat) : ((List.range (c :: r).length).map fun i => ((c :: r).getD i 0, posTxt (k + 1) (j + i))) = (c, posTxt (k + 1) j) :: ((List.range r.length).map fun i => (r.getD i 0, posTxt (k + 1) (j + 1 + i))) := by
  rw [List.length_cons, List.range_succ_eq_map, List.map_cons, List.map_map]
  congr 1
  refine List.map_congr_left fun i _ => ?_
  show (r.getD i 0, posTxt (k + 1) (j + (i + 1))) = _
  rw [show j + (i + 1) = j + 1 + i by omega]
theorem sm_row : ∀ (l : List Nat) (i j : Nat), Row10 l → sm (i + 1, j) l = (List.range l.length).map fun c => (l.getD c 0, posTxt (i + 1) (j + c))
  | [], _, _, _ => rfl
  | [c], i, j, _ => rfl
  | c :: d :: r, i, j, h => by
    have h1 : c ≠ 10 := fun e => h 0 (by simp) (by rw [e]; rfl)
    rw [markRow_cons]
    show (c, posTxt (i + 1) j) :: sm (scanS (i + 1, j) c) (d :: r) = _
    unfold scanS
    rw [if_neg h1, sm_row (d :: r) i (j + 1) fun k hk => h (k + 1) (by simp only [List.length_cons] at hk ⊢; omega)]
theorem sm_markRow (k : Nat) (l : List Nat) (h : Row10 l) : sm (k + 1, 1) l = markRow k l l.length := by
  rw [sm_row l k 1 h]
  unfold markRow
  refine List.map_congr_left fun c _ => ?_
  rw [Nat.add_comm 1 c]

noncomputable def joinE (e : List Nat) : List (List Nat) → List Nat
  | [] => []
  | [r] => r
  | r :: q :: rs => r ++ e ++ joinE e (q :: rs)

theorem rowAt_succ (r : List Nat) (rs : List (List Nat)) (e : List Nat) (i : Nat) : rowAt (r :: rs) e (i + 1) = rowAt rs e i := by
  unfold rowAt
  simp only [List.length_cons]
  by_cases h : i + 1 < rs.length
  · rw [if_pos (by omega), if_pos h]; rfl
  · rw [if_neg (by omega), if_neg h]; rfl

theorem row10_free {p : List Nat} (h : 10 ∉ p) : Row10 p := fun _ _ e => h (List.mem_of_getElem? e)
theorem row10_end {p q : List Nat} (h : 10 ∉ p) (h' : 10 ∉ q) : Row10 (p ++ (q ++ [10])) := fun k hk e => by
  rw [← List.append_assoc] at e hk
  rw [List.length_append, List.length_singleton] at hk
  rw [List.getElem?_append_left (by omega)] at e
  rcases List.mem_append.mp (List.mem_of_getElem? e) with z | z
  · exact h z
  · exact h' z

theorem marks_join {q : List Nat} (hq : 10 ∉ q) : ∀ (rows : List (List Nat)) (k : Nat), (∀ r ∈ rows, 10 ∉ r) →
    sm (k + 1, 1) (joinE (q ++ [10]) rows) = (List.range rows.length).flatMap fun i => markRow (k + i) (rowAt rows (q ++ [10]) i) (rowAt rows (q ++ [10]) i).length
  | [], _, _ => rfl
  | [r], k, h => by
    show sm (k + 1, 1) r = [0].flatMap _
    rw [sm_markRow k r (row10_free (h r (List.mem_singleton.mpr rfl)))]
    show _ = markRow (k + 0) r r.length ++ []
    rw [List.append_nil]; rfl
  | r :: r' :: rs, k, h => by
    have hr := h r (List.mem_cons_self ..)
    have ih := marks_join hq (r' :: rs) (k + 1) fun a ha => h a (List.mem_cons_of_mem _ ha)
    show sm (k + 1, 1) (r ++ (q ++ [10]) ++ joinE (q ++ [10]) (r' :: rs)) = _
    rw [sm_app, sm_markRow k _ (row10_end hr hq)]
    have hst : (r ++ (q ++ [10])).foldl scanS (k + 1, 1) = (k + 1 + 1, 1) := by
      rw [← List.append_assoc, List.foldl_append, scan_row (r ++ q) _ _ (by
        intro m; rcases List.mem_append.mp m with z | z
        · exact hr z
        · exact hq z)]
      rfl
    rw [hst, ih]
    have e : ((List.range (r :: r' :: rs).length).flatMap fun i => markRow (k + i) (rowAt (r :: r' :: rs) (q ++ [10]) i) (rowAt (r :: r' :: rs) (q ++ [10]) i).length)
        = markRow (k + 0) (rowAt (r :: r' :: rs) (q ++ [10]) 0) (rowAt (r :: r' :: rs) (q ++ [10]) 0).length ++ (List.range (r' :: rs).length).flatMap fun i => markRow (k + 1 + i) (rowAt (r' :: rs) (q ++ [10]) i) (rowAt (r' :: rs) (q ++ [10]) i).length := by
      rw [show (r :: r' :: rs).length = (r' :: rs).length + 1 from rfl, List.range_succ_eq_map, List.flatMap_cons, List.flatMap_map]
      congr 1
      refine congrArg (fun f => List.flatMap f (List.range (r' :: rs).length)) (funext fun i => ?_)
      rw [rowAt_succ, show k + 1 + i = k + (i + 1) by omega]
    rw [e]
    have h0 : rowAt (r :: r' :: rs) (q ++ [10]) 0 = r ++ (q ++ [10]) := by
      unfold rowAt
      rw [if_pos (by simp only [List.length_cons]; omega)]; rfl
    rw [h0]; rfl
theorem marksOf_eq {q : List Nat} (hq : 10 ∉ q) (rows : List (List Nat)) (h : ∀ r ∈ rows, 10 ∉ r) : marksOf rows (q ++ [10]) = sm (1, 1) (joinE (q ++ [10]) rows) := by
  rw [marks_join hq rows 0 h]
  unfold marksOf marksTo
  refine congrArg (fun f => List.flatMap f (List.range rows.length)) (funext fun i => ?_)
  rw [Nat.zero_add]
end Mine
end

noncomputable section -- NbPlain2
open PySem PySem.W PyProof.Rows
open PySem.Builtin PySem.Builtin.Str PySem.Builtin.BaseException
set_option maxRecDepth 100000
namespace Mine

theorem splitNL_ne : ∀ l : List Nat, ∃ p ps, splitNL l = p :: ps
  | [] => ⟨_, _, rfl⟩
  | c :: r => by
    unfold splitNL
    split
    · exact ⟨_, _, rfl⟩
    · cases splitNL r with
      | nil => exact ⟨_, _, rfl⟩
      | cons p ps => exact ⟨_, _, rfl⟩
theorem splitNL_lf (r : List Nat) : splitNL (10 :: r) = [] :: splitNL r := by show (if (10 : Nat) = 10 then _ else _) = _; rw [if_pos rfl]
theorem joinE_lf (e : List Nat) (r : List Nat) : joinE e (splitNL (10 :: r)) = e ++ joinE e (splitNL r) := by
  rw [splitNL_lf]
  obtain ⟨p, ps, h⟩ := splitNL_ne r
  rw [h]; rfl
theorem joinE_cons (e : List Nat) {c : Nat} (hc : c ≠ 10) (r : List Nat) : joinE e (splitNL (c :: r)) = c :: joinE e (splitNL r) := by
  obtain ⟨p, ps, h⟩ := splitNL_ne r
  have e1 : splitNL (c :: r) = (c :: p) :: ps := by
    show (if c = 10 then [] :: splitNL r else match splitNL r with | p :: ps => (c :: p) :: ps | [] => [[c]]) = _
    rw [if_neg hc, h]
  rw [e1, h]
  cases ps with
  | nil => rfl
  | cons q qs => rfl
theorem crToLf_cons (c : Nat) (r : List Nat) : crToLf (c :: r) = (if c = 13 then 10 else c) :: crToLf r := rfl

theorem crlfs_rows (l : List Nat) : crlfs l = joinE [13, 10] (splitNL (crToLf (unCr l))) := by
  induction l using crlfs.induct with
  | case1 => rfl
  | case2 r ih => rw [crlfs, unCr, crToLf_cons, if_neg (by decide), joinE_lf, ← ih]; rfl
  | case3 r ih => rw [crlfs, unCr_cons (by rintro ⟨z, _⟩; cases z), crToLf_cons, if_neg (by decide), joinE_lf, ← ih]; rfl
  | case4 r h ih =>
    rw [crlfs, unCr_cons (by rintro ⟨_, r', z⟩; exact h r' z), crToLf_cons, if_pos rfl, joinE_lf, ← ih]
    · rfl
    · exact h
  | case5 c r h1 h2 h3 ih =>
    rw [crlfs, unCr_cons (by rintro ⟨z, _⟩; exact h3 z), crToLf_cons, if_neg h3, joinE_cons _ h2, ← ih]
    · exact h1
    · exact h2
    · exact h3

theorem splitNL_free : ∀ l : List Nat, ∀ p ∈ splitNL l, 10 ∉ p ∧ ∀ c ∈ p, c ∈ l
  | [] => by intro p hp; simp [splitNL] at hp; subst hp; simp
  | c :: r => by
    have ih := splitNL_free r
    intro p hp
    unfold splitNL at hp
    split at hp
    · rcases List.mem_cons.mp hp with rfl | hp
      · simp
      · exact ⟨(ih p hp).1, fun k hk => List.mem_cons_of_mem _ ((ih p hp).2 k hk)⟩
    · rename_i hc
      obtain ⟨q, qs, h⟩ := splitNL_ne r
      rw [h] at hp ih
      rcases List.mem_cons.mp hp with rfl | hp
      · have := ih q (List.mem_cons_self ..)
        refine ⟨fun m => ?_, fun k hk => ?_⟩
        · rcases List.mem_cons.mp m with z | z
          · exact hc z.symm
          · exact this.1 z
        · rcases List.mem_cons.mp hk with rfl | z
          · exact List.mem_cons_self ..
          · exact List.mem_cons_of_mem _ (this.2 k z)
      · have := ih p (List.mem_cons_of_mem _ hp)
        exact ⟨this.1, fun k hk => List.mem_cons_of_mem _ (this.2 k hk)⟩
theorem crToLf_no13 (l : List Nat) : 13 ∉ crToLf l := by
  unfold crToLf
  intro h
  obtain ⟨c, _, e⟩ := List.mem_map.mp h
  split at e
  · cases e
  · contradiction

noncomputable def dotRow (row : List Nat) : List Nat := if row.head? = some 46 then 46 :: row else row
theorem dots_f (J : List Nat) : ∀ r : List Nat, 10 ∉ r → dots false (r ++ 13 :: 10 :: J) = r ++ 13 :: 10 :: dots true J
  | [], _ => rfl
  | c :: r, h => by
    have h1 : c ≠ 10 := fun e => h (by rw [e]; exact List.mem_cons_self ..)
    show (if false && c == 46 then _ else c :: dots (c == 10) (r ++ 13 :: 10 :: J)) = _
    rw [Bool.false_and, if_neg (by simp), show (c == 10) = false by simpa using h1, dots_f J r fun m => h (List.mem_cons_of_mem _ m)]; rfl
theorem dots_f0 : ∀ r : List Nat, 10 ∉ r → dots false r = r
  | [], _ => rfl
  | c :: r, h => by
    have h1 : c ≠ 10 := fun e => h (by rw [e]; exact List.mem_cons_self ..)
    show (if false && c == 46 then _ else c :: dots (c == 10) r) = _
    rw [Bool.false_and, if_neg (by simp), show (c == 10) = false by simpa using h1, dots_f0 r fun m => h (List.mem_cons_of_mem _ m)]
theorem dots_t (J : List Nat) (r : List Nat) (h : 10 ∉ r) : dots true (r ++ 13 :: 10 :: J) = dotRow r ++ 13 :: 10 :: dots true J := by
  cases r with
  | nil => rfl
  | cons c r =>
    have h1 : c ≠ 10 := fun e => h (by rw [e]; exact List.mem_cons_self ..)
    have hr : 10 ∉ r := fun m => h (List.mem_cons_of_mem _ m)
    show (if true && c == 46 then 46 :: 46 :: dots false (r ++ 13 :: 10 :: J) else c :: dots (c == 10) (r ++ 13 :: 10 :: J)) = _
    unfold dotRow
    by_cases h46 : c = 46
    · subst h46
      rw [if_pos (by decide), if_pos (by simp), dots_f J r hr]; rfl
    · rw [if_neg (by simpa using h46), if_neg (by simpa using h46), show (c == 10) = false by simpa using h1, dots_f J r hr]; rfl
theorem dots_t0 (r : List Nat) (h : 10 ∉ r) : dots true r = dotRow r := by
  cases r with
  | nil => rfl
  | cons c r =>
    have h1 : c ≠ 10 := fun e => h (by rw [e]; exact List.mem_cons_self ..)
    have hr : 10 ∉ r := fun m => h (List.mem_cons_of_mem _ m)
    show (if true && c == 46 then 46 :: 46 :: dots false r else c :: dots (c == 10) r) = _
    unfold dotRow
    by_cases h46 : c = 46
    · subst h46
      rw [if_pos (by decide), if_pos (by simp), dots_f0 r hr]
    · rw [if_neg (by simpa using h46), if_neg (by simpa using h46), show (c == 10) = false by simpa using h1, dots_f0 r hr]
theorem dots_join : ∀ rows : List (List Nat), (∀ r ∈ rows, 10 ∉ r) → dots true (joinE [13, 10] rows) = joinE [13, 10] (rows.map dotRow)
  | [], _ => rfl
  | [r], h => dots_t0 r (h r (List.mem_singleton.mpr rfl))
  | r :: q :: rs, h => by
    have ih := dots_join (q :: rs) fun a ha => h a (List.mem_cons_of_mem _ ha)
    show dots true (r ++ [13, 10] ++ joinE [13, 10] (q :: rs)) = dotRow r ++ [13, 10] ++ joinE [13, 10] (dotRow q :: rs.map dotRow)
    rw [List.append_assoc, List.append_assoc]
    show dots true (r ++ 13 :: 10 :: joinE [13, 10] (q :: rs)) = _
    rw [dots_t _ r (h r (List.mem_cons_self ..)), ih]; rfl
theorem unCr_row (J : List Nat) : ∀ r : List Nat, 13 ∉ r → unCr (r ++ 13 :: 10 :: J) = r ++ 10 :: unCr J
  | [], _ => by show unCr (13 :: 10 :: J) = _; rw [unCr]; rfl
  | c :: r, h => by
    have h1 : c ≠ 13 := fun e => h (by rw [e]; exact List.mem_cons_self ..)
    show unCr (c :: (r ++ 13 :: 10 :: J)) = _
    rw [unCr_cons (fun z => h1 z.1), unCr_row J r fun m => h (List.mem_cons_of_mem _ m)]; rfl
theorem unCr_row0 : ∀ r : List Nat, 13 ∉ r → unCr r = r
  | [], _ => rfl
  | c :: r, h => by
    have h1 : c ≠ 13 := fun e => h (by rw [e]; exact List.mem_cons_self ..)
    rw [unCr_cons (fun z => h1 z.1), unCr_row0 r fun m => h (List.mem_cons_of_mem _ m)]
theorem unCr_join : ∀ rows : List (List Nat), (∀ r ∈ rows, 13 ∉ r) → unCr (joinE [13, 10] rows) = joinE [10] rows
  | [], _ => rfl
  | [r], h => unCr_row0 r (h r (List.mem_singleton.mpr rfl))
  | r :: q :: rs, h => by
    have ih := unCr_join (q :: rs) fun a ha => h a (List.mem_cons_of_mem _ ha)
    show unCr (r ++ [13, 10] ++ joinE [13, 10] (q :: rs)) = r ++ [10] ++ joinE [10] (q :: rs)
    rw [List.append_assoc, List.append_assoc]
    show unCr (r ++ 13 :: 10 :: joinE [13, 10] (q :: rs)) = _
    rw [unCr_row _ r (h r (List.mem_cons_self ..)), ih]; rfl

theorem rowsOf_free (l : List Nat) : ∀ r ∈ rowsOf l, 10 ∉ r ∧ 13 ∉ r := fun r hr => by
  obtain ⟨p, hp, rfl⟩ := List.mem_map.mp hr
  have h1 := splitNL_free _ p hp
  have h2 : 13 ∉ p := fun m => crToLf_no13 _ (h1.2 _ m)
  split
  · constructor
    · intro m; rcases List.mem_cons.mp m with z | z
      · cases z
      · exact h1.1 z
    · intro m; rcases List.mem_cons.mp m with z | z
      · cases z
      · exact h2 z
  · exact ⟨h1.1, h2⟩
theorem sent_rows (l : List Nat) : sentOf l = joinE [13, 10] (rowsOf l) := by
  unfold sentOf
  rw [crlfs_rows, dots_join _ fun r hr => (splitNL_free _ r hr).1]; rfl
theorem plain_rows (l : List Nat) : unCr (sentOf l) = joinE [10] (rowsOf l) := by
  rw [sent_rows, unCr_join _ fun r hr => (rowsOf_free l r hr).2]
theorem sent_marks (l : List Nat) : marksOf (rowsOf l) [13, 10] = sm (1, 1) (sentOf l) := by
  rw [sent_rows]; exact marksOf_eq (q := [13]) (by decide) _ fun r hr => (rowsOf_free l r hr).1
theorem plain_marks (l : List Nat) : marksOf (rowsOf l) [10] = sm (1, 1) (unCr (sentOf l)) := by
  rw [plain_rows]; exact marksOf_eq (q := []) (by decide) _ fun r hr => (rowsOf_free l r hr).1
end Mine
end

noncomputable section -- NbPlain3
open PySem PySem.W PyProof.Rows
open PySem.Builtin PySem.Builtin.Str PySem.Builtin.BaseException
set_option maxRecDepth 100000
namespace Mine

noncomputable def txOf (l : List Nat) (k : Nat) : Str := posTxt (scan (l.take k)).1 (scan (l.take k)).2

theorem str_assoc (a b c : Str) : a ++ b ++ c = a ++ (b ++ c) := by
  apply Str.ext'
  simp only [Str.cps_append, Array.append_assoc]
theorem words_err {l : List Nat} {b : Nat} (h : b < l.length) : wordsAt l (txOf l) b = errTxt (badMsg (l.getD b 0)) l b := by
  unfold wordsAt errTxt badMsg txOf posTxt coordTxt
  rw [if_neg (by omega)]
  have e1 : Str.ofString "(at line " = Str.ofString "(at " ++ Str.ofString "line " := by decide +kernel
  have e2 : Str.ofString " (at " = Str.ofString " " ++ Str.ofString "(at " := by decide +kernel
  show Str.ofString "Found invalid character " ++ _ ++ Str.ofString " " ++ _ = Str.ofString "Found invalid character " ++ _ ++ Str.ofString " (at " ++ (Str.ofString "line " ++ _ ++ Str.ofString ", column " ++ _) ++ Str.ofString ")"
  rw [e1, e2]
  simp only [str_assoc]
theorem nothing_err (l : List Nat) : nothingS = errTxt (expMsg 39) l l.length := by
  unfold errTxt coordTxt
  rw [if_pos (Nat.le_refl _)]
  decide +kernel

theorem lit_eq (l : List Nat) (p : Nat) : dLit l (txOf l) p = litAns l p := by
  have hb : ∀ x, x ≤ l.length → (bt l (p + 1) < x ↔ nextBad l (p + 1) < x) := fun x hx => by unfold bt; omega
  unfold dLit litAns untilOut
  by_cases hq : qt l (p + 1) < l.length
  · have hq' : ¬ (l.length ≤ nextC 39 l (p + 1) ∧ true = true) := by unfold qt at hq; omega
    rw [if_pos hq, if_neg hq']
    by_cases hbq : bt l (p + 1) < qt l (p + 1)
    · have h1 : nextBad l (p + 1) < min (nextC 39 l (p + 1)) l.length := (hb _ qt_le).mp hbq
      have h2 : bt l (p + 1) = nextBad l (p + 1) := by unfold bt; omega
      rw [if_pos hbq, if_pos h1, h2, words_err (by omega)]
    · have h1 : ¬ nextBad l (p + 1) < min (nextC 39 l (p + 1)) l.length := fun z => hbq ((hb _ qt_le).mpr z)
      rw [if_neg hbq, if_neg h1]; rfl
  · have hq' : (l.length ≤ nextC 39 l (p + 1) ∧ true = true) := ⟨by unfold qt at hq; omega, rfl⟩
    rw [if_neg hq, if_pos hq', nothing_err l]
theorem until10 (l : List Nat) (p : Nat) : (bt l p < ft l p → untilOut 10 false l p = .err (wordsAt l (txOf l) (bt l p))) ∧ (¬ bt l p < ft l p → untilOut 10 false l p = .val (ft l p)) := by
  have hb : bt l p < ft l p ↔ nextBad l p < min (nextC 10 l p) l.length := by unfold bt ft; omega
  unfold untilOut
  rw [if_neg (by simp)]
  constructor
  · intro h
    have h1 := hb.mp h
    have h2 : bt l p = nextBad l p := by unfold bt; omega
    rw [if_pos h1, h2, words_err (by omega)]
  · intro h
    rw [if_neg fun z => h (hb.mpr z)]; rfl
theorem getD_some {l : List Nat} {p : Nat} (h : p < l.length) : l[p]? = some (l.getD p 0) := by rw [List.getD_eq_getElem?_getD, List.getElem?_eq_getElem h]; rfl
theorem rem_eq {l : List Nat} {p : Nat} (h : p < l.length) : dRem l (txOf l) p = (comOut l p).ans := by
  unfold dRem comOut
  obtain ⟨u1, u2⟩ := until10 l (p + 1)
  rw [getD_some h]
  by_cases hc : l.getD p 0 = 35
  · rw [if_pos hc, if_pos (show some (l.getD p 0) = some 35 by rw [hc])]
    by_cases hb : bt l (p + 1) < ft l (p + 1)
    · rw [if_pos hb, u1 hb]; rfl
    · rw [if_neg hb, u2 hb]; rfl
  · rw [if_neg hc, if_neg (by intro z; injection z with z; exact hc z)]; rfl

theorem due_wh (l : List Nat) : ∀ j, j ≤ l.length → ∀ k, k < j + 2 → ∃ r, (dueFrom l (txOf l) j)[k]? = some r ∧ r.1 = litAns l (l.length - j + k) ∧ r.2.1 = (comOut l (l.length - j + k)).ans ∧ ∃ o, Wh l (l.length - j + k) o ∧ r.2.2 = o.ans
  | 0, _, k, hk => by
    have lit : ∀ p, l.length ≤ p → (Ans.txt nothingS) = litAns l p := fun p hp => by
      have : ¬ qt l (p + 1) < l.length := by unfold qt; rw [nextC_eq, skip_end (by omega)]; omega
      rw [← lit_eq]; unfold dLit; rw [if_neg this]
    have com : ∀ p, l.length ≤ p → (comOut l p).ans = .num p := fun p hp => by
      unfold comOut; rw [List.getElem?_eq_none hp, if_neg (by intro z; cases z)]; rfl
    have hk2 : k = 0 ∨ k = 1 := by omega
    rcases hk2 with rfl | rfl
    · exact ⟨_, rfl, lit _ (by omega), (com _ (by omega)).symm, .val l.length, Wh.fin (by omega), rfl⟩
    · exact ⟨_, rfl, lit _ (by omega), (com _ (by omega)).symm, .val (l.length + 1), Wh.fin (by omega), rfl⟩
  | j + 1, hj, 0, _ => by
    have ih := due_wh l j (by omega)
    have hp : l.length - (j + 1) < l.length := by omega
    refine ⟨_, rfl, lit_eq _ _, rem_eq hp, ?_⟩
    show ∃ o, Wh l (l.length - (j + 1)) o ∧ dWhite l (txOf l) (l.length - (j + 1)) (dueFrom l (txOf l) j) = o.ans
    obtain ⟨u1, u2⟩ := until10 l (l.length - (j + 1) + 1)
    have hc := getD_some hp
    unfold dWhite
    by_cases h35 : l.getD (l.length - (j + 1)) 0 = 35
    · rw [if_pos h35]
      by_cases hb : bt l (l.length - (j + 1) + 1) < ft l (l.length - (j + 1) + 1)
      · rw [if_pos hb]
        exact ⟨_, .hashErr (by rw [hc, h35]) (u1 hb), rfl⟩
      · rw [if_neg hb]
        have hge := ft_ge (l := l) (j := j) (by omega)
        have hle := ft_le (l := l) (p := l.length - (j + 1) + 1)
        obtain ⟨r, hr, _, _, o, ho, e⟩ := ih (ft l (l.length - (j + 1) + 1) - (l.length - (j + 1) + 1)) (by omega)
        rw [hr]
        refine ⟨o, .hash (by rw [hc, h35]) (u2 hb) ?_, e⟩
        rw [show l.length - j + (ft l (l.length - (j + 1) + 1) - (l.length - (j + 1) + 1)) = ft l (l.length - (j + 1) + 1) by omega] at ho
        exact ho
    · rw [if_neg h35]
      cases hw : wsC (l.getD (l.length - (j + 1)) 0) with
      | true =>
        rw [if_pos rfl]
        obtain ⟨r, hr, _, _, o, ho, e⟩ := ih 0 (by omega)
        rw [hr]
        refine ⟨o, .ws hc hw ?_, e⟩
        rw [show l.length - j + 0 = l.length - (j + 1) + 1 by omega] at ho
        exact ho
      | false =>
        rw [if_neg (by simp)]
        exact ⟨_, .other hc h35 hw, rfl⟩
  | j + 1, hj, k + 1, hk => by
    obtain ⟨r, hr, x⟩ := due_wh l j (by omega) k (by omega)
    refine ⟨r, hr, ?_⟩
    rw [show l.length - (j + 1) + (k + 1) = l.length - j + k by omega]
    exact x

/-- what is due is what is asked -/
theorem due_asked (l : List Nat) (p : Nat) (hp : p < l.length + 2) : ∃ r, (dueFrom l (txOf l) l.length)[p]? = some r ∧ Asked l p 0 r.1 ∧ Asked l p 1 r.2.1 ∧ Asked l p 2 r.2.2 := by
  obtain ⟨r, hr, h1, h2, o, ho, h3⟩ := due_wh l l.length (Nat.le_refl _) p (by omega)
  rw [show l.length - l.length + p = p by omega] at h1 h2 ho
  exact ⟨r, hr, h1, h2, o, ho, h3⟩
end Mine
end

noncomputable section -- NbLaw1
open PySem PySem.W PyProof.Rows
open PySem.Builtin PySem.Builtin.Str PySem.Builtin.BaseException
set_option maxRecDepth 100000
namespace Mine

theorem ff_mem_keeps {h h' base : Heap} : ∀ {l : List Env}, (∀ b ∈ frs l, ∀ o, h.get? b = some o → h'.get? b = some o) → h.FunFrames base l → h'.FunFrames base l
  | [], _, _ => trivial
  | env :: rest, k, hl => by
    obtain ⟨hk, ⟨L, o, hf, hn, ho, hd⟩, hr⟩ := hl
    refine ⟨hk, ⟨L, o, hf, hn, k L (by simp [frs, hf]) o ho, hd⟩, ff_mem_keeps (fun b hb => k b ?_) hr⟩
    unfold frs at hb ⊢
    rw [List.filterMap_cons, hf]; exact List.mem_cons_of_mem _ hb

section
variable {w : World} {hs h h' : Heap} {outer : List Env} {env : Env} {L : Addr} {m : Str → Option Value}

/-- changes at objects that are the body's own -/
theorem Bd.touch (B : Bd w hs outer env L h m) (T : List Addr) (hT : ∀ b ∈ T, L < b ∧ ¬ h.CodeRec (.ref b) innerQ) (k : ∀ b o, b ∉ T → h.get? b = some o → h'.get? b = some o) : Bd w hs outer env L h' m := by
  have low : ∀ b, b ≤ L → b ∉ T := fun b hb hm => Nat.lt_irrefl _ (Nat.lt_of_lt_of_le (hT b hm).1 hb)
  have hsL : hs.objs.size ≤ L := by have := B.fr.above; rwa [show (bs hs outer).objs.size = hs.objs.size from hide_size ..] at this
  have old : ∀ b o, hs.get? b = some o → b ∉ T := fun b o e => low b (Nat.le_of_lt (Nat.lt_of_lt_of_le (Heap.lt_size e) hsL))
  refine ⟨⟨B.fr.ns.at' fun o e => k _ o (low _ (Nat.le_refl _)) e, fun b o e => k b o (old b o (hide_some e).2) (B.fr.keep b o e), B.fr.above⟩, fun b o e hn => ?_, ff_mem_keeps (fun b hb o e => k b o (low b ?_) e) B.ff, B.pb, ?_, B.ef, B.lo⟩
  · obtain ⟨sl, q⟩ := B.up b o e hn
    exact ⟨sl, k b _ (old b o e) q⟩
  · unfold frs at hb
    rw [List.filterMap_cons, B.ef] at hb
    rcases List.mem_cons.mp hb with r | r
    · rw [r]; exact Nat.le_refl _
    · exact Nat.le_of_lt (B.lo b (List.mem_cons_of_mem _ r))
  · obtain ⟨ps, hc, ht, hp⟩ := B.pl
    have h112 : poolA ∉ T := low _ (Nat.le_of_lt (B.lo _ (List.mem_cons_self ..)))
    have h116 : (116 : Addr) ∉ T := by
      obtain ⟨o, pm, doc, _, _, c, o', vs, t, e, he, _⟩ := B.pb.f_suffixed
      injection e with e; subst e
      exact old _ _ (hide_some he).2
    obtain ⟨o, vs, file, tf, flags, tg, inF, text, tt, op, a1, r1, r2, r3, r4, r5, r6, a2, r7⟩ := hc
    obtain ⟨⟨o', vs', b1, b2⟩, b3⟩ := ht
    refine ⟨ps, ⟨o, vs, file, tf, flags, tg, inF, text, tt, op, k _ _ h116 a1, r1, r2, r3, r4, r5, r6, k _ _ h112 a2, r7⟩, ⟨⟨o', vs', k _ _ h116 b1, b2⟩, k _ _ h112 b3⟩, ?_⟩
    rcases hp with hp | ⟨c', hp, hcr⟩
    · exact .inl hp
    · refine .inr ⟨c', hp, ?_⟩
      have hc' : c' ∉ T := fun hm => (hT c' hm).2 hcr
      obtain ⟨c, o, vs, t, e, g, r⟩ := hcr
      injection e with e; subst e
      exact ⟨_, o, vs, t, rfl, k _ _ hc' g, r⟩

/-- what is newer than the frame stays through a call -/
theorem Bd.own {a : Addr} {o : Obj} (B : Bd w hs outer env L h m) (ef : Eff (env :: outer) h h') (hL : L < a) (ho : h.get? a = some o) : h'.get? a = some o := by
  refine ef.get (fun hm => ?_) ho
  rcases (lsOf_cons B.ef a).mp hm with q | q
  · rw [q] at hL; exact Nat.lt_irrefl _ hL
  · exact Nat.lt_irrefl _ (Nat.lt_trans hL (B.lo a q))
end

section
variable {w : World} {A : Around} {n : Nat} {outer : List Env} {s : Shared}
theorem Bd.start {env : Env} {h₁ : Heap} {m : Str → Option Value} (ok : Ok w A n outer s.heap) (F : Fr s.heap s.heap.objs.size h₁ m) (hk : env.scope.kind ≠ .module) (hf : env.frame = some s.heap.objs.size) : Bd w s.heap outer env s.heap.objs.size h₁ m := by
  have keep : ∀ b o, (bs s.heap outer).get? b = some o → s.heap.get? b = some o := fun b o e => (hide_some e).2
  have hL : (bs s.heap outer).get? s.heap.objs.size = none := by
    cases hq : (bs s.heap outer).get? s.heap.objs.size with
    | none => rfl
    | some o => exact absurd (Heap.lt_size (keep _ _ hq)) (Nat.lt_irrefl _)
  have ff' : h₁.FunFrames (bs s.heap outer) outer := funFrames_keeps (fun b o e hnf => ⟨o, F.keep b o e, hnf⟩) ok.ff
  exact
    { fr := ⟨F.ns, fun b o e => F.keep b o (keep b o e), by rw [show (bs s.heap outer).objs.size = s.heap.objs.size from hide_size ..]; exact Nat.le_refl _⟩
      up := .of_keeps F.keep
      ff := Heap.FunFrames.cons hk hf F.ns hL ff'
      pb := ok.pb
      pl := ok.pl.keeps F.keep
      ef := hf
      lo := fun b hm => by
        rcases List.mem_cons.mp hm with q | q
        · obtain ⟨ps, ⟨_, _, _, _, _, _, _, _, _, op, _, _, _, _, _, _, _, h8, _⟩, _⟩ := ok.pl
          rw [q]; exact Heap.lt_size h8
        · obtain ⟨_, o, e, _⟩ := ok.ff.mem q
          exact Heap.lt_size e }
end
end Mine
end

noncomputable section -- NbComp
open PySem PySem.W PyProof.Rows
open PySem.Builtin PySem.Builtin.Str PySem.Builtin.BaseException
set_option maxRecDepth 100000
namespace Mine

/-- the environment of a comprehension -/
noncomputable def cEnv (scope : Scope) (cs : List (Str × Addr)) (C : Addr) (env : Env) : Env :=
  { scope := relabel scope env, locals := C, globals := env.globals, cells := cs, qual := env.qual, func := none, code := env.code, frame := env.frame, builtins := env.builtins }

section
variable {w : World} {A : Around} {s : Shared} {E : Value → Shared → Prop} {env : Env}

theorem newEnv_comp {M : Model} {scope : Scope} {cl : List (Str × Addr)} {Q : Env → Shared → Prop}
    (hQ : Q (newEnv scope s.heap.objs.size env.globals (cellsFrom (s.heap.objs.size + 1) scope.names cl) env.qual none .none (some env) builtinsNs) { s with heap := pushCells (s.heap.push { cls := .type "dict", data := .dict #[] }) scope.names }) :
    wpAny M A (newFunctionEnv scope env.globals cl [] env.qual none .none (some env)) Q E s := by
  simp only [newFunctionEnv, Option.isSome_some, if_true]
  refine wpAny_bind (wpAny_alloc ?_)
  refine wpAny_bind (wpAny_layCells _ (fun name kind cells => by cases hkc : kind == NameKind.cell <;> simp [hkc]) _ _ _ _ ?_)
  rw [show ({ s with heap := s.heap.push { cls := .type "dict", data := .dict #[] } } : Shared).heap.objs.size = s.heap.objs.size + 1 from Heap.size_push ..]
  refine wpAny_bind ?_
  rw [List.forIn_nil]
  exact wpAny_pure (wpAny_pure hQ)

theorem pushCells_none {h : Heap} : ∀ {names : List (Str × NameKind)}, (∀ y ∈ names, y.2 ≠ .cell) → pushCells h names = h
  | [], _ => rfl
  | (n, k) :: r, hc => by
    unfold pushCells
    rw [if_neg (by simpa using hc (n, k) (List.mem_cons_self ..))]
    exact pushCells_none fun y hy => hc y (List.mem_cons_of_mem _ hy)

/-- a list comprehension without tests: the loop is left to be shown -/
theorem comp_open {elt iter : Expr} {x : Str} {px : Pos} {scope : Scope} {cl : List (Str × Addr)} {pos : Pos} {Q : Value → Shared → Prop}
    (hclos : closureFor scope env = pure cl) (hkind : scope.kind = .function) (hnames : ∀ y ∈ scope.names, y.2 = .local → scope.names.lookup y.1 = some .local)
    (h : wpAny (model prg w) A (eval iter env) (fun xv s₁ => wpAny (model prg w) A (pyIter xv) (fun it s₂ => ∃ (I : Addr) (n : Nat) (P : Nat → Value → Prop) (St : Nat → Heap → Prop), it = .ref I ∧ Walks prg w A I [I] [I] n P St ∧ St 0 s₂.heap ∧
      codeAny (model prg w) A (.compLoop (.ListComp elt [⟨.Name x px, iter, [], 0⟩] scope pos) 0 (.ref I) (.ref s₂.heap.objs.size) (cEnv scope (cellsFrom (s₂.heap.objs.size + 1 + 1) scope.names cl) (s₂.heap.objs.size + 1) env))
        (fun r s' => r = .ok .next ∧ (∃ m, s'.heap.Ns (s₂.heap.objs.size + 1) m) ∧ ∀ h', Heap.SameBut (s₂.heap.objs.size + 1) s'.heap h' → Q (.ref s₂.heap.objs.size) { s' with heap := h' })
        { s₂ with heap := pushCells ((s₂.heap.push { cls := .type "list", data := .seq #[] }).push { cls := .type "dict", data := .dict #[] }) scope.names }) E s₁) E s)
    (hs : ∀ x, foldedSetIterable iter env x = pure x := by intro _; rfl) :
    wpAny (model prg w) A (eval (.ListComp elt [⟨.Name x px, iter, [], 0⟩] scope pos) env) Q E s := by
  rw [eval_ListComp]
  refine wpAny_comprehension_free (use := none) rfl hs hclos hkind hnames (wpAny_mono h (fun xv s₁ h₁ => wpAny_mono h₁ (fun it s₂ h₂ => ?_) fun _ _ e => e) fun _ _ e => e)
  obtain ⟨I, n, P, St, rfl, W, hst, hc⟩ := h₂
  refine wpAny_newObj_type (newEnv_comp ?_) (by show (0 : Nat) ≤ sizeLine; exact Nat.zero_le _)
  have hst' : St 0 (pushCells ((s₂.heap.push { cls := .type "list", data := .seq #[] }).push { cls := .type "dict", data := .dict #[] }) scope.names) :=
    W.frame _ _ _ hst fun b _ o e => pushCells_keeps _ _ b o (Heap.get?_push_of_some _ (Heap.get?_push_of_some _ e))
  have hloop := codeAny_mono hc (R' := compPost (model prg w) A E none Q (.ref s₂.heap.objs.size) (s₂.heap.objs.size + 1)) fun r s' hr => by
    obtain ⟨rfl, ⟨m, hn⟩, hq⟩ := hr
    exact ⟨m, hn, hq⟩
  have e1 : (s₂.heap.push { cls := .type "list", dict := none, data := .seq ([] : List Value).toArray }).objs.size = s₂.heap.objs.size + 1 := Heap.size_push ..
  simp only [e1]
  refine codeAny_compStart_list hloop (W.self 0 _ _ _ hst' hloop)
/-- a name is given such a list: the store comes ahead of the letting go -/
theorem comp_openU {elt iter : Expr} {x y : Str} {px py : Pos} {scope : Scope} {cl : List (Str × Addr)} {pos spos : Pos} {Q : Flow → Shared → Prop}
    (hsw : swapsWith (.ListComp elt [⟨.Name x px, iter, [], 0⟩] scope pos) (some (.Name y py)) spos.line env = pure true)
    (hclos : closureFor scope env = pure cl) (hkind : scope.kind = .function) (hnames : ∀ y ∈ scope.names, y.2 = .local → scope.names.lookup y.1 = some .local)
    (h : wpAny (model prg w) A (eval iter env) (fun xv s₁ => wpAny (model prg w) A (pyIter xv) (fun it s₂ => ∃ (I : Addr) (n : Nat) (P : Nat → Value → Prop) (St : Nat → Heap → Prop), it = .ref I ∧ Walks prg w A I [I] [I] n P St ∧ St 0 s₂.heap ∧
      codeAny (model prg w) A (.compLoop (.ListComp elt [⟨.Name x px, iter, [], 0⟩] scope pos) 0 (.ref I) (.ref s₂.heap.objs.size) (cEnv scope (cellsFrom (s₂.heap.objs.size + 1 + 1) scope.names cl) (s₂.heap.objs.size + 1) env))
        (fun r s' => r = .ok .next ∧ wpAny (model prg w) A (assign (.Name y py) env (.ref s₂.heap.objs.size)) (fun _ s'' => ∃ m, s''.heap.Ns (s₂.heap.objs.size + 1) m ∧ ∀ h', Heap.SameBut (s₂.heap.objs.size + 1) s''.heap h' → Q .next { s'' with heap := h' }) E s')
        { s₂ with heap := pushCells ((s₂.heap.push { cls := .type "list", data := .seq #[] }).push { cls := .type "dict", data := .dict #[] }) scope.names }) E s₁) E s)
    (hs : ∀ x, foldedSetIterable iter env x = pure x := by intro _; rfl) :
    wpAny (model prg w) A (exec (.Assign [.Name y py] (.ListComp elt [⟨.Name x px, iter, [], 0⟩] scope pos) spos) env) Q E s := by
  rw [exec_Assign_Name_used _ _ _ _ hsw]
  refine wpAny_bind (wpAny_standAt (wpAny_bind ?_))
  show wpAny _ A (do let _ ← comprehension (.ListComp elt [⟨.Name x px, iter, [], 0⟩] scope pos) scope env _ (newList []) false (eval iter env) (some (assign (.Name y py) env))) _ _ s
  refine wpAny_bind (wpAny_mono (wpAny_comprehension_free (use := some (assign (.Name y py) env)) (Q := fun _ s' => Q .next s') rfl hs hclos hkind hnames
    (wpAny_mono h (fun xv s₁ h₁ => wpAny_mono h₁ (fun it s₂ h₂ => ?_) fun _ _ e => e) fun _ _ e => e)) (fun _ s' hq => wpAny_pure (wpAny_pure hq)) fun _ _ e => e)
  obtain ⟨I, n, P, St, rfl, W, hst, hc⟩ := h₂
  refine wpAny_newObj_type (newEnv_comp ?_) (by show (0 : Nat) ≤ sizeLine; exact Nat.zero_le _)
  have hst' : St 0 (pushCells ((s₂.heap.push { cls := .type "list", data := .seq #[] }).push { cls := .type "dict", data := .dict #[] }) scope.names) :=
    W.frame _ _ _ hst fun b _ o e => pushCells_keeps _ _ b o (Heap.get?_push_of_some _ (Heap.get?_push_of_some _ e))
  have hloop := codeAny_mono hc (R' := compPost (model prg w) A E (some (assign (.Name y py) env)) (fun _ s' => Q .next s') (.ref s₂.heap.objs.size) (s₂.heap.objs.size + 1)) fun r s' hr => by
    obtain ⟨rfl, hq⟩ := hr
    exact hq
  have e1 : (s₂.heap.push { cls := .type "list", dict := none, data := .seq ([] : List Value).toArray }).objs.size = s₂.heap.objs.size + 1 := Heap.size_push ..
  simp only [e1]
  refine codeAny_compStart_list hloop (W.self 0 _ _ _ hst' hloop)
end
end Mine
end

noncomputable section -- NbTold
open PySem PySem.W PyProof.Rows
open PySem.Builtin PySem.Builtin.Str PySem.Builtin.BaseException
set_option maxRecDepth 100000
namespace Mine

noncomputable def valOf : Stmt → Expr
  | .Assign _ v _ => v
  | _ => .Constant .none 0 default
noncomputable def eltOf : Expr → Expr
  | .ListComp e _ _ _ => e
  | _ => .Constant .none 0 default
noncomputable def scopeOf : Expr → Scope
  | .ListComp _ _ sc _ => sc
  | _ => default
noncomputable def toldE : Expr := valOf ((bdyOfS (stAt 27)).getD 4 (.Pass default))

theorem AnsAt.up {h h' : Heap} {v : Value} {a : Ans} (x : AnsAt h v a) (k : h.UpToSlots h') : AnsAt h' v a := by
  cases a with
  | num n => exact x
  | txt m => exact x
  | pair n y =>
    obtain ⟨b, ta, tb, e, o, ho, hc, n', hd⟩ := x
    obtain ⟨sl, q⟩ := k b o ho fun vs z => by rw [hd] at z; cases z
    exact ⟨b, ta, tb, e, _, q, hc, n', hd⟩
theorem AnsAt.tup {h h' : Heap} {v : Value} {a : Ans} (x : AnsAt h v a) (k : ∀ b o xs n, h.get? b = some o → o.cls = .type "tuple" → o.data = .seq xs n → h'.get? b = some o) : AnsAt h' v a := by
  cases a with
  | num n => exact x
  | txt m => exact x
  | pair n y =>
    obtain ⟨b, ta, tb, e, o, ho, hc, n', hd⟩ := x
    exact ⟨b, ta, tb, e, o, k b o _ _ ho hc hd, hc, n', hd⟩

theorem three_of : ∀ {ys : List Value}, ys.length = 3 → ∃ a b c, ys = [a, b, c]
  | [a, b, c], _ => ⟨a, b, c, rfl⟩
section
variable {w : World} {A : Around} {n : Nat} {outer : List Env} {s : Shared} {E : Value → Shared → Prop} {hs h : Heap} {L C cs cp : Addr} {m : Str → Option Value} {cd : Value}

theorem told_in (B : Bd w hs outer (envC (stAt 27) L 175 cd) L h m) (fa : A.frames = some outer) (dep : A.depth ≤ 301 + n) (uni : A.units ≤ 40 + 40 * n) (hn : n ≤ 11) (hh : A.handled = none)
    (src : Str) (hsz : src.length ≤ 1000) (hcp : ∀ c ∈ src.cps.toList, c < 16 ^ 8) (p : Nat) (hp : p ≤ 1300) {t t' : Tok} (cellS : h.IsCell cs (some (.str src t))) (cellP : h.IsCell cp (some (.int (p : Nat) t'))) (hcs : L < cs) (hcL : L < cp)
    {r : Row3} (h0 : Asked src.cps.toList p 0 r.1) (h1 : Asked src.cps.toList p 1 r.2.1) (h2 : Asked src.cps.toList p 2 r.2.2) {tk : Nat} {P : Value → Shared → Prop}
    (hP : ∀ h' tk' D va vb vc, Bd w hs outer (envC (stAt 27) L 175 cd) L h' m → (∀ b o, L < b → h.get? b = some o → h'.get? b = some o) → h.UpToSlots h' → h.objs.size ≤ D → h'.IsList D #[va, vb, vc] → AnsAt h' va r.1 → AnsAt h' vb r.2.1 → AnsAt h' vc r.2.2 →
      P (.ref D) { s with heap := h', toks := tk' }) :
    wpAny (model prg w) (A.deeper (envC (stAt 27) L 175 cd)) (eval (eltOf toldE) (cEnv (scopeOf toldE) [("p", cp), ("sent", cs)] C (envC (stAt 27) L 175 cd))) P E { s with heap := h, toks := tk } := by
  refine comp_open (s := { s with heap := h, toks := tk }) (cl := [("sent", cs), ("p", cp)]) rfl rfl (by decide) ?_
  have hhd : (A.deeper (envC (stAt 27) L 175 cd)).handled = none := hh
  have hLh : L < h.objs.size := by obtain ⟨oL, es, ep, g1, _⟩ := B.fr.ns; exact Heap.lt_size g1
  refine Call_nm1 (bnE (s := { s with heap := h, toks := tk }) B.fr.keep B.pb.b_range ?_)
  refine ct1 (wpAny_Constant_int ?_)
  refine range1_it (n := 3) (s := { s with heap := h, toks := _ }) (by decide) fun h₁ tk₁ I k₁ hI hI1 hI2 => ?_
  refine ⟨I, 3, _, _, rfl, (Walks.range hhd I 0 1 3).bound, hI, ?_⟩
  rw [pushCells_none (by decide)]
  have ansK : ∃ an : Nat → Ans, an 0 = r.1 ∧ an 1 = r.2.1 ∧ an 2 = r.2.2 ∧ ∀ k, k < 3 → Asked src.cps.toList p k (an k) :=
    ⟨fun k => if k = 0 then r.1 else if k = 1 then r.2.1 else r.2.2, rfl, rfl, rfl, fun k hk => by
      have hk3 : k = 0 ∨ k = 1 ∨ k = 2 := by omega
      rcases hk3 with rfl | rfl | rfl
      · exact h0
      · exact h1
      · exact h2⟩
  obtain ⟨an, a0, a1, a2, hAn⟩ := ansK
  have hL1 : L < h₁.objs.size := Nat.lt_of_lt_of_le hLh (Nat.le_of_lt (Nat.lt_of_le_of_lt hI1 hI2))
  have hLI : L < I := Nat.lt_of_lt_of_le hLh hI1
  refine codeAny_compLoop_list (fun q s' => ∃ (i : Nat) (ys : List Value) (h' : Heap) (tk' : Nat) (mm : Str → Option Value), s' = { s with heap := h', toks := tk' } ∧ i ≤ 3 ∧ q = 4 - i ∧ Bd w hs outer (envC (stAt 27) L 175 cd) L h' m ∧
      IsRangeIter h' I ((0 : Int) + (i : Nat) * 1) ((3 : Nat) - (i : Nat) : Int) 1 ∧ h'.PlainList h₁.objs.size ys.toArray ∧ h'.Ns (h₁.objs.size + 1) mm ∧ ys.length = i ∧ (∀ k v, ys[k]? = some v → AnsAt h' v (an k)) ∧
      (∀ b o, L < b → h.get? b = some o → h'.get? b = some o) ∧ h.UpToSlots h') ?_ 4 ?_
  · rintro q s' ⟨i, ys, h', tk', mm, rfl, hi, rfl, B', hIt, hD, hC, hyl, hys, hk', hu'⟩
    have W := Walks.range (prog := prg) (w := w) (A := A.deeper (envC (stAt 27) L 175 cd)) hhd I 0 1 3
    have hnI : ¬ h'.CodeRec (.ref I) innerQ := by
      rintro ⟨c, o, vs, t, e, g, gd, gv⟩
      injection e with e; subst e
      rw [hIt] at g; injection g with g; subst g
      injection gd with gd; subst gd
      cases gv
    by_cases hlt : i < 3
    · refine W.item i _ _ _ hlt hIt fun v h₂ tk₂ hPv hst₂ hk₂ => ?_
      obtain ⟨tv, rfl⟩ := hPv
      have B₂ := B'.touch [I] (fun b hb => by rw [List.mem_singleton.mp hb]; exact ⟨hLI, hnI⟩) hk₂
      have hD' : h'.get? h₁.objs.size ≠ none := by obtain ⟨n', e⟩ := hD; rw [e]; intro z; cases z
      have hDI : h₁.objs.size ∉ [I] := by simp only [List.mem_singleton]; exact Nat.ne_of_gt hI2
      have hCI : h₁.objs.size + 1 ∉ [I] := by simp only [List.mem_singleton]; exact Nat.ne_of_gt (Nat.lt_succ_of_lt hI2)
      have hC₂ : h₂.Ns (h₁.objs.size + 1) mm := hC.at' fun o e => hk₂ _ o hCI e
      refine wpAny_assign_Name (wpAny_storeName_local rfl hC₂ (fun h₃ hC₃ sb₃ => ?_) rfl)
      have sb₃ : Heap.SameBut (h₁.objs.size + 1) h₂ h₃ := sb₃
      have hC₃ : h₃.Ns (h₁.objs.size + 1) (fun y => if y = "k" then some (.int ((0 : Int) + (i : Int) * 1) tv) else mm y) := hC₃
      have hnC : ¬ h₂.CodeRec (.ref (h₁.objs.size + 1)) innerQ := by
        rintro ⟨c, o, vs, t, e, g, gd, gv⟩
        injection e with e; subst e
        obtain ⟨oC, es, ep, g1, g2, _⟩ := hC₂
        rw [g1] at g; injection g with g; subst g; rw [g2] at gd; cases gd
      have B₃ := B₂.touch [h₁.objs.size + 1] (fun b hb => by rw [List.mem_singleton.mp hb]; exact ⟨Nat.lt_succ_of_lt hL1, hnC⟩) fun b o hb e => (sb₃.2 b (fun z => hb (List.mem_singleton.mpr z))).trans e
      have up₃ : ∀ b o, b ≠ I → b ≠ h₁.objs.size + 1 → h'.get? b = some o → h₃.get? b = some o := fun b o b1 b2 e => (sb₃.2 b b2).trans (hk₂ b o (fun z => b1 (List.mem_singleton.mp z)) e)
      have hi0 : (0 : Int) + (i : Int) * 1 = (i : Int) := by omega
      rw [hi0] at hC₃
      have cS : h₃.IsCell cs (some (.str src t)) := by
        obtain ⟨o, ho, hd⟩ := cellS
        have hlt' := Heap.lt_size ho
        exact ⟨o, up₃ cs o (fun z => by rw [z] at hlt'; exact Nat.lt_irrefl _ (Nat.lt_of_lt_of_le hlt' hI1)) (fun z => by
          have := Heap.lt_size (k₁ _ _ ho)
          rw [z] at this; exact Nat.lt_irrefl _ (Nat.lt_trans this (Nat.lt_succ_self _))) (hk' cs o hcs ho), hd⟩
      have cP : h₃.IsCell cp (some (.int (p : Nat) t')) := by
        obtain ⟨o, ho, hd⟩ := cellP
        have hlt' := Heap.lt_size ho
        exact ⟨o, up₃ cp o (fun z => by rw [z] at hlt'; exact Nat.lt_irrefl _ (Nat.lt_of_lt_of_le hlt' hI1)) (fun z => by
          have := Heap.lt_size (k₁ _ _ ho)
          rw [z] at this; exact Nat.lt_irrefl _ (Nat.lt_trans this (Nat.lt_succ_self _))) (hk' cp o hcL ho), hd⟩
      refine Call_nm3 (gnE (s := { s with heap := h₃, toks := _ }) B₃.fr.keep B₃.pb.asked ?_)
      refine cf3 (wpAny_Name (wpAny_loadName_local rfl rfl hC₃ (if_pos rfl) ?_) (by decide))
      refine wpAny_Name (wpAny_loadName_cell rfl rfl rfl cS ?_) (by decide)
      refine wpAny_Name (wpAny_loadName_cell rfl rfl rfl cP ⟨B₃.pb.f_asked.elim fun _ z => z.isFn B₃.fr.keep, ?_⟩) (by decide)
      refine asked_spec (s := { s with heap := h₃, toks := _ }) (B₃.ok fa dep uni) (by omega) hhd src hsz hcp p hp i hlt (hAn i hlt) fun h₄ tk₄ y ef₄ pl₄ ay => ?_
      have B₄ := B₃.after ef₄ pl₄
      have hDC : h₁.objs.size ≠ h₁.objs.size + 1 := Nat.ne_of_lt (Nat.lt_succ_self _)
      have hD₄ : h₄.PlainList h₁.objs.size ys.toArray := hD.at fun o e => B₃.own ef₄ hL1 (up₃ _ o (Nat.ne_of_gt hI2) hDC e)
      have hnD : ¬ h₄.CodeRec (.ref h₁.objs.size) innerQ := by
        rintro ⟨c, o, vs, t, e, g, gd, gv⟩
        injection e with e; subst e
        obtain ⟨n', g1⟩ := hD₄
        rw [g1] at g; injection g with g; subst g; cases gd
      refine wpAny_list_append_plain hD₄ (fun h₅ hD₅ sb₅ => ?_) (by rw [List.size_toArray, sizeLine_eq]; omega)
      have k₅ : ∀ b o, b ∉ [h₁.objs.size] → h₄.get? b = some o → h₅.get? b = some o := fun b o hb e => (sb₅.2 b fun z => hb (List.mem_singleton.mpr z)).trans e
      have B₅ := B₄.touch [h₁.objs.size] (fun b hb => by rw [List.mem_singleton.mp hb]; exact ⟨hL1, hnD⟩) k₅
      have up₅ : ∀ b o, L < b → b ≠ I → b ≠ h₁.objs.size + 1 → b ≠ h₁.objs.size → h'.get? b = some o → h₅.get? b = some o := fun b o b0 b1 b2 b3 e => k₅ b o (fun z => b3 (List.mem_singleton.mp z)) (B₃.own ef₄ b0 (up₃ b o b1 b2 e))
      have tup : ∀ {hh hh' : Heap} {b : Addr} {o : Obj} {xs : Array Value} {n' : Nat}, hh.get? b = some o → o.data = .seq xs n' → True := fun _ _ => trivial
      have ansUp : ∀ v a, AnsAt h' v a → AnsAt h₅ v a := fun v a x => by
        have x₃ : AnsAt h₃ v a := x.tup fun b o xs n' e hc hd => up₃ b o (fun z => by
          rw [z, hIt] at e; injection e with e; subst e; cases hd) (fun z => by
          obtain ⟨oC, es, ep, g1, g2, _⟩ := hC
          rw [z, g1] at e; injection e with e; subst e; rw [g2] at hd; cases hd) e
        have x₄ : AnsAt h₄ v a := x₃.up ef₄.up
        exact x₄.tup fun b o xs n' e hc hd => k₅ b o (fun z => by
          obtain ⟨n'', g1⟩ := hD₄
          rw [List.mem_singleton.mp z, g1] at e; injection e with e; subst e; revert hc; simp) e
      have ay₅ : AnsAt h₅ y (an i) := ay.tup fun b o xs n' e hc hd => k₅ b o (fun z => by
          obtain ⟨n'', g1⟩ := hD₄
          rw [List.mem_singleton.mp z, g1] at e; injection e with e; subst e; revert hc; simp) e
      refine ⟨4 - (i + 1), by omega, i + 1, ys ++ [y], h₅, tk₄, (fun y => if y = "k" then some (.int (i : Int) tv) else mm y), rfl, by omega, rfl, B₅, ?_, ?_, ?_, by rw [List.length_append, hyl]; rfl, ?_, ?_, ?_⟩
      · exact k₅ I _ (by simp only [List.mem_singleton]; exact Nat.ne_of_lt hI2) (B₃.own ef₄ hLI ((sb₃.2 I (Nat.ne_of_lt (Nat.lt_succ_of_lt hI2))).trans hst₂))
      · have : (ys ++ [y]).toArray = ys.toArray.push y := by simp
        rw [this]; exact hD₅
      · exact hC₃.at' fun o e => k₅ _ o (by simp only [List.mem_singleton]; exact Ne.symm hDC) (B₃.own ef₄ (Nat.lt_succ_of_lt hL1) e)
      · intro k v hv
        by_cases hkl : k < ys.length
        · rw [List.getElem?_append_left hkl] at hv
          exact ansUp v _ (hys k v hv)
        · rw [List.getElem?_append_right (by omega)] at hv
          have hk0 : k - ys.length = 0 := by
            cases hq : k - ys.length with
            | zero => rfl
            | succ j => rw [hq] at hv; simp at hv
          rw [hk0] at hv
          have hv : some y = some v := hv
          injection hv with hv; subst hv
          have : k = i := by omega
          rw [this]; exact ay₅
      · intro b o hb e
        have hlt' := Heap.lt_size e
        exact up₅ b o hb (fun z => by rw [z] at hlt'; exact Nat.lt_irrefl _ (Nat.lt_of_lt_of_le hlt' hI1)) (fun z => by
          have := Heap.lt_size (k₁ _ _ e)
          rw [z] at this; exact Nat.lt_irrefl _ (Nat.lt_trans this (Nat.lt_succ_self _))) (fun z => by
          have := Heap.lt_size (k₁ _ _ e)
          rw [z] at this; exact Nat.lt_irrefl _ this) (hk' b o hb e)
      · intro b o e hf
        have hlt' := Heap.lt_size e
        have hlt1 := Heap.lt_size (k₁ _ _ e)
        obtain ⟨sl, q⟩ := hu' b o e hf
        have q₃ := up₃ b _ (fun z => by rw [z] at hlt'; exact Nat.lt_irrefl _ (Nat.lt_of_lt_of_le hlt' hI1)) (fun z => by rw [z] at hlt1; exact Nat.lt_irrefl _ (Nat.lt_trans hlt1 (Nat.lt_succ_self _))) q
        obtain ⟨sl', q₄⟩ := ef₄.up b _ q₃ hf
        exact ⟨sl', k₅ b _ (fun z => by rw [List.mem_singleton.mp z] at hlt1; exact Nat.lt_irrefl _ hlt1) q₄⟩
    · have hi3 : i = 3 := by omega
      subst hi3
      refine W.done _ _ _ hIt fun h₂ tk₂ hk₂ => ?_
      have B₂ := B'.touch [I] (fun b hb => by rw [List.mem_singleton.mp hb]; exact ⟨hLI, hnI⟩) hk₂
      have hCI : h₁.objs.size + 1 ∉ [I] := by simp only [List.mem_singleton]; exact Nat.ne_of_gt (Nat.lt_succ_of_lt hI2)
      have hC₂ : h₂.Ns (h₁.objs.size + 1) mm := hC.at' fun o e => hk₂ _ o hCI e
      have hnC : ¬ h₂.CodeRec (.ref (h₁.objs.size + 1)) innerQ := by
        rintro ⟨c, o, vs, t, e, g, gd, gv⟩
        injection e with e; subst e
        obtain ⟨oC, es, ep, g1, g2, _⟩ := hC₂
        rw [g1] at g; injection g with g; subst g; rw [g2] at gd; cases gd
      refine ⟨rfl, ⟨mm, hC₂⟩, fun h₃ sb₃ => ?_⟩
      have B₃ := B₂.touch [h₁.objs.size + 1] (fun b hb => by rw [List.mem_singleton.mp hb]; exact ⟨Nat.lt_succ_of_lt hL1, hnC⟩) fun b o hb e => (sb₃.2 b (fun z => hb (List.mem_singleton.mpr z))).trans e
      have up₃ : ∀ b o, b ≠ I → b ≠ h₁.objs.size + 1 → h'.get? b = some o → h₃.get? b = some o := fun b o b1 b2 e => (sb₃.2 b b2).trans (hk₂ b o (fun z => b1 (List.mem_singleton.mp z)) e)
      have ansUp : ∀ v a, AnsAt h' v a → AnsAt h₃ v a := fun v a x => x.tup fun b o xs n' e hc hd => up₃ b o (fun z => by
          rw [z, hIt] at e; injection e with e; subst e; cases hd) (fun z => by
          obtain ⟨oC, es, ep, g1, g2, _⟩ := hC
          rw [z, g1] at e; injection e with e; subst e; rw [g2] at hd; cases hd) e
      obtain ⟨va, vb, vc, rfl⟩ := three_of hyl
      · refine hP h₃ _ h₁.objs.size va vb vc B₃ (fun b o hb e => ?_) (fun b o e hf => ?_) (Nat.le_of_lt (Nat.lt_of_le_of_lt hI1 hI2)) ?_ (ansUp _ _ ?_) (ansUp _ _ ?_) (ansUp _ _ ?_)
        · have hlt' := Heap.lt_size e
          exact up₃ b o (fun z => by rw [z] at hlt'; exact Nat.lt_irrefl _ (Nat.lt_of_lt_of_le hlt' hI1)) (fun z => by
            have := Heap.lt_size (k₁ _ _ e)
            rw [z] at this; exact Nat.lt_irrefl _ (Nat.lt_trans this (Nat.lt_succ_self _))) (hk' b o hb e)
        · have hlt' := Heap.lt_size e
          have hlt1 := Heap.lt_size (k₁ _ _ e)
          obtain ⟨sl, q⟩ := hu' b o e hf
          exact ⟨sl, up₃ b _ (fun z => by rw [z] at hlt'; exact Nat.lt_irrefl _ (Nat.lt_of_lt_of_le hlt' hI1)) (fun z => by rw [z] at hlt1; exact Nat.lt_irrefl _ (Nat.lt_trans hlt1 (Nat.lt_succ_self _))) q⟩
        · obtain ⟨n', g1⟩ := hD
          exact ⟨_, up₃ _ _ (Nat.ne_of_gt hI2) (Nat.ne_of_lt (Nat.lt_succ_self _)) g1, rfl, n', rfl⟩
        · rw [← a0]; exact hys 0 va rfl
        · rw [← a1]; exact hys 1 vb rfl
        · rw [← a2]; exact hys 2 vc rfl
  · refine ⟨0, [], _, _, fun _ => none, rfl, by omega, rfl, B.keeps fun b o e => Heap.get?_push_of_some _ (Heap.get?_push_of_some _ (k₁ b o e)), Heap.get?_push_of_some _ (Heap.get?_push_of_some _ hI), ⟨_, Heap.get?_push_of_some _ (Heap.get?_push_size _ rfl)⟩, ?_, rfl, fun k v e => by simp at e, fun b o _ e => Heap.get?_push_of_some _ (Heap.get?_push_of_some _ (k₁ b o e)), .of_keeps fun b o e => Heap.get?_push_of_some _ (Heap.get?_push_of_some _ (k₁ b o e))⟩
    have := Heap.Ns.new (h₁.push { cls := .type "list", data := .seq #[] }) (.type "dict")
    rw [Heap.size_push] at this
    exact this
end
end Mine
end

noncomputable section -- NbTold2
open PySem PySem.W PyProof.Rows
open PySem.Builtin PySem.Builtin.Str PySem.Builtin.BaseException
set_option maxRecDepth 100000
namespace Mine

/-- a row of answers whose list lies behind D -/
noncomputable def RowD (D : Addr) (h : Heap) (v : Value) (r : Row3) : Prop := ∃ a va vb vc, v = .ref a ∧ D < a ∧ h.IsList a #[va, vb, vc] ∧ AnsAt h va r.1 ∧ AnsAt h vb r.2.1 ∧ AnsAt h vc r.2.2
theorem isList_up {h h' : Heap} {a : Addr} {xs : Array Value} (x : h.IsList a xs) (k : h.UpToSlots h') : h'.IsList a xs := by
  obtain ⟨o, ho, hc, n, hd⟩ := x
  obtain ⟨sl, q⟩ := k a o ho fun vs z => by rw [hd] at z; cases z
  exact ⟨_, q, hc, n, hd⟩
theorem RowD.up {D : Addr} {h h' : Heap} {v : Value} {r : Row3} (x : RowD D h v r) (k : h.UpToSlots h') : RowD D h' v r := by
  obtain ⟨a, va, vb, vc, e, hD, hl, h1, h2, h3⟩ := x
  exact ⟨a, va, vb, vc, e, hD, isList_up hl k, h1.up k, h2.up k, h3.up k⟩
theorem RowD.seq {D : Addr} {h h' : Heap} {v : Value} {r : Row3} (x : RowD D h v r) (k : ∀ b o xs n, h.get? b = some o → o.data = .seq xs n → (b = D → o.cls = .type "tuple") → h'.get? b = some o) : RowD D h' v r := by
  obtain ⟨a, va, vb, vc, e, hD, ⟨o, ho, hc, n, hd⟩, h1, h2, h3⟩ := x
  refine ⟨a, va, vb, vc, e, hD, ⟨o, k a o _ _ ho hd fun z => absurd z (Nat.ne_of_gt hD), hc, n, hd⟩, h1.tup ?_, h2.tup ?_, h3.tup ?_⟩ <;>
    exact fun b o xs n e hc hd => k b o xs n e hd fun _ => hc
theorem RowD.row {D : Addr} {h : Heap} {v : Value} {r : Row3} (x : RowD D h v r) : RowAt h v r :=
  let ⟨a, va, vb, vc, e, _, hl, h1, h2, h3⟩ := x; ⟨a, va, vb, vc, e, hl, h1, h2, h3⟩

theorem paired_of_get {α β : Type} {F : α → β → Prop} : ∀ {l₁ : List α} {l₂ : List β}, l₁.length = l₂.length → (∀ (k : Nat) a b, l₁[k]? = some a → l₂[k]? = some b → F a b) → Paired F l₁ l₂
  | [], [], _, _ => .nil
  | a :: l₁, b :: l₂, e, h => .cons (h 0 a b rfl rfl) (paired_of_get (by simpa using e) fun k x y p q => h (k + 1) x y (by simpa using p) (by simpa using q))

section
variable {w : World} {A : Around} {n : Nat} {outer : List Env} {s : Shared} {E : Value → Shared → Prop} {hs h : Heap} {L : Addr} {m : Str → Option Value} {cd : Value}

theorem told_out {pt ps : Pos} (hsw : swapsWith toldE (some (.Name "told" pt)) ps.line (envC (stAt 27) L 175 cd) = pure true) (B : Bd w hs outer (envC (stAt 27) L 175 cd) L h m) (fa : A.frames = some outer) (dep : A.depth ≤ 301 + n) (uni : A.units ≤ 40 + 40 * n) (hn : n ≤ 11) (hh : A.handled = none)
    (src : Str) (hsz : src.length ≤ 1000) (hcp : ∀ c ∈ src.cps.toList, c < 16 ^ 8) {t : Tok} (cellS : h.IsCell (L + 2) (some (.str src t)))
    (rows : List Row3) (hrl : rows.length = src.length + 2) (hr : ∀ (p : Nat) r, rows[p]? = some r → Asked src.cps.toList p 0 r.1 ∧ Asked src.cps.toList p 1 r.2.1 ∧ Asked src.cps.toList p 2 r.2.2) {tk : Nat} {P : Flow → Shared → Prop}
    (hP : ∀ h' tk' D ys, Bd w hs outer (envC (stAt 27) L 175 cd) L h' (fun y => if y = "told" then some (.ref D) else m y) → (∀ b o, L < b → h.get? b = some o → h'.get? b = some o) → h.objs.size ≤ D → h'.IsList D (List.toArray ys) → Paired (RowAt h') ys rows →
      P .next { s with heap := h', toks := tk' }) :
    wpAny (model prg w) (A.deeper (envC (stAt 27) L 175 cd)) (exec (.Assign [.Name "told" pt] toldE ps) (envC (stAt 27) L 175 cd)) P E { s with heap := h, toks := tk } := by
  refine comp_openU (s := { s with heap := h, toks := tk }) (cl := [("sent", L + 2)]) hsw rfl rfl (by decide) ?_
  have hhd : (A.deeper (envC (stAt 27) L 175 cd)).handled = none := hh
  have hLh : L < h.objs.size := by obtain ⟨oL, es, ep, g1, _⟩ := B.fr.ns; exact Heap.lt_size g1
  refine Call_nm1 (bnE (s := { s with heap := h, toks := tk }) B.fr.keep B.pb.b_range ?_)
  refine ct1 (wpAny_BinOp (Call_nm1 (bnE (s := { s with heap := h, toks := tk }) B.fr.keep B.pb.b_len (cw1 (wpAny_Name (wpAny_loadName_cell rfl rfl rfl cellS ?_) (by decide))))))
  refine len_str (by omega) ?_
  refine wpAny_Constant_int (add_int ?_)
  have eN : ((src.length : Nat) : Int) + 2 = ((src.length + 2 : Nat) : Int) := by omega
  refine range1_it (n := src.length + 2) (s := { s with heap := h, toks := _ }) (by omega) fun h₁ tk₁ I k₁ hI hI1 hI2 => ?_
  refine ⟨I, src.length + 2, _, _, rfl, (Walks.range hhd I 0 1 (src.length + 2)).bound, hI, ?_⟩
  have hL1 : L < h₁.objs.size := Nat.lt_of_lt_of_le hLh (Nat.le_of_lt (Nat.lt_of_le_of_lt hI1 hI2))
  have hLI : L < I := Nat.lt_of_lt_of_le hLh hI1
  have hDI : h₁.objs.size ∉ [I] := by simp only [List.mem_singleton]; exact Nat.ne_of_gt hI2
  have hCI : h₁.objs.size + 1 ∉ [I] := by simp only [List.mem_singleton]; exact Nat.ne_of_gt (Nat.lt_succ_of_lt hI2)
  have hPI : h₁.objs.size + 2 ∉ [I] := by simp only [List.mem_singleton]; exact Nat.ne_of_gt (Nat.lt_succ_of_lt (Nat.lt_succ_of_lt hI2))
  have hDC : h₁.objs.size ≠ h₁.objs.size + 1 := Nat.ne_of_lt (Nat.lt_succ_self _)
  have hDP : h₁.objs.size ≠ h₁.objs.size + 2 := Nat.ne_of_lt (Nat.lt_succ_of_lt (Nat.lt_succ_self _))
  have hCP : h₁.objs.size + 1 ≠ h₁.objs.size + 2 := Nat.ne_of_lt (Nat.lt_succ_self _)
  have old : ∀ b o, h.get? b = some o → b ≠ I ∧ b ≠ h₁.objs.size ∧ b ≠ h₁.objs.size + 1 ∧ b ≠ h₁.objs.size + 2 := fun b o e => by
    have h1 := Heap.lt_size e
    have h2 := Heap.lt_size (k₁ b o e)
    refine ⟨fun z => ?_, fun z => ?_, fun z => ?_, fun z => ?_⟩
    · rw [z] at h1; exact Nat.lt_irrefl _ (Nat.lt_of_lt_of_le h1 hI1)
    · rw [z] at h2; exact Nat.lt_irrefl _ h2
    · rw [z] at h2; exact Nat.lt_irrefl _ (Nat.lt_trans h2 (Nat.lt_succ_self _))
    · rw [z] at h2; exact Nat.lt_irrefl _ (Nat.lt_trans h2 (Nat.lt_succ_of_lt (Nat.lt_succ_self _)))
  refine codeAny_compLoop_list (fun q s' => ∃ (i : Nat) (ys : List Value) (h' : Heap) (tk' : Nat) (mm : Str → Option Value) (vp : Option Value), s' = { s with heap := h', toks := tk' } ∧ i ≤ src.length + 2 ∧ q = src.length + 3 - i ∧ Bd w hs outer (envC (stAt 27) L 175 cd) L h' m ∧
      IsRangeIter h' I ((0 : Int) + (i : Nat) * 1) ((src.length + 2 : Nat) - (i : Nat) : Int) 1 ∧ h'.PlainList h₁.objs.size ys.toArray ∧ h'.Ns (h₁.objs.size + 1) mm ∧ h'.IsCell (h₁.objs.size + 2) vp ∧ ys.length = i ∧ (∀ (k : Nat) v r, ys[k]? = some v → rows[k]? = some r → RowD h₁.objs.size h' v r) ∧
      (∀ b o, L < b → h.get? b = some o → h'.get? b = some o)) ?_ (src.length + 3) ?_
  · rintro q s' ⟨i, ys, h', tk', mm, vp, rfl, hi, rfl, B', hIt, hD, hC, hCell, hyl, hys, hk'⟩
    have W := Walks.range (prog := prg) (w := w) (A := A.deeper (envC (stAt 27) L 175 cd)) hhd I 0 1 (src.length + 2)
    have hnI : ¬ h'.CodeRec (.ref I) innerQ := by
      rintro ⟨c, o, vs, t, e, g, gd, gv⟩
      injection e with e; subst e
      rw [hIt] at g; injection g with g; subst g
      injection gd with gd; subst gd
      cases gv
    by_cases hlt : i < src.length + 2
    · refine W.item i _ _ _ hlt hIt fun v h₂ tk₂ hPv hst₂ hk₂ => ?_
      obtain ⟨tv, rfl⟩ := hPv
      have B₂ := B'.touch [I] (fun b hb => by rw [List.mem_singleton.mp hb]; exact ⟨hLI, hnI⟩) hk₂
      have cell₂ : h₂.IsCell (h₁.objs.size + 2) vp := by obtain ⟨o, ho, hd⟩ := hCell; exact ⟨o, hk₂ _ o hPI ho, hd⟩
      refine wpAny_assign_Name (wpAny_storeName_cell rfl rfl rfl cell₂ fun h₃ cell₃ sb₃ => ?_)
      have sb₃ : Heap.SameBut (h₁.objs.size + 2) h₂ h₃ := sb₃
      have hi0 : (0 : Int) + (i : Int) * 1 = (i : Int) := by omega
      rw [hi0] at cell₃
      have hnP : ¬ h₂.CodeRec (.ref (h₁.objs.size + 2)) innerQ := by
        rintro ⟨c, o, vs, t, e, g, gd, gv⟩
        injection e with e; subst e
        obtain ⟨oC, g1, g2⟩ := cell₂
        rw [g1] at g; injection g with g; subst g; rw [g2] at gd; cases gd
      have hLP : L < h₁.objs.size + 2 := Nat.lt_succ_of_lt (Nat.lt_succ_of_lt hL1)
      have B₃ := B₂.touch [h₁.objs.size + 2] (fun b hb => by rw [List.mem_singleton.mp hb]; exact ⟨hLP, hnP⟩) fun b o hb e => (sb₃.2 b (fun z => hb (List.mem_singleton.mpr z))).trans e
      have up₃ : ∀ b o, b ≠ I → b ≠ h₁.objs.size + 2 → h'.get? b = some o → h₃.get? b = some o := fun b o b1 b2 e => (sb₃.2 b b2).trans (hk₂ b o (fun z => b1 (List.mem_singleton.mp z)) e)
      have cS : h₃.IsCell (L + 2) (some (.str src t)) := by
        obtain ⟨o, ho, hd⟩ := cellS
        obtain ⟨n1, n2, n3, n4⟩ := old _ o ho
        exact ⟨o, up₃ _ o n1 n4 (hk' _ o (Nat.lt_succ_of_lt (Nat.lt_succ_self _)) ho), hd⟩
      obtain ⟨r, hr0⟩ : ∃ r, rows[i]? = some r := ⟨rows[i]'(by omega), List.getElem?_eq_getElem (by omega)⟩
      obtain ⟨hq0, hq1, hq2⟩ := hr i r hr0
      refine told_in (C := h₁.objs.size + 1) B₃ fa dep uni hn hh src hsz hcp i (by omega) cS cell₃ (Nat.lt_succ_of_lt (Nat.lt_succ_self _)) hLP hq0 hq1 hq2 fun h₄ tk₄ D' va vb vc B₄ keep₄ up₄ hD' hl' ha hb hc => ?_
      have hD₃ : h₃.PlainList h₁.objs.size ys.toArray := hD.at fun o e => up₃ _ o (Nat.ne_of_gt hI2) hDP e
      have hD₄ : h₄.PlainList h₁.objs.size ys.toArray := hD₃.at fun o e => keep₄ _ o hL1 e
      have hKD : h₁.objs.size < D' := by obtain ⟨n', e⟩ := hD₃; exact Nat.lt_of_lt_of_le (Heap.lt_size e) hD'
      have hnD : ¬ h₄.CodeRec (.ref h₁.objs.size) innerQ := by
        rintro ⟨c, o, vs, t, e, g, gd, gv⟩
        injection e with e; subst e
        obtain ⟨n', g1⟩ := hD₄
        rw [g1] at g; injection g with g; subst g; cases gd
      refine wpAny_list_append_plain hD₄ (fun h₅ hD₅ sb₅ => ?_) (by rw [List.size_toArray, sizeLine_eq]; omega)
      have k₅ : ∀ b o, b ∉ [h₁.objs.size] → h₄.get? b = some o → h₅.get? b = some o := fun b o hb e => (sb₅.2 b fun z => hb (List.mem_singleton.mpr z)).trans e
      have B₅ := B₄.touch [h₁.objs.size] (fun b hb => by rw [List.mem_singleton.mp hb]; exact ⟨hL1, hnD⟩) k₅
      have to5 : ∀ v r, RowD h₁.objs.size h₄ v r → RowD h₁.objs.size h₅ v r := fun v r x => x.seq fun b o xs n' e hd hcl => k₅ b o (fun z => by
        have z := List.mem_singleton.mp z
        obtain ⟨n'', g1⟩ := hD₄
        have hcl := hcl z
        rw [z, g1] at e; injection e with e; subst e; revert hcl; simp) e
      have up₅ : ∀ b o, L < b → b ≠ I → b ≠ h₁.objs.size + 2 → b ≠ h₁.objs.size → h'.get? b = some o → h₅.get? b = some o := fun b o b0 b1 b2 b3 e => k₅ b o (fun z => b3 (List.mem_singleton.mp z)) (keep₄ b o b0 (up₃ b o b1 b2 e))
      refine ⟨src.length + 3 - (i + 1), by omega, i + 1, ys ++ [.ref D'], h₅, tk₄, mm, some (.int (i : Int) tv), rfl, by omega, rfl, B₅, ?_, ?_, ?_, ?_, by rw [List.length_append, hyl]; rfl, ?_, ?_⟩
      · exact k₅ I _ (by simp only [List.mem_singleton]; exact Nat.ne_of_lt hI2) (keep₄ I _ hLI ((sb₃.2 I (Nat.ne_of_lt (Nat.lt_succ_of_lt (Nat.lt_succ_of_lt hI2)))).trans hst₂))
      · have : (ys ++ [Value.ref D']).toArray = ys.toArray.push (.ref D') := by simp
        rw [this]; exact hD₅
      · exact hC.at' fun o e => up₅ _ o (Nat.lt_succ_of_lt hL1) (fun z => hCI (List.mem_singleton.mpr z)) hCP (Ne.symm hDC) e
      · obtain ⟨o, ho, hd⟩ := cell₃
        exact ⟨o, k₅ _ o (by simp only [List.mem_singleton]; exact Ne.symm hDP) (keep₄ _ o hLP ho), hd⟩
      · intro k v r' hv hr'
        by_cases hkl : k < ys.length
        · rw [List.getElem?_append_left hkl] at hv
          have x := hys k v r' hv hr'
          have x₃ : RowD h₁.objs.size h₃ v r' := x.seq fun b o xs n' e hd _ => up₃ b o (fun z => by
            rw [z, hIt] at e; injection e with e; subst e; cases hd) (fun z => by
            obtain ⟨oC, g1, g2⟩ := hCell
            rw [z, g1] at e; injection e with e; subst e; rw [g2] at hd; cases hd) e
          exact to5 _ _ (x₃.up up₄)
        · rw [List.getElem?_append_right (by omega)] at hv
          have hk0 : k - ys.length = 0 := by
            cases hq : k - ys.length with
            | zero => rfl
            | succ j => rw [hq] at hv; simp at hv
          rw [hk0] at hv
          have hv : some (Value.ref D') = some v := hv
          injection hv with hv; subst hv
          have hki : k = i := by omega
          rw [hki, hr0] at hr'; injection hr' with hr'; subst hr'
          exact to5 _ _ ⟨D', va, vb, vc, rfl, hKD, hl', ha, hb, hc⟩
      · intro b o hb e
        obtain ⟨n1, n2, n3, n4⟩ := old b o e
        exact up₅ b o hb n1 n4 n2 (hk' b o hb e)
    · have hiN : i = src.length + 2 := by omega
      subst hiN
      refine W.done _ _ _ hIt fun h₂ tk₂ hk₂ => ?_
      have B₂ := B'.touch [I] (fun b hb => by rw [List.mem_singleton.mp hb]; exact ⟨hLI, hnI⟩) hk₂
      have hC₂ : h₂.Ns (h₁.objs.size + 1) mm := hC.at' fun o e => hk₂ _ o hCI e
      have hnC : ¬ h₂.CodeRec (.ref (h₁.objs.size + 1)) innerQ := by
        rintro ⟨c, o, vs, t, e, g, gd, gv⟩
        injection e with e; subst e
        obtain ⟨oC, es, ep, g1, g2, _⟩ := hC₂
        rw [g1] at g; injection g with g; subst g; rw [g2] at gd; cases gd
      refine ⟨rfl, wpAny_assign_Name (wpAny_storeName_local rfl B₂.fr.ns (fun h₃ hn₃ hs₃ => ?_) rfl)⟩
      have hs₃ : Heap.SameBut L h₂ h₃ := hs₃
      have B₃ := B₂.set hn₃ hs₃
      have hCL : h₁.objs.size + 1 ≠ L := Nat.ne_of_gt (Nat.lt_succ_of_lt hL1)
      have hC₃ : h₃.Ns (h₁.objs.size + 1) mm := hC₂.sameBut hs₃ hCL
      refine ⟨mm, hC₃, fun h₄ sb₄ => ?_⟩
      have sb₄ : Heap.SameBut (h₁.objs.size + 1) h₃ h₄ := sb₄
      have hnC₃ : ¬ h₃.CodeRec (.ref (h₁.objs.size + 1)) innerQ := by
        rintro ⟨c, o, vs, t, e, g, gd, gv⟩
        injection e with e; subst e
        obtain ⟨oC, es, ep, g1, g2, _⟩ := hC₃
        rw [g1] at g; injection g with g; subst g; rw [g2] at gd; cases gd
      have B₄ := B₃.touch [h₁.objs.size + 1] (fun b hb => by rw [List.mem_singleton.mp hb]; exact ⟨Nat.lt_succ_of_lt hL1, hnC₃⟩) fun b o hb e => (sb₄.2 b (fun z => hb (List.mem_singleton.mpr z))).trans e
      have up₄ : ∀ b o, b ≠ I → b ≠ L → b ≠ h₁.objs.size + 1 → h'.get? b = some o → h₄.get? b = some o := fun b o b1 b0 b2 e => (sb₄.2 b b2).trans ((hs₃.2 b b0).trans (hk₂ b o (fun z => b1 (List.mem_singleton.mp z)) e))
      refine hP h₄ _ h₁.objs.size ys B₄ (fun b o hb e => ?_) (Nat.le_of_lt (Nat.lt_of_le_of_lt hI1 hI2)) ?_ (paired_of_get (by omega) fun k v r' hv hr' => ?_)
      · obtain ⟨n1, n2, n3, n4⟩ := old b o e
        exact up₄ b o n1 (Nat.ne_of_gt hb) n3 (hk' b o hb e)
      · obtain ⟨n', g1⟩ := hD
        exact ⟨_, up₄ _ _ (Nat.ne_of_gt hI2) (Nat.ne_of_gt hL1) hDC g1, rfl, n', rfl⟩
      · have x := hys k v r' hv hr'
        exact (x.seq fun b o xs n' e hd _ => up₄ b o (fun z => by
            rw [z, hIt] at e; injection e with e; subst e; cases hd) (fun z => by
            obtain ⟨oC, es, ep, g1, g2, _⟩ := B'.fr.ns
            rw [z, g1] at e; injection e with e; subst e; rw [g2] at hd; cases hd) (fun z => by
            obtain ⟨oC, es, ep, g1, g2, _⟩ := hC
            rw [z, g1] at e; injection e with e; subst e; rw [g2] at hd; cases hd) e).row
  · have kp : ∀ b o, h₁.get? b = some o → (pushCells ((h₁.push { cls := .type "list", data := .seq #[] }).push { cls := .type "dict", data := .dict #[] }) (scopeOf toldE).names).get? b = some o := fun b o e => pushCells_keeps _ _ b o (Heap.get?_push_of_some _ (Heap.get?_push_of_some _ e))
    refine ⟨0, [], _, _, fun _ => none, none, rfl, by omega, rfl, B.keeps fun b o e => kp b o (k₁ b o e), kp _ _ hI, ⟨_, pushCells_keeps _ _ _ _ (Heap.get?_push_of_some _ (Heap.get?_push_size _ rfl))⟩, ?_, ?_, rfl, fun k v r e => by simp at e, fun b o _ e => kp b o (k₁ b o e)⟩
    · have := Heap.Ns.new (h₁.push { cls := .type "list", data := .seq #[] }) (.type "dict")
      rw [Heap.size_push] at this
      exact this.at' fun o e => pushCells_keeps _ _ _ o e
    · have hq := Heap.get?_push_size ((h₁.push { cls := .type "list", data := .seq #[] }).push { cls := .type "dict", data := .dict #[] }) (o := { cls := .type "cell", data := .cell none }) rfl
      rw [Heap.size_push, Heap.size_push] at hq
      exact ⟨_, hq, rfl⟩
end
end Mine
end

noncomputable section -- NbToldP
open PySem PySem.W PyProof.Rows
open PySem.Builtin PySem.Builtin.Str PySem.Builtin.BaseException
set_option maxRecDepth 100000
namespace Mine
noncomputable def toldP : Expr := valOf ((bdyOfS (stAt 27)).getD 6 (.Pass default))
section
variable {w : World} {A : Around} {n : Nat} {outer : List Env} {s : Shared} {E : Value → Shared → Prop} {hs h : Heap} {L C cs cp : Addr} {m : Str → Option Value} {cd : Value}

theorem told_inP (B : Bd w hs outer (envC (stAt 27) L 175 cd) L h m) (fa : A.frames = some outer) (dep : A.depth ≤ 301 + n) (uni : A.units ≤ 40 + 40 * n) (hn : n ≤ 11) (hh : A.handled = none)
    (src : Str) (hsz : src.length ≤ 1000) (hcp : ∀ c ∈ src.cps.toList, c < 16 ^ 8) (p : Nat) (hp : p ≤ 1300) {t t' : Tok} (cellS : h.IsCell cs (some (.str src t))) (cellP : h.IsCell cp (some (.int (p : Nat) t'))) (hcs : L < cs) (hcL : L < cp)
    {r : Row3} (h0 : Asked src.cps.toList p 0 r.1) (h1 : Asked src.cps.toList p 1 r.2.1) (h2 : Asked src.cps.toList p 2 r.2.2) {tk : Nat} {P : Value → Shared → Prop}
    (hP : ∀ h' tk' D va vb vc, Bd w hs outer (envC (stAt 27) L 175 cd) L h' m → (∀ b o, L < b → h.get? b = some o → h'.get? b = some o) → h.UpToSlots h' → h.objs.size ≤ D → h'.IsList D #[va, vb, vc] → AnsAt h' va r.1 → AnsAt h' vb r.2.1 → AnsAt h' vc r.2.2 →
      P (.ref D) { s with heap := h', toks := tk' }) :
    wpAny (model prg w) (A.deeper (envC (stAt 27) L 175 cd)) (eval (eltOf toldP) (cEnv (scopeOf toldP) [("p", cp), ("plain", cs)] C (envC (stAt 27) L 175 cd))) P E { s with heap := h, toks := tk } := by
  refine comp_open (s := { s with heap := h, toks := tk }) (cl := [("plain", cs), ("p", cp)]) rfl rfl (by decide) ?_
  have hhd : (A.deeper (envC (stAt 27) L 175 cd)).handled = none := hh
  have hLh : L < h.objs.size := by obtain ⟨oL, es, ep, g1, _⟩ := B.fr.ns; exact Heap.lt_size g1
  refine Call_nm1 (bnE (s := { s with heap := h, toks := tk }) B.fr.keep B.pb.b_range ?_)
  refine ct1 (wpAny_Constant_int ?_)
  refine range1_it (n := 3) (s := { s with heap := h, toks := _ }) (by decide) fun h₁ tk₁ I k₁ hI hI1 hI2 => ?_
  refine ⟨I, 3, _, _, rfl, (Walks.range hhd I 0 1 3).bound, hI, ?_⟩
  rw [pushCells_none (by decide)]
  have ansK : ∃ an : Nat → Ans, an 0 = r.1 ∧ an 1 = r.2.1 ∧ an 2 = r.2.2 ∧ ∀ k, k < 3 → Asked src.cps.toList p k (an k) :=
    ⟨fun k => if k = 0 then r.1 else if k = 1 then r.2.1 else r.2.2, rfl, rfl, rfl, fun k hk => by
      have hk3 : k = 0 ∨ k = 1 ∨ k = 2 := by omega
      rcases hk3 with rfl | rfl | rfl
      · exact h0
      · exact h1
      · exact h2⟩
  obtain ⟨an, a0, a1, a2, hAn⟩ := ansK
  have hL1 : L < h₁.objs.size := Nat.lt_of_lt_of_le hLh (Nat.le_of_lt (Nat.lt_of_le_of_lt hI1 hI2))
  have hLI : L < I := Nat.lt_of_lt_of_le hLh hI1
  refine codeAny_compLoop_list (fun q s' => ∃ (i : Nat) (ys : List Value) (h' : Heap) (tk' : Nat) (mm : Str → Option Value), s' = { s with heap := h', toks := tk' } ∧ i ≤ 3 ∧ q = 4 - i ∧ Bd w hs outer (envC (stAt 27) L 175 cd) L h' m ∧
      IsRangeIter h' I ((0 : Int) + (i : Nat) * 1) ((3 : Nat) - (i : Nat) : Int) 1 ∧ h'.PlainList h₁.objs.size ys.toArray ∧ h'.Ns (h₁.objs.size + 1) mm ∧ ys.length = i ∧ (∀ k v, ys[k]? = some v → AnsAt h' v (an k)) ∧
      (∀ b o, L < b → h.get? b = some o → h'.get? b = some o) ∧ h.UpToSlots h') ?_ 4 ?_
  · rintro q s' ⟨i, ys, h', tk', mm, rfl, hi, rfl, B', hIt, hD, hC, hyl, hys, hk', hu'⟩
    have W := Walks.range (prog := prg) (w := w) (A := A.deeper (envC (stAt 27) L 175 cd)) hhd I 0 1 3
    have hnI : ¬ h'.CodeRec (.ref I) innerQ := by
      rintro ⟨c, o, vs, t, e, g, gd, gv⟩
      injection e with e; subst e
      rw [hIt] at g; injection g with g; subst g
      injection gd with gd; subst gd
      cases gv
    by_cases hlt : i < 3
    · refine W.item i _ _ _ hlt hIt fun v h₂ tk₂ hPv hst₂ hk₂ => ?_
      obtain ⟨tv, rfl⟩ := hPv
      have B₂ := B'.touch [I] (fun b hb => by rw [List.mem_singleton.mp hb]; exact ⟨hLI, hnI⟩) hk₂
      have hD' : h'.get? h₁.objs.size ≠ none := by obtain ⟨n', e⟩ := hD; rw [e]; intro z; cases z
      have hDI : h₁.objs.size ∉ [I] := by simp only [List.mem_singleton]; exact Nat.ne_of_gt hI2
      have hCI : h₁.objs.size + 1 ∉ [I] := by simp only [List.mem_singleton]; exact Nat.ne_of_gt (Nat.lt_succ_of_lt hI2)
      have hC₂ : h₂.Ns (h₁.objs.size + 1) mm := hC.at' fun o e => hk₂ _ o hCI e
      refine wpAny_assign_Name (wpAny_storeName_local rfl hC₂ (fun h₃ hC₃ sb₃ => ?_) rfl)
      have sb₃ : Heap.SameBut (h₁.objs.size + 1) h₂ h₃ := sb₃
      have hC₃ : h₃.Ns (h₁.objs.size + 1) (fun y => if y = "k" then some (.int ((0 : Int) + (i : Int) * 1) tv) else mm y) := hC₃
      have hnC : ¬ h₂.CodeRec (.ref (h₁.objs.size + 1)) innerQ := by
        rintro ⟨c, o, vs, t, e, g, gd, gv⟩
        injection e with e; subst e
        obtain ⟨oC, es, ep, g1, g2, _⟩ := hC₂
        rw [g1] at g; injection g with g; subst g; rw [g2] at gd; cases gd
      have B₃ := B₂.touch [h₁.objs.size + 1] (fun b hb => by rw [List.mem_singleton.mp hb]; exact ⟨Nat.lt_succ_of_lt hL1, hnC⟩) fun b o hb e => (sb₃.2 b (fun z => hb (List.mem_singleton.mpr z))).trans e
      have up₃ : ∀ b o, b ≠ I → b ≠ h₁.objs.size + 1 → h'.get? b = some o → h₃.get? b = some o := fun b o b1 b2 e => (sb₃.2 b b2).trans (hk₂ b o (fun z => b1 (List.mem_singleton.mp z)) e)
      have hi0 : (0 : Int) + (i : Int) * 1 = (i : Int) := by omega
      rw [hi0] at hC₃
      have cS : h₃.IsCell cs (some (.str src t)) := by
        obtain ⟨o, ho, hd⟩ := cellS
        have hlt' := Heap.lt_size ho
        exact ⟨o, up₃ cs o (fun z => by rw [z] at hlt'; exact Nat.lt_irrefl _ (Nat.lt_of_lt_of_le hlt' hI1)) (fun z => by
          have := Heap.lt_size (k₁ _ _ ho)
          rw [z] at this; exact Nat.lt_irrefl _ (Nat.lt_trans this (Nat.lt_succ_self _))) (hk' cs o hcs ho), hd⟩
      have cP : h₃.IsCell cp (some (.int (p : Nat) t')) := by
        obtain ⟨o, ho, hd⟩ := cellP
        have hlt' := Heap.lt_size ho
        exact ⟨o, up₃ cp o (fun z => by rw [z] at hlt'; exact Nat.lt_irrefl _ (Nat.lt_of_lt_of_le hlt' hI1)) (fun z => by
          have := Heap.lt_size (k₁ _ _ ho)
          rw [z] at this; exact Nat.lt_irrefl _ (Nat.lt_trans this (Nat.lt_succ_self _))) (hk' cp o hcL ho), hd⟩
      refine Call_nm3 (gnE (s := { s with heap := h₃, toks := _ }) B₃.fr.keep B₃.pb.asked ?_)
      refine cf3 (wpAny_Name (wpAny_loadName_local rfl rfl hC₃ (if_pos rfl) ?_) (by decide))
      refine wpAny_Name (wpAny_loadName_cell rfl rfl rfl cS ?_) (by decide)
      refine wpAny_Name (wpAny_loadName_cell rfl rfl rfl cP ⟨B₃.pb.f_asked.elim fun _ z => z.isFn B₃.fr.keep, ?_⟩) (by decide)
      refine asked_spec (s := { s with heap := h₃, toks := _ }) (B₃.ok fa dep uni) (by omega) hhd src hsz hcp p hp i hlt (hAn i hlt) fun h₄ tk₄ y ef₄ pl₄ ay => ?_
      have B₄ := B₃.after ef₄ pl₄
      have hDC : h₁.objs.size ≠ h₁.objs.size + 1 := Nat.ne_of_lt (Nat.lt_succ_self _)
      have hD₄ : h₄.PlainList h₁.objs.size ys.toArray := hD.at fun o e => B₃.own ef₄ hL1 (up₃ _ o (Nat.ne_of_gt hI2) hDC e)
      have hnD : ¬ h₄.CodeRec (.ref h₁.objs.size) innerQ := by
        rintro ⟨c, o, vs, t, e, g, gd, gv⟩
        injection e with e; subst e
        obtain ⟨n', g1⟩ := hD₄
        rw [g1] at g; injection g with g; subst g; cases gd
      refine wpAny_list_append_plain hD₄ (fun h₅ hD₅ sb₅ => ?_) (by rw [List.size_toArray, sizeLine_eq]; omega)
      have k₅ : ∀ b o, b ∉ [h₁.objs.size] → h₄.get? b = some o → h₅.get? b = some o := fun b o hb e => (sb₅.2 b fun z => hb (List.mem_singleton.mpr z)).trans e
      have B₅ := B₄.touch [h₁.objs.size] (fun b hb => by rw [List.mem_singleton.mp hb]; exact ⟨hL1, hnD⟩) k₅
      have up₅ : ∀ b o, L < b → b ≠ I → b ≠ h₁.objs.size + 1 → b ≠ h₁.objs.size → h'.get? b = some o → h₅.get? b = some o := fun b o b0 b1 b2 b3 e => k₅ b o (fun z => b3 (List.mem_singleton.mp z)) (B₃.own ef₄ b0 (up₃ b o b1 b2 e))
      have tup : ∀ {hh hh' : Heap} {b : Addr} {o : Obj} {xs : Array Value} {n' : Nat}, hh.get? b = some o → o.data = .seq xs n' → True := fun _ _ => trivial
      have ansUp : ∀ v a, AnsAt h' v a → AnsAt h₅ v a := fun v a x => by
        have x₃ : AnsAt h₃ v a := x.tup fun b o xs n' e hc hd => up₃ b o (fun z => by
          rw [z, hIt] at e; injection e with e; subst e; cases hd) (fun z => by
          obtain ⟨oC, es, ep, g1, g2, _⟩ := hC
          rw [z, g1] at e; injection e with e; subst e; rw [g2] at hd; cases hd) e
        have x₄ : AnsAt h₄ v a := x₃.up ef₄.up
        exact x₄.tup fun b o xs n' e hc hd => k₅ b o (fun z => by
          obtain ⟨n'', g1⟩ := hD₄
          rw [List.mem_singleton.mp z, g1] at e; injection e with e; subst e; revert hc; simp) e
      have ay₅ : AnsAt h₅ y (an i) := ay.tup fun b o xs n' e hc hd => k₅ b o (fun z => by
          obtain ⟨n'', g1⟩ := hD₄
          rw [List.mem_singleton.mp z, g1] at e; injection e with e; subst e; revert hc; simp) e
      refine ⟨4 - (i + 1), by omega, i + 1, ys ++ [y], h₅, tk₄, (fun y => if y = "k" then some (.int (i : Int) tv) else mm y), rfl, by omega, rfl, B₅, ?_, ?_, ?_, by rw [List.length_append, hyl]; rfl, ?_, ?_, ?_⟩
      · exact k₅ I _ (by simp only [List.mem_singleton]; exact Nat.ne_of_lt hI2) (B₃.own ef₄ hLI ((sb₃.2 I (Nat.ne_of_lt (Nat.lt_succ_of_lt hI2))).trans hst₂))
      · have : (ys ++ [y]).toArray = ys.toArray.push y := by simp
        rw [this]; exact hD₅
      · exact hC₃.at' fun o e => k₅ _ o (by simp only [List.mem_singleton]; exact Ne.symm hDC) (B₃.own ef₄ (Nat.lt_succ_of_lt hL1) e)
      · intro k v hv
        by_cases hkl : k < ys.length
        · rw [List.getElem?_append_left hkl] at hv
          exact ansUp v _ (hys k v hv)
        · rw [List.getElem?_append_right (by omega)] at hv
          have hk0 : k - ys.length = 0 := by
            cases hq : k - ys.length with
            | zero => rfl
            | succ j => rw [hq] at hv; simp at hv
          rw [hk0] at hv
          have hv : some y = some v := hv
          injection hv with hv; subst hv
          have : k = i := by omega
          rw [this]; exact ay₅
      · intro b o hb e
        have hlt' := Heap.lt_size e
        exact up₅ b o hb (fun z => by rw [z] at hlt'; exact Nat.lt_irrefl _ (Nat.lt_of_lt_of_le hlt' hI1)) (fun z => by
          have := Heap.lt_size (k₁ _ _ e)
          rw [z] at this; exact Nat.lt_irrefl _ (Nat.lt_trans this (Nat.lt_succ_self _))) (fun z => by
          have := Heap.lt_size (k₁ _ _ e)
          rw [z] at this; exact Nat.lt_irrefl _ this) (hk' b o hb e)
      · intro b o e hf
        have hlt' := Heap.lt_size e
        have hlt1 := Heap.lt_size (k₁ _ _ e)
        obtain ⟨sl, q⟩ := hu' b o e hf
        have q₃ := up₃ b _ (fun z => by rw [z] at hlt'; exact Nat.lt_irrefl _ (Nat.lt_of_lt_of_le hlt' hI1)) (fun z => by rw [z] at hlt1; exact Nat.lt_irrefl _ (Nat.lt_trans hlt1 (Nat.lt_succ_self _))) q
        obtain ⟨sl', q₄⟩ := ef₄.up b _ q₃ hf
        exact ⟨sl', k₅ b _ (fun z => by rw [List.mem_singleton.mp z] at hlt1; exact Nat.lt_irrefl _ hlt1) q₄⟩
    · have hi3 : i = 3 := by omega
      subst hi3
      refine W.done _ _ _ hIt fun h₂ tk₂ hk₂ => ?_
      have B₂ := B'.touch [I] (fun b hb => by rw [List.mem_singleton.mp hb]; exact ⟨hLI, hnI⟩) hk₂
      have hCI : h₁.objs.size + 1 ∉ [I] := by simp only [List.mem_singleton]; exact Nat.ne_of_gt (Nat.lt_succ_of_lt hI2)
      have hC₂ : h₂.Ns (h₁.objs.size + 1) mm := hC.at' fun o e => hk₂ _ o hCI e
      have hnC : ¬ h₂.CodeRec (.ref (h₁.objs.size + 1)) innerQ := by
        rintro ⟨c, o, vs, t, e, g, gd, gv⟩
        injection e with e; subst e
        obtain ⟨oC, es, ep, g1, g2, _⟩ := hC₂
        rw [g1] at g; injection g with g; subst g; rw [g2] at gd; cases gd
      refine ⟨rfl, ⟨mm, hC₂⟩, fun h₃ sb₃ => ?_⟩
      have B₃ := B₂.touch [h₁.objs.size + 1] (fun b hb => by rw [List.mem_singleton.mp hb]; exact ⟨Nat.lt_succ_of_lt hL1, hnC⟩) fun b o hb e => (sb₃.2 b (fun z => hb (List.mem_singleton.mpr z))).trans e
      have up₃ : ∀ b o, b ≠ I → b ≠ h₁.objs.size + 1 → h'.get? b = some o → h₃.get? b = some o := fun b o b1 b2 e => (sb₃.2 b b2).trans (hk₂ b o (fun z => b1 (List.mem_singleton.mp z)) e)
      have ansUp : ∀ v a, AnsAt h' v a → AnsAt h₃ v a := fun v a x => x.tup fun b o xs n' e hc hd => up₃ b o (fun z => by
          rw [z, hIt] at e; injection e with e; subst e; cases hd) (fun z => by
          obtain ⟨oC, es, ep, g1, g2, _⟩ := hC
          rw [z, g1] at e; injection e with e; subst e; rw [g2] at hd; cases hd) e
      obtain ⟨va, vb, vc, rfl⟩ := three_of hyl
      · refine hP h₃ _ h₁.objs.size va vb vc B₃ (fun b o hb e => ?_) (fun b o e hf => ?_) (Nat.le_of_lt (Nat.lt_of_le_of_lt hI1 hI2)) ?_ (ansUp _ _ ?_) (ansUp _ _ ?_) (ansUp _ _ ?_)
        · have hlt' := Heap.lt_size e
          exact up₃ b o (fun z => by rw [z] at hlt'; exact Nat.lt_irrefl _ (Nat.lt_of_lt_of_le hlt' hI1)) (fun z => by
            have := Heap.lt_size (k₁ _ _ e)
            rw [z] at this; exact Nat.lt_irrefl _ (Nat.lt_trans this (Nat.lt_succ_self _))) (hk' b o hb e)
        · have hlt' := Heap.lt_size e
          have hlt1 := Heap.lt_size (k₁ _ _ e)
          obtain ⟨sl, q⟩ := hu' b o e hf
          exact ⟨sl, up₃ b _ (fun z => by rw [z] at hlt'; exact Nat.lt_irrefl _ (Nat.lt_of_lt_of_le hlt' hI1)) (fun z => by rw [z] at hlt1; exact Nat.lt_irrefl _ (Nat.lt_trans hlt1 (Nat.lt_succ_self _))) q⟩
        · obtain ⟨n', g1⟩ := hD
          exact ⟨_, up₃ _ _ (Nat.ne_of_gt hI2) (Nat.ne_of_lt (Nat.lt_succ_self _)) g1, rfl, n', rfl⟩
        · rw [← a0]; exact hys 0 va rfl
        · rw [← a1]; exact hys 1 vb rfl
        · rw [← a2]; exact hys 2 vc rfl
  · refine ⟨0, [], _, _, fun _ => none, rfl, by omega, rfl, B.keeps fun b o e => Heap.get?_push_of_some _ (Heap.get?_push_of_some _ (k₁ b o e)), Heap.get?_push_of_some _ (Heap.get?_push_of_some _ hI), ⟨_, Heap.get?_push_of_some _ (Heap.get?_push_size _ rfl)⟩, ?_, rfl, fun k v e => by simp at e, fun b o _ e => Heap.get?_push_of_some _ (Heap.get?_push_of_some _ (k₁ b o e)), .of_keeps fun b o e => Heap.get?_push_of_some _ (Heap.get?_push_of_some _ (k₁ b o e))⟩
    have := Heap.Ns.new (h₁.push { cls := .type "list", data := .seq #[] }) (.type "dict")
    rw [Heap.size_push] at this
    exact this

theorem told_outP {pt ps : Pos} (hsw : swapsWith toldP (some (.Name "told_plain" pt)) ps.line (envC (stAt 27) L 175 cd) = pure true) (B : Bd w hs outer (envC (stAt 27) L 175 cd) L h m) (fa : A.frames = some outer) (dep : A.depth ≤ 301 + n) (uni : A.units ≤ 40 + 40 * n) (hn : n ≤ 11) (hh : A.handled = none)
    (src : Str) (hsz : src.length ≤ 1000) (hcp : ∀ c ∈ src.cps.toList, c < 16 ^ 8) {t : Tok} (cellS : h.IsCell (L + 3) (some (.str src t)))
    (rows : List Row3) (hrl : rows.length = src.length + 2) (hr : ∀ (p : Nat) r, rows[p]? = some r → Asked src.cps.toList p 0 r.1 ∧ Asked src.cps.toList p 1 r.2.1 ∧ Asked src.cps.toList p 2 r.2.2) {tk : Nat} {P : Flow → Shared → Prop}
    (hP : ∀ h' tk' D ys, Bd w hs outer (envC (stAt 27) L 175 cd) L h' (fun y => if y = "told_plain" then some (.ref D) else m y) → (∀ b o, L < b → h.get? b = some o → h'.get? b = some o) → h.objs.size ≤ D → h'.IsList D (List.toArray ys) → Paired (RowAt h') ys rows →
      P .next { s with heap := h', toks := tk' }) :
    wpAny (model prg w) (A.deeper (envC (stAt 27) L 175 cd)) (exec (.Assign [.Name "told_plain" pt] toldP ps) (envC (stAt 27) L 175 cd)) P E { s with heap := h, toks := tk } := by
  refine comp_openU (s := { s with heap := h, toks := tk }) (cl := [("plain", L + 3)]) hsw rfl rfl (by decide) ?_
  have hhd : (A.deeper (envC (stAt 27) L 175 cd)).handled = none := hh
  have hLh : L < h.objs.size := by obtain ⟨oL, es, ep, g1, _⟩ := B.fr.ns; exact Heap.lt_size g1
  refine Call_nm1 (bnE (s := { s with heap := h, toks := tk }) B.fr.keep B.pb.b_range ?_)
  refine ct1 (wpAny_BinOp (Call_nm1 (bnE (s := { s with heap := h, toks := tk }) B.fr.keep B.pb.b_len (cw1 (wpAny_Name (wpAny_loadName_cell rfl rfl rfl cellS ?_) (by decide))))))
  refine len_str (by omega) ?_
  refine wpAny_Constant_int (add_int ?_)
  have eN : ((src.length : Nat) : Int) + 2 = ((src.length + 2 : Nat) : Int) := by omega
  refine range1_it (n := src.length + 2) (s := { s with heap := h, toks := _ }) (by omega) fun h₁ tk₁ I k₁ hI hI1 hI2 => ?_
  refine ⟨I, src.length + 2, _, _, rfl, (Walks.range hhd I 0 1 (src.length + 2)).bound, hI, ?_⟩
  have hL1 : L < h₁.objs.size := Nat.lt_of_lt_of_le hLh (Nat.le_of_lt (Nat.lt_of_le_of_lt hI1 hI2))
  have hLI : L < I := Nat.lt_of_lt_of_le hLh hI1
  have hDI : h₁.objs.size ∉ [I] := by simp only [List.mem_singleton]; exact Nat.ne_of_gt hI2
  have hCI : h₁.objs.size + 1 ∉ [I] := by simp only [List.mem_singleton]; exact Nat.ne_of_gt (Nat.lt_succ_of_lt hI2)
  have hPI : h₁.objs.size + 2 ∉ [I] := by simp only [List.mem_singleton]; exact Nat.ne_of_gt (Nat.lt_succ_of_lt (Nat.lt_succ_of_lt hI2))
  have hDC : h₁.objs.size ≠ h₁.objs.size + 1 := Nat.ne_of_lt (Nat.lt_succ_self _)
  have hDP : h₁.objs.size ≠ h₁.objs.size + 2 := Nat.ne_of_lt (Nat.lt_succ_of_lt (Nat.lt_succ_self _))
  have hCP : h₁.objs.size + 1 ≠ h₁.objs.size + 2 := Nat.ne_of_lt (Nat.lt_succ_self _)
  have old : ∀ b o, h.get? b = some o → b ≠ I ∧ b ≠ h₁.objs.size ∧ b ≠ h₁.objs.size + 1 ∧ b ≠ h₁.objs.size + 2 := fun b o e => by
    have h1 := Heap.lt_size e
    have h2 := Heap.lt_size (k₁ b o e)
    refine ⟨fun z => ?_, fun z => ?_, fun z => ?_, fun z => ?_⟩
    · rw [z] at h1; exact Nat.lt_irrefl _ (Nat.lt_of_lt_of_le h1 hI1)
    · rw [z] at h2; exact Nat.lt_irrefl _ h2
    · rw [z] at h2; exact Nat.lt_irrefl _ (Nat.lt_trans h2 (Nat.lt_succ_self _))
    · rw [z] at h2; exact Nat.lt_irrefl _ (Nat.lt_trans h2 (Nat.lt_succ_of_lt (Nat.lt_succ_self _)))
  refine codeAny_compLoop_list (fun q s' => ∃ (i : Nat) (ys : List Value) (h' : Heap) (tk' : Nat) (mm : Str → Option Value) (vp : Option Value), s' = { s with heap := h', toks := tk' } ∧ i ≤ src.length + 2 ∧ q = src.length + 3 - i ∧ Bd w hs outer (envC (stAt 27) L 175 cd) L h' m ∧
      IsRangeIter h' I ((0 : Int) + (i : Nat) * 1) ((src.length + 2 : Nat) - (i : Nat) : Int) 1 ∧ h'.PlainList h₁.objs.size ys.toArray ∧ h'.Ns (h₁.objs.size + 1) mm ∧ h'.IsCell (h₁.objs.size + 2) vp ∧ ys.length = i ∧ (∀ (k : Nat) v r, ys[k]? = some v → rows[k]? = some r → RowD h₁.objs.size h' v r) ∧
      (∀ b o, L < b → h.get? b = some o → h'.get? b = some o)) ?_ (src.length + 3) ?_
  · rintro q s' ⟨i, ys, h', tk', mm, vp, rfl, hi, rfl, B', hIt, hD, hC, hCell, hyl, hys, hk'⟩
    have W := Walks.range (prog := prg) (w := w) (A := A.deeper (envC (stAt 27) L 175 cd)) hhd I 0 1 (src.length + 2)
    have hnI : ¬ h'.CodeRec (.ref I) innerQ := by
      rintro ⟨c, o, vs, t, e, g, gd, gv⟩
      injection e with e; subst e
      rw [hIt] at g; injection g with g; subst g
      injection gd with gd; subst gd
      cases gv
    by_cases hlt : i < src.length + 2
    · refine W.item i _ _ _ hlt hIt fun v h₂ tk₂ hPv hst₂ hk₂ => ?_
      obtain ⟨tv, rfl⟩ := hPv
      have B₂ := B'.touch [I] (fun b hb => by rw [List.mem_singleton.mp hb]; exact ⟨hLI, hnI⟩) hk₂
      have cell₂ : h₂.IsCell (h₁.objs.size + 2) vp := by obtain ⟨o, ho, hd⟩ := hCell; exact ⟨o, hk₂ _ o hPI ho, hd⟩
      refine wpAny_assign_Name (wpAny_storeName_cell rfl rfl rfl cell₂ fun h₃ cell₃ sb₃ => ?_)
      have sb₃ : Heap.SameBut (h₁.objs.size + 2) h₂ h₃ := sb₃
      have hi0 : (0 : Int) + (i : Int) * 1 = (i : Int) := by omega
      rw [hi0] at cell₃
      have hnP : ¬ h₂.CodeRec (.ref (h₁.objs.size + 2)) innerQ := by
        rintro ⟨c, o, vs, t, e, g, gd, gv⟩
        injection e with e; subst e
        obtain ⟨oC, g1, g2⟩ := cell₂
        rw [g1] at g; injection g with g; subst g; rw [g2] at gd; cases gd
      have hLP : L < h₁.objs.size + 2 := Nat.lt_succ_of_lt (Nat.lt_succ_of_lt hL1)
      have B₃ := B₂.touch [h₁.objs.size + 2] (fun b hb => by rw [List.mem_singleton.mp hb]; exact ⟨hLP, hnP⟩) fun b o hb e => (sb₃.2 b (fun z => hb (List.mem_singleton.mpr z))).trans e
      have up₃ : ∀ b o, b ≠ I → b ≠ h₁.objs.size + 2 → h'.get? b = some o → h₃.get? b = some o := fun b o b1 b2 e => (sb₃.2 b b2).trans (hk₂ b o (fun z => b1 (List.mem_singleton.mp z)) e)
      have cS : h₃.IsCell (L + 3) (some (.str src t)) := by
        obtain ⟨o, ho, hd⟩ := cellS
        obtain ⟨n1, n2, n3, n4⟩ := old _ o ho
        exact ⟨o, up₃ _ o n1 n4 (hk' _ o (Nat.lt_succ_of_lt (Nat.lt_succ_of_lt (Nat.lt_succ_self _))) ho), hd⟩
      obtain ⟨r, hr0⟩ : ∃ r, rows[i]? = some r := ⟨rows[i]'(by omega), List.getElem?_eq_getElem (by omega)⟩
      obtain ⟨hq0, hq1, hq2⟩ := hr i r hr0
      refine told_inP (C := h₁.objs.size + 1) B₃ fa dep uni hn hh src hsz hcp i (by omega) cS cell₃ (Nat.lt_succ_of_lt (Nat.lt_succ_of_lt (Nat.lt_succ_self _))) hLP hq0 hq1 hq2 fun h₄ tk₄ D' va vb vc B₄ keep₄ up₄ hD' hl' ha hb hc => ?_
      have hD₃ : h₃.PlainList h₁.objs.size ys.toArray := hD.at fun o e => up₃ _ o (Nat.ne_of_gt hI2) hDP e
      have hD₄ : h₄.PlainList h₁.objs.size ys.toArray := hD₃.at fun o e => keep₄ _ o hL1 e
      have hKD : h₁.objs.size < D' := by obtain ⟨n', e⟩ := hD₃; exact Nat.lt_of_lt_of_le (Heap.lt_size e) hD'
      have hnD : ¬ h₄.CodeRec (.ref h₁.objs.size) innerQ := by
        rintro ⟨c, o, vs, t, e, g, gd, gv⟩
        injection e with e; subst e
        obtain ⟨n', g1⟩ := hD₄
        rw [g1] at g; injection g with g; subst g; cases gd
      refine wpAny_list_append_plain hD₄ (fun h₅ hD₅ sb₅ => ?_) (by rw [List.size_toArray, sizeLine_eq]; omega)
      have k₅ : ∀ b o, b ∉ [h₁.objs.size] → h₄.get? b = some o → h₅.get? b = some o := fun b o hb e => (sb₅.2 b fun z => hb (List.mem_singleton.mpr z)).trans e
      have B₅ := B₄.touch [h₁.objs.size] (fun b hb => by rw [List.mem_singleton.mp hb]; exact ⟨hL1, hnD⟩) k₅
      have to5 : ∀ v r, RowD h₁.objs.size h₄ v r → RowD h₁.objs.size h₅ v r := fun v r x => x.seq fun b o xs n' e hd hcl => k₅ b o (fun z => by
        have z := List.mem_singleton.mp z
        obtain ⟨n'', g1⟩ := hD₄
        have hcl := hcl z
        rw [z, g1] at e; injection e with e; subst e; revert hcl; simp) e
      have up₅ : ∀ b o, L < b → b ≠ I → b ≠ h₁.objs.size + 2 → b ≠ h₁.objs.size → h'.get? b = some o → h₅.get? b = some o := fun b o b0 b1 b2 b3 e => k₅ b o (fun z => b3 (List.mem_singleton.mp z)) (keep₄ b o b0 (up₃ b o b1 b2 e))
      refine ⟨src.length + 3 - (i + 1), by omega, i + 1, ys ++ [.ref D'], h₅, tk₄, mm, some (.int (i : Int) tv), rfl, by omega, rfl, B₅, ?_, ?_, ?_, ?_, by rw [List.length_append, hyl]; rfl, ?_, ?_⟩
      · exact k₅ I _ (by simp only [List.mem_singleton]; exact Nat.ne_of_lt hI2) (keep₄ I _ hLI ((sb₃.2 I (Nat.ne_of_lt (Nat.lt_succ_of_lt (Nat.lt_succ_of_lt hI2)))).trans hst₂))
      · have : (ys ++ [Value.ref D']).toArray = ys.toArray.push (.ref D') := by simp
        rw [this]; exact hD₅
      · exact hC.at' fun o e => up₅ _ o (Nat.lt_succ_of_lt hL1) (fun z => hCI (List.mem_singleton.mpr z)) hCP (Ne.symm hDC) e
      · obtain ⟨o, ho, hd⟩ := cell₃
        exact ⟨o, k₅ _ o (by simp only [List.mem_singleton]; exact Ne.symm hDP) (keep₄ _ o hLP ho), hd⟩
      · intro k v r' hv hr'
        by_cases hkl : k < ys.length
        · rw [List.getElem?_append_left hkl] at hv
          have x := hys k v r' hv hr'
          have x₃ : RowD h₁.objs.size h₃ v r' := x.seq fun b o xs n' e hd _ => up₃ b o (fun z => by
            rw [z, hIt] at e; injection e with e; subst e; cases hd) (fun z => by
            obtain ⟨oC, g1, g2⟩ := hCell
            rw [z, g1] at e; injection e with e; subst e; rw [g2] at hd; cases hd) e
          exact to5 _ _ (x₃.up up₄)
        · rw [List.getElem?_append_right (by omega)] at hv
          have hk0 : k - ys.length = 0 := by
            cases hq : k - ys.length with
            | zero => rfl
            | succ j => rw [hq] at hv; simp at hv
          rw [hk0] at hv
          have hv : some (Value.ref D') = some v := hv
          injection hv with hv; subst hv
          have hki : k = i := by omega
          rw [hki, hr0] at hr'; injection hr' with hr'; subst hr'
          exact to5 _ _ ⟨D', va, vb, vc, rfl, hKD, hl', ha, hb, hc⟩
      · intro b o hb e
        obtain ⟨n1, n2, n3, n4⟩ := old b o e
        exact up₅ b o hb n1 n4 n2 (hk' b o hb e)
    · have hiN : i = src.length + 2 := by omega
      subst hiN
      refine W.done _ _ _ hIt fun h₂ tk₂ hk₂ => ?_
      have B₂ := B'.touch [I] (fun b hb => by rw [List.mem_singleton.mp hb]; exact ⟨hLI, hnI⟩) hk₂
      have hC₂ : h₂.Ns (h₁.objs.size + 1) mm := hC.at' fun o e => hk₂ _ o hCI e
      have hnC : ¬ h₂.CodeRec (.ref (h₁.objs.size + 1)) innerQ := by
        rintro ⟨c, o, vs, t, e, g, gd, gv⟩
        injection e with e; subst e
        obtain ⟨oC, es, ep, g1, g2, _⟩ := hC₂
        rw [g1] at g; injection g with g; subst g; rw [g2] at gd; cases gd
      refine ⟨rfl, wpAny_assign_Name (wpAny_storeName_local rfl B₂.fr.ns (fun h₃ hn₃ hs₃ => ?_) rfl)⟩
      have hs₃ : Heap.SameBut L h₂ h₃ := hs₃
      have B₃ := B₂.set hn₃ hs₃
      have hCL : h₁.objs.size + 1 ≠ L := Nat.ne_of_gt (Nat.lt_succ_of_lt hL1)
      have hC₃ : h₃.Ns (h₁.objs.size + 1) mm := hC₂.sameBut hs₃ hCL
      refine ⟨mm, hC₃, fun h₄ sb₄ => ?_⟩
      have sb₄ : Heap.SameBut (h₁.objs.size + 1) h₃ h₄ := sb₄
      have hnC₃ : ¬ h₃.CodeRec (.ref (h₁.objs.size + 1)) innerQ := by
        rintro ⟨c, o, vs, t, e, g, gd, gv⟩
        injection e with e; subst e
        obtain ⟨oC, es, ep, g1, g2, _⟩ := hC₃
        rw [g1] at g; injection g with g; subst g; rw [g2] at gd; cases gd
      have B₄ := B₃.touch [h₁.objs.size + 1] (fun b hb => by rw [List.mem_singleton.mp hb]; exact ⟨Nat.lt_succ_of_lt hL1, hnC₃⟩) fun b o hb e => (sb₄.2 b (fun z => hb (List.mem_singleton.mpr z))).trans e
      have up₄ : ∀ b o, b ≠ I → b ≠ L → b ≠ h₁.objs.size + 1 → h'.get? b = some o → h₄.get? b = some o := fun b o b1 b0 b2 e => (sb₄.2 b b2).trans ((hs₃.2 b b0).trans (hk₂ b o (fun z => b1 (List.mem_singleton.mp z)) e))
      refine hP h₄ _ h₁.objs.size ys B₄ (fun b o hb e => ?_) (Nat.le_of_lt (Nat.lt_of_le_of_lt hI1 hI2)) ?_ (paired_of_get (by omega) fun k v r' hv hr' => ?_)
      · obtain ⟨n1, n2, n3, n4⟩ := old b o e
        exact up₄ b o n1 (Nat.ne_of_gt hb) n3 (hk' b o hb e)
      · obtain ⟨n', g1⟩ := hD
        exact ⟨_, up₄ _ _ (Nat.ne_of_gt hI2) (Nat.ne_of_gt hL1) hDC g1, rfl, n', rfl⟩
      · have x := hys k v r' hv hr'
        exact (x.seq fun b o xs n' e hd _ => up₄ b o (fun z => by
            rw [z, hIt] at e; injection e with e; subst e; cases hd) (fun z => by
            obtain ⟨oC, es, ep, g1, g2, _⟩ := B'.fr.ns
            rw [z, g1] at e; injection e with e; subst e; rw [g2] at hd; cases hd) (fun z => by
            obtain ⟨oC, es, ep, g1, g2, _⟩ := hC
            rw [z, g1] at e; injection e with e; subst e; rw [g2] at hd; cases hd) e).row
  · have kp : ∀ b o, h₁.get? b = some o → (pushCells ((h₁.push { cls := .type "list", data := .seq #[] }).push { cls := .type "dict", data := .dict #[] }) (scopeOf toldP).names).get? b = some o := fun b o e => pushCells_keeps _ _ b o (Heap.get?_push_of_some _ (Heap.get?_push_of_some _ e))
    refine ⟨0, [], _, _, fun _ => none, none, rfl, by omega, rfl, B.keeps fun b o e => kp b o (k₁ b o e), kp _ _ hI, ⟨_, pushCells_keeps _ _ _ _ (Heap.get?_push_of_some _ (Heap.get?_push_size _ rfl))⟩, ?_, ?_, rfl, fun k v r e => by simp at e, fun b o _ e => kp b o (k₁ b o e)⟩
    · have := Heap.Ns.new (h₁.push { cls := .type "list", data := .seq #[] }) (.type "dict")
      rw [Heap.size_push] at this
      exact this.at' fun o e => pushCells_keeps _ _ _ o e
    · have hq := Heap.get?_push_size ((h₁.push { cls := .type "list", data := .seq #[] }).push { cls := .type "dict", data := .dict #[] }) (o := { cls := .type "cell", data := .cell none }) rfl
      rw [Heap.size_push, Heap.size_push] at hq
      exact ⟨_, hq, rfl⟩
end
end Mine
end

noncomputable section -- NbLaw2
open PySem PySem.W PyProof.Rows
open PySem.Builtin PySem.Builtin.Str PySem.Builtin.BaseException
set_option maxRecDepth 100000
namespace Mine

noncomputable def textOf (ns : List Int) (odd : Nat) : List Nat := (383980 :: (ns.take 4 ++ [1998377])).flatMap fun x => signsOf x odd

theorem signsOf_len (x : Int) (odd : Nat) : (signsOf x odd).length ≤ 6 := by
  unfold signsOf; rw [List.length_map, List.length_range]; omega
theorem flat_len (odd : Nat) : ∀ l : List Int, (l.flatMap fun x => signsOf x odd).length ≤ 6 * l.length
  | [] => by simp
  | x :: l => by
    rw [List.flatMap_cons, List.length_append, List.length_cons]
    have := signsOf_len x odd
    have := flat_len odd l
    omega
theorem textOf_len (ns : List Int) (odd : Nat) : (textOf ns odd).length ≤ 36 := by
  have h1 := flat_len odd (383980 :: (ns.take 4 ++ [1998377]))
  have h2 : (383980 :: (ns.take 4 ++ [1998377])).length ≤ 6 := by
    simp only [List.length_cons, List.length_append, List.length_take, List.length_nil]; omega
  unfold textOf
  omega

theorem paired_ints (odd : Nat) : ∀ {vs : List Value} {ns : List Int} {ys : List Value}, IntsAre vs ns → Paired (fun v y => ∀ k t, v = .int k t → ∃ t', y = .str (S (signsOf k odd)) t') vs ys →
    ∃ l : List (Str × Tok), ys = strValues l ∧ cat l = ns.flatMap fun x => signsOf x odd
  | _, _, _, .nil, .nil => ⟨[], rfl, rfl⟩
  | _, _, _, .cons n t hi, .cons h1 h2 => by
    obtain ⟨l, e1, e2⟩ := paired_ints odd hi h2
    obtain ⟨t', e⟩ := h1 n t rfl
    refine ⟨(S (signsOf n odd), t') :: l, by rw [e, e1]; rfl, ?_⟩
    unfold cat at e2 ⊢
    rw [List.flatMap_cons, List.flatMap_cons, e2]; rfl

theorem ints_app : ∀ {vs ws : List Value} {ns ms : List Int}, IntsAre vs ns → IntsAre ws ms → IntsAre (vs ++ ws) (ns ++ ms)
  | _, _, _, _, .nil, h => h
  | _, _, _, _, .cons n t h, h' => .cons n t (ints_app h h')
theorem ints_tk : ∀ {vs : List Value} {ns : List Int}, IntsAre vs ns → ∀ k : Nat, IntsAre (vs.take k) (ns.take k)
  | _, _, _, 0 => .nil
  | _, _, .nil, _ + 1 => .nil
  | _, _, .cons n t h, k + 1 => .cons n t (ints_tk h k)
theorem ints_at : ∀ {vs : List Value} {ns : List Int}, IntsAre vs ns → ∀ (i : Nat) v, vs[i]? = some v → ∃ n t, v = .int n t
  | _, _, .nil, _, _, e => by simp at e
  | _, _, .cons n t h, 0, v, e => by simp at e; exact ⟨n, t, e.symm⟩
  | _, _, .cons n t h, i + 1, v, e => ints_at h i v (by simpa using e)

noncomputable def argE : Expr → Expr
  | .Call _ (e :: _) _ _ => e
  | _ => .Constant .none 0 default
noncomputable def textE : Expr := valOf ((bdyOfS (stAt 27)).getD 1 (.Pass default))
noncomputable def textC : Expr := argE textE
noncomputable def fnE : Expr → Expr
  | .Call f _ _ _ => f
  | e => e
noncomputable def posC : Expr → Pos
  | .Call _ _ _ p => p
  | _ => default
noncomputable def objA : Expr → Expr
  | .Attribute o _ _ => o
  | e => e
noncomputable def posA : Expr → Pos
  | .Attribute _ _ p => p
  | _ => default
noncomputable def posK : Expr → Pos
  | .Constant _ _ p => p
  | _ => default
noncomputable def textPos : Pos × Pos × Pos := (posK (objA (fnE textE)), posA (fnE textE), posC textE)
theorem textE_eq : textE = .Call (.Attribute (.Constant (.str ⟨#[]⟩) 0 textPos.1) "join" textPos.2.1) [textC] [] textPos.2.2 := by kernel_rfl

noncomputable def iterE : Expr → Expr
  | .ListComp _ (g :: _) _ _ => g.iter
  | _ => .Constant .none 0 default
noncomputable def leftE : Expr → Expr
  | .BinOp a _ _ _ => a
  | _ => .Constant .none 0 default
noncomputable def rightE : Expr → Expr
  | .BinOp _ _ b _ => b
  | _ => .Constant .none 0 default
noncomputable def script4E : Expr := rightE (leftE (iterE textC))

section
variable {w : World} {A : Around} {n : Nat} {outer : List Env} {s : Shared} {E : Value → Shared → Prop} {hs h : Heap} {L : Addr} {m : Str → Option Value} {cd : Value}

theorem script4 (B : Bd w hs outer (envC (stAt 27) L 175 cd) L h m)
    {scr : Addr} {vs : List Value} (hscr : m "script" = some (.ref scr)) (hl : h.IsList scr vs.toArray) (hvl : vs.length ≤ 1000) {tk : Nat} {P : Value → Shared → Prop}
    (hP : ∀ h' tk' D, Bd w hs outer (envC (stAt 27) L 175 cd) L h' m → (∀ b o, h.get? b = some o → h'.get? b = some o) → h'.IsList D (vs.take 4).toArray → P (.ref D) { s with heap := h', toks := tk' }) :
    wpAny (model prg w) A (eval script4E (envC (stAt 27) L 175 cd)) P E { s with heap := h, toks := tk } := by
  refine wpAny_Subscript_list_slice (wpAny_Name (wpAny_loadName_local rfl rfl B.fr.ns hscr ?_) (by decide))
  refine evalPart_none_step (evalPart_some_step (wpAny_Constant_int ?_))
  refine ⟨scr, vs.toArray, none, some ((4 : Nat) : Int), rfl, hl, by rw [List.size_toArray, sizeLine_eq]; omega, .none, .int _ _, ?_⟩
  rw [slicePick_upto']
  have k₂ : ∀ o₁ o₂, ∀ b o, h.get? b = some o → ((h.push o₁).push o₂).get? b = some o := fun o₁ o₂ b o e => Heap.get?_push_of_some _ (Heap.get?_push_of_some _ e)
  refine hP _ _ _ (B.keeps (k₂ _ _)) (k₂ _ _) ⟨{ cls := .type "list", data := .seq (vs.take 4).toArray }, ?_, rfl, _, rfl⟩
  have := Heap.get?_push_size (h.push { cls := .type "slice", data := .fields #[.none, .int 4 tk, .none] }) (o := { cls := .type "list", data := .seq (vs.take 4).toArray }) rfl
  rw [Heap.size_push] at this
  exact this

theorem text_iter (B : Bd w hs outer (envC (stAt 27) L 175 cd) L h m)
    {scr : Addr} {vs : List Value} {ns : List Int} (hscr : m "script" = some (.ref scr)) (hl : h.IsList scr vs.toArray) (hi : IntsAre vs ns) (hvl : vs.length ≤ 1000) {tk : Nat} {P : Value → Shared → Prop}
    (hP : ∀ h' tk' D ws, Bd w hs outer (envC (stAt 27) L 175 cd) L h' m → (∀ b o, h.get? b = some o → h'.get? b = some o) → h'.IsList D ws.toArray → IntsAre ws (383980 :: (ns.take 4 ++ [1998377])) → P (.ref D) { s with heap := h', toks := tk' }) :
    wpAny (model prg w) A (eval (iterE textC) (envC (stAt 27) L 175 cd)) P E { s with heap := h, toks := tk } := by
  refine wpAny_BinOp (wpAny_BinOp (List_ (spl_cons (wpAny_Constant_int (spl_nil ?_)) rfl)))
  refine listB (s := { s with heap := h, toks := _ }) B fun h₁ B₁ k₁ hl₁ => ?_
  refine script4 B₁ hscr (hl.imp fun o z => ⟨k₁ _ _ z.1, z.2⟩) hvl fun h₂ tk₂ D₂ B₂ k₂ hl₂ => ?_
  have hlen : (vs.take 4).length ≤ 4 := by rw [List.length_take]; omega
  refine add_lists' (s := { s with heap := h₂, toks := _ }) (hl₁.imp fun o z => ⟨k₂ _ _ z.1, z.2⟩) hl₂ ?_ (by rw [sizeLine_eq]; simp only [List.length_cons, List.length_nil]; omega)
  have B₃ := B₂.keeps (h' := h₂.push { cls := .type "list", data := .seq (List.toArray ([Value.int 383980 tk] ++ vs.take 4)) }) fun b o e => Heap.get?_push_of_some _ e
  refine List_ (spl_cons (wpAny_Constant_int (spl_nil ?_)) rfl)
  refine listB (s := { s with heap := h₂.push { cls := .type "list", data := .seq (List.toArray ([Value.int 383980 tk] ++ vs.take 4)) }, toks := _ }) B₃ fun h₄ B₄ k₄ hl₄ => ?_
  refine add_lists' (s := { s with heap := h₄, toks := _ }) (vs := [Value.int 383980 tk] ++ vs.take 4) ⟨_, k₄ _ _ (Heap.get?_push_size _ rfl), rfl, _, rfl⟩ hl₄ ?_ (by rw [sizeLine_eq]; simp only [List.length_cons, List.length_nil, List.length_append]; omega)
  refine hP _ _ _ _ (B₄.keeps fun b o e => Heap.get?_push_of_some _ e) (fun b o e => Heap.get?_push_of_some _ (k₄ b o (Heap.get?_push_of_some _ (k₂ b o (k₁ b o e))))) ⟨_, Heap.get?_push_size _ rfl, rfl, _, rfl⟩ ?_
  exact ints_app (IntsAre.cons _ _ (ints_tk hi 4)) (.cons _ _ .nil)

theorem text_comp (B : Bd w hs outer (envC (stAt 27) L 175 cd) L h m) (fa : A.frames = some outer) (dep : A.depth ≤ 301 + n) (uni : A.units ≤ 40 + 40 * n) (hn : n ≤ 11) (hh : A.handled = none)
    {scr : Addr} {vs : List Value} {ns : List Int} (hscr : m "script" = some (.ref scr)) (hl : h.IsList scr vs.toArray) (hi : IntsAre vs ns) (hvl : vs.length ≤ 1000) {odd : Nat} {t : Tok} (cellO : h.IsCell (L + 1) (some (.str ⟨#[odd]⟩ t))) {tk : Nat} {P : Value → Shared → Prop}
    (hP : ∀ D' h' tk' l, h'.IsList D' (strValues l).toArray → cat l = textOf ns odd → (∀ b o, h.get? b = some o → h'.get? b = some o) → P (.ref D') { s with heap := h', toks := tk' }) :
    wpAny (model prg w) (A.deeper (envC (stAt 27) L 175 cd)) (eval textC (envC (stAt 27) L 175 cd)) P E { s with heap := h, toks := tk } := by
  have hhd : (A.deeper (envC (stAt 27) L 175 cd)).handled = none := hh
  refine wpAny_ListComp_free (cl := [("odd", L + 1)]) (fun _ => true) (fun v y => ∀ k t, v = .int k t → ∃ t', y = .str (S (signsOf k odd)) t') rfl (by decide) rfl (by decide) rfl ?_
  refine text_iter B hscr hl hi hvl fun h₂ tk₂ D₂ ws B₂ k₂ hD₂ hws => ?_
  refine list_it (s := { s with heap := h₂, toks := _ }) hD₂ fun h₃ It₀ k₃ hI hI1 hI2 hne => ?_
  have ne : ∀ b o, h₂.get? b = some o → b ∉ [It₀] := fun b o e hm => by
    have hb : b = It₀ := by simpa using hm
    have := Heap.lt_size e
    rw [hb] at this
    exact Nat.lt_irrefl _ (Nat.lt_of_lt_of_le this hI1)
  have hwl : ws.length ≤ 6 := by
    have := hws.length
    rw [this]
    simp only [List.length_cons, List.length_append, List.length_take, List.length_nil]; omega
  refine ⟨It₀, [It₀, D₂], [It₀], _, _, _, rfl, Walks.list (by exact hhd) It₀ D₂ hne _, ?_, hI, ?_, ⟨?_, ?_⟩, fun D' h₄ tk₄ ys₄ vs' hD' hl' hpl' hlen hPj hF hkp => ?_⟩
  · rw [List.size_toArray, sizeLine_eq]; omega
  · intro b hb
    rcases List.mem_cons.mp hb with rfl | hb
    · exact hI2
    · rw [List.mem_singleton.mp hb]
      obtain ⟨o, ho, _⟩ := hI.2
      exact Heap.lt_size ho
  · intro C i v' s₃ m₃ E' _ _ _ _ _ _
    exact wpAny_pure ⟨rfl, s₃.heap, s₃.toks, rfl, fun _ _ e => e⟩
  · intro C i v' s₃ m₃ E' hsame hPi _ hns hm hkp _
    have hP' : ws[i]? = some v' := by
      have : ws.toArray[i]? = some v' := hPi
      rwa [List.getElem?_toArray] at this
    obtain ⟨x, tx, rfl⟩ := ints_at hws i v' hP'
    have old : ∀ b o, h₂.get? b = some o → s₃.heap.get? b = some o := fun b o e => hkp b o (ne b o e) (k₃ b o e)
    have B₃ := B₂.keeps old
    refine Call_nm2 (gnE B₃.fr.keep B₃.pb.signs ?_)
    refine cf2 (ldVarK hns hm (ldCellK rfl (cellO.keeps fun b o e => old b o (k₂ b o e)) ⟨B₃.pb.f_signs.elim fun _ z => z.isFn B₃.fr.keep, ?_⟩))
    refine signs_spec (B₃.ok fa dep uni) (by omega) hhd x odd fun h' tk' t' hk' => ?_
    refine ⟨fun k t e => ?_, _, _, rfl, hk'⟩
    injection e with e _
    subst e
    exact ⟨t', rfl⟩
  have hft : vs'.filter (fun _ => true) = vs' := by simp
  rw [hft] at hF
  have hvs : vs' = ws := by
    refine List.ext_getElem? fun k => ?_
    cases hk : vs'[k]? with
    | none => rw [List.getElem?_eq_none_iff] at hk; rw [List.size_toArray] at hlen; rw [List.getElem?_eq_none (by omega)]
    | some v =>
      have := hPj k v hk
      rw [List.getElem?_toArray] at this
      exact this.symm
  rw [hvs] at hF
  obtain ⟨lw, e1, e2⟩ := paired_ints odd hws hF
  have hys : ys₄ = (strValues lw).toArray := by rw [← e1]
  rw [hys] at hl'
  exact hP D' h₄ tk₄ lw hl' e2 fun b o e => hkp b o (ne b o (k₂ b o e)) (k₃ b o (k₂ b o e))

theorem text_spec (B : Bd w hs outer (envC (stAt 27) L 175 cd) L h m) (fa : A.frames = some outer) (dep : A.depth ≤ 301 + n) (uni : A.units ≤ 40 + 40 * n) (hn : n ≤ 11) (hh : A.handled = none)
    {scr : Addr} {vs : List Value} {ns : List Int} (hscr : m "script" = some (.ref scr)) (hl : h.IsList scr vs.toArray) (hi : IntsAre vs ns) (hvl : vs.length ≤ 1000) {odd : Nat} {t : Tok} (cellO : h.IsCell (L + 1) (some (.str ⟨#[odd]⟩ t))) {tk : Nat} {P : Value → Shared → Prop}
    (hP : ∀ h' tk' t', 1 ≤ tk' → (∀ b o, h.get? b = some o → h'.get? b = some o) → P (.str (S (textOf ns odd)) t') { s with heap := h', toks := tk' }) :
    wpAny (model prg w) (A.deeper (envC (stAt 27) L 175 cd)) (eval textE (envC (stAt 27) L 175 cd)) P E { s with heap := h, toks := tk } := by
  rw [textE_eq]
  with_reducible refine meth1 (x := ⟨#[]⟩) (hbase := by kernel_rfl) (hs := by kernel_rfl) (hline := by kernel_rfl) PySem.F.slot_str_join PySem.F.type_str_join (Calls.Constant_str ⟨rfl, ?_⟩)
  refine wpAny_with_toks (n := 1) (by show 1 ≤ tk + 1; omega) ?_
  refine cw1 ?_
  refine text_comp (s := s) B fa dep uni hn hh hscr hl hi hvl cellO fun D' h' tk' l hl' he hk' => ?_
  have hlen' : (cat l).length ≤ 36 := by rw [he]; exact textOf_len ns odd
  refine SC.join (s := { s with heap := h', toks := tk' }) hl' rfl (join_ok l (by omega)) fun t'' k => ?_
  rw [join_cat, he]
  exact fun hk => hP h' k t'' hk hk'
end
end Mine
end

noncomputable section -- NbEq
open PySem PySem.W PyProof.Rows
open PySem.Builtin PySem.Builtin.Str PySem.Builtin.BaseException
set_option maxRecDepth 100000
namespace Mine

section
variable {A : Around} {s : Shared}

theorem eqAt_ref {l b : Addr} (h : l ≠ b → SeqAt.RcAt A s (.ref l) (.ref b) true) : SeqAt.EqAt A s (.ref l) (.ref b) true := by
  by_cases e : l = b
  · subst e; exact .same _
  · exact .of_refs e (h e)

theorem eqAt_int (a : Int) (t u : Tok) : SeqAt.EqAt A s (.int a t) (.int a u) true := by
  have := (MeetsSeq.EqGives.int a a t u).at A s
  rwa [beq_self_eq_true] at this
theorem eqAt_str (a : Str) (t u : Tok) : SeqAt.EqAt A s (.str a t) (.str a u) true := by
  have := (SeqRoads2.EqGives.str a a t u).at A s
  rwa [beq_self_eq_true] at this

theorem ans_eq {v v' : Value} {a : Ans} (h : AnsAt s.heap v a) (h' : AnsAt s.heap v' a) (hu : A.units + 1 < cLine) : SeqAt.EqAt A s v v' true := by
  cases a with
  | num n => obtain ⟨t, rfl⟩ := h; obtain ⟨t', rfl⟩ := h'; exact eqAt_int _ _ _
  | txt m => obtain ⟨t, rfl⟩ := h; obtain ⟨t', rfl⟩ := h'; exact eqAt_str _ _ _
  | pair n x =>
    obtain ⟨b, ta, tb, rfl, hb⟩ := h
    obtain ⟨c, tc, td, rfl, hc⟩ := h'
    refine eqAt_ref fun _ => ?_
    have := SeqAt.RcAt.tuples (A := A) (e := fun _ => true) hb hc (by omega) fun j h1 h2 => by
      have hj : j = 0 ∨ j = 1 := by simp at h1; omega
      rcases hj with rfl | rfl
      · exact eqAt_int _ _ _
      · exact eqAt_str _ _ _
    exact this

theorem row_eq {v v' : Value} {r : Row3} (h : RowAt s.heap v r) (h' : RowAt s.heap v' r) (hu : A.units + 2 < cLine) : SeqAt.EqAt A s v v' true := by
  obtain ⟨a, va, vb, vc, rfl, hl, h1, h2, h3⟩ := h
  obtain ⟨a', va', vb', vc', rfl, hl', h1', h2', h3'⟩ := h'
  refine eqAt_ref fun _ => ?_
  have := SeqAt.RcAt.lists (A := A) (e := fun _ => true) hl hl' rfl (by omega) fun j g1 g2 => by
    have hj : j = 0 ∨ j = 1 ∨ j = 2 := by simp at g1; omega
    have hu' : A.in1.units + 1 < cLine := by show A.units + 1 + 1 < cLine; omega
    rcases hj with rfl | rfl | rfl
    · exact ans_eq h1 h1' hu'
    · exact ans_eq h2 h2' hu'
    · exact ans_eq h3 h3' hu'
  exact this

theorem paired_at {α β : Type} {F : α → β → Prop} {l₁ : List α} {l₂ : List β} (p : Paired F l₁ l₂) (k : Nat) (h1 : k < l₁.length) (h2 : k < l₂.length) : F l₁[k] l₂[k] := by
  obtain ⟨a, ha, hf⟩ := Paired.get p k _ (List.getElem?_eq_getElem h2)
  rw [List.getElem?_eq_getElem h1] at ha
  injection ha with ha
  rw [ha]; exact hf

theorem rows_all {xs ys : List Value} {rows : List Row3} (hx : Paired (RowAt s.heap) xs rows) (hy : Paired (RowAt s.heap) ys rows) (hu : A.units + 3 < cLine) :
    ∀ j (h1 : j < xs.toArray.size) (h2 : j < ys.toArray.size), SeqAt.EqAt A.in1 s xs.toArray[j] ys.toArray[j] ((fun _ => true) j) := fun j h1 h2 => by
  have hlx := Paired.len hx
  have hly := Paired.len hy
  rw [List.size_toArray] at h1 h2
  rw [List.getElem_toArray, List.getElem_toArray]
  exact row_eq (paired_at hx j h1 (by omega)) (paired_at hy j h2 (by omega)) (by show A.units + 1 + 2 < cLine; omega)

theorem all_true (n : Nat) : (List.range n).all (fun _ => true) = true := by simp
end

section
variable {w : World} {A : Around} {E : Value → Shared → Prop} {s : Shared} {Q : Value → Shared → Prop}
theorem ne_rows {l b : Addr} {xs ys : List Value} {rows : List Row3} (hl : s.heap.IsList l xs.toArray) (hb : s.heap.IsList b ys.toArray) (hx : Paired (RowAt s.heap) xs rows) (hy : Paired (RowAt s.heap) ys rows) (hu : A.units + 3 < cLine)
    (h : Q (.bool false) s) : wpAny (model prg w) A (compareOp .NotEq (.ref l) (.ref b)) Q E s := by
  have hsz : xs.toArray.size = ys.toArray.size := by rw [List.size_toArray, List.size_toArray, Paired.len hx, Paired.len hy]
  have := SeqAt.RcNeAt.lists (A := A) (e := fun _ => true) hl hb hsz (by omega) (rows_all hx hy hu) prg w E Q
  rw [all_true] at this
  exact this h
theorem eq_rows {l b : Addr} {xs ys : List Value} {rows : List Row3} (hl : s.heap.IsList l xs.toArray) (hb : s.heap.IsList b ys.toArray) (hx : Paired (RowAt s.heap) xs rows) (hy : Paired (RowAt s.heap) ys rows) (hu : A.units + 3 < cLine)
    (h : Q (.bool true) s) : wpAny (model prg w) A (compareOp .Eq (.ref l) (.ref b)) Q E s := by
  have hsz : xs.toArray.size = ys.toArray.size := by rw [List.size_toArray, List.size_toArray, Paired.len hx, Paired.len hy]
  have := SeqAt.RcAt.lists (A := A) (e := fun _ => true) hl hb hsz (by omega) (rows_all hx hy hu) prg w E Q
  rw [all_true] at this
  exact this h
end
end Mine
end

noncomputable section -- NbLaw3
open PySem PySem.W PyProof.Rows
open PySem.Builtin PySem.Builtin.Str PySem.Builtin.BaseException
set_option maxRecDepth 100000
namespace Mine

noncomputable def testOf : Stmt → Expr
  | .If t _ _ _ => t
  | .Return (some t) _ => t
  | _ => .Constant .none 0 default
noncomputable def cmpR : Expr → Expr
  | .Compare _ _ (c :: _) _ => c
  | _ => .Constant .none 0 default
noncomputable def dueS : Expr := cmpR (testOf ((bdyOfS (stAt 27)).getD 5 (.Pass default)))
noncomputable def dueP : Expr := cmpR (testOf ((bdyOfS (stAt 27)).getD 7 (.Pass default)))

theorem posTxt_len {i j : Nat} (hi : i < 10 ^ 8) (hj : j < 10 ^ 8) : (posTxt i j).length ≤ 100 := by
  unfold posTxt
  have h1 := decS_len hi
  have h2 := decS_len hj
  have c1 : (Str.ofString "(at line ").length = 9 := by decide +kernel
  have c2 : (Str.ofString ", column ").length = 9 := by decide +kernel
  have c3 : (Str.ofString ")").length = 1 := by decide +kernel
  simp only [Str.length_append, c1, c2, c3]
  omega
theorem txOf_len (l : List Nat) (hl : l.length ≤ 1000) (k : Nat) : (txOf l k).length ≤ 100 := by
  unfold txOf
  have h0 : (l.take k).length ≤ 1000 := by rw [List.length_take]; omega
  refine posTxt_len ?_ ?_
  · rw [scan_line]
    have := List.count_le_length (a := 10) (l := l.take k)
    omega
  · have := scan_bound (l.take k)
    omega
theorem marksIn_of {h : Heap} {M : Addr} {ys : List Value} {l : List Nat} (hl : l.length ≤ 1000) (hM : h.IsList M ys.toArray) (hp : Paired (MarkAt M h) ys (sm (1, 1) l)) : MarksIn h M l (txOf l) :=
  ⟨⟨ys, sm (1, 1) l, hM, hp, sm_len _ _, fun k hk => sm_get l (1, 1) k hk⟩, txOf_len l hl⟩

theorem rowsOf_small (l : List Nat) (hl : l.length ≤ 36) : (rowsOf l).length ≤ 500 ∧ ∀ r ∈ rowsOf l, r.length ≤ 500 := by
  have h1 := unCr_len l
  have h2 : (crToLf (unCr l)).length = (unCr l).length := by simp [crToLf]
  obtain ⟨h3, h4⟩ := splitNL_len (crToLf (unCr l))
  unfold rowsOf
  refine ⟨by rw [List.length_map]; omega, fun r hr => ?_⟩
  obtain ⟨q, hq, rfl⟩ := List.mem_map.mp hr
  have := h4 q hq
  split
  · simp only [List.length_cons]; omega
  · omega

section
variable {w : World} {A : Around} {n : Nat} {outer : List Env} {s : Shared} {E : Value → Shared → Prop} {hs h : Heap} {L : Addr} {m : Str → Option Value} {cd : Value}

theorem due_side (B : Bd w hs outer (envC (stAt 27) L 175 cd) L h m) (fa : A.frames = some outer) (dep : A.depth ≤ 301 + n) (uni : A.units ≤ 40 + 40 * n) (hn : n ≤ 11) (hh : A.handled = none)
    {x : Str} {t : Tok} (hx : m "text" = some (.str x t)) (hxl : x.length ≤ 36) (hcd : ∀ c ∈ sentOf x.cps.toList, c < 16 ^ 8) (hsl : (sentOf x.cps.toList).length ≤ 1000) {tk : Nat} {P : Value → Shared → Prop}
    (hP : ∀ h' tk' Du (ys : List Value), (∀ b o, h.get? b = some o → h'.get? b = some o) → h'.IsList Du ys.toArray → Paired (RowAt h') ys (dueFrom (sentOf x.cps.toList) (txOf (sentOf x.cps.toList)) (sentOf x.cps.toList).length) → P (.ref Du) { s with heap := h', toks := tk' }) :
    wpAny (model prg w) (A.deeper (envC (stAt 27) L 175 cd)) (eval dueS (envC (stAt 27) L 175 cd)) P E { s with heap := h, toks := tk } := by
  have hhd : (A.deeper (envC (stAt 27) L 175 cd)).handled = none := hh
  refine Call_nm1 (gnE (s := { s with heap := h, toks := tk }) B.fr.keep B.pb.due (cf1 ?_))
  refine Call_nm2 (gnE (s := { s with heap := h, toks := tk }) B.fr.keep B.pb.marks (cf2 ?_))
  refine Call_nm1 (gnE (s := { s with heap := h, toks := tk }) B.fr.keep B.pb.rows (cf1 ?_))
  refine wpAny_Name (wpAny_loadName_local rfl rfl B.fr.ns hx ⟨B.pb.f_rows.elim fun _ z => z.isFn B.fr.keep, ?_⟩) (by decide)
  refine rows_spec (s := { s with heap := h, toks := tk }) (B.ok fa dep uni) (by omega) hhd x (by omega) fun h₁ tk₁ D l k₁ hD0 hD he => ?_
  have B₁ := B.keeps k₁
  obtain ⟨hr1, hr2⟩ := rowsOf_small x.cps.toList (by rw [Array.length_toList]; exact hxl)
  have hl1 : l.length ≤ 500 := by rw [← List.length_map (f := fun p : Str × Tok => p.1.cps.toList), he]; exact hr1
  have hl2 : ∀ p ∈ l, p.1.length ≤ 500 := fun p hp => by
    have : p.1.cps.toList ∈ rowsOf x.cps.toList := by rw [← he]; exact List.mem_map_of_mem hp
    have := hr2 _ this
    rwa [Array.length_toList] at this
  refine Calls.Constant_str ⟨B₁.pb.f_marks.elim fun _ z => z.isFn B₁.fr.keep, ?_⟩
  refine marks_spec (s := { s with heap := h₁, toks := _ }) (B₁.ok fa dep uni) (by omega) hhd hD hl1 hl2 (Str.ofString "\r\n") (by decide +kernel) fun h₂ tk₂ M ys k₂ hM0 hM hp => ?_
  have B₂ := B₁.keeps k₂
  have e : (Str.ofString "\r\n").cps.toList = [13, 10] := by decide +kernel
  rw [he, e, sent_marks] at hp
  refine ⟨B₂.pb.f_due.elim fun _ z => z.isFn B₂.fr.keep, ?_⟩
  refine due_spec (s := { s with heap := h₂, toks := _ }) (B₂.ok fa dep uni) (by omega) hhd (marksIn_of hsl hM hp) hsl hcd fun h₃ tk₃ Du ys₃ k₃ hDu hpr => ?_
  exact hP h₃ tk₃ Du ys₃ (fun b o e => k₃ b o (k₂ b o (k₁ b o e))) hDu hpr

theorem due_sideP (B : Bd w hs outer (envC (stAt 27) L 175 cd) L h m) (fa : A.frames = some outer) (dep : A.depth ≤ 301 + n) (uni : A.units ≤ 40 + 40 * n) (hn : n ≤ 11) (hh : A.handled = none)
    {x : Str} {t : Tok} (hx : m "text" = some (.str x t)) (hxl : x.length ≤ 36) (hcd : ∀ c ∈ unCr (sentOf x.cps.toList), c < 16 ^ 8) (hsl : (unCr (sentOf x.cps.toList)).length ≤ 1000) {tk : Nat} {P : Value → Shared → Prop}
    (hP : ∀ h' tk' Du (ys : List Value), (∀ b o, h.get? b = some o → h'.get? b = some o) → h'.IsList Du ys.toArray → Paired (RowAt h') ys (dueFrom (unCr (sentOf x.cps.toList)) (txOf (unCr (sentOf x.cps.toList))) (unCr (sentOf x.cps.toList)).length) → P (.ref Du) { s with heap := h', toks := tk' }) :
    wpAny (model prg w) (A.deeper (envC (stAt 27) L 175 cd)) (eval dueP (envC (stAt 27) L 175 cd)) P E { s with heap := h, toks := tk } := by
  have hhd : (A.deeper (envC (stAt 27) L 175 cd)).handled = none := hh
  refine Call_nm1 (gnE (s := { s with heap := h, toks := tk }) B.fr.keep B.pb.due (cf1 ?_))
  refine Call_nm2 (gnE (s := { s with heap := h, toks := tk }) B.fr.keep B.pb.marks (cf2 ?_))
  refine Call_nm1 (gnE (s := { s with heap := h, toks := tk }) B.fr.keep B.pb.rows (cf1 ?_))
  refine wpAny_Name (wpAny_loadName_local rfl rfl B.fr.ns hx ⟨B.pb.f_rows.elim fun _ z => z.isFn B.fr.keep, ?_⟩) (by decide)
  refine rows_spec (s := { s with heap := h, toks := tk }) (B.ok fa dep uni) (by omega) hhd x (by omega) fun h₁ tk₁ D l k₁ hD0 hD he => ?_
  have B₁ := B.keeps k₁
  obtain ⟨hr1, hr2⟩ := rowsOf_small x.cps.toList (by rw [Array.length_toList]; exact hxl)
  have hl1 : l.length ≤ 500 := by rw [← List.length_map (f := fun p : Str × Tok => p.1.cps.toList), he]; exact hr1
  have hl2 : ∀ p ∈ l, p.1.length ≤ 500 := fun p hp => by
    have : p.1.cps.toList ∈ rowsOf x.cps.toList := by rw [← he]; exact List.mem_map_of_mem hp
    have := hr2 _ this
    rwa [Array.length_toList] at this
  refine Calls.Constant_str ⟨B₁.pb.f_marks.elim fun _ z => z.isFn B₁.fr.keep, ?_⟩
  refine marks_spec (s := { s with heap := h₁, toks := _ }) (B₁.ok fa dep uni) (by omega) hhd hD hl1 hl2 (Str.ofString "\n") (by decide +kernel) fun h₂ tk₂ M ys k₂ hM0 hM hp => ?_
  have B₂ := B₁.keeps k₂
  have e : (Str.ofString "\n").cps.toList = [10] := by decide +kernel
  rw [he, e, plain_marks] at hp
  refine ⟨B₂.pb.f_due.elim fun _ z => z.isFn B₂.fr.keep, ?_⟩
  refine due_spec (s := { s with heap := h₂, toks := _ }) (B₂.ok fa dep uni) (by omega) hhd (marksIn_of hsl hM hp) hsl hcd fun h₃ tk₃ Du ys₃ k₃ hDu hpr => ?_
  exact hP h₃ tk₃ Du ys₃ (fun b o e => k₃ b o (k₂ b o (k₁ b o e))) hDu hpr
end
end Mine
end

noncomputable section -- NbLaw4
open PySem PySem.W PyProof.Rows
open PySem.Builtin PySem.Builtin.Str PySem.Builtin.BaseException
set_option maxRecDepth 100000
namespace Mine

noncomputable def lS (i : Nat) : Stmt := (bdyOfS (stAt 27)).getD i (.Pass default)
noncomputable def tgtP : Stmt → Pos
  | .Assign (.Name _ p :: _) _ _ => p
  | _ => default
noncomputable def stP : Stmt → Pos
  | .Assign _ _ p => p
  | .If _ _ _ p => p
  | .Return _ p => p
  | _ => default
noncomputable def bodyI : Stmt → List Stmt
  | .If _ b _ _ => b
  | _ => []
noncomputable def cmpL : Expr → Expr
  | .Compare l _ _ _ => l
  | e => e
noncomputable def cmpP : Expr → Pos
  | .Compare _ _ _ p => p
  | _ => default
noncomputable def namP : Expr → Pos
  | .Name _ p => p
  | _ => default
theorem law_body : bdyOfS (stAt 27) = [lS 0, lS 1, lS 2, lS 3, lS 4, lS 5, lS 6, lS 7] := by kernel_rfl
theorem lS4 : lS 4 = .Assign [.Name "told" (tgtP (lS 4))] toldE (stP (lS 4)) := by kernel_rfl
theorem lS6 : lS 6 = .Assign [.Name "told_plain" (tgtP (lS 6))] toldP (stP (lS 6)) := by kernel_rfl
theorem lS5 : lS 5 = .If (.Compare (.Name "told" (namP (cmpL (testOf (lS 5))))) [.NotEq] [dueS] (cmpP (testOf (lS 5)))) (bodyI (lS 5)) [] (stP (lS 5)) := by kernel_rfl
theorem lS7 : lS 7 = .Return (some (.Compare (.Name "told_plain" (namP (cmpL (testOf (lS 7))))) [.Eq] [dueP] (cmpP (testOf (lS 7))))) (stP (lS 7)) := by kernel_rfl

noncomputable abbrev lawCs (L : Addr) : List (Str × Addr) := cellsFrom (L + 1) (scpOfS (stAt 27)).names []

section
variable {w : World} {A : Around} {n : Nat} {outer : List Env} {s : Shared} {E : Value → Shared → Prop} {hs h : Heap} {L : Addr} {m cm : Str → Option Value} {cd : Value}

theorem stLB (B : Bd w hs outer (envC (stAt 27) L 175 cd) L h m) (X : Cl L (lawCs L) h cm) {x : Str} {v : Value} {tk : Nat} {P : Unit → Shared → Prop}
    (hP : ∀ h', Bd w hs outer (envC (stAt 27) L 175 cd) L h' (fun y => if y = x then some v else m y) → Cl L (lawCs L) h' cm → Heap.SameBut L h h' → P () { s with heap := h', toks := tk + 1 })
    (hl : (envC (stAt 27) L 175 cd).kindOf x = some .local := by rfl) :
    wpAny (model prg w) A (storeName (envC (stAt 27) L 175 cd) x v) P E { s with heap := h, toks := tk } :=
  wpAny_storeName_local hl B.fr.ns (fun h' hn hs' => hP h' (B.set hn hs') (X.sameBut hs' (Nat.le_refl _)) hs') rfl

theorem stCB (B : Bd w hs outer (envC (stAt 27) L 175 cd) L h m) (X : Cl L (lawCs L) h cm) {x : Str} {c : Addr} {v : Value} (hc : (lawCs L).lookup x = some c) {tk : Nat} {P : Unit → Shared → Prop}
    (hP : ∀ h', Bd w hs outer (envC (stAt 27) L 175 cd) L h' m → Cl L (lawCs L) h' (fun y => if y = x then some v else cm y) → Heap.SameBut c h h' → P () { s with heap := h', toks := tk })
    (hl : (envC (stAt 27) L 175 cd).kindOf x = some .cell := by rfl) :
    wpAny (model prg w) A (storeName (envC (stAt 27) L 175 cd) x v) P E { s with heap := h, toks := tk } := by
  have hLc : L < c := X.above x c (mem_of_lookup hc)
  have hcell := X.cell x c hc
  refine wpAny_storeName_cell rfl hl hc hcell fun h' hv sb => hP h' (B.touch [c] (fun b hb => ?_) fun b o hb e => (sb.2 b fun z => hb (List.mem_singleton.mpr z)).trans e) ⟨fun n' c' e => ?_, X.apart, X.above⟩ sb
  · rw [List.mem_singleton.mp hb]
    refine ⟨hLc, ?_⟩
    rintro ⟨c', o, vs, t, e, g, gd, gv⟩
    injection e with e; subst e
    obtain ⟨oC, g1, g2⟩ := hcell
    rw [g1] at g; injection g with g; subst g; rw [g2] at gd; cases gd
  · by_cases hn : n' = x
    · subst hn; rw [hc] at e; cases e; simpa using hv
    · have hcc : c' ≠ c := fun q => hn (name_of_addr X.apart (mem_of_lookup e) (q ▸ mem_of_lookup hc))
      simpa [hn] using (X.cell n' c' e).sameBut sb hcc

theorem cl_over {L : Addr} {cs : List (Str × Addr)} {h h' : Heap} {cm : Str → Option Value} (X : Cl L cs h cm) (k : ∀ b o, L < b → h.get? b = some o → h'.get? b = some o) : Cl L cs h' cm :=
  ⟨fun n c e => let ⟨o, ho, hd⟩ := X.cell n c e; ⟨o, k c o (X.above n c (mem_of_lookup e)) ho, hd⟩, X.apart, X.above⟩

theorem SeqK.list {h h' : Heap} (k : SeqK h h') {a : Addr} {xs : Array Value} (x : h.IsList a xs) : h'.IsList a xs := by
  obtain ⟨o, ho, hc, n, hd⟩ := x
  exact ⟨o, k a o _ _ ho hd, hc, n, hd⟩

theorem unCr_mem {c : Nat} {l : List Nat} (h : c ∈ unCr l) : c ∈ l ∨ c = 10 := by
  induction l using unCr.induct <;> simp_all [unCr] <;> grind

theorem law_end {x : Str} {tx tp : Tok} (B : Bd w hs outer (envC (stAt 27) L 175 cd) L h m) (X : Cl L (lawCs L) h cm) (fa : A.frames = some outer) (dep : A.depth ≤ 301 + n) (uni : A.units ≤ 40 + 40 * n) (hn : n ≤ 1) (hh : A.handled = none)
    (hx : m "text" = some (.str x tx)) (hxl : x.length ≤ 36) (hp : cm "plain" = some (.str (S (unCr (sentOf x.cps.toList))) tp)) (hcd : ∀ c ∈ unCr (sentOf x.cps.toList), c < 16 ^ 8) (hsl : (unCr (sentOf x.cps.toList)).length ≤ 1000)
    {tk : Nat} {P : Flow → Shared → Prop} (hP : ∀ h' tk' m', Bd w hs outer (envC (stAt 27) L 175 cd) L h' m' → P (.ret (.bool true)) { s with heap := h', toks := tk' }) :
    wpAny (model prg w) (A.deeper (envC (stAt 27) L 175 cd)) (execs [lS 6, lS 7] (envC (stAt 27) L 175 cd)) P E { s with heap := h, toks := tk } := by
  have hu : (A.deeper (envC (stAt 27) L 175 cd)).units + 3 < cLine := by
    show A.units + 3 + 3 < cLine
    have : cLine ≥ 1000 := by decide +kernel
    omega
  have hlen : (S (unCr (sentOf x.cps.toList))).length = (unCr (sentOf x.cps.toList)).length := by unfold S; simp [Str.length]
  have hcps : (S (unCr (sentOf x.cps.toList))).cps.toList = unCr (sentOf x.cps.toList) := by unfold S; simp
  have cellP : h.IsCell (L + 3) (some (.str (S (unCr (sentOf x.cps.toList))) tp)) := hp ▸ X.cell "plain" (L + 3) rfl
  rw [lS6]
  refine wpAny_execs_cons (told_outP (s := s) (by kernel_rfl) B fa dep uni (by omega) hh (S (unCr (sentOf x.cps.toList))) (by omega) (by rw [hcps]; exact hcd) cellP (dueFrom (unCr (sentOf x.cps.toList)) (txOf (unCr (sentOf x.cps.toList))) (unCr (sentOf x.cps.toList)).length)
    (by rw [dueFrom_len, hlen]) (fun p r hr => ?_) fun h₁ tk₁ D ys B₁ k₁ hD0 hD hpr => ?_)
  · rw [hcps]
    have hlt : p < (unCr (sentOf x.cps.toList)).length + 2 := by rw [← dueFrom_len]; exact (List.getElem?_eq_some_iff.mp hr).1
    obtain ⟨r', hr', q⟩ := due_asked (unCr (sentOf x.cps.toList)) p hlt
    rw [hr] at hr'; injection hr' with hr'; subst hr'
    exact q
  · rw [lS7]
    refine wpAny_execs_cons (wpAny_Return_some (wpAny_Compare1 ?_ (by kernel_rfl)))
    refine wpAny_Name (wpAny_loadName_local rfl rfl B₁.fr.ns (if_pos rfl) ?_) (by decide)
    refine due_sideP (s := s) B₁ fa dep uni (by omega) hh (x := x) (t := tx) (by rw [if_neg (by decide)]; exact hx) hxl hcd hsl fun h₃ tk₃ Du ys₃ k₃ hDu hpr₃ => ?_
    have kk : SeqK h₁ h₃ := .of_keeps k₃
    exact eq_rows (s := { s with heap := h₃, toks := tk₃ }) (kk.list hD) hDu (Paired.imp (fun _ _ z => z.mono kk) hpr) hpr₃ hu (hP h₃ tk₃ _ (B₁.keeps k₃))

theorem law_mid {x : Str} {tx ts tp : Tok} (B : Bd w hs outer (envC (stAt 27) L 175 cd) L h m) (X : Cl L (lawCs L) h cm) (fa : A.frames = some outer) (dep : A.depth ≤ 301 + n) (uni : A.units ≤ 40 + 40 * n) (hn : n ≤ 1) (hh : A.handled = none)
    (hx : m "text" = some (.str x tx)) (hxl : x.length ≤ 36) (hp : cm "plain" = some (.str (S (unCr (sentOf x.cps.toList))) tp)) (hs' : cm "sent" = some (.str (S (sentOf x.cps.toList)) ts))
    (hcd : ∀ c ∈ sentOf x.cps.toList, c < 16 ^ 8) (hsl : (sentOf x.cps.toList).length ≤ 1000)
    {tk : Nat} {P : Flow → Shared → Prop} (hP : ∀ h' tk' m', Bd w hs outer (envC (stAt 27) L 175 cd) L h' m' → P (.ret (.bool true)) { s with heap := h', toks := tk' }) :
    wpAny (model prg w) (A.deeper (envC (stAt 27) L 175 cd)) (execs [lS 4, lS 5, lS 6, lS 7] (envC (stAt 27) L 175 cd)) P E { s with heap := h, toks := tk } := by
  have hu : (A.deeper (envC (stAt 27) L 175 cd)).units + 3 < cLine := by
    show A.units + 3 + 3 < cLine
    have : cLine ≥ 1000 := by decide +kernel
    omega
  have hlen : (S (sentOf x.cps.toList)).length = (sentOf x.cps.toList).length := by unfold S; simp [Str.length]
  have hcps : (S (sentOf x.cps.toList)).cps.toList = sentOf x.cps.toList := by unfold S; simp
  have cellS : h.IsCell (L + 2) (some (.str (S (sentOf x.cps.toList)) ts)) := hs' ▸ X.cell "sent" (L + 2) rfl
  rw [lS4]
  refine wpAny_execs_cons (told_out (s := s) (by kernel_rfl) B fa dep uni (by omega) hh (S (sentOf x.cps.toList)) (by omega) (by rw [hcps]; exact hcd) cellS (dueFrom (sentOf x.cps.toList) (txOf (sentOf x.cps.toList)) (sentOf x.cps.toList).length)
    (by rw [dueFrom_len, hlen]) (fun p r hr => ?_) fun h₁ tk₁ D ys B₁ k₁ hD0 hD hpr => ?_)
  · rw [hcps]
    have hlt : p < (sentOf x.cps.toList).length + 2 := by rw [← dueFrom_len]; exact (List.getElem?_eq_some_iff.mp hr).1
    obtain ⟨r', hr', q⟩ := due_asked (sentOf x.cps.toList) p hlt
    rw [hr] at hr'; injection hr' with hr'; subst hr'
    exact q
  · rw [lS5]
    refine wpAny_execs_cons (wpAny_If (wpAny_isTrue_Compare1 ?_ (by kernel_rfl)))
    refine wpAny_Name (wpAny_loadName_local rfl rfl B₁.fr.ns (if_pos rfl) ?_) (by decide)
    refine due_side (s := s) B₁ fa dep uni (by omega) hh (x := x) (t := tx) (by rw [if_neg (by decide)]; exact hx) hxl hcd hsl fun h₃ tk₃ Du ys₃ k₃ hDu hpr₃ => ?_
    have kk : SeqK h₁ h₃ := .of_keeps k₃
    refine ne_rows (s := { s with heap := h₃, toks := tk₃ }) (kk.list hD) hDu (Paired.imp (fun _ _ z => z.mono kk) hpr) hpr₃ hu (wpAny_truthy_bool ?_)
    have hcd' : ∀ c ∈ unCr (sentOf x.cps.toList), c < 16 ^ 8 := fun c hc => by
      rcases unCr_mem hc with q | q
      · exact hcd c q
      · rw [q]; decide
    have hsl' : (unCr (sentOf x.cps.toList)).length ≤ 1000 := Nat.le_trans (unCr_len _) hsl
    refine wpAny_execs_nil ?_
    exact law_end (s := s) (B₁.keeps k₃) ((cl_over X k₁).keeps k₃) fa dep uni hn hh (by rw [if_neg (by decide)]; exact hx) hxl hp hcd' hsl' hP
end
end Mine
end

noncomputable section -- NbLaw5
open PySem PySem.W PyProof.Rows
open PySem.Builtin PySem.Builtin.Str PySem.Builtin.BaseException
set_option maxRecDepth 100000
namespace Mine

theorem crlfs_mem {c : Nat} {l : List Nat} (h : c ∈ crlfs l) : c ∈ l ∨ c = 13 ∨ c = 10 := by
  induction l using crlfs.induct <;> simp_all [crlfs] <;> grind
theorem dots_mem {c : Nat} {l : List Nat} : ∀ {b : Bool}, c ∈ dots b l → c ∈ l ∨ c = 46 := by
  induction l with
  | nil => intro b h; simp [dots] at h
  | cons d l ih =>
    intro b h
    unfold dots at h
    split at h
    · simp only [List.mem_cons] at h ⊢
      rcases h with h | h | h
      · exact .inr h
      · exact .inr h
      · rcases ih h with q | q
        · exact .inl (.inr q)
        · exact .inr q
    · simp only [List.mem_cons] at h ⊢
      rcases h with h | h
      · exact .inl (.inl h)
      · rcases ih h with q | q
        · exact .inl (.inr q)
        · exact .inr q
theorem sent_mem {c : Nat} {l : List Nat} (h : c ∈ sentOf l) : c ∈ l ∨ c ≤ 46 := by
  rcases dots_mem h with q | q
  · rcases crlfs_mem q with q | q | q
    · exact .inl q
    · exact .inr (by omega)
    · exact .inr (by omega)
  · exact .inr (by omega)
theorem sent_len (l : List Nat) : (sentOf l).length ≤ 4 * l.length := by
  have h1 := dots_len (crlfs l) true
  have h2 := crlfs_len l
  unfold sentOf
  omega
theorem text_code {ns : List Int} {odd c : Nat} (ho : odd < 1114112) (h : c ∈ textOf ns odd) : c < 1114112 := by
  unfold textOf at h
  obtain ⟨x, _, hx⟩ := List.mem_flatMap.mp h
  unfold signsOf at hx
  obtain ⟨k, _, rfl⟩ := List.mem_map.mp hx
  generalize (x.fmod 17915904).toNat / (6 * 12 ^ k) % 12 = j
  rw [List.getD_eq_getElem?_getD]
  cases hj : (sgn odd)[j]? with
  | none => decide
  | some v =>
    have := List.mem_of_getElem? hj
    simp only [sgn, List.mem_cons, List.not_mem_nil, or_false] at this
    show v < _
    omega

theorem lS0 : lS 0 = .Assign [.Name "odd" (tgtP (lS 0))] (valOf (lS 0)) (stP (lS 0)) := by kernel_rfl
theorem lS1 : lS 1 = .Assign [.Name "text" (tgtP (lS 1))] textE (stP (lS 1)) := by kernel_rfl
theorem lS2 : lS 2 = .Assign [.Name "sent" (tgtP (lS 2))] (valOf (lS 2)) (stP (lS 2)) := by kernel_rfl
theorem lS3 : lS 3 = .Assign [.Name "plain" (tgtP (lS 3))] (valOf (lS 3)) (stP (lS 3)) := by kernel_rfl

section
variable {w : World} {A : Around} {n : Nat} {outer : List Env} {s : Shared} {E : Value → Shared → Prop} {hs h : Heap} {L : Addr} {m cm : Str → Option Value} {cd : Value}

theorem sum_any {Q : Value → Shared → Prop} (hh : A.handled = none) {l : Addr} {vs : List Value} {ns : List Int} (hl : s.heap.IsList l vs.toArray) (hi : IntsAre vs ns)
    (h : ∀ h' tk t' T, (∀ b o, s.heap.get? b = some o → h'.get? b = some o) → Q (.int T t') { s with heap := h', toks := tk }) :
    wpAny (model prg w) A (call (.builtin "sum") [.ref l]) Q E s := by
  obtain ⟨xs, e⟩ := (hi.allInts).items
  rw [e] at hl
  exact sum_intListG hh hl fun h' tk t' hk => h h' tk t' _ hk

theorem odd_st (B : Bd w hs outer (envC (stAt 27) L 175 cd) L h m) (X : Cl L (lawCs L) h cm) (fa : A.frames = some outer) (dep : A.depth ≤ 301 + n) (uni : A.units ≤ 40 + 40 * n) (hn : n ≤ 1) (hh : A.handled = none)
    {scr : Addr} {vs : List Value} {ns : List Int} (hscr : m "script" = some (.ref scr)) (hl : h.IsList scr vs.toArray) (hi : IntsAre vs ns) {tk : Nat} {P : Flow → Shared → Prop}
    (hP : ∀ h' tk' odd t', odd < 1114112 → Bd w hs outer (envC (stAt 27) L 175 cd) L h' m → Cl L (lawCs L) h' (fun y => if y = "odd" then some (.str ⟨#[odd]⟩ t') else cm y) → h'.IsList scr vs.toArray → P .next { s with heap := h', toks := tk' }) :
    wpAny (model prg w) (A.deeper (envC (stAt 27) L 175 cd)) (exec (lS 0) (envC (stAt 27) L 175 cd)) P E { s with heap := h, toks := tk } := by
  have hhd : (A.deeper (envC (stAt 27) L 175 cd)).handled = none := hh
  rw [lS0]
  refine wpAny_Assign_Name ?_ (by kernel_rfl)
  refine Call_nm1 (gnE (s := { s with heap := h, toks := tk }) B.fr.keep B.pb.odd (cf1 ?_))
  refine Call_nm1 (bnE (s := { s with heap := h, toks := tk }) B.fr.keep B.pb.b_sum (cw1 ?_))
  refine wpAny_Name (wpAny_loadName_local rfl rfl B.fr.ns hscr ?_) (by decide)
  refine sum_any (s := { s with heap := h, toks := tk }) hhd hl hi fun h₁ tk₁ t₁ T k₁ => ?_
  have B₁ := B.keeps k₁
  refine ⟨B₁.pb.f_odd.elim fun _ z => z.isFn B₁.fr.keep, ?_⟩
  refine odd_spec (s := { s with heap := h₁, toks := tk₁ }) (B₁.ok fa dep uni) (by omega) T fun h₂ tk₂ t₂ k₂ => ?_
  refine stCB (s := s) (B₁.keeps k₂) ((X.keeps k₁).keeps k₂) (c := L + 1) rfl fun h₃ B₃ X₃ sb₃ => ?_
  refine hP h₃ _ (oddC T) t₂ (oddC_lt T) B₃ X₃ ?_
  obtain ⟨o, ho, hc, n', hd⟩ := hl
  have ho₂ := k₂ _ _ (k₁ _ _ ho)
  refine ⟨o, (sb₃.2 scr fun z => ?_).trans ho₂, hc, n', hd⟩
  obtain ⟨oc, g1, g2⟩ := X.cell "odd" (L + 1) rfl
  rw [z, g1] at ho; injection ho with ho; subst ho; rw [g2] at hd; cases hd

theorem sent_st (B : Bd w hs outer (envC (stAt 27) L 175 cd) L h m) (X : Cl L (lawCs L) h cm) (fa : A.frames = some outer) (dep : A.depth ≤ 301 + n) (uni : A.units ≤ 40 + 40 * n) (hn : n ≤ 1)
    {x : Str} {tx : Tok} (hx : m "text" = some (.str x tx)) (hxl : x.length ≤ 36) {tk : Nat} (htk : 1 ≤ tk) {P : Flow → Shared → Prop}
    (hP : ∀ h' tk' t', 1 ≤ tk' → Bd w hs outer (envC (stAt 27) L 175 cd) L h' m → Cl L (lawCs L) h' (fun y => if y = "sent" then some (.str (S (sentOf x.cps.toList)) t') else cm y) → P .next { s with heap := h', toks := tk' }) :
    wpAny (model prg w) (A.deeper (envC (stAt 27) L 175 cd)) (exec (lS 2) (envC (stAt 27) L 175 cd)) P E { s with heap := h, toks := tk } := by
  rw [lS2]
  refine wpAny_with_toks (n := 1) htk ?_
  refine wpAny_Assign_Name ?_ (by kernel_rfl)
  refine Call_nm1 (gnE (s := { s with heap := h, toks := tk }) B.fr.keep B.pb.quotedata (cf1 ?_))
  refine wpAny_Name (wpAny_loadName_local rfl rfl B.fr.ns hx ?_) (by decide)
  refine ⟨B.pb.f_quotedata.elim fun _ z => z.isFn B.fr.keep, ?_⟩
  refine quotedata_spec (s := { s with heap := h, toks := tk }) (B.ok fa dep uni) (by omega) x (by omega) fun h₂ tk₂ t₂ k₂ => ?_
  refine stCB (s := s) (B.keeps k₂) (X.keeps k₂) (c := L + 2) rfl fun h₃ B₃ X₃ sb₃ => ?_
  exact fun hk => hP h₃ _ t₂ hk B₃ X₃

theorem plain_st (B : Bd w hs outer (envC (stAt 27) L 175 cd) L h m) (X : Cl L (lawCs L) h cm)
    {l : List Nat} {ts : Tok} (hx : cm "sent" = some (.str (S l) ts)) (hxl : l.length ≤ 1000) {tk : Nat} (htk : 1 ≤ tk) {P : Flow → Shared → Prop}
    (hP : ∀ h' tk' t', Bd w hs outer (envC (stAt 27) L 175 cd) L h' m → Cl L (lawCs L) h' (fun y => if y = "plain" then some (.str (S (unCr l)) t') else cm y) → P .next { s with heap := h', toks := tk' }) :
    wpAny (model prg w) (A.deeper (envC (stAt 27) L 175 cd)) (exec (lS 3) (envC (stAt 27) L 175 cd)) P E { s with heap := h, toks := tk } := by
  have hlen : (S l).length = l.length := by unfold S; simp [Str.length]
  have hcps : (S l).cps.toList = l := by unfold S; simp
  rw [lS3]
  refine wpAny_Assign_Name ?_ (by kernel_rfl)
  refine methE2 PySem.F.slot_str_replace PySem.F.type_str_replace ?_
  refine wpAny_Name (wpAny_loadName_cell rfl rfl rfl (hx ▸ X.cell "sent" (L + 2) rfl) ⟨S l, ts, rfl, ?_⟩) (by decide)
  refine cw2 (Calls.Constant_str (Calls.Constant_str ?_))
  refine SC.replace (by show tk ≠ 0; omega) (by show tk + 1 ≠ 0; omega) (by show tk ≠ tk + 1; omega) (by decide) (by show (S l).length + ((S l).length + 1) * 1 ≤ _; omega) fun t₂ k₂ => ?_
  have e₂ : Txt.replace (S l) (Str.ofString "\r\n") (Str.ofString "\n") = S (unCr l) := by
    apply Str.ext'
    have : (Txt.replace (S l) (Str.ofString "\r\n") (Str.ofString "\n")).cps.toList = unCr (S l).cps.toList := replace_crlf (S l)
    rw [hcps] at this
    apply Array.ext'
    rw [this]; unfold S; simp
  refine stCB (s := s) B X (c := L + 3) rfl fun h₃ B₃ X₃ sb₃ => ?_
  have X₄ : Cl L (lawCs L) h₃ (fun y => if y = "plain" then some (.str (Txt.replace (S l) (Str.ofString "\r\n") (Str.ofString "\n")) t₂) else cm y) := X₃
  rw [e₂] at X₄
  exact hP h₃ _ t₂ B₃ X₄

set_option maxHeartbeats 2000000 in
theorem law_spec (ok : Ok w A n outer s.heap) (hn : n ≤ 1) (hh : A.handled = none) {Q : Value → Shared → Prop} {scr : Addr} {vs : List Value} {ns : List Int} (hl : s.heap.IsList scr vs.toArray) (hi : IntsAre vs ns) (hvl : vs.length ≤ 1000)
    (hQ : ∀ h' tk', Eff outer s.heap h' → Pool h' → Q (.bool true) { s with heap := h', toks := tk' }) :
    wpAny (model prg w) A (call (.ref 175) [.ref scr]) Q E s := by
  refine call_qc (binds := [("script", .ref scr)]) ok (by omega) ok.pb.f_law (fun _ _ _ => by rfl) (by rfl) (fun H h₁ tk₁ cd F X => ?_)
  have B : Bd w s.heap outer (envC (stAt 27) s.heap.objs.size 175 cd) s.heap.objs.size h₁ _ := Bd.start ok F (by show (scpOfS (stAt 27)).kind ≠ _; decide) rfl
  have fa := ok.fa
  have dep := ok.dep
  have uni := ok.uni
  rw [law_body]
  refine wpAny_execs_cons (odd_st (s := s) B X fa dep uni hn hh rfl (hl.imp fun o z => ⟨F.keep _ _ z.1, z.2⟩) hi fun h₂ tk₂ odd t₂ ho B₂ X₂ hl₂ => ?_)
  rw [lS1]
  refine wpAny_execs_cons (wpAny_Assign_Name ?_ (by kernel_rfl))
  refine text_spec (s := s) B₂ fa dep uni (by omega) hh rfl hl₂ hi hvl (odd := odd) (t := t₂) (X₂.cell "odd" _ rfl) fun h₃ tk₃ t₃ htk₃ k₃ => ?_
  refine stLB (s := s) (B₂.keeps k₃) (X₂.keeps k₃) fun h₄ B₄ X₄ sb₄ => ?_
  have hxl : (S (textOf ns odd)).length ≤ 36 := by
    have := textOf_len ns odd
    unfold S; simpa [Str.length] using this
  have hcps : (S (textOf ns odd)).cps.toList = textOf ns odd := by unfold S; simp
  refine wpAny_execs_cons (sent_st (s := s) B₄ X₄ fa dep uni hn (x := S (textOf ns odd)) (tx := t₃) (if_pos rfl) hxl (by omega) fun h₅ tk₅ t₅ htk₅ B₅ X₅ => ?_)
  have hsl : (sentOf (S (textOf ns odd)).cps.toList).length ≤ 1000 := by
    rw [hcps]
    have := sent_len (textOf ns odd)
    have := textOf_len ns odd
    omega
  have hcd : ∀ c ∈ sentOf (S (textOf ns odd)).cps.toList, c < 16 ^ 8 := fun c hc => by
    rw [hcps] at hc
    rcases sent_mem hc with q | q
    · have := text_code ho q; omega
    · omega
  refine wpAny_execs_cons (plain_st (s := s) B₅ X₅ (l := sentOf (S (textOf ns odd)).cps.toList) (ts := t₅) (if_pos rfl) hsl htk₅ fun h₆ tk₆ t₆ B₆ X₆ => ?_)
  refine law_mid (s := s) (x := S (textOf ns odd)) (tx := t₃) (ts := t₅) (tp := t₆) B₆ X₆ fa dep uni hn hh (if_pos rfl) hxl (if_pos rfl) ?_ hcd hsl fun h' tk' m' B' => ?_
  · rw [if_neg (by decide)]; exact if_pos rfl
  · exact hQ h' tk' B'.eff B'.pl
end
end Mine
end

noncomputable section -- NbLay
open PySem PySem.W PyProof.Rows
set_option maxRecDepth 100000
namespace Mine

/-! ## a clean table is always found -/
noncomputable def lp (mask : Nat) : Nat → Nat × Nat → Nat × Nat
  | 0, x => x
  | m + 1, x => lp mask m (SetTable.leap mask x.1 x.2)
theorem lp_add (mask : Nat) : ∀ (a b : Nat) (x : Nat × Nat), lp mask (a + b) x = lp mask b (lp mask a x)
  | 0, b, x => by rw [Nat.zero_add]; rfl
  | a + 1, b, x => by rw [Nat.succ_add]; exact lp_add mask a b _
theorem lp_snd (mask : Nat) : ∀ (m : Nat) (x : Nat × Nat), (lp mask m x).2 = x.2 / 32 ^ m
  | 0, x => by simp [lp]
  | m + 1, x => by
    rw [lp, lp_snd mask m]
    unfold SetTable.leap
    show x.2 / 32 / 32 ^ m = _
    rw [Nat.div_div_eq_div_mul, Nat.pow_succ, Nat.mul_comm]
theorem lp_fst {mask : Nat} : ∀ (m : Nat) (x : Nat × Nat), x.1 ≤ mask → (lp mask m x).1 ≤ mask
  | 0, _, h => h
  | m + 1, x, _ => lp_fst m _ (by unfold SetTable.leap; exact Nat.le_of_lt_succ (Nat.mod_lt _ (Nat.succ_pos _)))

/-- the leaps with nothing left to stir -/
noncomputable def it (mask : Nat) : Nat → Nat → Nat
  | 0, i => i
  | m + 1, i => it mask m ((i * 5 + 1) % (mask + 1))
theorem lp_it (mask : Nat) : ∀ (m i : Nat), lp mask m (i, 0) = (it mask m i, 0)
  | 0, _ => rfl
  | m + 1, i => by
    rw [lp, it]
    have : SetTable.leap mask i 0 = ((i * 5 + 1) % (mask + 1), 0) := by unfold SetTable.leap; simp
    show lp mask m (SetTable.leap mask i 0) = _
    rw [this]; exact lp_it mask m _
theorem it_add (mask : Nat) : ∀ (a b i : Nat), it mask (a + b) i = it mask b (it mask a i)
  | 0, b, i => by rw [Nat.zero_add]; rfl
  | a + 1, b, i => by rw [Nat.succ_add]; exact it_add mask a b _
noncomputable def orbit (mask : Nat) : Nat → Nat → List Nat
  | 0, _ => []
  | n + 1, i => i :: orbit mask n ((i * 5 + 1) % (mask + 1))
theorem mem_orbit {mask : Nat} : ∀ {n i j : Nat}, j ∈ orbit mask n i → ∃ b, b < n ∧ it mask b i = j
  | 0, _, _, h => by simp [orbit] at h
  | n + 1, i, j, h => by
    rcases List.mem_cons.mp h with e | e
    · exact ⟨0, Nat.succ_pos _, e.symm⟩
    · obtain ⟨b, hb, e⟩ := mem_orbit e
      exact ⟨b + 1, Nat.succ_lt_succ hb, e⟩
/-- a table whose leaps go everywhere -/
structure Full (mask : Nat) : Prop where
  all : ∀ j, j ≤ mask → ∃ b, b ≤ mask ∧ it mask b 0 = j
  back : it mask (mask + 1) 0 = 0
theorem Full.of {mask : Nat} (h : ((List.range (mask + 1)).all fun j => (orbit mask (mask + 1) 0).contains j) = true) (hb : it mask (mask + 1) 0 = 0) : Full mask :=
  ⟨fun j hj => by
    have := List.all_eq_true.mp h j (List.mem_range.mpr (Nat.lt_succ_of_le hj))
    obtain ⟨b, hb, e⟩ := mem_orbit (List.contains_iff_mem.mp this)
    exact ⟨b, Nat.le_of_lt_succ hb, e⟩, hb⟩
theorem full7 : Full 7 := .of (by decide +kernel) (by decide +kernel)
theorem full127 : Full 127 := .of (by decide +kernel) (by decide +kernel)
theorem Full.any {mask : Nat} (F : Full mask) {i j : Nat} (hi : i ≤ mask) (hj : j ≤ mask) : ∃ b, b ≤ mask ∧ it mask b i = j := by
  obtain ⟨a, ha, rfl⟩ := F.all i hi
  obtain ⟨b, hb, rfl⟩ := F.all j hj
  by_cases h : a ≤ b
  · exact ⟨b - a, by omega, by rw [← it_add]; congr 1; omega⟩
  · refine ⟨b + (mask + 1) - a, by omega, ?_⟩
    rw [← it_add, show a + (b + (mask + 1) - a) = (mask + 1) + b by omega, it_add, F.back]

theorem Full.reach {mask : Nat} (F : Full mask) {i j p : Nat} (hi : i ≤ mask) (hj : j ≤ mask) (hp : p < 2 ^ 64) : ∃ m, m < SetTable.turns mask ∧ (lp mask m (i, p)).1 = j := by
  have h1 : lp mask 13 (i, p) = ((lp mask 13 (i, p)).1, 0) := by
    have := lp_snd mask 13 (i, p)
    rw [Nat.div_eq_of_lt (by show p < 32 ^ 13; omega)] at this
    exact Prod.ext rfl this
  obtain ⟨b, hb, e⟩ := F.any (lp_fst 13 (i, p) hi) hj
  refine ⟨13 + b, by unfold SetTable.turns; omega, ?_⟩
  rw [lp_add, h1, lp_it, e]

theorem free_some {mask : Nat} {owner : Array (Option Nat)} {j : Nat} (hj : owner[j]? = some none) : ∀ (fuel i p : Nat), (∃ m, m < fuel ∧ (lp mask m (i, p)).1 = j) → ∃ r, SetTable.layClean.free mask owner fuel i p = some r
  | 0, _, _, ⟨_, h, _⟩ => absurd h (Nat.not_lt_zero _)
  | fuel + 1, i, p, ⟨m, hm, e⟩ => by
    unfold SetTable.layClean.free
    split
    · exact ⟨_, rfl⟩
    · rename_i hf
      cases m with
      | zero =>
        have e : i = j := e
        subst e
        have hlt : 0 < SetTable.runEnd mask i + 1 - i := by unfold SetTable.runEnd; split <;> omega
        have := List.find?_eq_none.mp hf 0 (List.mem_range.mpr hlt)
        rw [Nat.add_zero, Array.getD_eq_getD_getElem?, hj] at this
        exact absurd rfl this
      | succ m => exact free_some hj fuel _ _ ⟨m, Nat.lt_of_succ_lt_succ hm, e⟩
theorem free_none {mask : Nat} {owner : Array (Option Nat)} : ∀ (fuel i p r : Nat), SetTable.layClean.free mask owner fuel i p = some r → owner[r]? = some none
  | 0, _, _, _, h => by unfold SetTable.layClean.free at h; cases h
  | fuel + 1, i, p, r, h => by
    unfold SetTable.layClean.free at h
    split at h
    · rename_i k hf
      injection h with h; subst h
      have := List.find?_some hf
      rw [Array.getD_eq_getD_getElem?] at this
      cases hq : owner[i + k]? with
      | none => rw [hq] at this; cases this
      | some v =>
        rw [hq] at this
        cases v with
        | none => rfl
        | some _ => cases this
    · exact free_none fuel _ _ r h

theorem set_perm {k : Nat} : ∀ {l : List (Option Nat)} {j : Nat}, l[j]? = some none → ((l.set j (some k)).filterMap id).Perm (k :: l.filterMap id)
  | [], _, h => by simp at h
  | a :: l, 0, h => by
    have h : a = none := by simpa using h
    subst h
    simp
  | a :: l, j + 1, h => by
    have h : l[j]? = some none := by simpa using h
    have ih := set_perm (k := k) h
    cases a with
    | none => simpa using ih
    | some a =>
      simp only [List.set_cons_succ, List.filterMap_cons_some (b := a) (f := id) rfl]
      exact (ih.cons a).trans (List.Perm.swap k a _)
theorem gap_in : ∀ {l : List (Option Nat)}, (l.filterMap id).length < l.length → ∃ j : Nat, l[j]? = some none
  | [], h => by simp at h
  | none :: l, _ => ⟨0, rfl⟩
  | some a :: l, h => by
    rw [List.filterMap_cons_some (b := a) (f := id) rfl, List.length_cons, List.length_cons] at h
    obtain ⟨j, e⟩ := gap_in (Nat.lt_of_succ_lt_succ h)
    exact ⟨j + 1, by simpa using e⟩

/-- what the laying keeps -/
noncomputable def Owned (mask : Nat) (o : Array (Option Nat)) (k : Nat) : Prop := o.size = mask + 1 ∧ (o.toList.filterMap id).Perm (List.range k)
theorem range_snoc_perm (k : Nat) : (k :: List.range k).Perm (List.range (k + 1)) := by
  rw [List.range_succ]
  exact (List.perm_append_singleton k (List.range k)).symm
theorem bits_lt (h : Int) : SetTable.bits h < 2 ^ 64 := by
  unfold SetTable.bits
  have h1 : 0 ≤ h % (2 ^ 64 : Int) := Int.emod_nonneg _ (by decide)
  have h2 : h % (2 ^ 64 : Int) < 2 ^ 64 := Int.emod_lt_of_pos _ (by decide)
  omega
theorem lay_fold {mask : Nat} (F : Full mask) : ∀ (hs : List Int) (o : Array (Option Nat)) (k : Nat), Owned mask o k → k + hs.length ≤ mask →
    ∃ o', hs.foldl (fun acc h => do
      let (owner, k) ← acc
      let j ← SetTable.layClean.free mask owner (SetTable.turns mask) (SetTable.bits h % (mask + 1)) (SetTable.bits h)
      pure (owner.setIfInBounds j (some k), k + 1)) (some (o, k)) = some (o', k + hs.length) ∧ Owned mask o' (k + hs.length)
  | [], o, k, h, _ => ⟨o, rfl, h⟩
  | x :: hs, o, k, h, hle => by
    rw [List.length_cons] at hle
    have hlen : (o.toList.filterMap id).length < o.toList.length := by
      rw [h.2.length_eq, List.length_range, Array.length_toList, h.1]; omega
    obtain ⟨j, hj⟩ := gap_in hlen
    have hj' : o[j]? = some none := by rw [← Array.getElem?_toList]; exact hj
    have hjm : j ≤ mask := by
      have := (Array.getElem?_eq_some_iff.mp hj').1
      rw [h.1] at this; omega
    obtain ⟨r, hr⟩ := free_some (mask := mask) hj' (SetTable.turns mask) _ _ (F.reach (Nat.le_of_lt_succ (Nat.mod_lt (SetTable.bits x) (Nat.succ_pos mask))) hjm (bits_lt x))
    have hn := free_none _ _ _ _ hr
    have h' : Owned mask (o.setIfInBounds r (some k)) (k + 1) := by
      refine ⟨by rw [Array.size_setIfInBounds]; exact h.1, ?_⟩
      rw [Array.toList_setIfInBounds]
      exact ((set_perm (by rw [Array.getElem?_toList]; exact hn)).trans (h.2.cons k)).trans (range_snoc_perm k)
    obtain ⟨o', e, ho⟩ := lay_fold F hs _ _ h' (by omega)
    refine ⟨o', ?_, ?_⟩
    · rw [List.foldl_cons, List.length_cons]
      show List.foldl _ ((SetTable.layClean.free mask o (SetTable.turns mask) (SetTable.bits x % (mask + 1)) (SetTable.bits x)).bind fun j => pure (o.setIfInBounds j (some k), k + 1)) hs = _
      rw [hr]
      show List.foldl _ (some (o.setIfInBounds r (some k), k + 1)) hs = _
      rw [e]; congr 2; omega
    · rw [List.length_cons, show k + (hs.length + 1) = k + 1 + hs.length by omega]; exact ho

theorem live_vals (l : List (Option Nat)) : (((List.range l.length).filterMap fun j => (l.getD j none).map fun x => (j, x)).map (·.2)) = l.filterMap id := by
  rw [List.map_filterMap]
  have e : (fun j => Option.map (fun x : Nat × Nat => x.2) ((l.getD j none).map fun x => (j, x))) = fun j => l.getD j none := by
    funext j
    cases l.getD j none <;> rfl
  rw [e]
  have e2 : (List.range l.length).map (fun j => l.getD j none) = l := by
    refine List.ext_getElem (by simp) fun i h1 h2 => ?_
    simp only [List.getElem_map, List.getElem_range, List.getD_eq_getElem?_getD, List.getElem?_eq_getElem h2, Option.getD_some]
  conv => rhs; rw [← e2]
  rw [List.filterMap_map]; rfl

theorem laid_ok {mask : Nat} (F : Full mask) (finger moves : Nat) (led plain : Bool) (hs : Array Int) (hle : hs.size ≤ mask) :
    ∃ t order, SetTable.laid mask finger moves led plain hs = some (t, order) ∧ order.toList.Perm (List.range hs.size) ∧ t.place.size = hs.size ∧ t.mask = mask ∧ t.dummies = #[] := by
  have h0 : Owned mask (Array.replicate (mask + 1) none) 0 := ⟨by simp, by simp⟩
  obtain ⟨o, e, ho⟩ := lay_fold F hs.toList _ 0 h0 (by rw [Array.length_toList]; omega)
  rw [Nat.zero_add, Array.length_toList] at ho
  have hc : SetTable.layClean mask hs = some o := by
    unfold SetTable.layClean
    rw [← Array.foldl_toList, e]; rfl
  have hv := live_vals o.toList
  rw [Array.length_toList, ho.1] at hv
  have hg : ∀ j, o.toList.getD j none = o.getD j none := fun j => by rw [List.getD_eq_getElem?_getD, Array.getD_eq_getD_getElem?, Array.getElem?_toList]
  simp only [hg] at hv
  refine ⟨_, _, by unfold SetTable.laid; rw [hc]; rfl, ?_, ?_, rfl, rfl⟩
  · show List.Perm (List.toArray _).toList _
    rw [hv]; exact ho.2
  · show (List.toArray _).size = _
    rw [List.size_toArray, List.length_map, ← List.length_map (f := fun x : Nat × Nat => x.2), hv, ho.2.length_eq, List.length_range]
end Mine
end

noncomputable section -- NbFz
open PySem PySem.W PyProof.Rows
set_option maxRecDepth 100000
namespace Mine

/-! ## an object put anew -/
noncomputable def hput (h : Heap) (a : Addr) (o : Obj) : Heap := h.update a fun _ => o

theorem objs_of_get {h : Heap} {a : Addr} {o : Obj} (e : h.get? a = some o) : h.objs[a]? = some o := by
  unfold Heap.get? at e
  split at e
  · cases e
  · exact e
theorem upd_const {h : Heap} {a : Addr} {o : Obj} (e : h.get? a = some o) (f : Obj → Obj) : h.update a f = hput h a (f o) := by
  have e' := objs_of_get e
  obtain ⟨objs, life⟩ := h
  unfold hput Heap.update
  simp only [Heap.mk.injEq, and_true]
  refine Array.ext_getElem? fun i => ?_
  rw [Array.getElem?_modify, Array.getElem?_modify]
  split
  · rename_i hi; subst hi
    have e' : objs[a]? = some o := e'
    rw [e']; rfl
  · rfl
theorem hput_hput (h : Heap) (a : Addr) (o o' : Obj) : hput (hput h a o) a o' = hput h a o' := by
  obtain ⟨objs, life⟩ := h
  unfold hput Heap.update
  simp only [Heap.mk.injEq, and_true]
  refine Array.ext_getElem? fun i => ?_
  rw [Array.getElem?_modify, Array.getElem?_modify, Array.getElem?_modify]
  split
  · cases objs[i]? <;> rfl
  · rfl
theorem hput_self {h : Heap} {a : Addr} {o o' : Obj} (e : h.get? a = some o) (hf : o'.isFreed = false) : (hput h a o').get? a = some o' := Heap.get?_update_self (fun _ => o') e hf
theorem hput_ne {h : Heap} {a b : Addr} {o : Obj} (e : b ≠ a) : (hput h a o).get? b = h.get? b := Heap.get?_update_ne _ _ _ _ e
theorem hput_same {h : Heap} {a : Addr} {o : Obj} (e : h.get? a = some o) : hput h a o = h := by
  have := upd_const e id
  rw [show id o = o from rfl] at this
  rw [← this]
  obtain ⟨objs, life⟩ := h
  unfold Heap.update
  simp only [Heap.mk.injEq, and_true]
  refine Array.ext_getElem? fun i => ?_
  rw [Array.getElem?_modify]
  split
  · cases objs[i]? <;> rfl
  · rfl

/-! ## frozen sets of signs -/
noncomputable def setObj (es : Array (Int × Value)) (ep : Nat) (t : SetTable) : Obj := { cls := .type "frozenset", data := .set es ep t }
/-- no sign stands twice -/
noncomputable def Once (w : World) (l : List (Int × Value)) : Prop := l.Pairwise fun e e' => ∀ k, (strKind prg w).is k e.2 = true → (strKind prg w).is k e'.2 = false
theorem Once.perm {w : World} {l l' : List (Int × Value)} (h : Once w l) (p : l'.Perm l) : Once w l' := by
  refine (p.pairwise_iff fun {e e'} hr k hk => ?_).mpr h
  cases hq : (strKind prg w).is k e.2 with
  | false => rfl
  | true => rw [hr k hq] at hk; cases hk
structure FzT (w : World) (p : Nat → Bool) (n : Nat) (T : SetTable → Prop) (o : Obj) : Prop where
  ex : ∃ es ep t, o = setObj es ep t ∧ ElemsOf (strKind prg w) es.toList ∧ Once w es.toList ∧ (∀ k, one p k = true ↔ ∃ e ∈ es.toList, (strKind prg w).is k e.2 = true) ∧ es.size = n ∧ t.fits es.size = true ∧ T t
noncomputable abbrev Fz (w : World) (p : Nat → Bool) (n : Nat) (o : Obj) : Prop := FzT w p n (fun _ => True) o
theorem FzT.weak {w : World} {p : Nat → Bool} {n : Nat} {T T' : SetTable → Prop} {o : Obj} (x : FzT w p n T o) (h : ∀ t, T t → T' t) : FzT w p n T' o :=
  let ⟨es, ep, t, a, b, b', c, d, e, f⟩ := x.ex; ⟨es, ep, t, a, b, b', c, d, e, h t f⟩
theorem FzT.pred {w : World} {p q : Nat → Bool} {n : Nat} {T : SetTable → Prop} {o : Obj} (x : FzT w p n T o) (h : ∀ c, p c = q c) : FzT w q n T o := (funext h : p = q) ▸ x
theorem FzT.froz {w : World} {p : Nat → Bool} {n : Nat} {T : SetTable → Prop} {o : Obj} {h : Heap} {a : Addr} (x : FzT w p n T o) (ho : h.get? a = some o) : FrozAt (strKind prg w) h a (one p) n :=
  let ⟨es, ep, t, e1, e2, _, e3, e4, e5, _⟩ := x.ex; ⟨es, ep, t, by rw [ho, e1]; rfl, e2, e3, e4, e5⟩

noncomputable abbrev chS (c : Nat) : Str := ⟨#[c]⟩
theorem one_ch (p : Nat → Bool) (c : Nat) : one p (chS c) = p c := rfl
theorem one_or {p : Nat → Bool} {c : Nat} (k : Str) : one (fun d => p d || d == c) k = (one p k || decide (k = chS c)) := by
  unfold one
  obtain ⟨⟨l⟩⟩ := k
  match l with
  | [] => simp [chS]
  | [d] =>
    simp only [chS, Str.mk.injEq]
    by_cases h : d = c
    · subst h; simp
    · have : ¬ (#[d] : Array Nat) = #[c] := fun e => h (by simpa using e)
      simp [h, this]
  | _ :: _ :: _ => simp [chS]
theorem str_sc {x : Str} {t : Tok} : (Value.str x t).scannable = true := rfl
theorem isOf (x : Str) (t : Tok) (w : World) : (strKind prg w).is x (.str x t) = true := by
  show Value.isStrOf x (.str x t) = true
  unfold Value.isStrOf; simp

section
variable {w : World} {A : Around} {E : Value → Shared → Prop} {s : Shared} {a : Addr}

theorem newFz {Q : Value → Shared → Prop} (h : ∀ led, Q (.ref s.heap.objs.size) { s with heap := s.heap.push (setObj #[] 0 (.fresh 0 0 led)) }) : wpAny (model prg w) A (newSet (.type "frozenset")) Q E s := by
  unfold newSet setsByText
  refine wpAny_bind (wpAny_bind (wpAny_askSetting (wpAny_pure ?_)))
  simp only [newObj]
  exact wpAny_bind (wpAny_alloc (wpAny_pure (h _)))
theorem fz_empty (w : World) (led : Bool) : FzT w (fun _ => false) 0 (fun t => t = .fresh 0 0 led) (setObj #[] 0 (.fresh 0 0 led)) :=
  ⟨_, _, _, rfl, (fun e he => by simp at he), List.Pairwise.nil, (fun k => by
    constructor
    · intro h; unfold one at h; split at h <;> cases h
    · rintro ⟨e, he, _⟩; simp at he), rfl, rfl, rfl⟩

theorem putSet_obj (es es' : Array (Int × Value)) (ep : Nat) (t t' : SetTable) : Obj.putSet es' t' (setObj es ep t) = setObj es' (ep + 1) t' := rfl
theorem setObj_live (es : Array (Int × Value)) (ep : Nat) (t : SetTable) : (setObj es ep t).isFreed = false := rfl

theorem store_fz {es es' : Array (Int × Value)} {ep : Nat} {t t' : SetTable} {Q : Unit → Shared → Prop} (ho : s.heap.get? a = some (setObj es ep t)) (hz : es'.size ≤ sizeLine)
    (h : Q () { s with heap := hput s.heap a (setObj es' (ep + 1) t') }) : wpAny (model prg w) A (storeSet a es' t') Q E s := by
  refine wpAny_storeSet_of ho rfl ?_ hz
  rw [upd_const ho, putSet_obj]
  exact h

theorem add_fz {p : Nat → Bool} {n c : Nat} {tk : Tok} {T : SetTable → Prop} {o : Obj} {Q : Bool → Shared → Prop} (F : FzT w p n T o) (ho : s.heap.get? a = some o) (hn : n < 1000) (hc : p c = false)
    (h : ∀ o', Fz w (fun d => p d || d == c) (n + 1) o' → Q true { s with heap := hput s.heap a o' }) :
    wpAny (model prg w) A (setAddHashed a (.str (chS c) tk) (hashStr w (chS c))) Q E s := by
  obtain ⟨es, ep, t, rfl, hel, hon, hmem, hsz, hf, _⟩ := F.ex
  have hkey := isOf (chS c) tk w
  have hb : es.size < scanBound := by rw [hsz]; show n < 4096; omega
  have hbs : byScan (.str (chS c) tk) es = true := byScan_of str_sc hb hel
  unfold setAddHashed setAddHashedIn
  refine wpAny_holding (wpAny_bind (wpAny_setState_of ho rfl hf ?_))
  dsimp only
  rw [hbs]
  simp only [↓reduceIte]
  unfold setAddByScan
  refine wpAny_bind (wpAny_bind (wpAny_rule (wpAny_bind ?_)))
  refine wpAny_setScan_of (knd := strKind prg w) hkey ho rfl hf hel ?_
  have hno : List.findIdx? (fun e => (strKind prg w).is (chS c) e.2) es.toList = none := by
    rw [List.findIdx?_eq_none_iff]
    intro e he
    cases hq : (strKind prg w).is (chS c) e.2 with
    | false => rfl
    | true => have := (hmem (chS c)).mpr ⟨e, he, hq⟩; rw [one_ch, hc] at this; cases this
  rw [hno]
  dsimp only
  have hperm := layNew_perm t es (hashStr w (chS c)) (.str (chS c) tk)
  have hfits := layNew_fits t es (hashStr w (chS c)) (.str (chS c) tk)
  generalize layNew t es (hashStr w (chS c)) (.str (chS c) tk) = Lr at hperm hfits ⊢
  obtain ⟨es1, t1, wd, gave⟩ := Lr
  dsimp only at hperm hfits ⊢
  rw [Array.toList_push] at hperm
  have hsz1 : es1.size = n + 1 := by rw [← Array.length_toList, hperm.length_eq, List.length_append, Array.length_toList, hsz]; rfl
  have hon1 : Once w (es.toList ++ [(hashStr w (chS c), Value.str (chS c) tk)]) := by
    refine List.pairwise_append.mpr ⟨hon, List.pairwise_singleton .., fun e he e' he' k hk => ?_⟩
    rw [List.mem_singleton] at he'
    subst he'
    cases hq : (strKind prg w).is k (Value.str (chS c) tk) with
    | false => rfl
    | true =>
      have hkc : k = chS c := (strKind prg w).inj _ k (chS c) hq hkey
      subst hkc
      have := (hmem (chS c)).mpr ⟨e, he, hk⟩
      rw [one_ch, hc] at this; cases this
  have good : ∀ (es2 : Array (Int × Value)) (ep2 : Nat) (t2 : SetTable), es2.toList.Perm es1.toList → t2.fits es2.size = true → Fz w (fun d => p d || d == c) (n + 1) (setObj es2 ep2 t2) := fun es2 ep2 t2 hp hf2 => by
    have hp' := hp.trans hperm
    refine ⟨es2, ep2, t2, rfl, (ElemsOf.push (knd := strKind prg w) hel hkey str_sc).perm hp', hon1.perm hp', fun k => ?_, by rw [← Array.length_toList, hp.length_eq, Array.length_toList, hsz1], hf2, trivial⟩
    rw [one_or]
    exact mem_push_iff (knd := strKind prg w) hkey hmem hp' k
  have hz1 : es1.size ≤ sizeLine := by rw [hsz1, sizeLine_eq]; omega
  have gw : ∀ (b : Bool) {s₁ : Shared} {Q' : Unit → Shared → Prop}, Q' () s₁ → wpAny (model prg w) A (match b with | true => rule "set.scan.the-table-gave-way" | false => pure ()) Q' E s₁ :=
    fun b s₁ Q' hq => by cases b <;> first | exact wpAny_pure hq | exact wpAny_rule hq
  refine wpAny_bind (gw gave ?_)
  have tail : ∀ (t2 : SetTable), t2.fits es1.size = true → ∀ (g : Bool → Sem Unit), (∀ (b : Bool) (s₁ : Shared) (Q' : Unit → Shared → Prop), Q' () s₁ → wpAny (model prg w) A (g b) Q' E s₁) →
      wpAny (model prg w) A (do
        storeSet a es1 t2
        if (!wd && t2.tooFull) = true then do
            g (relayAll t2 es1 (SetTable.grown es1.size)).2.2
            storeSet a (relayAll t2 es1 (SetTable.grown es1.size)).1 (relayAll t2 es1 (SetTable.grown es1.size)).2.1
            pure (some true)
          else pure (some true)) (fun x s' => wpAny (model prg w) A (match x with | some added => pure added | none => setAddHashedIn a (.str (chS c) tk) (hashStr w (chS c)) 99999) Q E s') E s := by
    intro t2 hf2 g hg
    refine wpAny_bind (store_fz ho hz1 ?_)
    have ho1 := hput_self ho (setObj_live es1 (ep + 1) t2)
    split
    · have hp := relayAll_perm t2 es1 (SetTable.grown es1.size)
      have hfr := relayAll_fits t2 es1 (SetTable.grown es1.size)
      generalize relayAll t2 es1 (SetTable.grown es1.size) = Rl at hp hfr ⊢
      obtain ⟨es2, t3, gave2⟩ := Rl
      dsimp only at hp hfr ⊢
      refine wpAny_bind (hg _ _ _ ?_)
      have hz2 : es2.size ≤ sizeLine := by rw [← Array.length_toList, hp.length_eq, Array.length_toList]; exact hz1
      refine wpAny_bind (store_fz (s := { s with heap := hput s.heap a (setObj es1 (ep + 1) t2) }) ho1 hz2 ?_)
      rw [hput_hput]
      exact wpAny_pure (wpAny_pure (h _ (good _ _ _ hp hfr)))
    · exact wpAny_pure (wpAny_pure (h _ (good _ _ _ .rfl hf2)))
  split
  · refine wpAny_bind ?_
    rw [hashByValue_scannable 8 str_sc]
    refine wpAny_pure ?_
    refine tail _ ?_ _ fun b s₁ Q' hq => by cases b <;> first | exact wpAny_pure hq | exact wpAny_rule hq
    split
    · exact hfits
    · exact SetTable.fits_plain_off hfits
  · refine wpAny_bind (wpAny_pure ?_)
    simp only [↓reduceIte]
    exact tail _ hfits _ fun b s₁ Q' hq => by cases b <;> first | exact wpAny_pure hq | exact wpAny_rule hq
end
end Mine
end

noncomputable section -- NbFz2
open PySem PySem.W PyProof.Rows
set_option maxRecDepth 100000
namespace Mine

section
variable {w : World} {A : Around} {E : Value → Shared → Prop} {s : Shared} {a : Addr}

noncomputable def reord (es : Array (Int × Value)) (laid : Option (SetTable × Array Nat)) : Sem (Array (Int × Value) × SetTable) := do
  let some (t, order) := laid | unsupported "internal:set-table-without-room"
  let es' := order.filterMap (es[·]?)
  if es'.size != es.size then unsupported "internal:set-table-lost-an-element"
  pure (es', t)
theorem setRelay_eq (a : Addr) (wanted : Nat) : setRelay a wanted = (do
    let (es, _, t) ← setState a
    if SetTable.sizeAbove wanted > sizeLine then unsupported "set:memory"
    let (es, t) ← reord es (t.relaid (es.map (·.1)) wanted)
    storeSet a es t) := rfl

theorem order_perm {es : Array (Int × Value)} {order : Array Nat} (h : order.toList.Perm (List.range es.size)) : (order.filterMap (es[·]?)).toList.Perm es.toList := by
  rw [Array.toList_filterMap]
  exact (h.filterMap _).trans (by rw [filterMap_getElem?_range])
theorem reord_ok {es : Array (Int × Value)} {t : SetTable} {order : Array Nat} {Q : Array (Int × Value) × SetTable → Shared → Prop} (h : order.toList.Perm (List.range es.size))
    (hQ : ∀ es', es'.toList.Perm es.toList → Q (es', t) s) : wpAny (model prg w) A (reord es (some (t, order))) Q E s := by
  have hp := order_perm (es := es) h
  have hsz : (order.filterMap (es[·]?)).size = es.size := by rw [← Array.length_toList, hp.length_eq, Array.length_toList]
  unfold reord
  dsimp only
  rw [hsz]
  simp only [bne_self_eq_false, Bool.false_eq_true, ↓reduceIte]
  exact wpAny_pure (hQ _ hp)

theorem laid_fits {t : SetTable} {n mask : Nat} (h1 : t.place.size = n) (h2 : t.mask = mask) (h3 : t.dummies = #[]) (h4 : n ≤ mask) : t.fits n = true := by
  unfold SetTable.fits SetTable.fill
  rw [h1, h2, h3]
  simp [h4]

theorem relay_fresh {led : Bool} {wanted mask : Nat} (Fm : Full mask) (hm : SetTable.sizeAbove wanted - 1 = mask) (hl : SetTable.sizeAbove wanted ≤ sizeLine) {Q : Unit → Shared → Prop} (hr : s.heap.get? a = some (setObj #[] 0 (.fresh 0 0 led)))
    (h : ∀ t, t.mask = mask → t.dummies = #[] → t.place.size = 0 → Q () { s with heap := hput s.heap a (setObj #[] 1 t) }) : wpAny (model prg w) A (setRelay a wanted) Q E s := by
  rw [setRelay_eq]
  refine wpAny_bind (wpAny_setState_of hr rfl rfl ?_)
  dsimp only
  rw [if_neg (Nat.not_lt.mpr hl)]
  unfold SetTable.relaid
  rw [hm]
  obtain ⟨t, order, e, hp, h1, h2, h3⟩ := laid_ok Fm (SetTable.fresh 0 0 led).finger ((SetTable.fresh 0 0 led).movedTo mask) (SetTable.fresh 0 0 led).led (SetTable.fresh 0 0 led).plain ((#[] : Array (Int × Value)).map (·.1)) (by simp)
  rw [e]
  rw [Array.size_map] at hp h1
  refine wpAny_bind (reord_ok (es := #[]) hp fun es' hpe => ?_)
  have : es' = #[] := by
    have := hpe.length_eq
    rw [Array.length_toList] at this
    exact Array.eq_empty_of_size_eq_zero this
  subst this
  exact store_fz hr (by simp) (h t h2 h3 h1)

theorem room_none {es : Array (Int × Value)} {ep : Nat} {t : SetTable} {more : Nat} {Q : Unit → Shared → Prop} (ho : s.heap.get? a = some (setObj es ep t)) (hf : t.fits es.size = true) (hr : t.roomFor more = none) (h : Q () s) :
    wpAny (model prg w) A (setRoomFor a more) Q E s := by
  unfold setRoomFor
  refine wpAny_bind (wpAny_setState_of ho rfl hf ?_)
  dsimp only
  rw [hr]
  exact wpAny_pure h
theorem room_some {es : Array (Int × Value)} {ep : Nat} {t : SetTable} {more wanted : Nat} {Q : Unit → Shared → Prop} (ho : s.heap.get? a = some (setObj es ep t)) (hf : t.fits es.size = true) (hr : t.roomFor more = some wanted)
    (h : wpAny (model prg w) A (setRelay a wanted) Q E s) : wpAny (model prg w) A (setRoomFor a more) Q E s := by
  unfold setRoomFor
  refine wpAny_bind (wpAny_setState_of ho rfl hf ?_)
  dsimp only
  rw [hr]
  exact h

theorem setMerge_eq (s o : Addr) (each : Sem Unit) : setMerge s o each = (do
    if s == o then return
    let (eo, epoch, to) ← setState o
    if eo.isEmpty then return
    setRoomFor s eo.size
    let (_, _, ts) ← setState s
    match ts.road to with
    | .slotForSlot => storeSet s eo { to with finger := ts.finger, led := ts.led && to.led, moves := ts.moves, plain := ts.plain && to.plain }
    | .clean =>
      let (es, t) ← reord eo (SetTable.laid ts.mask ts.finger ts.moves (led := ts.led && to.led) (plain := ts.plain && to.plain) (eo.map (·.1)))
      storeSet s es t
    | .oneByOne =>
      for (h, x) in ← setWalkUnseen o [s] (some s) do
        let _ ← holding [x] (setAddHashed s x h)
        each
        if (← setState o).2.1 != epoch then unsupported "set.changed-during-merge") := rfl

/-- the second half of a copy: into an empty table of the right size -/
theorem copy_into {r b : Addr} {p : Nat → Bool} {n mask ep0 : Nat} {ts : SetTable} {es : Array (Int × Value)} {ep : Nat} {to : SetTable} {each : Sem Unit} {Q : Unit → Shared → Prop} (Fm : Full mask)
    (hr : s.heap.get? r = some (setObj #[] ep0 ts)) (h1 : ts.mask = mask) (h2 : ts.dummies = #[]) (h3 : ts.place.size = 0)
    (hel : ElemsOf (strKind prg w) es.toList) (hon : Once w es.toList) (hmem : ∀ k, one p k = true ↔ ∃ e ∈ es.toList, (strKind prg w).is k e.2 = true) (hsz : es.size = n) (hf : to.fits es.size = true) (hn : n ≤ mask) (hsm : n ≤ 1000)
    (h : ∀ o', FzT w p n (fun t => t.mask = mask ∧ t.dummies = #[]) o' → Q () { s with heap := hput s.heap r o' }) :
    wpAny (model prg w) A (match ts.road to with
    | .slotForSlot => storeSet r es { to with finger := ts.finger, led := ts.led && to.led, moves := ts.moves, plain := ts.plain && to.plain }
    | .clean => do
      let (es, t) ← reord es (SetTable.laid ts.mask ts.finger ts.moves (led := ts.led && to.led) (plain := ts.plain && to.plain) (es.map (·.1)))
      storeSet r es t
    | .oneByOne => do
      for (h, x) in ← setWalkUnseen b [r] (some r) do
        let _ ← holding [x] (setAddHashed r x h)
        each
        if (← setState b).2.1 != ep then unsupported "set.changed-during-merge") Q E s := by
  have hfill : ts.fill = 0 := by unfold SetTable.fill; rw [h2, h3]; rfl
  have hz : es.size ≤ sizeLine := by rw [hsz, sizeLine_eq]; omega
  unfold SetTable.road
  rw [hfill]
  simp only [bne_self_eq_false, Bool.false_eq_true, ↓reduceIte]
  split
  · rename_i hc
    split at hc
    · rename_i hq
      simp only [Bool.and_eq_true, beq_iff_eq, Array.isEmpty_iff] at hq
      refine store_fz hr hz (h _ ⟨es, _, _, rfl, hel, hon, hmem, hsz, ?_, ?_, ?_⟩)
      · unfold SetTable.fits SetTable.fill at hf ⊢
        exact hf
      · exact hq.1 ▸ h1
      · exact hq.2
    · cases hc
  · obtain ⟨t, order, e, hp, g1, g2, g3⟩ := laid_ok Fm ts.finger ts.moves (ts.led && to.led) (ts.plain && to.plain) (es.map (·.1)) (by rw [Array.size_map, hsz]; exact hn)
    rw [h1, e]
    rw [Array.size_map] at hp g1
    refine wpAny_bind (reord_ok hp fun es' hpe => ?_)
    have hsz' : es'.size = n := by rw [← Array.length_toList, hpe.length_eq, Array.length_toList, hsz]
    refine store_fz hr (by rw [hsz', sizeLine_eq]; omega) (h _ ⟨es', _, t, rfl, hel.perm hpe, hon.perm hpe, fun k => ?_, hsz', ?_, g2, g3⟩)
    · exact (hmem k).trans ⟨fun ⟨e, he, q⟩ => ⟨e, hpe.mem_iff.mpr he, q⟩, fun ⟨e, he, q⟩ => ⟨e, hpe.mem_iff.mp he, q⟩⟩
    · rw [hsz']; exact laid_fits (g1.trans hsz) g2 g3 hn
  · rename_i hc
    split at hc <;> cases hc

theorem copy_big {r b : Addr} {p : Nat → Bool} {n wanted mask : Nat} {led : Bool} {o : Obj} {T : SetTable → Prop} {each : Sem Unit} {Q : Unit → Shared → Prop} (Fm : Full mask) (hm : SetTable.sizeAbove wanted - 1 = mask) (hl : SetTable.sizeAbove wanted ≤ sizeLine)
    (hrm : (SetTable.fresh 0 0 led).roomFor n = some wanted) (F : FzT w p n T o) (hr : s.heap.get? r = some (setObj #[] 0 (.fresh 0 0 led))) (hb : s.heap.get? b = some o) (hne : r ≠ b) (hn0 : 0 < n) (hn : n ≤ mask) (hsm : n ≤ 1000)
    (h : ∀ o', FzT w p n (fun t => t.mask = mask ∧ t.dummies = #[]) o' → Q () { s with heap := hput s.heap r o' }) : wpAny (model prg w) A (setMerge r b each) Q E s := by
  obtain ⟨es, ep, to, rfl, hel, hon, hmem, hsz, hf, _⟩ := F.ex
  rw [setMerge_eq]
  rw [if_neg (by simpa using hne)]
  refine wpAny_bind (wpAny_setState_of hb rfl hf ?_)
  dsimp only
  rw [if_neg (by rw [Array.isEmpty_iff]; intro e; rw [e] at hsz; simp at hsz; omega)]
  refine wpAny_bind (room_some hr rfl (by rw [hsz]; exact hrm) (relay_fresh Fm hm hl hr fun ts t1 t2 t3 => ?_))
  have hr' := hput_self hr (setObj_live #[] 1 ts)
  refine wpAny_bind (wpAny_setState_of (s := { s with heap := hput s.heap r (setObj #[] 1 ts) }) hr' rfl (laid_fits t3 t1 t2 (Nat.zero_le _)) ?_)
  dsimp only
  refine copy_into (s := { s with heap := hput s.heap r (setObj #[] 1 ts) }) Fm hr' t1 t2 t3 hel hon hmem hsz hf hn hsm fun o' F' => ?_
  have := h o' F'
  rw [hput_hput]
  exact this
theorem copy_small {r b : Addr} {p : Nat → Bool} {n : Nat} {led : Bool} {o : Obj} {T : SetTable → Prop} {each : Sem Unit} {Q : Unit → Shared → Prop}
    (hrm : (SetTable.fresh 0 0 led).roomFor n = none) (F : FzT w p n T o) (hr : s.heap.get? r = some (setObj #[] 0 (.fresh 0 0 led))) (hb : s.heap.get? b = some o) (hne : r ≠ b) (hn0 : 0 < n) (hn : n ≤ 7)
    (h : ∀ o', FzT w p n (fun t => t.mask = 7 ∧ t.dummies = #[]) o' → Q () { s with heap := hput s.heap r o' }) : wpAny (model prg w) A (setMerge r b each) Q E s := by
  obtain ⟨es, ep, to, rfl, hel, hon, hmem, hsz, hf, _⟩ := F.ex
  rw [setMerge_eq]
  rw [if_neg (by simpa using hne)]
  refine wpAny_bind (wpAny_setState_of hb rfl hf ?_)
  dsimp only
  rw [if_neg (by rw [Array.isEmpty_iff]; intro e; rw [e] at hsz; simp at hsz; omega)]
  refine wpAny_bind (room_none hr rfl (by rw [hsz]; exact hrm) ?_)
  refine wpAny_bind (wpAny_setState_of hr rfl rfl ?_)
  dsimp only
  exact copy_into full7 hr rfl rfl rfl hel hon hmem hsz hf hn (by omega) h
end
end Mine
end

noncomputable section -- NbFz3
open PySem PySem.W PyProof.Rows
open PySem.Builtin PySem.Builtin.Frozenset
set_option maxRecDepth 100000
namespace Mine

theorem single_of {w : World} {c : Nat} {o : Obj} (F : Fz w (fun d => d == c) 1 o) : ∃ tk ep t, o = setObj #[(hashStr w (chS c), .str (chS c) tk)] ep t ∧ t.fits 1 = true := by
  obtain ⟨es, ep, t, rfl, hel, _, hmem, hsz, hf, _⟩ := F.ex
  obtain ⟨e, he⟩ : ∃ e, es = #[e] := by
    obtain ⟨l⟩ := es
    have hsz : l.length = 1 := hsz
    obtain ⟨e, he⟩ := List.length_eq_one_iff.mp hsz
    exact ⟨e, by rw [he]⟩
  subst he
  · obtain ⟨⟨k, hk, hh⟩, _⟩ := hel e (List.mem_singleton.mpr rfl)
    have h1 := (hmem k).mpr ⟨e, List.mem_singleton.mpr rfl, hk⟩
    have hkc : k = chS c := by
      unfold one at h1
      split at h1
      · rename_i d hd
        have : d = c := by simpa using h1
        subst this
        obtain ⟨⟨cl⟩⟩ := k
        simp only [] at hd
        subst hd
        rfl
      · cases h1
    subst hkc
    obtain ⟨tk, hv⟩ := Value.isStrOf_shape (show Value.isStrOf (chS c) e.2 = true from hk)
    obtain ⟨eh, ev⟩ := e
    have hh : eh = hashStr w (chS c) := hh
    have hv : ev = .str (chS c) tk := hv
    subst hh hv
    exact ⟨tk, ep, t, rfl, hf⟩

theorem pick_one {α : Type} (next : Nat → Nat) (x : α) : pickOrder next #[x] = #[x] := by
  unfold pickOrder
  show pickOrder.go next 1 0 [x] #[] = _
  unfold pickOrder.go
  simp [Nat.mod_one, pickOrder.go]

section
variable {w : World} {A : Around} {E : Value → Shared → Prop} {s : Shared} {a : Addr}

noncomputable def ledOk (es : Array (Int × Value)) (t : SetTable) : Sem Unit := do
  if !t.led && es.size > 1 then unsupported "set:maker-not-led"
theorem setWalk_eq (a : Addr) : setWalk a = (do
    let (es, epoch, t) ← setState a
    if ← setsByText then return pickOrder ((← ask).params.setOrder a epoch) es
    if !t.plain && es.size > 1 then return (← drawOrder es.size es.toList).toArray
    ledOk es t
    return es) := rfl

theorem walk_one {e : Int × Value} {ep : Nat} {t : SetTable} {others : List Addr} {filled : Option Addr} {Q : Array (Int × Value) → Shared → Prop} (ho : s.heap.get? a = some (setObj #[e] ep t)) (hf : t.fits 1 = true) (h : Q #[e] s) :
    wpAny (model prg w) A (setWalkUnseen a others filled) Q E s := by
  unfold setWalkUnseen
  refine wpAny_bind (wpAny_setState_of ho rfl hf ?_)
  dsimp only
  unfold setsByText
  refine wpAny_bind (wpAny_bind (wpAny_askSetting (wpAny_pure ?_)))
  rw [if_pos (by simp)]
  rw [setWalk_eq]
  refine wpAny_bind (wpAny_setState_of ho rfl hf ?_)
  dsimp only
  unfold setsByText
  refine wpAny_bind (wpAny_bind (wpAny_askSetting (wpAny_pure ?_)))
  split
  · refine wpAny_bind (wpAny_askSetting (wpAny_pure ?_))
    rw [pick_one]; exact h
  · simp only [ledOk, List.size_toArray, List.length_cons, List.length_nil, Nat.zero_add, Nat.lt_irrefl, decide_false, Bool.and_false, Bool.false_eq_true, ↓reduceIte, gt_iff_lt]
    exact wpAny_bind (wpAny_pure (wpAny_pure h))

theorem merge_one {r b : Addr} {p : Nat → Bool} {n c mask : Nat} {o o1 : Obj} {each : Sem Unit} {Q : Unit → Shared → Prop} (F : FzT w p n (fun t => t.mask = mask ∧ t.dummies = #[]) o) (F1 : Fz w (fun d => d == c) 1 o1)
    (hr : s.heap.get? r = some o) (hb : s.heap.get? b = some o1) (hne : r ≠ b) (hn0 : 0 < n) (hn : (n + 1) * 5 < mask * 3) (hsm : n < 1000) (hc : p c = false)
    (he : ∀ (s' : Shared) (Q' : Unit → Shared → Prop), s'.heap.get? b = some o1 → Q' () s' → wpAny (model prg w) A each Q' E s')
    (h : ∀ o', Fz w (fun d => p d || d == c) (n + 1) o' → Q () { s with heap := hput s.heap r o' }) : wpAny (model prg w) A (setMerge r b each) Q E s := by
  obtain ⟨tk, ep1, t1, rfl, hf1⟩ := single_of F1
  have F0 := F
  obtain ⟨es, ep, t, rfl, hel, _, hmem, hsz, hf, hm, hd⟩ := F.ex
  have hplace : t.place.size = n := by
    unfold SetTable.fits at hf
    simp only [Bool.and_eq_true, beq_iff_eq] at hf
    rw [hf.1, hsz]
  have hfill : t.fill = n := by unfold SetTable.fill; rw [hplace, hd]; rfl
  rw [setMerge_eq]
  rw [if_neg (by simpa using hne)]
  refine wpAny_bind (wpAny_setState_of hb rfl hf1 ?_)
  dsimp only
  rw [if_neg (by simp)]
  refine wpAny_bind (room_none hr hf (by unfold SetTable.roomFor; rw [hfill, hm, if_neg (by show ¬ (n + 1) * 5 ≥ _; omega)]) ?_)
  refine wpAny_bind (wpAny_setState_of hr rfl hf ?_)
  dsimp only
  have hroad : t.road t1 = .oneByOne := by unfold SetTable.road; rw [hfill, if_pos (by simp; omega)]
  rw [hroad]
  dsimp only
  refine wpAny_bind (walk_one hb hf1 ?_)
  rw [← Array.forIn_toList]
  simp only [List.forIn_cons, List.forIn_nil]
  refine wpAny_bind (wpAny_bind (wpAny_bind (wpAny_holding (add_fz F0 hr hsm hc fun o' F' => ?_))))
  have hb' : (hput s.heap r o').get? b = some (setObj #[(hashStr w (chS c), .str (chS c) tk)] ep1 t1) := (hput_ne (Ne.symm hne)).trans hb
  refine wpAny_bind (he _ _ hb' ?_)
  refine wpAny_bind (wpAny_setState_of (s := { s with heap := hput s.heap r o' }) hb' rfl hf1 ?_)
  simp only [bne_self_eq_false, Bool.false_eq_true, ↓reduceIte]
  exact wpAny_pure (wpAny_pure (wpAny_pure (h o' F')))
end
end Mine
end

noncomputable section -- NbFz4
open PySem PySem.W PyProof.Rows
open PySem.Builtin PySem.Builtin.Frozenset
set_option maxRecDepth 100000
namespace Mine

theorem hput_push (h : Heap) (x y : Obj) : hput (h.push x) h.objs.size y = h.push y := by
  obtain ⟨objs, life⟩ := h
  unfold hput Heap.update Heap.push
  simp only [Heap.mk.injEq, and_true]
  refine Array.ext_getElem? fun i => ?_
  rw [Array.getElem?_modify, Array.getElem?_push, Array.getElem?_push]
  by_cases e : i = objs.size
  · subst e; simp
  · rw [if_neg (Ne.symm e), if_neg e, if_neg e]

theorem sub_fz_set : isSubtype (.type "frozenset") (.type "set") = pure false := by rw [isSubtype_type]; kernel_rfl
theorem sub_fz_fz : isSubtype (.type "frozenset") (.type "frozenset") = pure true := by rw [isSubtype_type]; kernel_rfl

noncomputable def binD (name : String) (f : String → Addr → Value → Sem Value) (reflected : Bool) : PySem.Builtin := fun args => do
  let (self, other) ← slot1 name args
  let (l, r) := if reflected then (other, self) else (self, other)
  if !(← isAnySet l <&&> isAnySet r) then rule s!"frozenset.{name}.declined"; return ← ret .notImplemented
  ret (← f s!"frozenset.{name}" (← addrOf l) r)
noncomputable def unionD (id : String) (l : Addr) (r : Value) : Sem Value := do
  let result ← copyOf l
  if r != .ref l then holding [result] (updateFrom id (← addrOf result) r)
  return result
theorem or_eq : Builtin.«frozenset.__or__» = binD "__or__" unionD false := rfl
theorem sub_eq : Builtin.«frozenset.__sub__» = binD "__sub__" difference false := rfl
theorem slot1_or (l r : Addr) : slot1 "__or__" ⟨[.ref l, .ref r], []⟩ = pure (.ref l, .ref r) := by kernel_rfl
theorem slot1_sub (l r : Addr) : slot1 "__sub__" ⟨[.ref l, .ref r], []⟩ = pure (.ref l, .ref r) := by kernel_rfl

section
variable {w : World} {A : Around} {E : Value → Shared → Prop} {s : Shared} {a : Addr}

theorem fz_type {es : Array (Int × Value)} {ep : Nat} {t : SetTable} (ho : s.heap.get? a = some (setObj es ep t)) : s.TypeIs (.ref a) "frozenset" := ⟨_, ho, rfl⟩
theorem inst_set {Q : Bool → Shared → Prop} (hT : s.TypeIs (.ref a) "frozenset") (h : Q false s) : wpAny (model prg w) A (isInstance (.ref a) (.type "set")) Q E s := by
  unfold isInstance
  refine wpAny_bind (wpAny_typeOf hT ?_)
  rw [sub_fz_set]; exact wpAny_pure h
theorem inst_fz {Q : Bool → Shared → Prop} (hT : s.TypeIs (.ref a) "frozenset") (h : Q true s) : wpAny (model prg w) A (isInstance (.ref a) (.type "frozenset")) Q E s := by
  unfold isInstance
  refine wpAny_bind (wpAny_typeOf hT ?_)
  rw [sub_fz_fz]; exact wpAny_pure h
theorem any_fz {Q : Bool → Shared → Prop} (hT : s.TypeIs (.ref a) "frozenset") (h : Q true s) : wpAny (model prg w) A (isAnySet (.ref a)) Q E s := by
  unfold isAnySet orM
  refine wpAny_bind (inst_set hT ?_)
  exact inst_fz hT h
theorem base_fz {Q : Value → Shared → Prop} (hT : s.TypeIs (.ref a) "frozenset") (h : Q (.type "frozenset") s) : wpAny (model prg w) A (baseOf a) Q E s := by
  unfold baseOf
  refine wpAny_bind (inst_set hT ?_)
  exact wpAny_pure h

/-- a copy, by whatever rule fills the new set -/
theorem copyOf_fz {o : Obj} {Q : Value → Shared → Prop} (ho : s.TypeIs (.ref a) "frozenset")
    (h : ∀ led, wpAny (model prg w) A (setMerge s.heap.objs.size a (pure ())) (fun _ s' => Q (.ref s.heap.objs.size) s') E { s with heap := s.heap.push (setObj #[] 0 (.fresh 0 0 led)) }) :
    wpAny (model prg w) A (copyOf a) Q E s := by
  unfold copyOf
  refine wpAny_bind (base_fz ho (wpAny_bind (newFz fun led => ?_)))
  refine wpAny_bind (wpAny_pure (wpAny_bind ?_))
  exact wpAny_mono (h led) (fun _ _ x => wpAny_pure x) fun _ _ e => e

theorem unch_fz {es : Array (Int × Value)} {ep : Nat} {t : SetTable} {id : String} {Q : Unit → Shared → Prop} (ho : s.heap.get? a = some (setObj es ep t)) (hf : t.fits es.size = true) (h : Q () s) : wpAny (model prg w) A (unchanged id a ep) Q E s := by
  unfold unchanged
  refine wpAny_bind (wpAny_setEpoch_of ho rfl hf ?_)
  simp only [bne_self_eq_false, Bool.false_eq_true, ↓reduceIte]
  exact wpAny_pure h

theorem or_wp {l r : Addr} {p : Nat → Bool} {n c mask : Nat} {o o1 : Obj} {Q : Fin → Shared → Prop} (hl : s.heap.get? l = some o) (F : Fz w p n o) (hr : s.heap.get? r = some o1) (F1 : Fz w (fun d => d == c) 1 o1) (hlr : l ≠ r)
    (hcopy : ∀ (led : Bool) (s' : Shared) (N : Addr) (Q' : Unit → Shared → Prop), s'.heap.get? N = some (setObj #[] 0 (.fresh 0 0 led)) → s'.heap.get? l = some o → N ≠ l →
      (∀ o', FzT w p n (fun t => t.mask = mask ∧ t.dummies = #[]) o' → Q' () { s' with heap := hput s'.heap N o' }) → wpAny (model prg w) A (setMerge N l (pure ())) Q' E s')
    (hn0 : 0 < n) (hn : (n + 1) * 5 < mask * 3) (hsm : n < 1000) (hc : p c = false)
    (h : ∀ o', Fz w (fun d => p d || d == c) (n + 1) o' → Q (.done (.ret (.ref s.heap.objs.size))) { s with heap := s.heap.push o' }) :
    wpAny (model prg w) A (Builtin.«frozenset.__or__» ⟨[.ref l, .ref r], []⟩) Q E s := by
  obtain ⟨es, ep, t, e1, _⟩ := F.ex
  obtain ⟨es1, ep1, t1, e2, _, _, _, _, hf1, _⟩ := F1.ex
  have hTl : s.TypeIs (.ref l) "frozenset" := fz_type (by rw [hl, e1])
  have hTr : s.TypeIs (.ref r) "frozenset" := fz_type (by rw [hr, e2])
  rw [or_eq]
  unfold binD
  rw [slot1_or]
  refine wpAny_bind (wpAny_pure ?_)
  dsimp only
  simp only [Bool.false_eq_true, ↓reduceIte]
  unfold andM
  refine wpAny_bind (wpAny_bind (any_fz hTl (any_fz hTr ?_)))
  simp only [Bool.not_true, Bool.false_eq_true, ↓reduceIte]
  refine wpAny_bind (wpAny_pure ?_)
  refine wpAny_bind ?_
  unfold unionD
  refine wpAny_bind (copyOf_fz (o := o) hTl fun led => ?_)
  have hN : (s.heap.push (setObj #[] 0 (.fresh 0 0 led))).get? s.heap.objs.size = some (setObj #[] 0 (.fresh 0 0 led)) := Heap.get?_push_size _ rfl
  have hNl : s.heap.objs.size ≠ l := Nat.ne_of_gt (Heap.lt_size hl)
  have hNr : s.heap.objs.size ≠ r := Nat.ne_of_gt (Heap.lt_size hr)
  refine hcopy led { s with heap := s.heap.push (setObj #[] 0 (.fresh 0 0 led)) } _ _ hN (Heap.get?_push_of_some _ hl) hNl fun o' F' => ?_
  dsimp only
  rw [hput_push]
  have hO' : (s.heap.push o').get? s.heap.objs.size = some o' := Heap.get?_push_size _ (by obtain ⟨_, _, _, q, _⟩ := F'.ex; rw [q]; rfl)
  have hr' : (s.heap.push o').get? r = some o1 := Heap.get?_push_of_some _ hr
  have hTr' : ({ s with heap := s.heap.push o' } : Shared).TypeIs (.ref r) "frozenset" := fz_type (by show (s.heap.push o').get? r = _; rw [hr', e2])
  rw [if_pos (by simpa using Ne.symm hlr)]
  refine wpAny_bind (wpAny_pure (wpAny_bind (wpAny_holding ?_)))
  unfold updateFrom
  refine wpAny_bind (any_fz (s := { s with heap := s.heap.push o' }) hTr' ?_)
  simp only [↓reduceIte]
  refine wpAny_bind (wpAny_pure ?_)
  unfold merge
  have hr2 : (s.heap.push o').get? r = some (setObj es1 ep1 t1) := by rw [hr', e2]
  refine wpAny_bind (wpAny_setEpoch_of (s := { s with heap := s.heap.push o' }) hr2 rfl hf1 ?_)
  refine merge_one (s := { s with heap := s.heap.push o' }) F' F1 hO' hr' hNr hn0 hn hsm hc (fun s' Q' hb hq => unch_fz (by rw [hb, e2]) hf1 hq) fun o2 F2 => ?_
  dsimp only
  rw [hput_push]
  exact wpAny_pure (wpAny_pure (h o2 F2))
end
end Mine
end

noncomputable section -- NbFz5
open PySem PySem.W PyProof.Rows
open PySem.Builtin PySem.Builtin.Frozenset
set_option maxRecDepth 100000
namespace Mine

theorem erase_list {α : Type} (xs : Array α) (i : Nat) : (SetTable.eraseAt xs i).toList = xs.toList.eraseIdx i := by
  unfold SetTable.eraseAt
  rw [List.eraseIdx_eq_take_drop_succ]
  simp [List.extract_eq_take_drop, List.take_of_length_le]

theorem one_and {p : Nat → Bool} {c : Nat} (k : Str) : one (fun d => p d && d != c) k = (one p k && decide (k ≠ chS c)) := by
  unfold one
  obtain ⟨⟨l⟩⟩ := k
  match l with
  | [] => simp [chS]
  | [d] =>
    simp only [chS, Str.mk.injEq]
    by_cases h : d = c
    · subst h; simp
    · have : ¬ (#[d] : Array Nat) = #[c] := fun e => h (by simpa using e)
      simp [h, this]
  | _ :: _ :: _ => simp [chS]

theorem insertAt_size {α : Type} (xs : Array α) (p : Nat) (x : α) : (SetTable.insertAt xs p x).size = xs.size + 1 := by
  have := SetTable.insertAt_perm xs p x
  rw [← Array.length_toList, this.length_eq, Array.length_toList, Array.size_push]
theorem eraseAt_size {α : Type} (xs : Array α) (i : Nat) (h : i < xs.size) : (SetTable.eraseAt xs i).size = xs.size - 1 := by
  rw [← Array.length_toList, erase_list, List.length_eraseIdx, if_pos (by rw [Array.length_toList]; exact h), Array.length_toList]

section
variable {w : World} {A : Around} {E : Value → Shared → Prop} {s : Shared} {a : Addr}

theorem discard_fz {p : Nat → Bool} {n c mask : Nat} {tk : Tok} {o : Obj} {Q : Bool → Shared → Prop} (F : FzT w p n (fun t => t.mask = mask ∧ t.dummies = #[]) o) (ho : s.heap.get? a = some o) (hn : n < 1000) (hc : p c = true)
    (h : ∀ o', FzT w (fun d => p d && d != c) (n - 1) (fun t => t.mask = mask ∧ t.dummies.size = 1) o' → Q true { s with heap := hput s.heap a o' }) :
    wpAny (model prg w) A (setDiscardHashed a (.str (chS c) tk) (hashStr w (chS c))) Q E s := by
  obtain ⟨es, ep, t, rfl, hel, hon, hmem, hsz, hf, hm, hd⟩ := F.ex
  have hkey := isOf (chS c) tk w
  have hb : es.size < scanBound := by rw [hsz]; show n < 4096; omega
  have hbs : byScan (.str (chS c) tk) es = true := byScan_of str_sc hb hel
  obtain ⟨e0, he0, hk0⟩ := (hmem (chS c)).mp (by rw [one_ch]; exact hc)
  have hfound : ∃ j, List.findIdx? (fun e => (strKind prg w).is (chS c) e.2) es.toList = some j := by
    cases hq : List.findIdx? (fun e => (strKind prg w).is (chS c) e.2) es.toList with
    | none => have := List.findIdx?_eq_none_iff.mp hq e0 he0; rw [hk0] at this; cases this
    | some j => exact ⟨j, rfl⟩
  obtain ⟨j, hj⟩ := hfound
  obtain ⟨hjl, hpj, _⟩ := List.findIdx?_eq_some_iff_getElem.mp hj
  rw [Array.length_toList] at hjl
  unfold setDiscardHashed setFind setFindIn
  refine wpAny_bind (wpAny_bind (wpAny_setState_of ho rfl hf ?_))
  dsimp only
  rw [hbs]
  simp only [↓reduceIte]
  refine wpAny_bind (wpAny_rule (wpAny_bind ?_))
  refine wpAny_setScan_of (knd := strKind prg w) hkey ho rfl hf hel ?_
  rw [hj]
  dsimp only
  refine wpAny_pure ?_
  dsimp only
  refine wpAny_bind (wpAny_setState_of ho rfl hf ?_)
  dsimp only
  rw [Nat.zero_add]
  have hz : (SetTable.eraseAt es j).size = n - 1 := by rw [eraseAt_size _ _ hjl, hsz]
  refine wpAny_bind (store_fz ho (by rw [hz, sizeLine_eq]; omega) ?_)
  refine wpAny_bind (wpAny_point (wpAny_pure (h _ ?_)))
  have hpl : t.place.size = es.size ∧ t.fill ≤ t.mask := by
    unfold SetTable.fits at hf
    simpa only [Bool.and_eq_true, beq_iff_eq, decide_eq_true_eq] using hf
  have hpj' : t.place[j]? = some t.place[j] := Array.getElem?_eq_getElem (by rw [hpl.1]; exact hjl)
  have hdrop : t.drop j = { t with place := SetTable.eraseAt t.place j, dummies := SetTable.insertAt t.dummies (SetTable.below t.dummies t.place[j]) t.place[j] } := by
    unfold SetTable.drop
    rw [hpj']
  have hone : Once w (SetTable.eraseAt es j).toList := by rw [erase_list]; exact List.Pairwise.sublist (List.eraseIdx_sublist ..) hon
  refine ⟨_, _, _, rfl, fun e he => hel e (List.mem_of_mem_eraseIdx (by rw [erase_list] at he; exact he)), hone, fun k => ?_, hz, ?_, ?_, ?_⟩
  · rw [one_and, Bool.and_eq_true, decide_eq_true_eq, hmem k, erase_list]
    constructor
    · rintro ⟨⟨e, he, hk⟩, hne⟩
      refine ⟨e, ?_, hk⟩
      obtain ⟨i, hi, rfl⟩ := List.getElem_of_mem he
      refine List.mem_eraseIdx_iff_getElem.mpr ⟨i, hi, fun z => ?_, rfl⟩
      subst z
      exact hne ((strKind prg w).inj _ k (chS c) hk hpj)
    · rintro ⟨e, he, hk⟩
      obtain ⟨i, hi, hij, rfl⟩ := List.mem_eraseIdx_iff_getElem.mp he
      refine ⟨⟨_, List.getElem_mem hi, hk⟩, fun z => ?_⟩
      subst z
      rcases Nat.lt_or_gt_of_ne hij with q | q
      · have := List.pairwise_iff_getElem.mp hon i j hi (by rw [Array.length_toList]; exact hjl) q (chS c) hk
        rw [hpj] at this; cases this
      · have := List.pairwise_iff_getElem.mp hon j i (by rw [Array.length_toList]; exact hjl) hi q (chS c) hpj
        rw [hk] at this; cases this
  · rw [hdrop, hz]
    unfold SetTable.fits SetTable.fill
    have hfl := hpl.2
    unfold SetTable.fill at hfl
    simp only [Bool.and_eq_true, beq_iff_eq, decide_eq_true_eq]
    rw [eraseAt_size _ _ (by rw [hpl.1]; exact hjl), insertAt_size, hpl.1, hsz]
    refine ⟨rfl, ?_⟩
    rw [hpl.1, hsz] at hfl
    have : 0 < n := by rw [← hsz]; omega
    omega
  · rw [hdrop]; exact hm
  · rw [hdrop]
    show (SetTable.insertAt _ _ _).size = 1
    rw [insertAt_size, hd]; rfl

theorem size_fz {es : Array (Int × Value)} {ep : Nat} {t : SetTable} {Q : Nat → Shared → Prop} (ho : s.heap.get? a = some (setObj es ep t)) (hf : t.fits es.size = true) (h : Q es.size s) : wpAny (model prg w) A (sizeOf a) Q E s := by
  unfold Frozenset.sizeOf
  exact wpAny_bind (wpAny_setEntries_of ho rfl hf (wpAny_pure h))

theorem sub_wp {l r : Addr} {p : Nat → Bool} {n c mask : Nat} {o o1 : Obj} {Q : Fin → Shared → Prop} (hl : s.heap.get? l = some o) (F : Fz w p n o) (hr : s.heap.get? r = some o1) (F1 : Fz w (fun d => d == c) 1 o1) (hlr : l ≠ r)
    (hcopy : ∀ (led : Bool) (s' : Shared) (N : Addr) (Q' : Unit → Shared → Prop), s'.heap.get? N = some (setObj #[] 0 (.fresh 0 0 led)) → s'.heap.get? l = some o → N ≠ l →
      (∀ o', FzT w p n (fun t => t.mask = mask ∧ t.dummies = #[]) o' → Q' () { s' with heap := hput s'.heap N o' }) → wpAny (model prg w) A (setMerge N l (pure ())) Q' E s')
    (hn : 8 ≤ n) (hsm : n < 1000) (hm : 4 ≤ mask) (hc : p c = true)
    (h : ∀ o', Fz w (fun d => p d && d != c) (n - 1) o' → Q (.done (.ret (.ref s.heap.objs.size))) { s with heap := s.heap.push o' }) :
    wpAny (model prg w) A (Builtin.«frozenset.__sub__» ⟨[.ref l, .ref r], []⟩) Q E s := by
  obtain ⟨tk, ep1, t1, rfl, hf1⟩ := single_of F1
  obtain ⟨es, ep, t, e1, _, _, _, hsz, hf, _⟩ := F.ex
  have hTl : s.TypeIs (.ref l) "frozenset" := fz_type (by rw [hl, e1])
  have hTr : s.TypeIs (.ref r) "frozenset" := fz_type hr
  rw [sub_eq]
  unfold binD
  rw [slot1_sub]
  refine wpAny_bind (wpAny_pure ?_)
  dsimp only
  simp only [Bool.false_eq_true, ↓reduceIte]
  unfold andM
  refine wpAny_bind (wpAny_bind (any_fz hTl (any_fz hTr ?_)))
  simp only [Bool.not_true, Bool.false_eq_true, ↓reduceIte]
  refine wpAny_bind (wpAny_pure ?_)
  refine wpAny_bind ?_
  unfold difference
  refine wpAny_bind (any_fz hTr ?_)
  simp only [Bool.not_true, Bool.false_eq_true, ↓reduceIte, Bool.false_and]
  refine wpAny_bind (wpAny_pure ?_)
  refine wpAny_bind (size_fz hr hf1 ?_)
  refine wpAny_bind (size_fz (by rw [hl, e1]) hf ?_)
  rw [hsz]
  rw [if_pos (by show n / 4 > 1; omega)]
  refine wpAny_bind (wpAny_rule ?_)
  refine wpAny_bind (copyOf_fz (o := o) hTl fun led => ?_)
  have hN : (s.heap.push (setObj #[] 0 (.fresh 0 0 led))).get? s.heap.objs.size = some (setObj #[] 0 (.fresh 0 0 led)) := Heap.get?_push_size _ rfl
  have hNl : s.heap.objs.size ≠ l := Nat.ne_of_gt (Heap.lt_size hl)
  have hNr : s.heap.objs.size ≠ r := Nat.ne_of_gt (Heap.lt_size hr)
  refine hcopy led { s with heap := s.heap.push (setObj #[] 0 (.fresh 0 0 led)) } _ _ hN (Heap.get?_push_of_some _ hl) hNl fun o' F' => ?_
  dsimp only
  rw [hput_push]
  obtain ⟨es', ep', t', e', _, _, _, hsz', hf', _⟩ := F'.ex
  have hO' : (s.heap.push o').get? s.heap.objs.size = some o' := Heap.get?_push_size _ (by rw [e']; rfl)
  have hr' : (s.heap.push o').get? r = some (setObj #[(hashStr w (chS c), .str (chS c) tk)] ep1 t1) := Heap.get?_push_of_some _ hr
  have hTr' : ({ s with heap := s.heap.push o' } : Shared).TypeIs (.ref r) "frozenset" := fz_type hr'
  refine wpAny_bind (wpAny_pure (wpAny_bind (wpAny_holding ?_)))
  unfold differenceUpdate
  rw [if_neg (by simpa using Ne.symm hNr)]
  refine wpAny_bind (any_fz (s := { s with heap := s.heap.push o' }) hTr' ?_)
  simp only [↓reduceIte]
  refine wpAny_bind (wpAny_pure ?_)
  refine wpAny_bind (size_fz (s := { s with heap := s.heap.push o' }) hr' hf1 ?_)
  refine wpAny_bind (size_fz (s := { s with heap := s.heap.push o' }) (by show (s.heap.push o').get? _ = _; rw [hO', e']) hf' ?_)
  rw [if_neg (by show ¬ 1 / 8 > _; omega)]
  refine wpAny_bind (wpAny_setEpoch_of (s := { s with heap := s.heap.push o' }) hr' rfl hf1 ?_)
  refine wpAny_bind (wpAny_holding ?_)
  refine wpAny_bind (walk_one (s := { s with heap := s.heap.push o' }) hr' hf1 ?_)
  rw [← Array.forIn_toList]
  simp only [List.forIn_cons, List.forIn_nil]
  refine wpAny_bind (wpAny_bind (wpAny_bind (wpAny_holding (discard_fz (s := { s with heap := s.heap.push o' }) F' hO' hsm hc fun o2 F2 => ?_))))
  dsimp only
  rw [hput_push]
  have hr2 : (s.heap.push o2).get? r = some (setObj #[(hashStr w (chS c), .str (chS c) tk)] ep1 t1) := Heap.get?_push_of_some _ hr
  refine wpAny_bind (unch_fz (s := { s with heap := s.heap.push o2 }) hr2 hf1 ?_)
  refine wpAny_pure (wpAny_pure (wpAny_pure ?_))
  obtain ⟨es2, ep2, t2, e2, _, _, _, _, hf2, hm2, hd2⟩ := F2.ex
  have hO2 : (s.heap.push o2).get? s.heap.objs.size = some o2 := Heap.get?_push_size _ (by rw [e2]; rfl)
  unfold setTidy
  refine wpAny_bind (wpAny_setState_of (s := { s with heap := s.heap.push o2 }) (o := setObj es2 ep2 t2) (by show (s.heap.push o2).get? _ = _; rw [hO2, e2]) rfl hf2 ?_)
  dsimp only
  have htm : t2.tooManyDummies = false := by
    unfold SetTable.tooManyDummies
    rw [hd2, hm2]
    exact decide_eq_false (by omega)
  rw [htm]
  simp only [Bool.false_eq_true, ↓reduceIte]
  exact wpAny_pure (wpAny_pure (wpAny_pure (h o2 (F2.weak fun _ _ => trivial))))
end
end Mine
end

noncomputable section -- NbTop0
open PySem PySem.W PyProof.Rows
set_option maxRecDepth 100000
namespace Mine
noncomputable def lifeL : Life := ⟨[], [], [], 0, [], [], false, #[], [], 0, false, false, false, 0, [2000, 10, 10], false, 0, true, [], [], 0, false⟩
noncomputable abbrev tabQ : String → Option Builtin := PySem.W.Fast.tw14364793385576792824
noncomputable abbrev denQ : (String → Option Builtin) → Code → Sem Fin := PySem.W.Fast.tw11892475500146522536
noncomputable abbrev stepQ : (Code → Sem Fin) → Program → World → Shared → Thread → Step := PySem.W.Fast.tw8437177126325714943
noncomputable def qK (w : World) (s : Shared) : Thread → Step
  | ⟨.pure (.again c), _, pos, stack⟩ => .go s ⟨denQ tabQ c, c, pos, stack⟩
  | ⟨.call c h g l k, code, pos, stack⟩ => .go s ⟨denQ tabQ c, c, pos, .ret k h g l code pos [] :: stack⟩
  | th => stepQ (denQ tabQ) prg w s th
noncomputable def iGo (w : World) : Nat → Shared → Thread → Option (Shared × Thread)
  | 0, s, t => some (s, t)
  | n + 1, s, t => match t.loud with
    | true => none
    | false => match qK w s t with
      | .go s' t' => iGo w n s' t'
      | .halt _ _ => none
theorem den_eq : denQ tabQ = denote table := by
  rw [table_eq_tree, PySem.W.Fast.te11892475500146522536, PySem.W.Fast.te14364793385576792824]
theorem qK_eq (w : World) (s : Shared) (t : Thread) : qK w s t = stepK (denote table) prg w s t := by
  have e : ∀ d th, stepQ d prg w s th = step d prg w s th := fun d th => by
    show PySem.W.Fast.tw8437177126325714943 d prg w s th = _
    rw [← PySem.W.Fast.te8437177126325714943]
  obtain ⟨cur, code, pos, stack⟩ := t
  cases cur with
  | pure f => cases f <;> (simp only [qK, stepK, den_eq, e])
  | _ => simp only [qK, stepK, den_eq, e]
theorem iGo_comes {w : World} : ∀ {n : Nat} {s s' : Shared} {t t' : Thread}, iGo w n s t = some (s', t') → PySem.Comes (model prg w) s t s' t'
  | 0, s, s', t, t', h => by
    have h : some (s, t) = some (s', t') := h
    injection h with h; injection h with h1 h2; subst h1 h2; exact .refl _ _
  | n + 1, s, s', t, t', h => by
    unfold iGo at h
    split at h
    · cases h
    · rename_i hl
      split at h
      · rename_i s₁ t₁ hs
        exact .step (by rw [Model.step_quiet _ hl]; exact (qK_eq w s t).symm.trans hs) (iGo_comes h)
      · cases h
noncomputable def iTo (w : World) (stop : Thread → Bool) : Nat → Shared → Thread → Option (Shared × Thread)
  | 0, _, _ => none
  | n + 1, s, t => match stop t with
    | true => some (s, t)
    | false => match t.loud with
      | true => none
      | false => match qK w s t with
        | .go s' t' => iTo w stop n s' t'
        | .halt _ _ => none
theorem iTo_comes {w : World} {stop : Thread → Bool} : ∀ {n : Nat} {s s' : Shared} {t t' : Thread}, iTo w stop n s t = some (s', t') → PySem.Comes (model prg w) s t s' t'
  | 0, _, _, _, _, h => by cases h
  | n + 1, s, s', t, t', h => by
    unfold iTo at h
    split at h
    · injection h with h; injection h with h1 h2; subst h1 h2; exact .refl _ _
    · split at h
      · cases h
      · rename_i hl
        split at h
        · rename_i s₁ t₁ hs
          exact .step (by rw [Model.step_quiet _ hl]; exact (qK_eq w s t).symm.trans hs) (iTo_comes h)
        · cases h
noncomputable def atCode (k : Nat) (t : Thread) : Bool := match t.code with
  | .builtin id _ => Nat.beq (code id) k
  | _ => false
noncomputable def w2 (w : World) (a b : Bool) : World := (w.withFollow "comprehension-iter-twice" a).withFollow "special-get-raises" b
noncomputable def patch (x : Nat → Obj) (l : List (Nat × Obj)) (i : Nat) : Obj := (l.lookup i).getD (x i)
noncomputable def envB : Env := { scope := prg.main.scope, locals := mainNs, globals := mainNs, cells := [], code := .ref 30, frame := some 31 }
noncomputable def bodyB : List Stmt := behindTheImports prg
noncomputable def codeB : Code := .body bodyB envB
noncomputable def stkB : List Frame := [topFrame default]

noncomputable def h28 (f : Nat → Obj) : Heap := ⟨#[f 0, f 1, f 2, f 3, f 4, f 5, f 6, f 7, f 8, f 9, f 10, f 11, f 12, f 13, f 14, f 15, f 16, f 17, f 18, f 19, f 20, f 21, f 22, f 23, f 24, f 25, f 26, f 27], lifeL⟩
noncomputable def h32 (f : Nat → Obj) : Heap := ⟨#[f 0, f 1, f 2, f 3, f 4, f 5, f 6, f 7, f 8, f 9, f 10, f 11, f 12, f 13, f 14, f 15, f 16, f 17, f 18, f 19, f 20, f 21, f 22, f 23, f 24, f 25, f 26, f 27, f 28, f 29, f 30, f 31], lifeL⟩
noncomputable def h40 (f : Nat → Obj) : Heap := ⟨#[f 0, f 1, f 2, f 3, f 4, f 5, f 6, f 7, f 8, f 9, f 10, f 11, f 12, f 13, f 14, f 15, f 16, f 17, f 18, f 19, f 20, f 21, f 22, f 23, f 24, f 25, f 26, f 27, f 28, f 29, f 30, f 31, f 32, f 33, f 34, f 35, f 36, f 37, f 38, f 39], lifeL⟩
noncomputable def h49 (f : Nat → Obj) : Heap := ⟨#[f 0, f 1, f 2, f 3, f 4, f 5, f 6, f 7, f 8, f 9, f 10, f 11, f 12, f 13, f 14, f 15, f 16, f 17, f 18, f 19, f 20, f 21, f 22, f 23, f 24, f 25, f 26, f 27, f 28, f 29, f 30, f 31, f 32, f 33, f 34, f 35, f 36, f 37, f 38, f 39, f 40, f 41, f 42, f 43, f 44, f 45, f 46, f 47, f 48], lifeL⟩
noncomputable def h54 (f : Nat → Obj) : Heap := ⟨#[f 0, f 1, f 2, f 3, f 4, f 5, f 6, f 7, f 8, f 9, f 10, f 11, f 12, f 13, f 14, f 15, f 16, f 17, f 18, f 19, f 20, f 21, f 22, f 23, f 24, f 25, f 26, f 27, f 28, f 29, f 30, f 31, f 32, f 33, f 34, f 35, f 36, f 37, f 38, f 39, f 40, f 41, f 42, f 43, f 44, f 45, f 46, f 47, f 48, f 49, f 50, f 51, f 52, f 53], lifeL⟩
noncomputable def h58 (f : Nat → Obj) : Heap := ⟨#[f 0, f 1, f 2, f 3, f 4, f 5, f 6, f 7, f 8, f 9, f 10, f 11, f 12, f 13, f 14, f 15, f 16, f 17, f 18, f 19, f 20, f 21, f 22, f 23, f 24, f 25, f 26, f 27, f 28, f 29, f 30, f 31, f 32, f 33, f 34, f 35, f 36, f 37, f 38, f 39, f 40, f 41, f 42, f 43, f 44, f 45, f 46, f 47, f 48, f 49, f 50, f 51, f 52, f 53, f 54, f 55, f 56, f 57], lifeL⟩
noncomputable def h63 (f : Nat → Obj) : Heap := ⟨#[f 0, f 1, f 2, f 3, f 4, f 5, f 6, f 7, f 8, f 9, f 10, f 11, f 12, f 13, f 14, f 15, f 16, f 17, f 18, f 19, f 20, f 21, f 22, f 23, f 24, f 25, f 26, f 27, f 28, f 29, f 30, f 31, f 32, f 33, f 34, f 35, f 36, f 37, f 38, f 39, f 40, f 41, f 42, f 43, f 44, f 45, f 46, f 47, f 48, f 49, f 50, f 51, f 52, f 53, f 54, f 55, f 56, f 57, f 58, f 59, f 60, f 61, f 62], lifeL⟩
noncomputable def b2 (P : Params) : Obj := { cls := Value.none, data := Data.dict #[{ hash := PyData.keyHash P (Str.ofString "\x69mport.loaded._sre"), key := Value.str (Str.ofString "\x69mport.loaded._sre") 183, val := Value.bool true }, { hash := PyData.keyHash P (Str.ofString "class._frozen_importlib.BuiltinImporter"), key := Value.str (Str.ofString "class._frozen_importlib.BuiltinImporter") 185, val := Value.ref 14 }, { hash := PyData.keyHash P (Str.ofString "watched.\x69mport"), key := Value.str (Str.ofString "watched.\x69mport") 206, val := Value.ref 18 }, { hash := PyData.keyHash P (Str.ofString "class._frozen_importlib.ModuleSpec"), key := Value.str (Str.ofString "class._frozen_importlib.ModuleSpec") 216, val := Value.ref 22 }, { hash := PyData.keyHash P (Str.ofString "sys.modules.booked-epoch"), key := Value.str (Str.ofString "sys.modules.booked-epoch") 245, val := Value.int 3 0 }, { hash := PyData.keyHash P (Str.ofString "\x69mport.later-laid._sre"), key := Value.str (Str.ofString "\x69mport.later-laid._sre") 270, val := Value.bool true }, { hash := PyData.keyHash P (Str.ofString "watched.library"), key := Value.str (Str.ofString "watched.library") 272, val := Value.ref 27 }, { hash := PyData.keyHash P (Str.ofString "watched.library-objects"), key := Value.str (Str.ofString "watched.library-objects") 0, val := Value.str (Str.ofString "\x0c") 0 }, { hash := PyData.keyHash P (Str.ofString "watched.library-deep._sre"), key := Value.str (Str.ofString "watched.library-deep._sre") 273, val := Value.str (Str.ofString "\x04\x00\x00\x0b\x04\x00\x00\x0b\x04\x00\x00\x03\x04\x00\x00\x0b\x08\x04dict\x02") 0 }] 9 }
noncomputable def b3 (P : Params) : Obj := { cls := Value.type "dict", data := Data.dict #[{ hash := PyData.keyHash P (Str.ofString "__name__"), key := Value.str (Str.ofString "__name__") 165, val := Value.str (Str.ofString "__main__") 164 }, { hash := PyData.keyHash P (Str.ofString "__doc__"), key := Value.str (Str.ofString "__doc__") 166, val := Value.none }, { hash := PyData.keyHash P (Str.ofString "__package__"), key := Value.str (Str.ofString "__package__") 167, val := Value.none }, { hash := PyData.keyHash P (Str.ofString "__loader__"), key := Value.str (Str.ofString "__loader__") 168, val := Value.builtin "__main__.__loader__#opaque" }, { hash := PyData.keyHash P (Str.ofString "__spec__"), key := Value.str (Str.ofString "__spec__") 169, val := Value.none }, { hash := PyData.keyHash P (Str.ofString "__annotations__"), key := Value.str (Str.ofString "__annotations__") 170, val := Value.ref 6 }, { hash := PyData.keyHash P (Str.ofString "__builtins__"), key := Value.str (Str.ofString "__builtins__") 171, val := Value.ref 4 }, { hash := PyData.keyHash P (Str.ofString "__file__"), key := Value.str (Str.ofString "__file__") 173, val := Value.str (Str.ofString "/claim/cut.py") 172 }, { hash := PyData.keyHash P (Str.ofString "__cached__"), key := Value.str (Str.ofString "__cached__") 174, val := Value.none }, { hash := PyData.keyHash P (Str.ofString "_sre"), key := Value.str (Str.ofString "_sre") 275, val := Value.ref 12 }] 10 }
noncomputable def b4 (P : Params) : Obj := { cls := Value.type "module", dict := some 0 }
noncomputable def b11 (P : Params) : Obj := { cls := Value.type "dict", data := Data.dict #[{ hash := PyData.keyHash P (Str.ofString "__name__"), key := Value.str (Str.ofString "__name__") 247, val := Value.str (Str.ofString "_sre") 246 }, { hash := PyData.keyHash P (Str.ofString "__doc__"), key := Value.str (Str.ofString "__doc__") 248, val := Value.none }, { hash := PyData.keyHash P (Str.ofString "__package__"), key := Value.str (Str.ofString "__package__") 250, val := Value.str (Str.ofString "") 249 }, { hash := PyData.keyHash P (Str.ofString "__loader__"), key := Value.str (Str.ofString "__loader__") 251, val := Value.builtin "off-the-table:_sre.__loader__:shared#opaque" }, { hash := PyData.keyHash P (Str.ofString "__spec__"), key := Value.str (Str.ofString "__spec__") 252, val := Value.builtin "off-the-table:_sre.__spec__:shared#opaque" }, { hash := PyData.keyHash P (Str.ofString "compile"), key := Value.str (Str.ofString "compile") 253, val := Value.builtin "_sre.compile" }, { hash := PyData.keyHash P (Str.ofString "template"), key := Value.str (Str.ofString "template") 254, val := Value.builtin "off-the-table:_sre.template:shared#opaque" }, { hash := PyData.keyHash P (Str.ofString "getcodesize"), key := Value.str (Str.ofString "getcodesize") 255, val := Value.builtin "off-the-table:_sre.getcodesize:shared#opaque" }, { hash := PyData.keyHash P (Str.ofString "ascii_iscased"), key := Value.str (Str.ofString "ascii_iscased") 256, val := Value.builtin "off-the-table:_sre.ascii_iscased:shared#opaque" }, { hash := PyData.keyHash P (Str.ofString "unicode_iscased"), key := Value.str (Str.ofString "unicode_iscased") 257, val := Value.builtin "off-the-table:_sre.unicode_iscased:shared#opaque" }, { hash := PyData.keyHash P (Str.ofString "ascii_tolower"), key := Value.str (Str.ofString "ascii_tolower") 258, val := Value.builtin "off-the-table:_sre.ascii_tolower:shared#opaque" }, { hash := PyData.keyHash P (Str.ofString "unicode_tolower"), key := Value.str (Str.ofString "unicode_tolower") 259, val := Value.builtin "off-the-table:_sre.unicode_tolower:shared#opaque" }, { hash := PyData.keyHash P (Str.ofString "MAGIC"), key := Value.str (Str.ofString "MAGIC") 261, val := Value.int 20230612 260 }, { hash := PyData.keyHash P (Str.ofString "CODESIZE"), key := Value.str (Str.ofString "CODESIZE") 263, val := Value.int 4 262 }, { hash := PyData.keyHash P (Str.ofString "MAXREPEAT"), key := Value.str (Str.ofString "MAXREPEAT") 265, val := Value.int 4294967295 264 }, { hash := PyData.keyHash P (Str.ofString "MAXGROUPS"), key := Value.str (Str.ofString "MAXGROUPS") 267, val := Value.int 1073741823 266 }, { hash := PyData.keyHash P (Str.ofString "copyright"), key := Value.str (Str.ofString "copyright") 269, val := Value.str (Str.ofString " SRE 2.2.2 Copyright (c) 1997-2002 by Secret Labs AB ") 268 }] 17 }
noncomputable def b12 (P : Params) : Obj := { cls := Value.type "module", dict := some 11 }
noncomputable def b29 (P : Params) : Obj := { cls := Value.none, data := Data.fields #[] }
noncomputable def b30 (P : Params) : Obj := { cls := Value.type "code", data := Data.fields #[Value.str (Str.ofString "<module>") 277, Value.str (Str.ofString "<module>") 278, Value.str (Str.ofString "/claim/cut.py") 279, Value.int 1 0, Value.int 0 0, Value.int 0 0, Value.int 0 0, Value.int 0 0, Value.ref 28, Value.bool false, Value.int 276 0, Value.ref 29, Value.none, Value.none, Value.none, Value.none, Value.int 280 0, Value.int 1 0, Value.str (Str.ofString "/claim/cut.py") 281] }
noncomputable def g1 (P : Params) : Obj := { cls := Value.type "dict", data := Data.dict #[{ hash := PyData.keyHash P (Str.ofString "__name__"), key := Value.str (Str.ofString "__name__") 165, val := Value.str (Str.ofString "cpy313.tomllib._parser") 282 }, { hash := PyData.keyHash P (Str.ofString "__doc__"), key := Value.str (Str.ofString "__doc__") 166, val := Value.none }, { hash := PyData.keyHash P (Str.ofString "__package__"), key := Value.str (Str.ofString "__package__") 167, val := Value.none }, { hash := PyData.keyHash P (Str.ofString "__loader__"), key := Value.str (Str.ofString "__loader__") 168, val := Value.builtin "__main__.__loader__#opaque" }, { hash := PyData.keyHash P (Str.ofString "__spec__"), key := Value.str (Str.ofString "__spec__") 169, val := Value.none }, { hash := PyData.keyHash P (Str.ofString "__annotations__"), key := Value.str (Str.ofString "__annotations__") 170, val := Value.ref 6 }, { hash := PyData.keyHash P (Str.ofString "__builtins__"), key := Value.str (Str.ofString "__builtins__") 171, val := Value.ref 4 }, { hash := PyData.keyHash P (Str.ofString "__file__"), key := Value.str (Str.ofString "__file__") 173, val := Value.str (Str.ofString "/claim/cut.py") 172 }, { hash := PyData.keyHash P (Str.ofString "__cached__"), key := Value.str (Str.ofString "__cached__") 174, val := Value.none }, { hash := PyData.keyHash P (Str.ofString "_sre"), key := Value.str (Str.ofString "_sre") 275, val := Value.ref 12 }] 10 }
noncomputable def g2 (P : Params) : Obj := { cls := Value.type "dict", data := Data.dict #[{ hash := PyData.keyHash P (Str.ofString "__name__"), key := Value.str (Str.ofString "__name__") 165, val := Value.str (Str.ofString "cpy313.tomllib._parser") 282 }, { hash := PyData.keyHash P (Str.ofString "__doc__"), key := Value.str (Str.ofString "__doc__") 166, val := Value.none }, { hash := PyData.keyHash P (Str.ofString "__package__"), key := Value.str (Str.ofString "__package__") 167, val := Value.none }, { hash := PyData.keyHash P (Str.ofString "__loader__"), key := Value.str (Str.ofString "__loader__") 168, val := Value.builtin "__main__.__loader__#opaque" }, { hash := PyData.keyHash P (Str.ofString "__spec__"), key := Value.str (Str.ofString "__spec__") 169, val := Value.none }, { hash := PyData.keyHash P (Str.ofString "__annotations__"), key := Value.str (Str.ofString "__annotations__") 170, val := Value.ref 6 }, { hash := PyData.keyHash P (Str.ofString "__builtins__"), key := Value.str (Str.ofString "__builtins__") 171, val := Value.ref 4 }, { hash := PyData.keyHash P (Str.ofString "__file__"), key := Value.str (Str.ofString "__file__") 173, val := Value.str (Str.ofString "/claim/cut.py") 172 }, { hash := PyData.keyHash P (Str.ofString "__cached__"), key := Value.str (Str.ofString "__cached__") 174, val := Value.none }, { hash := PyData.keyHash P (Str.ofString "_sre"), key := Value.str (Str.ofString "_sre") 275, val := Value.ref 12 }, { hash := PyData.keyHash P (Str.ofString "ASCII_CTRL"), key := Value.str (Str.ofString "ASCII_CTRL") 427, val := Value.ref 48 }] 11 }
noncomputable def g3 (P : Params) : Obj := { cls := Value.type "dict", data := Data.dict #[{ hash := PyData.keyHash P (Str.ofString "__name__"), key := Value.str (Str.ofString "__name__") 165, val := Value.str (Str.ofString "cpy313.tomllib._parser") 282 }, { hash := PyData.keyHash P (Str.ofString "__doc__"), key := Value.str (Str.ofString "__doc__") 166, val := Value.none }, { hash := PyData.keyHash P (Str.ofString "__package__"), key := Value.str (Str.ofString "__package__") 167, val := Value.none }, { hash := PyData.keyHash P (Str.ofString "__loader__"), key := Value.str (Str.ofString "__loader__") 168, val := Value.builtin "__main__.__loader__#opaque" }, { hash := PyData.keyHash P (Str.ofString "__spec__"), key := Value.str (Str.ofString "__spec__") 169, val := Value.none }, { hash := PyData.keyHash P (Str.ofString "__annotations__"), key := Value.str (Str.ofString "__annotations__") 170, val := Value.ref 6 }, { hash := PyData.keyHash P (Str.ofString "__builtins__"), key := Value.str (Str.ofString "__builtins__") 171, val := Value.ref 4 }, { hash := PyData.keyHash P (Str.ofString "__file__"), key := Value.str (Str.ofString "__file__") 173, val := Value.str (Str.ofString "/claim/cut.py") 172 }, { hash := PyData.keyHash P (Str.ofString "__cached__"), key := Value.str (Str.ofString "__cached__") 174, val := Value.none }, { hash := PyData.keyHash P (Str.ofString "_sre"), key := Value.str (Str.ofString "_sre") 275, val := Value.ref 12 }, { hash := PyData.keyHash P (Str.ofString "ASCII_CTRL"), key := Value.str (Str.ofString "ASCII_CTRL") 427, val := Value.ref 48 }, { hash := PyData.keyHash P (Str.ofString "ILLEGAL_BASIC_STR_CHARS"), key := Value.str (Str.ofString "ILLEGAL_BASIC_STR_CHARS") 431, val := Value.ref 53 }] 12 }
noncomputable def g4 (P : Params) : Obj := { cls := Value.type "dict", data := Data.dict #[{ hash := PyData.keyHash P (Str.ofString "__name__"), key := Value.str (Str.ofString "__name__") 165, val := Value.str (Str.ofString "cpy313.tomllib._parser") 282 }, { hash := PyData.keyHash P (Str.ofString "__doc__"), key := Value.str (Str.ofString "__doc__") 166, val := Value.none }, { hash := PyData.keyHash P (Str.ofString "__package__"), key := Value.str (Str.ofString "__package__") 167, val := Value.none }, { hash := PyData.keyHash P (Str.ofString "__loader__"), key := Value.str (Str.ofString "__loader__") 168, val := Value.builtin "__main__.__loader__#opaque" }, { hash := PyData.keyHash P (Str.ofString "__spec__"), key := Value.str (Str.ofString "__spec__") 169, val := Value.none }, { hash := PyData.keyHash P (Str.ofString "__annotations__"), key := Value.str (Str.ofString "__annotations__") 170, val := Value.ref 6 }, { hash := PyData.keyHash P (Str.ofString "__builtins__"), key := Value.str (Str.ofString "__builtins__") 171, val := Value.ref 4 }, { hash := PyData.keyHash P (Str.ofString "__file__"), key := Value.str (Str.ofString "__file__") 173, val := Value.str (Str.ofString "/claim/cut.py") 172 }, { hash := PyData.keyHash P (Str.ofString "__cached__"), key := Value.str (Str.ofString "__cached__") 174, val := Value.none }, { hash := PyData.keyHash P (Str.ofString "_sre"), key := Value.str (Str.ofString "_sre") 275, val := Value.ref 12 }, { hash := PyData.keyHash P (Str.ofString "ASCII_CTRL"), key := Value.str (Str.ofString "ASCII_CTRL") 427, val := Value.ref 48 }, { hash := PyData.keyHash P (Str.ofString "ILLEGAL_BASIC_STR_CHARS"), key := Value.str (Str.ofString "ILLEGAL_BASIC_STR_CHARS") 431, val := Value.ref 53 }, { hash := PyData.keyHash P (Str.ofString "ILLEGAL_LITERAL_STR_CHARS"), key := Value.str (Str.ofString "ILLEGAL_LITERAL_STR_CHARS") 432, val := Value.ref 53 }] 13 }
noncomputable def g5 (P : Params) : Obj := { cls := Value.type "dict", data := Data.dict #[{ hash := PyData.keyHash P (Str.ofString "__name__"), key := Value.str (Str.ofString "__name__") 165, val := Value.str (Str.ofString "cpy313.tomllib._parser") 282 }, { hash := PyData.keyHash P (Str.ofString "__doc__"), key := Value.str (Str.ofString "__doc__") 166, val := Value.none }, { hash := PyData.keyHash P (Str.ofString "__package__"), key := Value.str (Str.ofString "__package__") 167, val := Value.none }, { hash := PyData.keyHash P (Str.ofString "__loader__"), key := Value.str (Str.ofString "__loader__") 168, val := Value.builtin "__main__.__loader__#opaque" }, { hash := PyData.keyHash P (Str.ofString "__spec__"), key := Value.str (Str.ofString "__spec__") 169, val := Value.none }, { hash := PyData.keyHash P (Str.ofString "__annotations__"), key := Value.str (Str.ofString "__annotations__") 170, val := Value.ref 6 }, { hash := PyData.keyHash P (Str.ofString "__builtins__"), key := Value.str (Str.ofString "__builtins__") 171, val := Value.ref 4 }, { hash := PyData.keyHash P (Str.ofString "__file__"), key := Value.str (Str.ofString "__file__") 173, val := Value.str (Str.ofString "/claim/cut.py") 172 }, { hash := PyData.keyHash P (Str.ofString "__cached__"), key := Value.str (Str.ofString "__cached__") 174, val := Value.none }, { hash := PyData.keyHash P (Str.ofString "_sre"), key := Value.str (Str.ofString "_sre") 275, val := Value.ref 12 }, { hash := PyData.keyHash P (Str.ofString "ASCII_CTRL"), key := Value.str (Str.ofString "ASCII_CTRL") 427, val := Value.ref 48 }, { hash := PyData.keyHash P (Str.ofString "ILLEGAL_BASIC_STR_CHARS"), key := Value.str (Str.ofString "ILLEGAL_BASIC_STR_CHARS") 431, val := Value.ref 53 }, { hash := PyData.keyHash P (Str.ofString "ILLEGAL_LITERAL_STR_CHARS"), key := Value.str (Str.ofString "ILLEGAL_LITERAL_STR_CHARS") 432, val := Value.ref 53 }, { hash := PyData.keyHash P (Str.ofString "ILLEGAL_COMMENT_CHARS"), key := Value.str (Str.ofString "ILLEGAL_COMMENT_CHARS") 433, val := Value.ref 53 }] 14 }
noncomputable def g6 (P : Params) : Obj := { cls := Value.type "dict", data := Data.dict #[{ hash := PyData.keyHash P (Str.ofString "__name__"), key := Value.str (Str.ofString "__name__") 165, val := Value.str (Str.ofString "cpy313.tomllib._parser") 282 }, { hash := PyData.keyHash P (Str.ofString "__doc__"), key := Value.str (Str.ofString "__doc__") 166, val := Value.none }, { hash := PyData.keyHash P (Str.ofString "__package__"), key := Value.str (Str.ofString "__package__") 167, val := Value.none }, { hash := PyData.keyHash P (Str.ofString "__loader__"), key := Value.str (Str.ofString "__loader__") 168, val := Value.builtin "__main__.__loader__#opaque" }, { hash := PyData.keyHash P (Str.ofString "__spec__"), key := Value.str (Str.ofString "__spec__") 169, val := Value.none }, { hash := PyData.keyHash P (Str.ofString "__annotations__"), key := Value.str (Str.ofString "__annotations__") 170, val := Value.ref 6 }, { hash := PyData.keyHash P (Str.ofString "__builtins__"), key := Value.str (Str.ofString "__builtins__") 171, val := Value.ref 4 }, { hash := PyData.keyHash P (Str.ofString "__file__"), key := Value.str (Str.ofString "__file__") 173, val := Value.str (Str.ofString "/claim/cut.py") 172 }, { hash := PyData.keyHash P (Str.ofString "__cached__"), key := Value.str (Str.ofString "__cached__") 174, val := Value.none }, { hash := PyData.keyHash P (Str.ofString "_sre"), key := Value.str (Str.ofString "_sre") 275, val := Value.ref 12 }, { hash := PyData.keyHash P (Str.ofString "ASCII_CTRL"), key := Value.str (Str.ofString "ASCII_CTRL") 427, val := Value.ref 48 }, { hash := PyData.keyHash P (Str.ofString "ILLEGAL_BASIC_STR_CHARS"), key := Value.str (Str.ofString "ILLEGAL_BASIC_STR_CHARS") 431, val := Value.ref 53 }, { hash := PyData.keyHash P (Str.ofString "ILLEGAL_LITERAL_STR_CHARS"), key := Value.str (Str.ofString "ILLEGAL_LITERAL_STR_CHARS") 432, val := Value.ref 53 }, { hash := PyData.keyHash P (Str.ofString "ILLEGAL_COMMENT_CHARS"), key := Value.str (Str.ofString "ILLEGAL_COMMENT_CHARS") 433, val := Value.ref 53 }, { hash := PyData.keyHash P (Str.ofString "TOML_WS"), key := Value.str (Str.ofString "TOML_WS") 439, val := Value.ref 54 }] 15 }
noncomputable def g7 (P : Params) : Obj := { cls := Value.type "dict", data := Data.dict #[{ hash := PyData.keyHash P (Str.ofString "__name__"), key := Value.str (Str.ofString "__name__") 165, val := Value.str (Str.ofString "cpy313.tomllib._parser") 282 }, { hash := PyData.keyHash P (Str.ofString "__doc__"), key := Value.str (Str.ofString "__doc__") 166, val := Value.none }, { hash := PyData.keyHash P (Str.ofString "__package__"), key := Value.str (Str.ofString "__package__") 167, val := Value.none }, { hash := PyData.keyHash P (Str.ofString "__loader__"), key := Value.str (Str.ofString "__loader__") 168, val := Value.builtin "__main__.__loader__#opaque" }, { hash := PyData.keyHash P (Str.ofString "__spec__"), key := Value.str (Str.ofString "__spec__") 169, val := Value.none }, { hash := PyData.keyHash P (Str.ofString "__annotations__"), key := Value.str (Str.ofString "__annotations__") 170, val := Value.ref 6 }, { hash := PyData.keyHash P (Str.ofString "__builtins__"), key := Value.str (Str.ofString "__builtins__") 171, val := Value.ref 4 }, { hash := PyData.keyHash P (Str.ofString "__file__"), key := Value.str (Str.ofString "__file__") 173, val := Value.str (Str.ofString "/claim/cut.py") 172 }, { hash := PyData.keyHash P (Str.ofString "__cached__"), key := Value.str (Str.ofString "__cached__") 174, val := Value.none }, { hash := PyData.keyHash P (Str.ofString "_sre"), key := Value.str (Str.ofString "_sre") 275, val := Value.ref 12 }, { hash := PyData.keyHash P (Str.ofString "ASCII_CTRL"), key := Value.str (Str.ofString "ASCII_CTRL") 427, val := Value.ref 48 }, { hash := PyData.keyHash P (Str.ofString "ILLEGAL_BASIC_STR_CHARS"), key := Value.str (Str.ofString "ILLEGAL_BASIC_STR_CHARS") 431, val := Value.ref 53 }, { hash := PyData.keyHash P (Str.ofString "ILLEGAL_LITERAL_STR_CHARS"), key := Value.str (Str.ofString "ILLEGAL_LITERAL_STR_CHARS") 432, val := Value.ref 53 }, { hash := PyData.keyHash P (Str.ofString "ILLEGAL_COMMENT_CHARS"), key := Value.str (Str.ofString "ILLEGAL_COMMENT_CHARS") 433, val := Value.ref 53 }, { hash := PyData.keyHash P (Str.ofString "TOML_WS"), key := Value.str (Str.ofString "TOML_WS") 439, val := Value.ref 54 }, { hash := PyData.keyHash P (Str.ofString "TOML_WS_AND_NEWLINE"), key := Value.str (Str.ofString "TOML_WS_AND_NEWLINE") 443, val := Value.ref 62 }] 16 }
noncomputable def c29 : Obj := { cls := Value.none, data := Data.fields #[Value.int 3 0, Value.int 23 0, Value.ref 36] }
noncomputable def c32 : Obj := { cls := Value.type "range", data := Data.fields #[Value.int 0 285, Value.int 32 284, Value.int 1 286] }
noncomputable def c34 : Obj := { cls := Value.type "tuple", data := Data.seq #[] }
noncomputable def c35 : Obj := { cls := Value.none, data := Data.fields #[] }
noncomputable def c36 : Obj := { cls := Value.type "code", data := Data.fields #[Value.str (Str.ofString "<genexpr>") 287, Value.str (Str.ofString "<genexpr>") 288, Value.str (Str.ofString "/claim/cut.py") 289, Value.int 3 0, Value.int 1 0, Value.int 0 0, Value.int 0 0, Value.int 35 0, Value.ref 34, Value.bool true, Value.int 276 0, Value.ref 35, Value.none, Value.none, Value.none, Value.none, Value.int 290 0, Value.int 3 0, Value.str (Str.ofString "/claim/cut.py") 291] }
noncomputable def c38 : Obj := { cls := Value.type "generator", data := Data.fields #[Value.int 0 0, Value.str (Str.ofString "<genexpr>") 293, Value.str (Str.ofString "<genexpr>") 294] }
noncomputable def q_blk : Pos := ⟨0, 0, 0, 0⟩
noncomputable def q_1 : Pos := ⟨2, 0, 2, 8⟩
noncomputable def q_2 : Pos := ⟨3, 0, 3, 10⟩
noncomputable def q_3 : Pos := ⟨4, 0, 4, 23⟩
noncomputable def q_4 : Pos := ⟨5, 0, 5, 25⟩
noncomputable def q_5 : Pos := ⟨6, 0, 6, 21⟩
noncomputable def q_6 : Pos := ⟨7, 0, 7, 7⟩
noncomputable def q_7 : Pos := ⟨8, 0, 8, 19⟩
noncomputable def dr0 : Drawn := ⟨0, 0, 0, 0⟩
noncomputable abbrev execsQ : List Stmt → Env → Sem Flow := PySem.W.Fast.tw12563942051412417395
noncomputable abbrev leavingQ : Env → Value → Sem Unit := PySem.W.Fast.tw9442747609961115081
noncomputable def restQ (rest : List Stmt) (p : Pos) : Thread := ⟨(execsQ rest envB).wrap doneF (fun e => ((leavingQ envB e).bind fun _ => (.raise e : Sem Flow)).wrap doneF .raise id id) id id, codeB, p, stkB⟩
noncomputable def lits (P : Params) : List (Nat × Obj) := [(0, boot_o_0 P), (2, b2 P), (4, b4 P), (11, b11 P), (12, b12 P), (30, b30 P)]
noncomputable def s1 (w : World) (os : OsState) (x : Nat → Obj) : Shared := ⟨h32 (patch x ((3, g1 w.params) :: (29, b29 w.params) :: lits w.params)), #[], dr0, 284, os⟩
noncomputable def t1 : Thread := restQ (bodyB.drop 1) q_1
-- statement 2: up to the first filling
noncomputable def codeL : Code := .builtin "set.update.loop" ⟨[.ref 39, .ref 38], []⟩
noncomputable def q2L : Pos := ⟨3, 13, 3, 51⟩
noncomputable def run2 (w : World) (os : OsState) (x : Nat → Obj) : Option (Shared × Thread) := iTo w (atCode (code "set.update.loop")) 130 (s1 w os x) t1
noncomputable def stk2 (w : World) (os : OsState) (x : Nat → Obj) : List Frame := (run2 w os x).elim [] (·.2.stack)
noncomputable def gen2 (w : World) (os : OsState) (x : Nat → Obj) : Array GenState := (run2 w os x).elim #[] (·.1.gens)
noncomputable def o33 (i : Nat) : Obj := { cls := Value.type "range_iterator", data := Data.fields #[Value.int i 0, Value.int ((32 - i : Nat) : Int) 0, Value.int 1 0] }
noncomputable def o37 (P : Params) : Nat → Obj
  | 0 => { cls := Value.type "frame", data := Data.dict #[{ hash := PyData.keyHash P (Str.ofString ".0"), key := Value.str (Str.ofString ".0") 292, val := Value.ref 33 }] 1 }
  | i + 1 => { cls := Value.type "frame", data := Data.dict #[{ hash := PyData.keyHash P (Str.ofString ".0"), key := Value.str (Str.ofString ".0") 292, val := Value.ref 33 }, { hash := PyData.keyHash P (Str.ofString "i"), key := Value.str (Str.ofString "i") 296, val := Value.int i (295 + 4 * i) }] 2 }
noncomputable def lits2 (P : Params) : List (Nat × Obj) := (3, g1 P) :: (29, c29) :: (32, c32) :: (34, c34) :: (35, c35) :: (36, c36) :: (38, c38) :: lits P
noncomputable def X0 (led : Bool) : Obj := setObj #[] 0 (.fresh 0 0 led)
noncomputable def s2 (w : World) (os : OsState) (x : Nat → Obj) (G : Array GenState) (i : Nat) (X : Obj) : Shared := ⟨h40 (patch x ((33, o33 i) :: (37, o37 w.params i) :: (39, X) :: lits2 w.params)), G, dr0, 295 + 4 * i, os⟩
noncomputable def Run2 (w : World) : Prop := ∀ (os : OsState) (x : Nat → Obj), run2 w os x = some (s2 w os x (gen2 w os x) 0 (X0 (!w.params.followText "set-order")), ⟨denQ tabQ codeL, codeL, q2L, stk2 w os x⟩)
theorem run2_ff (w : World) : Run2 (w2 w false false) := fun os x => by kernel_rfl
theorem run2_ft (w : World) : Run2 (w2 w false true) := fun os x => by kernel_rfl
theorem run2_tf (w : World) : Run2 (w2 w true false) := fun os x => by kernel_rfl
theorem run2_tt (w : World) : Run2 (w2 w true true) := fun os x => by kernel_rfl
theorem run2_eq (w : World) : Run2 w :=
  byRow2 "special-get-raises" (byRow2 "comprehension-iter-twice" (P := fun w => Run2 (w.withFollow "special-get-raises" false)) run2_ff run2_tf) (byRow2 "comprehension-iter-twice" (P := fun w => Run2 (w.withFollow "special-get-raises" true)) run2_ft run2_tt) w
end Mine
end

noncomputable section -- NbReach
open PySem PySem.W PyProof.Rows
set_option maxRecDepth 100000
namespace Mine

theorem app_gen (fs : List Frame) (F : Frame) (pre B : List Frame) : fs ++ F :: (pre ++ B) = (fs ++ F :: pre) ++ B := by simp
/-- a step keeps what lies below, unless a leaf stands right above it -/
theorem step_base {w : World} {B : List Frame} (hB : splitAtGen B = none) {s s' : Shared} {t : Sem PySem.Fin} {c : Code} {p : Pos} {pre : List Frame} {th : Thread}
    (h : (model prg w).step s ⟨t, c, p, pre ++ B⟩ = .go s' th) (hl : pre ≠ [] ∨ (∀ f, t ≠ .pure (.done f)) ∧ ∀ e, t ≠ .raise e) :
    ∃ t' c' p' pre', th = ⟨t', c', p', pre' ++ B⟩ := by
  cases hloud : Thread.loud ⟨t, c, p, pre ++ B⟩ with
  | true => rw [Model.step_loud _ hloud] at h; cases h
  | false =>
    rw [Model.step_quiet _ hloud] at h
    obtain ⟨heap, gens, drawn, toks, os⟩ := s
    cases t with
    | pure f =>
      cases f with
      | done f =>
        cases pre with
        | nil => exact absurd rfl ((hl.resolve_left (fun z => z rfl)).1 f)
        | cons F pre =>
          cases F <;> (simp only [stepK, step, List.cons_append] at h; cases h; exact ⟨_, _, _, pre, rfl⟩)
      | again c' => simp only [stepK] at h; cases h; exact ⟨_, _, _, pre, rfl⟩
    | raise e =>
      cases pre with
      | nil => exact absurd rfl ((hl.resolve_left (fun z => z rfl)).2 e)
      | cons F pre => cases F <;> (simp only [stepK, step, List.cons_append] at h; cases h; exact ⟨_, _, _, pre, rfl⟩)
    | call c' hd g l k => simp only [stepK] at h; cases h; exact ⟨_, _, _, .ret k hd g l c p [] :: pre, rfl⟩
    | unsupported | register | fork | await => simp only [stepK, step] at h; cases h
    | finish e => simp only [stepK, step] at h; split at h <;> cases h
    | rule | «at» | alloc | loadIfAlive | point | fresh | ask | newGen | thread | os | stack | handled => simp only [stepK, step] at h; cases h; exact ⟨_, _, _, pre, rfl⟩
    | load a q k => simp only [stepK, step] at h; split at h <;> cases h; exact ⟨_, _, _, pre, rfl⟩
    | update a q f k => simp only [stepK, step] at h; split at h <;> cases h; exact ⟨_, _, _, pre, rfl⟩
    | choose src n k => simp only [stepK, step] at h; split at h <;> cases h; exact ⟨_, _, _, pre, rfl⟩
    | genState g k => simp only [stepK, step] at h; split at h <;> cases h <;> exact ⟨_, _, _, pre, rfl⟩
    | resume g r l k =>
      simp only [stepK, step] at h
      (repeat' split at h) <;> (try cases h) <;> first
        | exact ⟨_, _, _, pre, rfl⟩
        | exact ⟨_, _, _, .gen _ _ _ _ _ :: pre, rfl⟩
        | exact ⟨_, _, _, _, congrArg (Thread.mk _ _ _) (app_gen _ _ pre B)⟩
    | «yield» v g l k =>
      simp only [stepK, step] at h
      cases hq : splitAtGen pre with
      | none => rw [splitAtGen_append_none B hq, hB] at h; cases h
      | some z =>
        obtain ⟨fs, ⟨g', k', c', p'⟩, rest⟩ := z
        rw [splitAtGen_append_some B hq] at h
        cases h
        exact ⟨_, _, _, rest, rfl⟩

/-- a run by the kernel that ends above the base at a leaf -/
noncomputable def iEnd (w : World) (b : Nat) : Nat → Shared → Thread → Option (Flow × Shared)
  | 0, _, _ => none
  | n + 1, s, t => match endAt b t with
    | some f => some (f, s)
    | none => match t.loud with
      | true => none
      | false => match (match t.cur with | .raise _ => Nat.beq t.stack.length b | _ => false) with
        | true => none
        | false => match qK w s t with
          | .go s' t' => iEnd w b n s' t'
          | .halt _ _ => none
theorem iEnd_reach {w : World} {B : List Frame} (hB : splitAtGen B = none) : ∀ {n : Nat} {s s' : Shared} {t : Sem PySem.Fin} {c : Code} {p : Pos} {pre : List Frame} {f : Flow}, iEnd w B.length n s ⟨t, c, p, pre ++ B⟩ = some (f, s') → Reach (model prg w) B s t c p pre s' (.ret (.ok f))
  | 0, _, _, _, _, _, _, _, h => by cases h
  | n + 1, s, s', t, c, p, pre, f, h => by
    unfold iEnd at h
    split at h
    · rename_i g hg
      injection h with h; injection h with h1 h2; subst h1 h2
      unfold endAt at hg
      split at hg
      · rename_i hlen hcur
        injection hg with hg; subst hg
        have : pre = [] := by
          have := beq_iff_eq.mp hlen
          rw [List.length_append] at this
          exact List.eq_nil_of_length_eq_zero (by omega)
        subst this
        refine .exit ⟨?_, rfl⟩
        exact hcur
      · cases hg
    · rename_i hend
      split at h
      · cases h
      · rename_i hl
        split at h
        · cases h
        · rename_i hr
          split at h
          · rename_i s₁ t₁ hs
            have hs' : (model prg w).step s ⟨t, c, p, pre ++ B⟩ = .go s₁ t₁ := by rw [Model.step_quiet _ hl]; exact (qK_eq w s _).symm.trans hs
            obtain ⟨t', c', p', pre', rfl⟩ := step_base hB hs' (by
              by_cases hp : pre = []
              · subst hp
                refine .inr ⟨fun f e => ?_, fun e q => ?_⟩
                · subst e; simp [endAt] at hend
                · subst q; simp at hr
              · exact .inl hp)
            exact .step hs' (iEnd_reach hB h)
          · cases h
end Mine
end

noncomputable section -- NbReach2
open PySem PySem.W PyProof.Rows
set_option maxRecDepth 100000
namespace Mine

/-- what a kernel run shows of a tree, at its own place -/
theorem wp_of_run {w : World} {α : Type} {t0 : Sem α} {res : α → Flow} {B : List Frame} {c : Code} {p : Pos} {s s' : Shared} {f : Flow} {n : Nat} {Q : α → Pos → Shared → Prop} {E : Value → Pos → Shared → Prop} (hB : splitAtGen B = none)
    (h : iEnd w B.length n s ⟨t0.bind fun a => .pure (.done (res a)), c, p, B⟩ = some (f, s')) (hQ : ∀ a p', res a = f → Q a p' s') : Sem.wp (model prg w) (Ctx.of c B) t0 Q E p s := by
  have hr := iEnd_reach (pre := []) hB h
  have hw := (wp_iff_reach (M := model prg w) (base := B) (c := c) (t0.bind fun a => .pure (.done (res a))) (fun r s'' => r = .ok f ∧ s'' = s') p s).mpr ⟨_, _, hr, rfl, rfl⟩
  rw [Sem.wp_bind] at hw
  refine Sem.wp_mono _ _ t0 (fun a p' s'' hq => ?_) (fun e p' s'' hq => ?_) p s hw
  · rw [Sem.wp_pure] at hq
    obtain ⟨h1, h2⟩ : Except.ok (res a) = (Except.ok f : Result) ∧ s'' = s' := hq
    injection h1 with h1
    subst h2
    exact hQ a p' h1
  · cases hq.1

/-- a place's own Around -/
noncomputable def arOf (Γ : Ctx) : Around := { handled := Γ.handled, depth := frameCount Γ.below + Γ.code.weight, frames := none, guards := none, units := Γ.units }
theorem in_arOf (Γ : Ctx) : Γ.In (arOf Γ) := by
  refine ⟨rfl, Nat.le_refl _, fun _ h => ?_, fun _ h => ?_, Nat.le_refl _⟩
  · cases h
  · cases h

/-- a code whose tree is shown at its place comes to its leaf -/
theorem tree_comes {w : World} {t : Sem PySem.Fin} {c : Code} {p : Pos} {stk : List Frame} {s : Shared} {Q : PySem.Fin → Pos → Shared → Prop} (h : Sem.wp (model prg w) (Ctx.of c stk) t Q (fun _ _ _ => False) p s) :
    ∃ s' p' a, PySem.Comes (model prg w) s ⟨t, c, p, stk⟩ s' ⟨.pure a, c, p', stk⟩ ∧ Q a p' s' := by
  obtain ⟨s', p', leaf, hc, hl⟩ := wp_comes (Ctx.fits_of c stk) t Q (fun _ _ _ => False) p s h
  rcases hl with ⟨a, rfl, hq⟩ | ⟨e, _, hq⟩
  · exact ⟨s', p', a, hc, hq⟩
  · exact hq.elim
end Mine
end

noncomputable section -- NbTop1
open PySem PySem.W PyProof.Rows
set_option maxRecDepth 100000
namespace Mine
noncomputable abbrev pyNextQ : Value → Sem (Option Value) := PySem.W.Fast.tw9404975358583537561
noncomputable def encN : Option Value → Flow
  | some v => .ret v
  | none => .next
noncomputable def nextT (a : Addr) (c : Code) (p : Pos) (stk : List Frame) : Thread := ⟨(pyNextQ (.ref a)).bind fun r => .pure (.done (encN r)), c, p, stk⟩
noncomputable def runN0 (w : World) (os : OsState) (x : Nat → Obj) (X : Obj) (p : Pos) : Option (Flow × Shared) := iEnd w (stk2 w os x).length 100 (s2 w os x (gen2 w os x) 0 X) (nextT 38 codeL p (stk2 w os x))
noncomputable def gen3 (w : World) (os : OsState) (x : Nat → Obj) : Array GenState := (runN0 w os x default default).elim #[] (·.2.gens)
noncomputable def s2n (w : World) (os : OsState) (x : Nat → Obj) (i : Nat) (X : Obj) : Shared := ⟨(s2 w os x #[] (i + 1) X).heap, gen3 w os x, dr0, 298 + 4 * i, os⟩
noncomputable def runNi (w : World) (os : OsState) (x : Nat → Obj) (i : Nat) (X : Obj) (p : Pos) : Option (Flow × Shared) := iEnd w (stk2 w os x).length 100 (s2 w os x (gen3 w os x) i X) (nextT 38 codeL p (stk2 w os x))

/-- every turn's next, in a world -/
noncomputable def Turn0 (w : World) : Prop := ∀ (os : OsState) (x : Nat → Obj) (X : Obj) (p : Pos), runN0 w os x X p = some (.ret (.str (chS 0) 297), s2n w os x 0 X)
noncomputable def Turns (a n : Nat) (w : World) : Prop := ∀ (os : OsState) (x : Nat → Obj) (X : Obj) (p : Pos), (List.range' a n).map (fun i => runNi w os x i X p) = (List.range' a n).map fun i => some (.ret (.str (chS i) (297 + 4 * i)), s2n w os x i X)
theorem rows2 {P : World → Prop} (h : ∀ w a b, P (w2 w a b)) (w : World) : P w :=
  byRow2 "special-get-raises" (byRow2 "comprehension-iter-twice" (P := fun w => P (w.withFollow "special-get-raises" false)) (fun w => h w false false) fun w => h w true false)
    (byRow2 "comprehension-iter-twice" (P := fun w => P (w.withFollow "special-get-raises" true)) (fun w => h w false true) fun w => h w true true) w
theorem turn0 (w : World) : Turn0 w := rows2 (P := Turn0) (fun w a b => by cases a <;> cases b <;> (intro os x X p; kernel_rfl)) w
theorem turns0 (w : World) : Turns 1 16 w := rows2 (P := Turns 1 16) (fun w a b => by cases a <;> cases b <;> (intro os x X p; kernel_rfl)) w
theorem turns1 (w : World) : Turns 17 15 w := rows2 (P := Turns 17 15) (fun w a b => by cases a <;> cases b <;> (intro os x X p; kernel_rfl)) w
theorem turn_in {w : World} {a n : Nat} (h : Turns a n w) (os : OsState) (x : Nat → Obj) (X : Obj) (p : Pos) {i : Nat} (h1 : a ≤ i) (h2 : i < a + n) : runNi w os x i X p = some (.ret (.str (chS i) (297 + 4 * i)), s2n w os x i X) :=
  List.map_inj_left.mp (h os x X p) i (List.mem_range'_1.mpr ⟨h1, h2⟩)
theorem turn_at (w : World) (os : OsState) (x : Nat → Obj) (X : Obj) (p : Pos) {i : Nat} (h1 : 1 ≤ i) (h2 : i < 32) : runNi w os x i X p = some (.ret (.str (chS i) (297 + 4 * i)), s2n w os x i X) := by
  rcases Nat.lt_or_ge i 17 with h | h
  · exact turn_in (turns0 w) os x X p h1 h
  · exact turn_in (turns1 w) os x X p h h2
end Mine
end

noncomputable section -- NbTop2
open PySem PySem.W PyProof.Rows
set_option maxRecDepth 100000
namespace Mine

noncomputable def fillC (a b : Addr) : Code := .builtin "set.update.loop" ⟨[.ref a, .ref b], []⟩
theorem den_b (id : String) (args : Args) : denote table (.builtin id args) = (match entryFor table id with | some b => b args | none => unsupported ((withoutEnding? id "#data").getD id)) := by kernel_rfl
theorem next_eq : pyNextQ = pyNext := by
  show PySem.W.Fast.tw9404975358583537561 = _
  rw [← PySem.W.Fast.te9404975358583537561]
theorem entry_fill : entryFor table "set.update.loop" = some Builtin.«set.update.loop» := entryFor_of_tree (by kernel_rfl)
theorem den_fill (a b : Addr) : denote table (fillC a b) = (do
    let some x ← pyNext (.ref b) | ret .none
    let _ ← holding [x] (setAdd a x)
    again (fillC a b)) := by
  unfold fillC
  rw [den_b, entry_fill]
  kernel_rfl

/-- a turn's tree, shown at its place, comes to the next turn -/
theorem turn_again {w : World} {td : Sem PySem.Fin} {c : Code} {p : Pos} {stk : List Frame} {s : Shared} {R : Shared → Prop} (hq : c.quiet = true) (hd : denote table c = td)
    (hw : Sem.wp (model prg w) (Ctx.of c stk) td (fun fin _ s' => fin = .again c ∧ R s') (fun _ _ _ => False) p s) :
    ∃ s' p', R s' ∧ PySem.Comes (model prg w) s ⟨td, c, p, stk⟩ s' ⟨td, c, p', stk⟩ := by
  obtain ⟨s', p', fin, hcm, hfin, hr⟩ := tree_comes hw
  subst hfin
  have hst : (model prg w).step s' ⟨.pure (.again c), c, p', stk⟩ = .go s' ⟨td, c, p', stk⟩ := by
    have := PySem.step_again (model prg w) s' c p' stk c hq
    rw [this]
    show Step.go s' ⟨denote table c, c, p', stk⟩ = _
    rw [hd]
  exact ⟨s', p', hr, hcm.trans (.step hst (.refl _ _))⟩

noncomputable def fillB (a b : Addr) : Sem PySem.Fin := do
    let some x ← pyNext (.ref b) | ret .none
    let _ ← holding [x] (setAdd a x)
    again (fillC a b)
theorem fill_wp {w : World} {a b : Addr} {p : Pos} {stk : List Frame} {s s₁ : Shared} {n c : Nat} {tk : Tok} {q : Nat → Bool} {T : SetTable → Prop} {o : Obj} {m : Nat} (hB : splitAtGen stk = none)
    (hrun : iEnd w stk.length m s (nextT b (fillC a b) p stk) = some (.ret (.str (chS c) tk), s₁))
    (ho : s₁.heap.get? a = some o) (F : FzT w q n T o) (hn : n < 1000) (hc : q c = false) :
    Sem.wp (model prg w) (Ctx.of (fillC a b) stk) (fillB a b)
      (fun fin _ s' => fin = .again (fillC a b) ∧ ∃ o', Fz w (fun d => q d || d == c) (n + 1) o' ∧ s' = { s₁ with heap := hput s₁.heap a o', toks := s₁.toks + 1 }) (fun _ _ _ => False) p s := by
  unfold fillB
  rw [Sem.wp_bind']
  unfold nextT at hrun
  rw [next_eq] at hrun
  refine wp_of_run hB hrun fun r p' hr => ?_
  cases r with
  | none => cases hr
  | some v =>
    have hv : v = .str (chS c) tk := by unfold encN at hr; injection hr
    subst hv
    dsimp only
    have key : wpAny (model prg w) (arOf (Ctx.of (fillC a b) stk)) (holding [Value.str (chS c) tk] (setAdd a (.str (chS c) tk)))
        (fun _ s' => ∃ o', Fz w (fun d => q d || d == c) (n + 1) o' ∧ s' = { s₁ with heap := hput s₁.heap a o', toks := s₁.toks + 1 }) (fun _ _ => False) s₁ := by
      unfold setAdd
      refine wpAny_holding (wpAny_holding (wpAny_bind ((strKind prg w).pyHash (k := chS c) (isOf (chS c) tk w) ?_)))
      exact add_fz (s := { s₁ with toks := s₁.toks + 1 }) F ho hn hc fun o' F' => ⟨o', F', rfl⟩
    rw [Sem.wp_bind']
    refine Sem.wp_mono _ _ _ (fun _ p'' s' hq => ?_) (fun _ _ _ hq => hq) _ _ (key _ p' (in_arOf _))
    exact ⟨rfl, hq⟩
theorem fill_quiet (a b : Addr) : (fillC a b).quiet = true := plainId_quiet (by decide +kernel) _

/-- a turn that gives a new sign -/
theorem fill_some {w : World} {a b : Addr} {p : Pos} {stk : List Frame} {s s₁ : Shared} {n c : Nat} {tk : Tok} {q : Nat → Bool} {T : SetTable → Prop} {o : Obj} {m : Nat} (hB : splitAtGen stk = none)
    (hrun : iEnd w stk.length m s (nextT b (fillC a b) p stk) = some (.ret (.str (chS c) tk), s₁))
    (ho : s₁.heap.get? a = some o) (F : FzT w q n T o) (hn : n < 1000) (hc : q c = false) :
    ∃ o' p', Fz w (fun d => q d || d == c) (n + 1) o' ∧ PySem.Comes (model prg w) s ⟨fillB a b, fillC a b, p, stk⟩
      { s₁ with heap := hput s₁.heap a o', toks := s₁.toks + 1 } ⟨fillB a b, fillC a b, p', stk⟩ := by
  obtain ⟨s', p', ⟨o', F', rfl⟩, hcm⟩ := turn_again (fill_quiet a b) (den_fill a b) (fill_wp hB hrun ho F hn hc)
  exact ⟨o', p', F', hcm⟩
/-- the turn that gives nothing -/
theorem fill_none {w : World} {a b : Addr} {p : Pos} {stk : List Frame} {s s₁ : Shared} {m : Nat} (hB : splitAtGen stk = none)
    (hrun : iEnd w stk.length m s (nextT b (fillC a b) p stk) = some (.next, s₁)) :
    ∃ p', PySem.Comes (model prg w) s ⟨fillB a b, fillC a b, p, stk⟩ s₁ ⟨.pure (.done (.ret .none)), fillC a b, p', stk⟩ := by
  have hw : Sem.wp (model prg w) (Ctx.of (fillC a b) stk) (fillB a b) (fun fin _ s' => fin = .done (.ret .none) ∧ s' = s₁) (fun _ _ _ => False) p s := by
    unfold fillB
    rw [Sem.wp_bind']
    unfold nextT at hrun
    rw [next_eq] at hrun
    refine wp_of_run hB hrun fun r p' hr => ?_
    cases r with
    | none => exact ⟨rfl, rfl⟩
    | some v => unfold encN at hr; cases hr
  obtain ⟨s', p', fin, hcm, rfl, rfl⟩ := tree_comes hw
  exact ⟨p', hcm⟩
end Mine
end

noncomputable section -- NbTop3
open PySem PySem.W PyProof.Rows
set_option maxRecDepth 100000
namespace Mine

noncomputable def hN (n : Nat) (f : Nat → Obj) : Heap := ⟨⟨(List.range n).map f⟩, lifeL⟩
noncomputable def GF : Array GenState := #[.finished]
noncomputable def tup0 : Obj := { cls := .type "tuple", data := .seq #[] }
noncomputable def stopO (a : Addr) : Obj := { cls := .type "StopIteration", data := .fields #[.ref a, .none, .none, .none, .bool false, .none] }
noncomputable def strIt (v : Value) (i : Int) : Obj := { cls := .type "str_ascii_iterator", data := .fields #[v, .int i 0] }
noncomputable def st (n : Nat) (x : Nat → Obj) (l : List (Nat × Obj)) (tk : Nat) (os : OsState) : Shared := ⟨hN n (patch x l), GF, dr0, tk, os⟩
noncomputable def base (P : Params) (g : Params → Obj) : List (Nat × Obj) := (3, g P) :: (29, c29) :: lits P

theorem codeL_eq : codeL = fillC 39 38 := rfl
/-- turn 32 gives nothing -/
noncomputable def xE (w : World) (x : Nat → Obj) : Nat → Obj := patch x ((40, tup0) :: (41, stopO 40) :: (42, tup0) :: (43, stopO 42) :: (33, o33 32) :: (37, o37 w.params 32) :: lits2 w.params)
noncomputable def sA (w : World) (os : OsState) (x : Nat → Obj) (X : Obj) : Shared := st 44 x ((39, X) :: base w.params g1) 423 os
noncomputable def TurnE (w : World) : Prop := ∀ (os : OsState) (x : Nat → Obj) (X : Obj) (p : Pos), iEnd w (stk2 w os x).length 150 (s2 w os x (gen3 w os x) 32 X) (nextT 38 codeL p (stk2 w os x)) = some (.next, sA w os (xE w x) X)
theorem turnE (w : World) : TurnE w := rows2 (P := TurnE) (fun w a b => by cases a <;> cases b <;> (intro os x X p; kernel_rfl)) w

theorem split2 (w : World) : ∀ (os : OsState) (x : Nat → Obj), splitAtGen (stk2 w os x) = none :=
  rows2 (P := fun w => ∀ (os : OsState) (x : Nat → Obj), splitAtGen (stk2 w os x) = none) (fun w a b => by cases a <;> cases b <;> (intro os x; kernel_rfl)) w

theorem get39 (w : World) (os : OsState) (x : Nat → Obj) (i : Nat) (es : Array (Int × Value)) (ep : Nat) (t : SetTable) : (s2n w os x i (setObj es ep t)).heap.get? 39 = some (setObj es ep t) := by kernel_rfl
theorem put39 (w : World) (os : OsState) (x : Nat → Obj) (i : Nat) (X X' : Obj) : ({ s2n w os x i X with heap := hput (s2n w os x i X).heap 39 X', toks := (s2n w os x i X).toks + 1 } : Shared) = s2 w os x (gen3 w os x) (i + 1) X' := by
  have e : hput (s2n w os x i X).heap 39 X' = (s2 w os x (gen3 w os x) (i + 1) X').heap := by kernel_rfl
  rw [e]
  show (⟨(s2 w os x (gen3 w os x) (i + 1) X').heap, gen3 w os x, dr0, 298 + 4 * i + 1, os⟩ : Shared) = ⟨(s2 w os x (gen3 w os x) (i + 1) X').heap, gen3 w os x, dr0, 295 + 4 * (i + 1), os⟩
  rw [show 298 + 4 * i + 1 = 295 + 4 * (i + 1) by omega]
theorem fz_get {w : World} {q : Nat → Bool} {n : Nat} {T : SetTable → Prop} {X : Obj} (F : FzT w q n T X) : ∃ es ep t, X = setObj es ep t := let ⟨es, ep, t, e, _⟩ := F.ex; ⟨es, ep, t, e⟩
noncomputable def ltC (i : Nat) (d : Nat) : Bool := decide (d < i)
theorem ltC_succ (i d : Nat) : (ltC i d || d == i) = ltC (i + 1) d := by
  unfold ltC
  rw [Bool.eq_iff_iff]
  simp only [Bool.or_eq_true, decide_eq_true_eq, beq_iff_eq]
  omega
theorem ltC_self (i : Nat) : ltC i i = false := by simp [ltC]
theorem fz0 (w : World) (led : Bool) : Fz w (fun _ => false) 0 (X0 led) := (fz_empty w led).weak fun _ _ => trivial

theorem loop39 (w : World) (os : OsState) (x : Nat → Obj) (led : Bool) : ∀ i, i ≤ 31 → ∃ X p, Fz w (ltC (i + 1)) (i + 1) X ∧
    PySem.Comes (model prg w) (s2 w os x (gen2 w os x) 0 (X0 led)) ⟨fillB 39 38, fillC 39 38, q2L, stk2 w os x⟩ (s2 w os x (gen3 w os x) (i + 1) X) ⟨fillB 39 38, fillC 39 38, p, stk2 w os x⟩
  | 0, _ => by
    obtain ⟨X, p, F, h⟩ := fill_some (split2 w os x) (turn0 w os x (X0 led) q2L) (get39 w os x 0 #[] 0 (.fresh 0 0 led)) (fz0 w led) (by decide) rfl
    rw [put39] at h
    exact ⟨X, p, F.pred fun c => by rw [← ltC_succ]; simp [ltC], h⟩
  | i + 1, hi => by
    obtain ⟨X, p, F, h⟩ := loop39 w os x led i (by omega)
    obtain ⟨es, ep, t, rfl⟩ := fz_get F
    obtain ⟨X', p', F', h'⟩ := fill_some (split2 w os x) (turn_at w os x (setObj es ep t) p (by omega) (by omega)) (get39 w os x (i + 1) es ep t) F (by omega) (ltC_self _)
    rw [put39] at h'
    exact ⟨X', p', F'.pred fun c => ltC_succ _ c, h.trans h'⟩

/-- the objects of the opening that no code of the top changes -/
noncomputable def Same (x x' : Nat → Obj) : Prop := ∀ i, i < 28 → ([0, 2, 3, 4, 11, 12] : List Nat).contains i = false → x' i = x i
theorem Same.trans {x y z : Nat → Obj} (h : Same x y) (h' : Same y z) : Same x z := fun i a b => (h' i a b).trans (h i a b)
theorem patch_none {x : Nat → Obj} {i : Nat} : ∀ {l : List (Nat × Obj)}, (∀ k ∈ l.map (·.1), k ≠ i) → patch x l i = x i
  | [], _ => rfl
  | (k, o) :: l, h => by
    have h1 : k ≠ i := h k (by simp)
    have ih := patch_none (x := x) (l := l) fun k hk => h k (by simp at hk ⊢; exact .inr hk)
    unfold patch at ih ⊢
    rw [List.lookup_cons]
    have : (i == k) = false := by simpa using Ne.symm h1
    rw [this]
    exact ih
theorem same_patch {x : Nat → Obj} {l : List (Nat × Obj)} (h : (l.map (·.1)).all (fun k => Nat.ble 28 k || ([0, 2, 3, 4, 11, 12] : List Nat).contains k) = true) : Same x (patch x l) := fun i hi hn => by
  refine patch_none fun k hk e => ?_
  have := List.all_eq_true.mp h k hk
  rw [e, hn, Bool.or_false, Nat.ble_eq] at this
  omega
theorem den_fillB (a b : Addr) : denQ tabQ (fillC a b) = fillB a b := by
  rw [den_eq, den_fill]; rfl
/-- statement 2 up to the end of the first filling -/
theorem part2 (w : World) (os : OsState) (x : Nat → Obj) : ∃ X p x', Fz w (ltC 32) 32 X ∧ Same x x' ∧
    PySem.Comes (model prg w) (s1 w os x) t1 (sA w os x' X) ⟨.pure (.done (.ret .none)), fillC 39 38, p, stk2 w os x⟩ := by
  have h1 := iTo_comes (run2_eq w os x)
  rw [codeL_eq, den_fillB] at h1
  obtain ⟨X, p, F, h2⟩ := loop39 w os x (!w.params.followText "set-order") 31 (by omega)
  obtain ⟨p', h3⟩ := fill_none (split2 w os x) (turnE w os x X p)
  exact ⟨X, p', xE w x, F, same_patch (by kernel_rfl), (h1.trans h2).trans h3⟩
end Mine
end

noncomputable section -- NbTop4
open PySem PySem.W PyProof.Rows
set_option maxRecDepth 100000
namespace Mine

noncomputable def atB (k a : Nat) (t : Thread) : Bool := match t.code with
  | .builtin id ⟨.ref b :: _, _⟩ => Nat.beq (code id) k && Nat.beq b a
  | _ => false
noncomputable def leafT (v : Value) (c : Code) (p : Pos) (stk : List Frame) : Thread := ⟨.pure (.done (.ret v)), c, p, stk⟩
noncomputable def D0 : Obj := setObj #[] 0 (.fresh 0 0 false)
noncomputable def led (w : World) : Bool := !w.params.followText "set-order"
noncomputable def orC (a b : Addr) : Code := .builtin "frozenset.__or__" ⟨[.ref a, .ref b], []⟩
noncomputable def subC (a b : Addr) : Code := .builtin "frozenset.__sub__" ⟨[.ref a, .ref b], []⟩

noncomputable def stB0 (w : World) (os : OsState) (x : Nat → Obj) (X Y : Obj) (i : Int) (tk : Nat) : Shared := st 46 x ((45, strIt (.str (Str.ofString "\x7f") 424) i) :: (44, Y) :: (39, X) :: base w.params g1) tk os
noncomputable def run2b (w : World) (os : OsState) (x₀ x : Nat → Obj) (X : Obj) (p : Pos) : Option (Shared × Thread) := iTo w (atB (code "set.update.loop") 44) 60 (sA w os x X) (leafT .none (fillC 39 38) p (stk2 w os x₀))
noncomputable def stk2b (w : World) (os : OsState) (x₀ x : Nat → Obj) : List Frame := (run2b w os x₀ x D0 default).elim [] (·.2.stack)
noncomputable def Run2b (w : World) : Prop := ∀ (os : OsState) (x₀ x : Nat → Obj) (es : Array (Int × Value)) (ep : Nat) (t : SetTable) (p : Pos), run2b w os x₀ x (setObj es ep t) p = some (stB0 w os x (setObj es ep t) (X0 (led w)) 0 425, ⟨denQ tabQ (fillC 44 45), fillC 44 45, ⟨3, 54, 3, 73⟩, stk2b w os x₀ x⟩)
theorem run2b_eq (w : World) : Run2b w := rows2 (P := Run2b) (fun w a b => by cases a <;> cases b <;> (intro os x₀ x es ep t p; kernel_rfl)) w
theorem split2b (w : World) : ∀ (os : OsState) (x₀ x : Nat → Obj), splitAtGen (stk2b w os x₀ x) = none :=
  rows2 (P := fun w => ∀ (os : OsState) (x₀ x : Nat → Obj), splitAtGen (stk2b w os x₀ x) = none) (fun w a b => by cases a <;> cases b <;> (intro os x₀ x; kernel_rfl)) w
noncomputable def Turn2b0 (w : World) : Prop := ∀ (os : OsState) (x₀ x₁ x : Nat → Obj) (X Y : Obj) (p : Pos), iEnd w (stk2b w os x₀ x₁).length 60 (stB0 w os x X Y 0 425) (nextT 45 (fillC 44 45) p (stk2b w os x₀ x₁)) = some (.ret (.str (chS 127) 425), stB0 w os x X Y 1 426)
theorem turn2b0 (w : World) : Turn2b0 w := rows2 (P := Turn2b0) (fun w a b => by cases a <;> cases b <;> (intro os x₀ x₁ x X Y p; kernel_rfl)) w
noncomputable def x2b (x : Nat → Obj) : Nat → Obj := patch x ((45, strIt .none 1) :: (46, tup0) :: (47, stopO 46) :: [])
noncomputable def stB1 (w : World) (os : OsState) (x : Nat → Obj) (X Y : Obj) : Shared := st 48 x ((44, Y) :: (39, X) :: base w.params g1) 427 os
noncomputable def Turn2b1 (w : World) : Prop := ∀ (os : OsState) (x₀ x₁ x : Nat → Obj) (X Y : Obj) (p : Pos), iEnd w (stk2b w os x₀ x₁).length 60 (stB0 w os x X Y 1 427) (nextT 45 (fillC 44 45) p (stk2b w os x₀ x₁)) = some (.next, stB1 w os (x2b x) X Y)
theorem turn2b1 (w : World) : Turn2b1 w := rows2 (P := Turn2b1) (fun w a b => by cases a <;> cases b <;> (intro os x₀ x₁ x X Y p; kernel_rfl)) w

noncomputable def run2c (w : World) (os : OsState) (x₀ x₁ x : Nat → Obj) (X Y : Obj) (p : Pos) : Option (Shared × Thread) := iTo w (atB (code "frozenset.__or__") 39) 60 (stB1 w os x X Y) (leafT .none (fillC 44 45) p (stk2b w os x₀ x₁))
noncomputable def stk2c (w : World) (os : OsState) (x₀ x₁ x : Nat → Obj) : List Frame := (run2c w os x₀ x₁ x D0 D0 default).elim [] (·.2.stack)
noncomputable def Run2c (w : World) : Prop := ∀ (os : OsState) (x₀ x₁ x : Nat → Obj) (es es' : Array (Int × Value)) (ep ep' : Nat) (t t' : SetTable) (p : Pos), run2c w os x₀ x₁ x (setObj es ep t) (setObj es' ep' t') p =
  some (stB1 w os x (setObj es ep t) (setObj es' ep' t'), ⟨denQ tabQ (orC 39 44), orC 39 44, ⟨3, 13, 3, 73⟩, stk2c w os x₀ x₁ x⟩)
theorem run2c_eq (w : World) : Run2c w := rows2 (P := Run2c) (fun w a b => by cases a <;> cases b <;> (intro os x₀ x₁ x es es' ep ep' t t' p; kernel_rfl)) w
noncomputable def stB2 (w : World) (os : OsState) (x : Nat → Obj) (X Y Z : Obj) : Shared := st 49 x ((48, Z) :: (44, Y) :: (39, X) :: base w.params g1) 427 os
noncomputable def stC (w : World) (os : OsState) (x : Nat → Obj) (Z : Obj) : Shared := st 49 x ((48, Z) :: base w.params g2) 428 os
noncomputable def x2c (x : Nat → Obj) (X Y : Obj) : Nat → Obj := patch x ((44, Y) :: (39, X) :: [])
noncomputable def Run2d (w : World) : Prop := ∀ (os : OsState) (x₀ x₁ x₂ x : Nat → Obj) (X Y : Obj) (es : Array (Int × Value)) (ep : Nat) (t : SetTable) (p : Pos), iGo w 9 (stB2 w os x X Y (setObj es ep t)) (leafT (.ref 48) (orC 39 44) p (stk2c w os x₀ x₁ x₂)) = some (stC w os (x2c x X Y) (setObj es ep t), restQ (bodyB.drop 2) q_2)
theorem run2d_eq (w : World) : Run2d w := rows2 (P := Run2d) (fun w a b => by cases a <;> cases b <;> (intro os x₀ x₁ x₂ x X Y es ep t p; kernel_rfl)) w
end Mine
end

noncomputable section -- NbTop5
open PySem PySem.W PyProof.Rows
set_option maxRecDepth 100000
namespace Mine

theorem entry_for : entryFor table "frozenset.__or__" = some Builtin.«frozenset.__or__» := entryFor_of_tree (by kernel_rfl)
theorem entry_fsub : entryFor table "frozenset.__sub__" = some Builtin.«frozenset.__sub__» := entryFor_of_tree (by kernel_rfl)
theorem den_or (a b : Addr) : denQ tabQ (orC a b) = Builtin.«frozenset.__or__» ⟨[.ref a, .ref b], []⟩ := by
  rw [den_eq]; unfold orC; rw [den_b, entry_for]
theorem den_sub (a b : Addr) : denQ tabQ (subC a b) = Builtin.«frozenset.__sub__» ⟨[.ref a, .ref b], []⟩ := by
  rw [den_eq]; unfold subC; rw [den_b, entry_fsub]

theorem leaf_comes {w : World} {t : Sem PySem.Fin} {c : Code} {p : Pos} {stk : List Frame} {s : Shared} {v : Value} {R : Shared → Prop}
    (h : wpAny (model prg w) (arOf (Ctx.of c stk)) t (fun fin s' => fin = .done (.ret v) ∧ R s') (fun _ _ => False) s) : ∃ s' p', R s' ∧ PySem.Comes (model prg w) s ⟨t, c, p, stk⟩ s' (leafT v c p' stk) := by
  obtain ⟨s', p', fin, hc, hf, hr⟩ := tree_comes (t := t) (h _ p (in_arOf _))
  subst hf
  exact ⟨s', p', hr, hc⟩

theorem copy32 {w : World} {A : Around} {E : Value → Shared → Prop} {p : Nat → Bool} {n : Nat} {o : Obj} {l : Addr} (F : Fz w p n o) (h1 : 0 < n) (h2 : n ≤ 127) {wanted : Nat} (hw : SetTable.sizeAbove wanted - 1 = 127) (hl : SetTable.sizeAbove wanted ≤ sizeLine)
    (hrm : ∀ led, (SetTable.fresh 0 0 led).roomFor n = some wanted) : ∀ (led : Bool) (s' : Shared) (N : Addr) (Q' : Unit → Shared → Prop), s'.heap.get? N = some (setObj #[] 0 (.fresh 0 0 led)) → s'.heap.get? l = some o → N ≠ l →
      (∀ o', FzT w p n (fun t => t.mask = 127 ∧ t.dummies = #[]) o' → Q' () { s' with heap := hput s'.heap N o' }) → wpAny (model prg w) A (setMerge N l (pure ())) Q' E s' :=
  fun led s' N Q' a b c h => copy_big full127 hw hl (hrm led) F a b c h1 h2 (by omega) h
theorem copy3 {w : World} {A : Around} {E : Value → Shared → Prop} {p : Nat → Bool} {n : Nat} {o : Obj} {l : Addr} (F : Fz w p n o) (h1 : 0 < n) (h2 : n ≤ 7)
    (hrm : ∀ led, (SetTable.fresh 0 0 led).roomFor n = none) : ∀ (led : Bool) (s' : Shared) (N : Addr) (Q' : Unit → Shared → Prop), s'.heap.get? N = some (setObj #[] 0 (.fresh 0 0 led)) → s'.heap.get? l = some o → N ≠ l →
      (∀ o', FzT w p n (fun t => t.mask = 7 ∧ t.dummies = #[]) o' → Q' () { s' with heap := hput s'.heap N o' }) → wpAny (model prg w) A (setMerge N l (pure ())) Q' E s' :=
  fun led s' N Q' a b c h => copy_small (hrm led) F a b c h1 h2 h

theorem or_comes32 {w : World} {a b : Addr} {p : Pos} {stk : List Frame} {s : Shared} {q : Nat → Bool} {c : Nat} {X Y : Obj} (hX : s.heap.get? a = some X) (F : Fz w q 32 X) (hY : s.heap.get? b = some Y) (F1 : Fz w (fun d => d == c) 1 Y) (hab : a ≠ b) (hc : q c = false) :
    ∃ Z p', Fz w (fun d => q d || d == c) 33 Z ∧ PySem.Comes (model prg w) s ⟨denQ tabQ (orC a b), orC a b, p, stk⟩ { s with heap := s.heap.push Z } (leafT (.ref s.heap.objs.size) (orC a b) p' stk) := by
  rw [den_or]
  obtain ⟨s', p', ⟨Z, FZ, rfl⟩, h⟩ := leaf_comes (w := w) (c := orC a b) (p := p) (stk := stk) (s := s) (v := .ref s.heap.objs.size) (t := Builtin.«frozenset.__or__» ⟨[.ref a, .ref b], []⟩)
    (R := fun s' => ∃ Z, Fz w (fun d => q d || d == c) 33 Z ∧ s' = { s with heap := s.heap.push Z })
    (or_wp hX F hY F1 hab (copy32 F (by decide) (by decide) (wanted := 64) (by decide +kernel) (by decide +kernel) (fun led => by cases led <;> decide +kernel)) (by decide) (by decide) (by decide) hc fun o' F' => ⟨rfl, o', F', rfl⟩)
  exact ⟨Z, p', FZ, h⟩
theorem or_comes2 {w : World} {a b : Addr} {p : Pos} {stk : List Frame} {s : Shared} {q : Nat → Bool} {c : Nat} {X Y : Obj} (hX : s.heap.get? a = some X) (F : Fz w q 2 X) (hY : s.heap.get? b = some Y) (F1 : Fz w (fun d => d == c) 1 Y) (hab : a ≠ b) (hc : q c = false) :
    ∃ Z p', Fz w (fun d => q d || d == c) 3 Z ∧ PySem.Comes (model prg w) s ⟨denQ tabQ (orC a b), orC a b, p, stk⟩ { s with heap := s.heap.push Z } (leafT (.ref s.heap.objs.size) (orC a b) p' stk) := by
  rw [den_or]
  obtain ⟨s', p', ⟨Z, FZ, rfl⟩, h⟩ := leaf_comes (w := w) (c := orC a b) (p := p) (stk := stk) (s := s) (v := .ref s.heap.objs.size) (t := Builtin.«frozenset.__or__» ⟨[.ref a, .ref b], []⟩)
    (R := fun s' => ∃ Z, Fz w (fun d => q d || d == c) 3 Z ∧ s' = { s with heap := s.heap.push Z })
    (or_wp hX F hY F1 hab (copy3 F (by decide) (by decide) (fun led => by cases led <;> decide +kernel)) (by decide) (by decide) (by decide) hc fun o' F' => ⟨rfl, o', F', rfl⟩)
  exact ⟨Z, p', FZ, h⟩
theorem sub_comes33 {w : World} {a b : Addr} {p : Pos} {stk : List Frame} {s : Shared} {q : Nat → Bool} {c : Nat} {X Y : Obj} (hX : s.heap.get? a = some X) (F : Fz w q 33 X) (hY : s.heap.get? b = some Y) (F1 : Fz w (fun d => d == c) 1 Y) (hab : a ≠ b) (hc : q c = true) :
    ∃ Z p', Fz w (fun d => q d && d != c) 32 Z ∧ PySem.Comes (model prg w) s ⟨denQ tabQ (subC a b), subC a b, p, stk⟩ { s with heap := s.heap.push Z } (leafT (.ref s.heap.objs.size) (subC a b) p' stk) := by
  rw [den_sub]
  obtain ⟨s', p', ⟨Z, FZ, rfl⟩, h⟩ := leaf_comes (w := w) (c := subC a b) (p := p) (stk := stk) (s := s) (v := .ref s.heap.objs.size) (t := Builtin.«frozenset.__sub__» ⟨[.ref a, .ref b], []⟩)
    (R := fun s' => ∃ Z, Fz w (fun d => q d && d != c) 32 Z ∧ s' = { s with heap := s.heap.push Z })
    (sub_wp hX F hY F1 hab (copy32 F (by decide) (by decide) (wanted := 66) (by decide +kernel) (by decide +kernel) (fun led => by cases led <;> decide +kernel)) (by decide) (by decide) (by decide) hc fun o' F' => ⟨rfl, o', F', rfl⟩)
  exact ⟨Z, p', FZ, h⟩
end Mine
end

noncomputable section -- NbTop6
open PySem PySem.W PyProof.Rows
set_option maxRecDepth 100000
namespace Mine

noncomputable def p33 (d : Nat) : Bool := ltC 32 d || d == 127

theorem get44 (w : World) (os : OsState) (x : Nat → Obj) (X : Obj) (i : Int) (tk : Nat) (es : Array (Int × Value)) (ep : Nat) (t : SetTable) : (stB0 w os x X (setObj es ep t) i tk).heap.get? 44 = some (setObj es ep t) := by kernel_rfl
theorem put44 (w : World) (os : OsState) (x : Nat → Obj) (X Y Y' : Obj) (i : Int) (tk : Nat) : ({ stB0 w os x X Y i tk with heap := hput (stB0 w os x X Y i tk).heap 44 Y', toks := (stB0 w os x X Y i tk).toks + 1 } : Shared) = stB0 w os x X Y' i (tk + 1) := by
  have e : hput (stB0 w os x X Y i tk).heap 44 Y' = (stB0 w os x X Y' i tk).heap := by kernel_rfl
  rw [e]; rfl
theorem get1_39 (w : World) (os : OsState) (x : Nat → Obj) (Y : Obj) (es : Array (Int × Value)) (ep : Nat) (t : SetTable) : (stB1 w os x (setObj es ep t) Y).heap.get? 39 = some (setObj es ep t) := by kernel_rfl
theorem get1_44 (w : World) (os : OsState) (x : Nat → Obj) (X : Obj) (es : Array (Int × Value)) (ep : Nat) (t : SetTable) : (stB1 w os x X (setObj es ep t)).heap.get? 44 = some (setObj es ep t) := by kernel_rfl
theorem push48 (w : World) (os : OsState) (x : Nat → Obj) (X Y Z : Obj) : ({ stB1 w os x X Y with heap := (stB1 w os x X Y).heap.push Z } : Shared) = stB2 w os x X Y Z := by
  have e : (stB1 w os x X Y).heap.push Z = (stB2 w os x X Y Z).heap := by kernel_rfl
  rw [e]; rfl
theorem size48 (w : World) (os : OsState) (x : Nat → Obj) (X Y : Obj) : (stB1 w os x X Y).heap.objs.size = 48 := by kernel_rfl

theorem stmt2 (w : World) (os : OsState) (x : Nat → Obj) : ∃ Z x', Fz w p33 33 Z ∧ Same x x' ∧ PySem.Comes (model prg w) (s1 w os x) t1 (stC w os x' Z) (restQ (bodyB.drop 2) q_2) := by
  obtain ⟨X, p, x₁, FX, S₁, h₁⟩ := part2 w os x
  obtain ⟨es, ep, t, rfl⟩ := fz_get FX
  have h₂ := iTo_comes (run2b_eq w os x x₁ es ep t p)
  rw [den_fillB] at h₂
  obtain ⟨Y, p₂, FY, h₃⟩ := fill_some (split2b w os x x₁) (turn2b0 w os x x₁ x₁ (setObj es ep t) (X0 (led w)) ⟨3, 54, 3, 73⟩) (get44 w os x₁ (setObj es ep t) 1 426 #[] 0 (.fresh 0 0 (led w))) (fz0 w (led w)) (by decide) rfl
  rw [put44] at h₃
  obtain ⟨p₃, h₄⟩ := fill_none (split2b w os x x₁) (turn2b1 w os x x₁ x₁ (setObj es ep t) Y p₂)
  obtain ⟨es', ep', t', rfl⟩ := fz_get FY
  have h₅ := iTo_comes (run2c_eq w os x x₁ (x2b x₁) es es' ep ep' t t' p₃)
  have FY' : Fz w (fun d => d == 127) 1 (setObj es' ep' t') := FY.pred fun c => by simp
  obtain ⟨Z, p₄, FZ, h₆⟩ := or_comes32 (p := ⟨3, 13, 3, 73⟩) (stk := stk2c w os x x₁ (x2b x₁)) (get1_39 w os (x2b x₁) (setObj es' ep' t') es ep t) FX (get1_44 w os (x2b x₁) (setObj es ep t) es' ep' t') FY' (by decide) (by rfl)
  rw [push48, size48] at h₆
  obtain ⟨es₂, ep₂, t₂, rfl⟩ := fz_get FZ
  have h₇ := iGo_comes (run2d_eq w os x x₁ (x2b x₁) (x2b x₁) (setObj es ep t) (setObj es' ep' t') es₂ ep₂ t₂ p₄)
  exact ⟨_, _, FZ, (S₁.trans (same_patch (by kernel_rfl))).trans (same_patch (by kernel_rfl)), (((((h₁.trans h₂).trans h₃).trans h₄).trans h₅).trans h₆).trans h₇⟩
end Mine
end

noncomputable section -- NbTop7
open PySem PySem.W PyProof.Rows
set_option maxRecDepth 100000
namespace Mine

noncomputable def sf3a (w : World) (os : OsState) (x : Nat → Obj) (es1 : Array (Int × Value)) (ep1 : Nat) (t1 : SetTable) (Y : Obj) (i : Int) (tk : Nat) : Shared := st 51 x ((50, strIt (.str (Str.ofString "\t") 428) i) :: (49, Y) :: (48, (setObj es1 ep1 t1)) :: base w.params g2) tk os
noncomputable def run3a (w : World) (os : OsState) (x : Nat → Obj) (es1 : Array (Int × Value)) (ep1 : Nat) (t1 : SetTable) : Option (Shared × Thread) := iTo w (atB (code "set.update.loop") 49) 60 (stC w os x (setObj es1 ep1 t1)) (restQ (bodyB.drop 2) q_2)
noncomputable def stk3a (w : World) (os : OsState) (x : Nat → Obj) : List Frame := (run3a w os x #[] 0 (.fresh 0 0 false)).elim [] (·.2.stack)
noncomputable def Run3a (w : World) : Prop := ∀ (os : OsState) (x : Nat → Obj) (es1 : Array (Int × Value)) (ep1 : Nat) (t1 : SetTable), run3a w os x es1 ep1 t1 = some (sf3a w os x es1 ep1 t1 (X0 (led w)) 0 429, ⟨denQ tabQ (fillC 49 50), fillC 49 50, ⟨4, 39, 4, 54⟩, stk3a w os x⟩)
theorem run3a_eq (w : World) : Run3a w := rows2 (P := Run3a) (fun w a b => by cases a <;> cases b <;> (intro os x es1 ep1 t1; kernel_rfl)) w
theorem split3a (w : World) : ∀ (os : OsState) (x : Nat → Obj), splitAtGen (stk3a w os x) = none := rows2 (P := fun w => ∀ (os : OsState) (x : Nat → Obj), splitAtGen (stk3a w os x) = none) (fun w a b => by cases a <;> cases b <;> (intro os x; kernel_rfl)) w
noncomputable def Turn3a0 (w : World) : Prop := ∀ (os : OsState) (x₁ x : Nat → Obj) (es1 : Array (Int × Value)) (ep1 : Nat) (t1 : SetTable) (Y : Obj) (p : Pos), iEnd w (stk3a w os x₁).length 60 (sf3a w os x es1 ep1 t1 Y 0 429) (nextT 50 (fillC 49 50) p (stk3a w os x₁)) = some (.ret (.str (chS 9) 429), sf3a w os x es1 ep1 t1 Y 1 430)
theorem turn3a0 (w : World) : Turn3a0 w := rows2 (P := Turn3a0) (fun w a b => by cases a <;> cases b <;> (intro os x₁ x es1 ep1 t1 Y p; kernel_rfl)) w
noncomputable def x3a (x : Nat → Obj) : Nat → Obj := patch x ((50, strIt .none 1) :: (51, tup0) :: (52, stopO 51) :: [])
noncomputable def sg3a (w : World) (os : OsState) (x : Nat → Obj) (es1 : Array (Int × Value)) (ep1 : Nat) (t1 : SetTable) (Y : Obj) : Shared := st 53 x ((49, Y) :: (48, (setObj es1 ep1 t1)) :: base w.params g2) 431 os
noncomputable def TurnE3a (w : World) : Prop := ∀ (os : OsState) (x₁ x : Nat → Obj) (es1 : Array (Int × Value)) (ep1 : Nat) (t1 : SetTable) (Y : Obj) (p : Pos), iEnd w (stk3a w os x₁).length 60 (sf3a w os x es1 ep1 t1 Y 1 431) (nextT 50 (fillC 49 50) p (stk3a w os x₁)) = some (.next, sg3a w os (x3a x) es1 ep1 t1 Y)
theorem turnE3a (w : World) : TurnE3a w := rows2 (P := TurnE3a) (fun w a b => by cases a <;> cases b <;> (intro os x₁ x es1 ep1 t1 Y p; kernel_rfl)) w
theorem get3a (w : World) (os : OsState) (x : Nat → Obj) (es1 : Array (Int × Value)) (ep1 : Nat) (t1 : SetTable) (i : Int) (tk : Nat) (es : Array (Int × Value)) (ep : Nat) (t : SetTable) : (sf3a w os x es1 ep1 t1 (setObj es ep t) i tk).heap.get? 49 = some (setObj es ep t) := by kernel_rfl
theorem put3a (w : World) (os : OsState) (x : Nat → Obj) (es1 : Array (Int × Value)) (ep1 : Nat) (t1 : SetTable) (Y Y' : Obj) (i : Int) (tk : Nat) : (⟨hput (sf3a w os x es1 ep1 t1 Y i tk).heap 49 Y', (sf3a w os x es1 ep1 t1 Y i tk).gens, (sf3a w os x es1 ep1 t1 Y i tk).drawn, (sf3a w os x es1 ep1 t1 Y i tk).toks + 1, (sf3a w os x es1 ep1 t1 Y i tk).os⟩ : Shared) = sf3a w os x es1 ep1 t1 Y' i (tk + 1) := by
  have e : hput (sf3a w os x es1 ep1 t1 Y i tk).heap 49 Y' = (sf3a w os x es1 ep1 t1 Y' i (tk + 1)).heap := by kernel_rfl
  rw [e]; rfl
theorem fill3a (w : World) (os : OsState) (x : Nat → Obj) (es1 : Array (Int × Value)) (ep1 : Nat) (t1 : SetTable) : ∃ es ep t p, Fz w (fun d => d == 9) 1 (setObj es ep t) ∧ PySem.Comes (model prg w) (stC w os x (setObj es1 ep1 t1)) (restQ (bodyB.drop 2) q_2) (sg3a w os (x3a x) es1 ep1 t1 (setObj es ep t)) (leafT .none (fillC 49 50) p (stk3a w os x)) := by
  have h₀ := iTo_comes (run3a_eq w os x es1 ep1 t1)
  rw [den_fillB] at h₀
  obtain ⟨Y0, p0, F0, k0⟩ := fill_some (split3a w os x) (turn3a0 w os x x es1 ep1 t1 (X0 (led w)) ⟨4, 39, 4, 54⟩) (get3a w os x es1 ep1 t1 1 430 #[] 0 (.fresh 0 0 (led w))) (fz0 w (led w)) (by decide) rfl
  rw [put3a] at k0
  obtain ⟨es_0, ep_0, t_0, rfl⟩ := fz_get F0
  obtain ⟨pE, kE⟩ := fill_none (split3a w os x) (turnE3a w os x x es1 ep1 t1 (setObj es_0 ep_0 t_0) p0)
  exact ⟨_, _, _, pE, F0.pred fun c => by simp, ((h₀.trans k0).trans kE)⟩
noncomputable def run3b (w : World) (os : OsState) (x₁ x : Nat → Obj) (es2 : Array (Int × Value)) (ep2 : Nat) (t2 : SetTable) (es1 : Array (Int × Value)) (ep1 : Nat) (t1 : SetTable) (p : Pos) : Option (Shared × Thread) := iTo w (atB (code "frozenset.__sub__") 48) 60 (sg3a w os x es1 ep1 t1 (setObj es2 ep2 t2)) (leafT .none (fillC 49 50) p (stk3a w os x₁))
noncomputable def stk3b (w : World) (os : OsState) (x₁ x : Nat → Obj) : List Frame := (run3b w os x₁ x #[] 0 (.fresh 0 0 false) #[] 0 (.fresh 0 0 false) default).elim [] (·.2.stack)
noncomputable def Run3b (w : World) : Prop := ∀ (os : OsState) (x₁ x : Nat → Obj) (es2 : Array (Int × Value)) (ep2 : Nat) (t2 : SetTable) (es1 : Array (Int × Value)) (ep1 : Nat) (t1 : SetTable) (p : Pos), run3b w os x₁ x es2 ep2 t2 es1 ep1 t1 p = some ((sg3a w os x es1 ep1 t1 (setObj es2 ep2 t2)), ⟨denQ tabQ (subC 48 49), (subC 48 49), ⟨4, 26, 4, 54⟩, stk3b w os x₁ x⟩)
theorem run3b_eq (w : World) : Run3b w := rows2 (P := Run3b) (fun w a b => by cases a <;> cases b <;> (intro os x₁ x es2 ep2 t2 es1 ep1 t1 p; kernel_rfl)) w
noncomputable def sh3b (w : World) (os : OsState) (x : Nat → Obj) (es2 : Array (Int × Value)) (ep2 : Nat) (t2 : SetTable) (es1 : Array (Int × Value)) (ep1 : Nat) (t1 : SetTable) (Z : Obj) : Shared := st 54 x ((53, Z) :: (49, (setObj es2 ep2 t2)) :: (48, (setObj es1 ep1 t1)) :: base w.params g2) 431 os
theorem push3b (w : World) (os : OsState) (x : Nat → Obj) (es2 : Array (Int × Value)) (ep2 : Nat) (t2 : SetTable) (es1 : Array (Int × Value)) (ep1 : Nat) (t1 : SetTable) (Z : Obj) : (⟨((sg3a w os x es1 ep1 t1 (setObj es2 ep2 t2))).heap.push Z, ((sg3a w os x es1 ep1 t1 (setObj es2 ep2 t2))).gens, ((sg3a w os x es1 ep1 t1 (setObj es2 ep2 t2))).drawn, ((sg3a w os x es1 ep1 t1 (setObj es2 ep2 t2))).toks, ((sg3a w os x es1 ep1 t1 (setObj es2 ep2 t2))).os⟩ : Shared) = sh3b w os x es2 ep2 t2 es1 ep1 t1 Z := by
  have e : ((sg3a w os x es1 ep1 t1 (setObj es2 ep2 t2))).heap.push Z = (sh3b w os x es2 ep2 t2 es1 ep1 t1 Z).heap := by kernel_rfl
  rw [e]; rfl
theorem size3b (w : World) (os : OsState) (x : Nat → Obj) (es2 : Array (Int × Value)) (ep2 : Nat) (t2 : SetTable) (es1 : Array (Int × Value)) (ep1 : Nat) (t1 : SetTable) : ((sg3a w os x es1 ep1 t1 (setObj es2 ep2 t2))).heap.objs.size = 53 := by kernel_rfl
theorem get3b_48 (w : World) (os : OsState) (x : Nat → Obj) (es2 : Array (Int × Value)) (ep2 : Nat) (t2 : SetTable) (es1 : Array (Int × Value)) (ep1 : Nat) (t1 : SetTable) : ((sg3a w os x es1 ep1 t1 (setObj es2 ep2 t2))).heap.get? 48 = some (setObj es1 ep1 t1) := by kernel_rfl
theorem get3b_49 (w : World) (os : OsState) (x : Nat → Obj) (es2 : Array (Int × Value)) (ep2 : Nat) (t2 : SetTable) (es1 : Array (Int × Value)) (ep1 : Nat) (t1 : SetTable) : ((sg3a w os x es1 ep1 t1 (setObj es2 ep2 t2))).heap.get? 49 = some (setObj es2 ep2 t2) := by kernel_rfl
noncomputable def st5 (w : World) (os : OsState) (x : Nat → Obj) (es3 : Array (Int × Value)) (ep3 : Nat) (t3 : SetTable) : Shared := st 54 x ((53, (setObj es3 ep3 t3)) :: base w.params g5) 434 os
noncomputable def x3c (x : Nat → Obj) (Y X : Obj) : Nat → Obj := patch x ((49, Y) :: (48, X) :: [])
noncomputable def Run3c (w : World) : Prop := ∀ (os : OsState) (x₁ x₂ x : Nat → Obj) (es2 : Array (Int × Value)) (ep2 : Nat) (t2 : SetTable) (es1 : Array (Int × Value)) (ep1 : Nat) (t1 : SetTable) (es3 : Array (Int × Value)) (ep3 : Nat) (t3 : SetTable) (p : Pos), iGo w 29 (sh3b w os x es2 ep2 t2 es1 ep1 t1 (setObj es3 ep3 t3)) (leafT (.ref 53) (subC 48 49) p (stk3b w os x₁ x₂)) = some (st5 w os (x3c x (setObj es2 ep2 t2) (setObj es1 ep1 t1)) es3 ep3 t3, restQ (bodyB.drop 5) q_5)
theorem run3c_eq (w : World) : Run3c w := rows2 (P := Run3c) (fun w a b => by cases a <;> cases b <;> (intro os x₁ x₂ x es2 ep2 t2 es1 ep1 t1 es3 ep3 t3 p; kernel_rfl)) w
theorem stmt3 (w : World) (os : OsState) (x : Nat → Obj) (es1 : Array (Int × Value)) (ep1 : Nat) (t1 : SetTable) (F : Fz w p33 33 (setObj es1 ep1 t1)) : ∃ es ep t x', Fz w badC 32 (setObj es ep t) ∧ Same x x' ∧ PySem.Comes (model prg w) (stC w os x (setObj es1 ep1 t1)) (restQ (bodyB.drop 2) q_2) (st5 w os x' es ep t) (restQ (bodyB.drop 5) q_5) := by
  obtain ⟨es2, ep2, t2, p, F2, h₁⟩ := fill3a w os x es1 ep1 t1
  have h₂ := iTo_comes (run3b_eq w os x (x3a x) es2 ep2 t2 es1 ep1 t1 p)
  obtain ⟨Z, p', FZ, h₃⟩ := sub_comes33 (p := ⟨4, 26, 4, 54⟩) (stk := stk3b w os x (x3a x)) (get3b_48 w os (x3a x) es2 ep2 t2 es1 ep1 t1) F (get3b_49 w os (x3a x) es2 ep2 t2 es1 ep1 t1) F2 (by decide) (by rfl)
  rw [push3b, size3b] at h₃
  obtain ⟨es3, ep3, t3, rfl⟩ := fz_get FZ
  have h₄ := iGo_comes (run3c_eq w os x (x3a x) (x3a x) es2 ep2 t2 es1 ep1 t1 es3 ep3 t3 p')
  refine ⟨_, _, _, _, FZ.pred fun c => ?_, (same_patch (by kernel_rfl)).trans (same_patch (by kernel_rfl)), ((h₁.trans h₂).trans h₃).trans h₄⟩
  unfold p33 badC ltC
  rw [Bool.eq_iff_iff]
  simp only [Bool.or_eq_true, Bool.and_eq_true, bne_iff_ne, decide_eq_true_eq, beq_iff_eq]
  omega
noncomputable def sf6a (w : World) (os : OsState) (x : Nat → Obj) (es1 : Array (Int × Value)) (ep1 : Nat) (t1 : SetTable) (Y : Obj) (i : Int) (tk : Nat) : Shared := st 56 x ((55, strIt (.str (Str.ofString " \t") 434) i) :: (54, Y) :: (53, (setObj es1 ep1 t1)) :: base w.params g5) tk os
noncomputable def run6a (w : World) (os : OsState) (x : Nat → Obj) (es1 : Array (Int × Value)) (ep1 : Nat) (t1 : SetTable) : Option (Shared × Thread) := iTo w (atB (code "set.update.loop") 54) 60 (st5 w os x es1 ep1 t1) (restQ (bodyB.drop 5) q_5)
noncomputable def stk6a (w : World) (os : OsState) (x : Nat → Obj) : List Frame := (run6a w os x #[] 0 (.fresh 0 0 false)).elim [] (·.2.stack)
noncomputable def Run6a (w : World) : Prop := ∀ (os : OsState) (x : Nat → Obj) (es1 : Array (Int × Value)) (ep1 : Nat) (t1 : SetTable), run6a w os x es1 ep1 t1 = some (sf6a w os x es1 ep1 t1 (X0 (led w)) 0 435, ⟨denQ tabQ (fillC 54 55), fillC 54 55, ⟨7, 10, 7, 26⟩, stk6a w os x⟩)
theorem run6a_eq (w : World) : Run6a w := rows2 (P := Run6a) (fun w a b => by cases a <;> cases b <;> (intro os x es1 ep1 t1; kernel_rfl)) w
theorem split6a (w : World) : ∀ (os : OsState) (x : Nat → Obj), splitAtGen (stk6a w os x) = none := rows2 (P := fun w => ∀ (os : OsState) (x : Nat → Obj), splitAtGen (stk6a w os x) = none) (fun w a b => by cases a <;> cases b <;> (intro os x; kernel_rfl)) w
noncomputable def Turn6a0 (w : World) : Prop := ∀ (os : OsState) (x₁ x : Nat → Obj) (es1 : Array (Int × Value)) (ep1 : Nat) (t1 : SetTable) (Y : Obj) (p : Pos), iEnd w (stk6a w os x₁).length 60 (sf6a w os x es1 ep1 t1 Y 0 435) (nextT 55 (fillC 54 55) p (stk6a w os x₁)) = some (.ret (.str (chS 32) 435), sf6a w os x es1 ep1 t1 Y 1 436)
theorem turn6a0 (w : World) : Turn6a0 w := rows2 (P := Turn6a0) (fun w a b => by cases a <;> cases b <;> (intro os x₁ x es1 ep1 t1 Y p; kernel_rfl)) w
noncomputable def Turn6a1 (w : World) : Prop := ∀ (os : OsState) (x₁ x : Nat → Obj) (es1 : Array (Int × Value)) (ep1 : Nat) (t1 : SetTable) (Y : Obj) (p : Pos), iEnd w (stk6a w os x₁).length 60 (sf6a w os x es1 ep1 t1 Y 1 437) (nextT 55 (fillC 54 55) p (stk6a w os x₁)) = some (.ret (.str (chS 9) 437), sf6a w os x es1 ep1 t1 Y 2 438)
theorem turn6a1 (w : World) : Turn6a1 w := rows2 (P := Turn6a1) (fun w a b => by cases a <;> cases b <;> (intro os x₁ x es1 ep1 t1 Y p; kernel_rfl)) w
noncomputable def x6a (x : Nat → Obj) : Nat → Obj := patch x ((55, strIt .none 2) :: (56, tup0) :: (57, stopO 56) :: [])
noncomputable def sg6a (w : World) (os : OsState) (x : Nat → Obj) (es1 : Array (Int × Value)) (ep1 : Nat) (t1 : SetTable) (Y : Obj) : Shared := st 58 x ((54, Y) :: (53, (setObj es1 ep1 t1)) :: base w.params g5) 439 os
noncomputable def TurnE6a (w : World) : Prop := ∀ (os : OsState) (x₁ x : Nat → Obj) (es1 : Array (Int × Value)) (ep1 : Nat) (t1 : SetTable) (Y : Obj) (p : Pos), iEnd w (stk6a w os x₁).length 60 (sf6a w os x es1 ep1 t1 Y 2 439) (nextT 55 (fillC 54 55) p (stk6a w os x₁)) = some (.next, sg6a w os (x6a x) es1 ep1 t1 Y)
theorem turnE6a (w : World) : TurnE6a w := rows2 (P := TurnE6a) (fun w a b => by cases a <;> cases b <;> (intro os x₁ x es1 ep1 t1 Y p; kernel_rfl)) w
theorem get6a (w : World) (os : OsState) (x : Nat → Obj) (es1 : Array (Int × Value)) (ep1 : Nat) (t1 : SetTable) (i : Int) (tk : Nat) (es : Array (Int × Value)) (ep : Nat) (t : SetTable) : (sf6a w os x es1 ep1 t1 (setObj es ep t) i tk).heap.get? 54 = some (setObj es ep t) := by kernel_rfl
theorem put6a (w : World) (os : OsState) (x : Nat → Obj) (es1 : Array (Int × Value)) (ep1 : Nat) (t1 : SetTable) (Y Y' : Obj) (i : Int) (tk : Nat) : (⟨hput (sf6a w os x es1 ep1 t1 Y i tk).heap 54 Y', (sf6a w os x es1 ep1 t1 Y i tk).gens, (sf6a w os x es1 ep1 t1 Y i tk).drawn, (sf6a w os x es1 ep1 t1 Y i tk).toks + 1, (sf6a w os x es1 ep1 t1 Y i tk).os⟩ : Shared) = sf6a w os x es1 ep1 t1 Y' i (tk + 1) := by
  have e : hput (sf6a w os x es1 ep1 t1 Y i tk).heap 54 Y' = (sf6a w os x es1 ep1 t1 Y' i (tk + 1)).heap := by kernel_rfl
  rw [e]; rfl
theorem fill6a (w : World) (os : OsState) (x : Nat → Obj) (es1 : Array (Int × Value)) (ep1 : Nat) (t1 : SetTable) : ∃ es ep t p, Fz w (fun d => d == 32 || d == 9) 2 (setObj es ep t) ∧ PySem.Comes (model prg w) (st5 w os x es1 ep1 t1) (restQ (bodyB.drop 5) q_5) (sg6a w os (x6a x) es1 ep1 t1 (setObj es ep t)) (leafT .none (fillC 54 55) p (stk6a w os x)) := by
  have h₀ := iTo_comes (run6a_eq w os x es1 ep1 t1)
  rw [den_fillB] at h₀
  obtain ⟨Y0, p0, F0, k0⟩ := fill_some (split6a w os x) (turn6a0 w os x x es1 ep1 t1 (X0 (led w)) ⟨7, 10, 7, 26⟩) (get6a w os x es1 ep1 t1 1 436 #[] 0 (.fresh 0 0 (led w))) (fz0 w (led w)) (by decide) rfl
  rw [put6a] at k0
  obtain ⟨es_0, ep_0, t_0, rfl⟩ := fz_get F0
  obtain ⟨Y1, p1, F1, k1⟩ := fill_some (split6a w os x) (turn6a1 w os x x es1 ep1 t1 (setObj es_0 ep_0 t_0) p0) (get6a w os x es1 ep1 t1 2 438 es_0 ep_0 t_0) F0 (by decide) (by rfl)
  rw [put6a] at k1
  obtain ⟨es_1, ep_1, t_1, rfl⟩ := fz_get F1
  obtain ⟨pE, kE⟩ := fill_none (split6a w os x) (turnE6a w os x x es1 ep1 t1 (setObj es_1 ep_1 t_1) p1)
  exact ⟨_, _, _, pE, F1.pred fun c => by simp, (((h₀.trans k0).trans k1).trans kE)⟩
noncomputable def st6 (w : World) (os : OsState) (x : Nat → Obj) (es2 : Array (Int × Value)) (ep2 : Nat) (t2 : SetTable) (es1 : Array (Int × Value)) (ep1 : Nat) (t1 : SetTable) : Shared := st 58 x ((54, (setObj es2 ep2 t2)) :: (53, (setObj es1 ep1 t1)) :: base w.params g6) 440 os
noncomputable def Run6b (w : World) : Prop := ∀ (os : OsState) (x₁ x : Nat → Obj) (es2 : Array (Int × Value)) (ep2 : Nat) (t2 : SetTable) (es1 : Array (Int × Value)) (ep1 : Nat) (t1 : SetTable) (p : Pos), iGo w 18 (sg6a w os x es1 ep1 t1 (setObj es2 ep2 t2)) (leafT .none (fillC 54 55) p (stk6a w os x₁)) = some (st6 w os x es2 ep2 t2 es1 ep1 t1, restQ (bodyB.drop 6) q_6)
theorem run6b_eq (w : World) : Run6b w := rows2 (P := Run6b) (fun w a b => by cases a <;> cases b <;> (intro os x₁ x es2 ep2 t2 es1 ep1 t1 p; kernel_rfl)) w
theorem stmt6 (w : World) (os : OsState) (x : Nat → Obj) (es1 : Array (Int × Value)) (ep1 : Nat) (t1 : SetTable) : ∃ es ep t x', Fz w (fun d => d == 32 || d == 9) 2 (setObj es ep t) ∧ Same x x' ∧ PySem.Comes (model prg w) (st5 w os x es1 ep1 t1) (restQ (bodyB.drop 5) q_5) (st6 w os x' es ep t es1 ep1 t1) (restQ (bodyB.drop 6) q_6) := by
  obtain ⟨es2, ep2, t2, p, F2, h₁⟩ := fill6a w os x es1 ep1 t1
  have h₂ := iGo_comes (run6b_eq w os x (x6a x) es2 ep2 t2 es1 ep1 t1 p)
  exact ⟨_, _, _, _, F2, same_patch (by kernel_rfl), h₁.trans h₂⟩
noncomputable def sf7a (w : World) (os : OsState) (x : Nat → Obj) (es2 : Array (Int × Value)) (ep2 : Nat) (t2 : SetTable) (es1 : Array (Int × Value)) (ep1 : Nat) (t1 : SetTable) (Y : Obj) (i : Int) (tk : Nat) : Shared := st 60 x ((59, strIt (.str (Str.ofString "\n") 440) i) :: (58, Y) :: (54, (setObj es2 ep2 t2)) :: (53, (setObj es1 ep1 t1)) :: base w.params g6) tk os
noncomputable def run7a (w : World) (os : OsState) (x : Nat → Obj) (es2 : Array (Int × Value)) (ep2 : Nat) (t2 : SetTable) (es1 : Array (Int × Value)) (ep1 : Nat) (t1 : SetTable) : Option (Shared × Thread) := iTo w (atB (code "set.update.loop") 58) 60 (st6 w os x es2 ep2 t2 es1 ep1 t1) (restQ (bodyB.drop 6) q_6)
noncomputable def stk7a (w : World) (os : OsState) (x : Nat → Obj) : List Frame := (run7a w os x #[] 0 (.fresh 0 0 false) #[] 0 (.fresh 0 0 false)).elim [] (·.2.stack)
noncomputable def Run7a (w : World) : Prop := ∀ (os : OsState) (x : Nat → Obj) (es2 : Array (Int × Value)) (ep2 : Nat) (t2 : SetTable) (es1 : Array (Int × Value)) (ep1 : Nat) (t1 : SetTable), run7a w os x es2 ep2 t2 es1 ep1 t1 = some (sf7a w os x es2 ep2 t2 es1 ep1 t1 (X0 (led w)) 0 441, ⟨denQ tabQ (fillC 58 59), fillC 58 59, ⟨8, 32, 8, 47⟩, stk7a w os x⟩)
theorem run7a_eq (w : World) : Run7a w := rows2 (P := Run7a) (fun w a b => by cases a <;> cases b <;> (intro os x es2 ep2 t2 es1 ep1 t1; kernel_rfl)) w
theorem split7a (w : World) : ∀ (os : OsState) (x : Nat → Obj), splitAtGen (stk7a w os x) = none := rows2 (P := fun w => ∀ (os : OsState) (x : Nat → Obj), splitAtGen (stk7a w os x) = none) (fun w a b => by cases a <;> cases b <;> (intro os x; kernel_rfl)) w
noncomputable def Turn7a0 (w : World) : Prop := ∀ (os : OsState) (x₁ x : Nat → Obj) (es2 : Array (Int × Value)) (ep2 : Nat) (t2 : SetTable) (es1 : Array (Int × Value)) (ep1 : Nat) (t1 : SetTable) (Y : Obj) (p : Pos), iEnd w (stk7a w os x₁).length 60 (sf7a w os x es2 ep2 t2 es1 ep1 t1 Y 0 441) (nextT 59 (fillC 58 59) p (stk7a w os x₁)) = some (.ret (.str (chS 10) 441), sf7a w os x es2 ep2 t2 es1 ep1 t1 Y 1 442)
theorem turn7a0 (w : World) : Turn7a0 w := rows2 (P := Turn7a0) (fun w a b => by cases a <;> cases b <;> (intro os x₁ x es2 ep2 t2 es1 ep1 t1 Y p; kernel_rfl)) w
noncomputable def x7a (x : Nat → Obj) : Nat → Obj := patch x ((59, strIt .none 1) :: (60, tup0) :: (61, stopO 60) :: [])
noncomputable def sg7a (w : World) (os : OsState) (x : Nat → Obj) (es2 : Array (Int × Value)) (ep2 : Nat) (t2 : SetTable) (es1 : Array (Int × Value)) (ep1 : Nat) (t1 : SetTable) (Y : Obj) : Shared := st 62 x ((58, Y) :: (54, (setObj es2 ep2 t2)) :: (53, (setObj es1 ep1 t1)) :: base w.params g6) 443 os
noncomputable def TurnE7a (w : World) : Prop := ∀ (os : OsState) (x₁ x : Nat → Obj) (es2 : Array (Int × Value)) (ep2 : Nat) (t2 : SetTable) (es1 : Array (Int × Value)) (ep1 : Nat) (t1 : SetTable) (Y : Obj) (p : Pos), iEnd w (stk7a w os x₁).length 60 (sf7a w os x es2 ep2 t2 es1 ep1 t1 Y 1 443) (nextT 59 (fillC 58 59) p (stk7a w os x₁)) = some (.next, sg7a w os (x7a x) es2 ep2 t2 es1 ep1 t1 Y)
theorem turnE7a (w : World) : TurnE7a w := rows2 (P := TurnE7a) (fun w a b => by cases a <;> cases b <;> (intro os x₁ x es2 ep2 t2 es1 ep1 t1 Y p; kernel_rfl)) w
theorem get7a (w : World) (os : OsState) (x : Nat → Obj) (es2 : Array (Int × Value)) (ep2 : Nat) (t2 : SetTable) (es1 : Array (Int × Value)) (ep1 : Nat) (t1 : SetTable) (i : Int) (tk : Nat) (es : Array (Int × Value)) (ep : Nat) (t : SetTable) : (sf7a w os x es2 ep2 t2 es1 ep1 t1 (setObj es ep t) i tk).heap.get? 58 = some (setObj es ep t) := by kernel_rfl
theorem put7a (w : World) (os : OsState) (x : Nat → Obj) (es2 : Array (Int × Value)) (ep2 : Nat) (t2 : SetTable) (es1 : Array (Int × Value)) (ep1 : Nat) (t1 : SetTable) (Y Y' : Obj) (i : Int) (tk : Nat) : (⟨hput (sf7a w os x es2 ep2 t2 es1 ep1 t1 Y i tk).heap 58 Y', (sf7a w os x es2 ep2 t2 es1 ep1 t1 Y i tk).gens, (sf7a w os x es2 ep2 t2 es1 ep1 t1 Y i tk).drawn, (sf7a w os x es2 ep2 t2 es1 ep1 t1 Y i tk).toks + 1, (sf7a w os x es2 ep2 t2 es1 ep1 t1 Y i tk).os⟩ : Shared) = sf7a w os x es2 ep2 t2 es1 ep1 t1 Y' i (tk + 1) := by
  have e : hput (sf7a w os x es2 ep2 t2 es1 ep1 t1 Y i tk).heap 58 Y' = (sf7a w os x es2 ep2 t2 es1 ep1 t1 Y' i (tk + 1)).heap := by kernel_rfl
  rw [e]; rfl
theorem fill7a (w : World) (os : OsState) (x : Nat → Obj) (es2 : Array (Int × Value)) (ep2 : Nat) (t2 : SetTable) (es1 : Array (Int × Value)) (ep1 : Nat) (t1 : SetTable) : ∃ es ep t p, Fz w (fun d => d == 10) 1 (setObj es ep t) ∧ PySem.Comes (model prg w) (st6 w os x es2 ep2 t2 es1 ep1 t1) (restQ (bodyB.drop 6) q_6) (sg7a w os (x7a x) es2 ep2 t2 es1 ep1 t1 (setObj es ep t)) (leafT .none (fillC 58 59) p (stk7a w os x)) := by
  have h₀ := iTo_comes (run7a_eq w os x es2 ep2 t2 es1 ep1 t1)
  rw [den_fillB] at h₀
  obtain ⟨Y0, p0, F0, k0⟩ := fill_some (split7a w os x) (turn7a0 w os x x es2 ep2 t2 es1 ep1 t1 (X0 (led w)) ⟨8, 32, 8, 47⟩) (get7a w os x es2 ep2 t2 es1 ep1 t1 1 442 #[] 0 (.fresh 0 0 (led w))) (fz0 w (led w)) (by decide) rfl
  rw [put7a] at k0
  obtain ⟨es_0, ep_0, t_0, rfl⟩ := fz_get F0
  obtain ⟨pE, kE⟩ := fill_none (split7a w os x) (turnE7a w os x x es2 ep2 t2 es1 ep1 t1 (setObj es_0 ep_0 t_0) p0)
  exact ⟨_, _, _, pE, F0.pred fun c => by simp, ((h₀.trans k0).trans kE)⟩
noncomputable def run7b (w : World) (os : OsState) (x₁ x : Nat → Obj) (es3 : Array (Int × Value)) (ep3 : Nat) (t3 : SetTable) (es2 : Array (Int × Value)) (ep2 : Nat) (t2 : SetTable) (es1 : Array (Int × Value)) (ep1 : Nat) (t1 : SetTable) (p : Pos) : Option (Shared × Thread) := iTo w (atB (code "frozenset.__or__") 54) 60 (sg7a w os x es2 ep2 t2 es1 ep1 t1 (setObj es3 ep3 t3)) (leafT .none (fillC 58 59) p (stk7a w os x₁))
noncomputable def stk7b (w : World) (os : OsState) (x₁ x : Nat → Obj) : List Frame := (run7b w os x₁ x #[] 0 (.fresh 0 0 false) #[] 0 (.fresh 0 0 false) #[] 0 (.fresh 0 0 false) default).elim [] (·.2.stack)
noncomputable def Run7b (w : World) : Prop := ∀ (os : OsState) (x₁ x : Nat → Obj) (es3 : Array (Int × Value)) (ep3 : Nat) (t3 : SetTable) (es2 : Array (Int × Value)) (ep2 : Nat) (t2 : SetTable) (es1 : Array (Int × Value)) (ep1 : Nat) (t1 : SetTable) (p : Pos), run7b w os x₁ x es3 ep3 t3 es2 ep2 t2 es1 ep1 t1 p = some ((sg7a w os x es2 ep2 t2 es1 ep1 t1 (setObj es3 ep3 t3)), ⟨denQ tabQ (orC 54 58), (orC 54 58), ⟨8, 22, 8, 47⟩, stk7b w os x₁ x⟩)
theorem run7b_eq (w : World) : Run7b w := rows2 (P := Run7b) (fun w a b => by cases a <;> cases b <;> (intro os x₁ x es3 ep3 t3 es2 ep2 t2 es1 ep1 t1 p; kernel_rfl)) w
noncomputable def sh7b (w : World) (os : OsState) (x : Nat → Obj) (es3 : Array (Int × Value)) (ep3 : Nat) (t3 : SetTable) (es2 : Array (Int × Value)) (ep2 : Nat) (t2 : SetTable) (es1 : Array (Int × Value)) (ep1 : Nat) (t1 : SetTable) (Z : Obj) : Shared := st 63 x ((62, Z) :: (58, (setObj es3 ep3 t3)) :: (54, (setObj es2 ep2 t2)) :: (53, (setObj es1 ep1 t1)) :: base w.params g6) 443 os
theorem push7b (w : World) (os : OsState) (x : Nat → Obj) (es3 : Array (Int × Value)) (ep3 : Nat) (t3 : SetTable) (es2 : Array (Int × Value)) (ep2 : Nat) (t2 : SetTable) (es1 : Array (Int × Value)) (ep1 : Nat) (t1 : SetTable) (Z : Obj) : (⟨((sg7a w os x es2 ep2 t2 es1 ep1 t1 (setObj es3 ep3 t3))).heap.push Z, ((sg7a w os x es2 ep2 t2 es1 ep1 t1 (setObj es3 ep3 t3))).gens, ((sg7a w os x es2 ep2 t2 es1 ep1 t1 (setObj es3 ep3 t3))).drawn, ((sg7a w os x es2 ep2 t2 es1 ep1 t1 (setObj es3 ep3 t3))).toks, ((sg7a w os x es2 ep2 t2 es1 ep1 t1 (setObj es3 ep3 t3))).os⟩ : Shared) = sh7b w os x es3 ep3 t3 es2 ep2 t2 es1 ep1 t1 Z := by
  have e : ((sg7a w os x es2 ep2 t2 es1 ep1 t1 (setObj es3 ep3 t3))).heap.push Z = (sh7b w os x es3 ep3 t3 es2 ep2 t2 es1 ep1 t1 Z).heap := by kernel_rfl
  rw [e]; rfl
theorem size7b (w : World) (os : OsState) (x : Nat → Obj) (es3 : Array (Int × Value)) (ep3 : Nat) (t3 : SetTable) (es2 : Array (Int × Value)) (ep2 : Nat) (t2 : SetTable) (es1 : Array (Int × Value)) (ep1 : Nat) (t1 : SetTable) : ((sg7a w os x es2 ep2 t2 es1 ep1 t1 (setObj es3 ep3 t3))).heap.objs.size = 62 := by kernel_rfl
theorem get7b_54 (w : World) (os : OsState) (x : Nat → Obj) (es3 : Array (Int × Value)) (ep3 : Nat) (t3 : SetTable) (es2 : Array (Int × Value)) (ep2 : Nat) (t2 : SetTable) (es1 : Array (Int × Value)) (ep1 : Nat) (t1 : SetTable) : ((sg7a w os x es2 ep2 t2 es1 ep1 t1 (setObj es3 ep3 t3))).heap.get? 54 = some (setObj es2 ep2 t2) := by kernel_rfl
theorem get7b_58 (w : World) (os : OsState) (x : Nat → Obj) (es3 : Array (Int × Value)) (ep3 : Nat) (t3 : SetTable) (es2 : Array (Int × Value)) (ep2 : Nat) (t2 : SetTable) (es1 : Array (Int × Value)) (ep1 : Nat) (t1 : SetTable) : ((sg7a w os x es2 ep2 t2 es1 ep1 t1 (setObj es3 ep3 t3))).heap.get? 58 = some (setObj es3 ep3 t3) := by kernel_rfl
noncomputable def st7 (w : World) (os : OsState) (x : Nat → Obj) (es2 : Array (Int × Value)) (ep2 : Nat) (t2 : SetTable) (es1 : Array (Int × Value)) (ep1 : Nat) (t1 : SetTable) : Shared := st 63 x ((62, (setObj es2 ep2 t2)) :: (53, (setObj es1 ep1 t1)) :: base w.params g7) 444 os
noncomputable def x7c (x : Nat → Obj) (Y X : Obj) : Nat → Obj := patch x ((58, Y) :: (54, X) :: [])
noncomputable def Run7c (w : World) : Prop := ∀ (os : OsState) (x₁ x₂ x : Nat → Obj) (es3 : Array (Int × Value)) (ep3 : Nat) (t3 : SetTable) (es2 : Array (Int × Value)) (ep2 : Nat) (t2 : SetTable) (es1 : Array (Int × Value)) (ep1 : Nat) (t1 : SetTable) (es4 : Array (Int × Value)) (ep4 : Nat) (t4 : SetTable) (p : Pos), iGo w 9 (sh7b w os x es3 ep3 t3 es2 ep2 t2 es1 ep1 t1 (setObj es4 ep4 t4)) (leafT (.ref 62) (orC 54 58) p (stk7b w os x₁ x₂)) = some (st7 w os (x7c x (setObj es3 ep3 t3) (setObj es2 ep2 t2)) es4 ep4 t4 es1 ep1 t1, restQ (bodyB.drop 7) q_7)
theorem run7c_eq (w : World) : Run7c w := rows2 (P := Run7c) (fun w a b => by cases a <;> cases b <;> (intro os x₁ x₂ x es3 ep3 t3 es2 ep2 t2 es1 ep1 t1 es4 ep4 t4 p; kernel_rfl)) w
theorem stmt7 (w : World) (os : OsState) (x : Nat → Obj) (es2 : Array (Int × Value)) (ep2 : Nat) (t2 : SetTable) (es1 : Array (Int × Value)) (ep1 : Nat) (t1 : SetTable) (F : Fz w (fun d => d == 32 || d == 9) 2 (setObj es2 ep2 t2)) : ∃ es ep t x', Fz w wsC 3 (setObj es ep t) ∧ Same x x' ∧ PySem.Comes (model prg w) (st6 w os x es2 ep2 t2 es1 ep1 t1) (restQ (bodyB.drop 6) q_6) (st7 w os x' es ep t es1 ep1 t1) (restQ (bodyB.drop 7) q_7) := by
  obtain ⟨es3, ep3, t3, p, F3, h₁⟩ := fill7a w os x es2 ep2 t2 es1 ep1 t1
  have h₂ := iTo_comes (run7b_eq w os x (x7a x) es3 ep3 t3 es2 ep2 t2 es1 ep1 t1 p)
  obtain ⟨Z, p', FZ, h₃⟩ := or_comes2 (p := ⟨8, 22, 8, 47⟩) (stk := stk7b w os x (x7a x)) (get7b_54 w os (x7a x) es3 ep3 t3 es2 ep2 t2 es1 ep1 t1) F (get7b_58 w os (x7a x) es3 ep3 t3 es2 ep2 t2 es1 ep1 t1) F3 (by decide) (by rfl)
  rw [push7b, size7b] at h₃
  obtain ⟨es4, ep4, t4, rfl⟩ := fz_get FZ
  have h₄ := iGo_comes (run7c_eq w os x (x7a x) (x7a x) es3 ep3 t3 es2 ep2 t2 es1 ep1 t1 es4 ep4 t4 p')
  exact ⟨_, _, _, _, FZ, (same_patch (by kernel_rfl)).trans (same_patch (by kernel_rfl)), ((h₁.trans h₂).trans h₃).trans h₄⟩
end Mine
end

noncomputable section -- NbTop8
open PySem PySem.W PyProof.Rows
set_option maxRecDepth 100000
namespace Mine

noncomputable def codeFn (i : Nat) : Obj := { cls := .none, data := .func { name := nameOfS (stAt i), qualname := nameOfS (stAt i), params := prmOfS (stAt i), body := .stmts (bdyOfS (stAt i)), scope := scpOfS (stAt i), globals := 0, closure := [], defaults := .none, kwdefaults := .none } }
noncomputable def defFn (i : Nat) (pm cd : Value) : Obj := { cls := .type "function", data := .func (fnData (nameOfS (stAt i)) (nameOfS (stAt i)) (prmOfS (stAt i)) (bdyOfS (stAt i)) (scpOfS (stAt i)) pm cd .none) }

noncomputable def g27 (P : Params) : Obj := { cls := Value.type "dict", data := Data.dict #[{ hash := PyData.keyHash P (Str.ofString "__name__"), key := Value.str (Str.ofString "__name__") 165, val := Value.str (Str.ofString "law_nb0099_01") 589 }, { hash := PyData.keyHash P (Str.ofString "__doc__"), key := Value.str (Str.ofString "__doc__") 166, val := Value.none }, { hash := PyData.keyHash P (Str.ofString "__package__"), key := Value.str (Str.ofString "__package__") 167, val := Value.none }, { hash := PyData.keyHash P (Str.ofString "__loader__"), key := Value.str (Str.ofString "__loader__") 168, val := Value.builtin "__main__.__loader__#opaque" }, { hash := PyData.keyHash P (Str.ofString "__spec__"), key := Value.str (Str.ofString "__spec__") 169, val := Value.none }, { hash := PyData.keyHash P (Str.ofString "__annotations__"), key := Value.str (Str.ofString "__annotations__") 170, val := Value.ref 6 }, { hash := PyData.keyHash P (Str.ofString "__builtins__"), key := Value.str (Str.ofString "__builtins__") 171, val := Value.ref 4 }, { hash := PyData.keyHash P (Str.ofString "__file__"), key := Value.str (Str.ofString "__file__") 173, val := Value.str (Str.ofString "/claim/cut.py") 172 }, { hash := PyData.keyHash P (Str.ofString "__cached__"), key := Value.str (Str.ofString "__cached__") 174, val := Value.none }, { hash := PyData.keyHash P (Str.ofString "_sre"), key := Value.str (Str.ofString "_sre") 275, val := Value.ref 12 }, { hash := PyData.keyHash P (Str.ofString "ASCII_CTRL"), key := Value.str (Str.ofString "ASCII_CTRL") 427, val := Value.ref 48 }, { hash := PyData.keyHash P (Str.ofString "ILLEGAL_BASIC_STR_CHARS"), key := Value.str (Str.ofString "ILLEGAL_BASIC_STR_CHARS") 431, val := Value.ref 53 }, { hash := PyData.keyHash P (Str.ofString "ILLEGAL_LITERAL_STR_CHARS"), key := Value.str (Str.ofString "ILLEGAL_LITERAL_STR_CHARS") 432, val := Value.ref 53 }, { hash := PyData.keyHash P (Str.ofString "ILLEGAL_COMMENT_CHARS"), key := Value.str (Str.ofString "ILLEGAL_COMMENT_CHARS") 433, val := Value.ref 53 }, { hash := PyData.keyHash P (Str.ofString "TOML_WS"), key := Value.str (Str.ofString "TOML_WS") 439, val := Value.ref 54 }, { hash := PyData.keyHash P (Str.ofString "TOML_WS_AND_NEWLINE"), key := Value.str (Str.ofString "TOML_WS_AND_NEWLINE") 443, val := Value.ref 62 }, { hash := PyData.keyHash P (Str.ofString "TOMLDecodeError"), key := Value.str (Str.ofString "TOMLDecodeError") 461, val := Value.ref 72 }, { hash := PyData.keyHash P (Str.ofString "skip_chars"), key := Value.str (Str.ofString "skip_chars") 470, val := Value.ref 82 }, { hash := PyData.keyHash P (Str.ofString "skip_until"), key := Value.str (Str.ofString "skip_until") 482, val := Value.ref 89 }, { hash := PyData.keyHash P (Str.ofString "skip_comment"), key := Value.str (Str.ofString "skip_comment") 491, val := Value.ref 96 }, { hash := PyData.keyHash P (Str.ofString "skip_comments_and_array_ws"), key := Value.str (Str.ofString "skip_comments_and_array_ws") 500, val := Value.ref 103 }, { hash := PyData.keyHash P (Str.ofString "parse_literal_str"), key := Value.str (Str.ofString "parse_literal_str") 509, val := Value.ref 110 }, { hash := PyData.keyHash P (Str.ofString "suffixed_err"), key := Value.str (Str.ofString "suffixed_err") 519, val := Value.ref 117 }, { hash := PyData.keyHash P (Str.ofString "_twin_re_1"), key := Value.str (Str.ofString "_twin_re_1") 537, val := Value.ref 122 }, { hash := PyData.keyHash P (Str.ofString "_twin_re_2"), key := Value.str (Str.ofString "_twin_re_2") 579, val := Value.ref 127 }, { hash := PyData.keyHash P (Str.ofString "CRLF"), key := Value.str (Str.ofString "CRLF") 581, val := Value.str (Str.ofString "\x0d\n") 580 }, { hash := PyData.keyHash P (Str.ofString "quotedata"), key := Value.str (Str.ofString "quotedata") 588, val := Value.ref 134 }, { hash := PyData.keyHash P (Str.ofString "_law_odd"), key := Value.str (Str.ofString "_law_odd") 598, val := Value.ref 141 }, { hash := PyData.keyHash P (Str.ofString "_law_signs"), key := Value.str (Str.ofString "_law_signs") 604, val := Value.ref 146 }, { hash := PyData.keyHash P (Str.ofString "_law_asked"), key := Value.str (Str.ofString "_law_asked") 614, val := Value.ref 153 }, { hash := PyData.keyHash P (Str.ofString "_law_rows"), key := Value.str (Str.ofString "_law_rows") 620, val := Value.ref 158 }, { hash := PyData.keyHash P (Str.ofString "_law_marks"), key := Value.str (Str.ofString "_law_marks") 632, val := Value.ref 165 }, { hash := PyData.keyHash P (Str.ofString "_law_due"), key := Value.str (Str.ofString "_law_due") 638, val := Value.ref 170 }, { hash := PyData.keyHash P (Str.ofString "law"), key := Value.str (Str.ofString "law") 644, val := Value.ref 175 }] 34 }
noncomputable def f29 : Obj := { cls := Value.none, data := Data.fields #[Value.int 3 0, Value.int 23 0, Value.ref 36, Value.int 9 0, Value.int 0 0, Value.ref 68, Value.int 11 0, Value.int 0 0, Value.ref 81, Value.int 18 0, Value.int 0 0, Value.ref 88, Value.int 30 0, Value.int 0 0, Value.ref 95, Value.int 38 0, Value.int 0 0, Value.ref 102, Value.int 45 0, Value.int 0 0, Value.ref 109, Value.int 50 0, Value.int 0 0, Value.ref 116, Value.int 66 0, Value.int 0 0, Value.ref 133, Value.int 69 0, Value.int 0 0, Value.ref 140, Value.int 74 0, Value.int 0 0, Value.ref 145, Value.int 78 0, Value.int 0 0, Value.ref 152, Value.int 87 0, Value.int 0 0, Value.ref 157, Value.int 90 0, Value.int 0 0, Value.ref 164, Value.int 97 0, Value.int 0 0, Value.ref 169, Value.int 127 0, Value.int 0 0, Value.ref 174] }
noncomputable def f63 : Obj := { cls := Value.type "tuple", data := Data.seq #[Value.type "ValueError"] }
noncomputable def f64 : Obj := { cls := Value.type "builtin_function_or_method", data := Data.fields #[Value.builtin "type.__prepare__", Value.type "type"] }
noncomputable def f65 (P : Params) : Obj := { cls := Value.type "dict", data := Data.dict #[{ hash := PyData.keyHash P (Str.ofString "__module__"), key := Value.str (Str.ofString "__module__") 451, val := Value.str (Str.ofString "cpy313.tomllib._parser") 282 }, { hash := PyData.keyHash P (Str.ofString "__qualname__"), key := Value.str (Str.ofString "__qualname__") 453, val := Value.str (Str.ofString "TOMLDecodeError") 452 }, { hash := PyData.keyHash P (Str.ofString "__firstlineno__"), key := Value.str (Str.ofString "__firstlineno__") 455, val := Value.int 9 454 }, { hash := PyData.keyHash P (Str.ofString "__static_attributes__"), key := Value.str (Str.ofString "__static_attributes__") 456, val := Value.ref 70 }] 4 }
noncomputable def f66 : Obj := { cls := Value.type "tuple", data := Data.seq #[] }
noncomputable def f67 : Obj := { cls := Value.none, data := Data.fields #[] }
noncomputable def f68 : Obj := { cls := Value.type "code", data := Data.fields #[Value.str (Str.ofString "TOMLDecodeError") 446, Value.str (Str.ofString "TOMLDecodeError") 447, Value.str (Str.ofString "/claim/cut.py") 448, Value.int 9 0, Value.int 0 0, Value.int 0 0, Value.int 0 0, Value.int 0 0, Value.ref 66, Value.bool false, Value.int 276 0, Value.ref 67, Value.none, Value.none, Value.none, Value.none, Value.int 449 0, Value.int 9 0, Value.str (Str.ofString "/claim/cut.py") 450] }
noncomputable def f69 : Obj := { cls := Value.type "frame", slots := #[some (Value.ref 68), some (Value.ref 3), some (Value.ref 65), none, some (Value.str (Str.ofString "cpy313.tomllib._parser") 282), none, some (Value.ref 0)] }
noncomputable def f70 : Obj := { cls := Value.type "tuple", data := Data.seq #[] }
noncomputable def f71 (P : Params) : Obj := { cls := Value.type "dict", data := Data.dict #[{ hash := PyData.keyHash P (Str.ofString "__module__"), key := Value.str (Str.ofString "__module__") 451, val := Value.str (Str.ofString "cpy313.tomllib._parser") 282 }, { hash := PyData.keyHash P (Str.ofString "__firstlineno__"), key := Value.str (Str.ofString "__firstlineno__") 455, val := Value.int 9 454 }, { hash := PyData.keyHash P (Str.ofString "__static_attributes__"), key := Value.str (Str.ofString "__static_attributes__") 456, val := Value.ref 70 }, { hash := PyData.keyHash P (Str.ofString "__weakref__"), key := Value.str (Str.ofString "__weakref__") 458, val := Value.ref 73 }, { hash := PyData.keyHash P (Str.ofString "__doc__"), key := Value.str (Str.ofString "__doc__") 459, val := Value.none }] 3 }
noncomputable def f72 : Obj := { cls := Value.type "type", data := Data.cls { name := Str.ofString "TOMLDecodeError", bases := [Value.type "ValueError"], mro := [Value.ref 72, Value.type "ValueError", Value.type "Exception", Value.type "BaseException", Value.type "object"], ns := 71, qualname := Str.ofString "TOMLDecodeError" }, slots := #[some (Value.ref 63), none, some (Value.str (Str.ofString "TOMLDecodeError") 444), some (Value.str (Str.ofString "TOMLDecodeError") 452), some (Value.builtin "ValueError.__new__"), some (Value.bool true)] }
noncomputable def f73 : Obj := { cls := Value.type "getset_descriptor", data := Data.fields #[Value.str (Str.ofString "__weakref__") 457, Value.ref 72, Value.builtin "ExceptionGroup.__weakref__", Value.none] }
noncomputable def f74 : Obj := { cls := Value.type "super", data := Data.fields #[Value.ref 72, Value.ref 72, Value.ref 72] }
noncomputable def f75 : Obj := { cls := Value.type "builtin_function_or_method", data := Data.fields #[Value.builtin "object.__init_subclass__", Value.ref 72] }
noncomputable def f76 : Obj := { cls := Value.type "tuple", data := Data.seq #[] }
noncomputable def f77 : Obj := { cls := Value.none, data := Data.fields #[] }
noncomputable def f78 : Obj := { cls := Value.type "tuple", data := Data.seq #[Value.str (Str.ofString "src") 465, Value.str (Str.ofString "pos") 466, Value.str (Str.ofString "chars") 467] }
noncomputable def f79 : Obj := { cls := Value.type "tuple", data := Data.seq #[] }
noncomputable def f81 : Obj := { cls := Value.type "code", data := Data.fields #[Value.str (Str.ofString "skip_chars") 462, Value.str (Str.ofString "skip_chars") 463, Value.str (Str.ofString "/claim/cut.py") 464, Value.int 11 0, Value.int 3 0, Value.int 0 0, Value.int 0 0, Value.int 3 0, Value.ref 76, Value.bool true, Value.int 276 0, Value.ref 77, Value.none, Value.ref 78, Value.ref 79, Value.ref 80, Value.int 468 0, Value.int 11 0, Value.str (Str.ofString "/claim/cut.py") 469] }
noncomputable def f83 : Obj := { cls := Value.type "tuple", data := Data.seq #[] }
noncomputable def f84 : Obj := { cls := Value.none, data := Data.fields #[] }
noncomputable def f85 : Obj := { cls := Value.type "tuple", data := Data.seq #[Value.str (Str.ofString "src") 474, Value.str (Str.ofString "pos") 475, Value.str (Str.ofString "expect") 476, Value.str (Str.ofString "error_on") 477, Value.str (Str.ofString "error_on_eof") 478, Value.str (Str.ofString "new_pos") 479] }
noncomputable def f86 : Obj := { cls := Value.type "tuple", data := Data.seq #[] }
noncomputable def f88 : Obj := { cls := Value.type "code", data := Data.fields #[Value.str (Str.ofString "skip_until") 471, Value.str (Str.ofString "skip_until") 472, Value.str (Str.ofString "/claim/cut.py") 473, Value.int 18 0, Value.int 3 0, Value.int 0 0, Value.int 2 0, Value.int 3 0, Value.ref 83, Value.bool true, Value.int 276 0, Value.ref 84, Value.none, Value.ref 85, Value.ref 86, Value.ref 87, Value.int 480 0, Value.int 18 0, Value.str (Str.ofString "/claim/cut.py") 481] }
noncomputable def f90 : Obj := { cls := Value.type "tuple", data := Data.seq #[] }
noncomputable def f91 : Obj := { cls := Value.none, data := Data.fields #[] }
noncomputable def f92 : Obj := { cls := Value.type "tuple", data := Data.seq #[Value.str (Str.ofString "src") 486, Value.str (Str.ofString "pos") 487, Value.str (Str.ofString "char") 488] }
noncomputable def f93 : Obj := { cls := Value.type "tuple", data := Data.seq #[] }
noncomputable def f95 : Obj := { cls := Value.type "code", data := Data.fields #[Value.str (Str.ofString "skip_comment") 483, Value.str (Str.ofString "skip_comment") 484, Value.str (Str.ofString "/claim/cut.py") 485, Value.int 30 0, Value.int 2 0, Value.int 0 0, Value.int 0 0, Value.int 3 0, Value.ref 90, Value.bool true, Value.int 276 0, Value.ref 91, Value.none, Value.ref 92, Value.ref 93, Value.ref 94, Value.int 489 0, Value.int 30 0, Value.str (Str.ofString "/claim/cut.py") 490] }
noncomputable def f97 : Obj := { cls := Value.type "tuple", data := Data.seq #[] }
noncomputable def f98 : Obj := { cls := Value.none, data := Data.fields #[] }
noncomputable def f99 : Obj := { cls := Value.type "tuple", data := Data.seq #[Value.str (Str.ofString "src") 495, Value.str (Str.ofString "pos") 496, Value.str (Str.ofString "pos_before_skip") 497] }
noncomputable def f100 : Obj := { cls := Value.type "tuple", data := Data.seq #[] }
noncomputable def f102 : Obj := { cls := Value.type "code", data := Data.fields #[Value.str (Str.ofString "skip_comments_and_array_ws") 492, Value.str (Str.ofString "skip_comments_and_array_ws") 493, Value.str (Str.ofString "/claim/cut.py") 494, Value.int 38 0, Value.int 2 0, Value.int 0 0, Value.int 0 0, Value.int 3 0, Value.ref 97, Value.bool true, Value.int 276 0, Value.ref 98, Value.none, Value.ref 99, Value.ref 100, Value.ref 101, Value.int 498 0, Value.int 38 0, Value.str (Str.ofString "/claim/cut.py") 499] }
noncomputable def f104 : Obj := { cls := Value.type "tuple", data := Data.seq #[] }
noncomputable def f105 : Obj := { cls := Value.none, data := Data.fields #[] }
noncomputable def f106 : Obj := { cls := Value.type "tuple", data := Data.seq #[Value.str (Str.ofString "src") 504, Value.str (Str.ofString "pos") 505, Value.str (Str.ofString "start_pos") 506] }
noncomputable def f107 : Obj := { cls := Value.type "tuple", data := Data.seq #[] }
noncomputable def f109 : Obj := { cls := Value.type "code", data := Data.fields #[Value.str (Str.ofString "parse_literal_str") 501, Value.str (Str.ofString "parse_literal_str") 502, Value.str (Str.ofString "/claim/cut.py") 503, Value.int 45 0, Value.int 2 0, Value.int 0 0, Value.int 0 0, Value.int 3 0, Value.ref 104, Value.bool true, Value.int 276 0, Value.ref 105, Value.none, Value.ref 106, Value.ref 107, Value.ref 108, Value.int 507 0, Value.int 45 0, Value.str (Str.ofString "/claim/cut.py") 508] }
noncomputable def f111 : Obj := { cls := Value.type "tuple", data := Data.seq #[] }
noncomputable def f112 : Obj := { cls := Value.none, data := Data.fields #[] }
noncomputable def f113 : Obj := { cls := Value.type "tuple", data := Data.seq #[Value.str (Str.ofString "src") 513, Value.str (Str.ofString "pos") 514, Value.str (Str.ofString "msg") 515, Value.str (Str.ofString "coord_repr") 516] }
noncomputable def f114 : Obj := { cls := Value.type "tuple", data := Data.seq #[] }
noncomputable def f116 : Obj := { cls := Value.type "code", data := Data.fields #[Value.str (Str.ofString "suffixed_err") 510, Value.str (Str.ofString "suffixed_err") 511, Value.str (Str.ofString "/claim/cut.py") 512, Value.int 50 0, Value.int 3 0, Value.int 0 0, Value.int 0 0, Value.int 3 0, Value.ref 111, Value.bool true, Value.int 276 0, Value.ref 112, Value.none, Value.ref 113, Value.ref 114, Value.ref 115, Value.int 517 0, Value.int 50 0, Value.str (Str.ofString "/claim/cut.py") 518] }
noncomputable def f118 : Obj := { cls := Value.type "list", data := Data.seq #[Value.int 14 525, Value.int 4 526, Value.int 0 527, Value.int 1 528, Value.int 1 529, Value.int 6 530, Value.int 1 531, Value.int 16 532, Value.int 46 533, Value.int 1 534] }
noncomputable def f119 : Obj := { cls := Value.type "dict", data := Data.dict #[] }
noncomputable def f120 : Obj := { cls := Value.type "tuple", data := Data.seq #[Value.none] }
noncomputable def f121 : Obj := { cls := Value.type "tuple", data := Data.seq #[Value.int 14 0, Value.int 4 0, Value.int 0 0, Value.int 1 0, Value.int 1 0, Value.int 6 0, Value.int 1 0, Value.int 16 0, Value.int 46 0, Value.int 1 0] }
noncomputable def f122 : Obj := { cls := Value.type "re.Pattern", data := Data.fields #[Value.str (Str.ofString "(?m)^\\.") 523, Value.int 40 536, Value.int 0 0, Value.none, Value.none, Value.ref 121, Value.int 0 0] }
noncomputable def f123 : Obj := { cls := Value.type "list", data := Data.seq #[Value.int 14 541, Value.int 9 542, Value.int 4 543, Value.int 1 544, Value.int 2 545, Value.int 16 546, Value.int 10 547, Value.int 16 548, Value.int 13 549, Value.int 0 550, Value.int 7 551, Value.int 7 552, Value.int 16 553, Value.int 13 554, Value.int 16 555, Value.int 10 556, Value.int 15 557, Value.int 18 558, Value.int 5 559, Value.int 16 560, Value.int 10 561, Value.int 15 562, Value.int 13 563, Value.int 11 564, Value.int 16 565, Value.int 13 566, Value.int 5 567, Value.int 5 568, Value.int 0 569, Value.int 16 570, Value.int 10 571, Value.int 1 572, Value.int 15 573, Value.int 2 574, Value.int 0 575, Value.int 1 576] }
noncomputable def f124 : Obj := { cls := Value.type "dict", data := Data.dict #[] }
noncomputable def f125 : Obj := { cls := Value.type "tuple", data := Data.seq #[Value.none] }
noncomputable def f126 : Obj := { cls := Value.type "tuple", data := Data.seq #[Value.int 14 0, Value.int 9 0, Value.int 4 0, Value.int 1 0, Value.int 2 0, Value.int 16 0, Value.int 10 0, Value.int 16 0, Value.int 13 0, Value.int 0 0, Value.int 7 0, Value.int 7 0, Value.int 16 0, Value.int 13 0, Value.int 16 0, Value.int 10 0, Value.int 15 0, Value.int 18 0, Value.int 5 0, Value.int 16 0, Value.int 10 0, Value.int 15 0, Value.int 13 0, Value.int 11 0, Value.int 16 0, Value.int 13 0, Value.int 5 0, Value.int 5 0, Value.int 0 0, Value.int 16 0, Value.int 10 0, Value.int 1 0, Value.int 15 0, Value.int 2 0, Value.int 0 0, Value.int 1 0] }
noncomputable def f127 : Obj := { cls := Value.type "re.Pattern", data := Data.fields #[Value.str (Str.ofString "(?:\\r\\n|\\n|\\r(?!\\n))") 539, Value.int 32 578, Value.int 0 0, Value.none, Value.none, Value.ref 126, Value.int 0 0] }
noncomputable def f128 : Obj := { cls := Value.type "tuple", data := Data.seq #[] }
noncomputable def f129 : Obj := { cls := Value.none, data := Data.fields #[] }
noncomputable def f130 : Obj := { cls := Value.type "tuple", data := Data.seq #[Value.str (Str.ofString "data") 585] }
noncomputable def f131 : Obj := { cls := Value.type "tuple", data := Data.seq #[] }
noncomputable def f133 : Obj := { cls := Value.type "code", data := Data.fields #[Value.str (Str.ofString "quotedata") 582, Value.str (Str.ofString "quotedata") 583, Value.str (Str.ofString "/claim/cut.py") 584, Value.int 66 0, Value.int 1 0, Value.int 0 0, Value.int 0 0, Value.int 3 0, Value.ref 128, Value.bool true, Value.int 276 0, Value.ref 129, Value.none, Value.ref 130, Value.ref 131, Value.ref 132, Value.int 586 0, Value.int 66 0, Value.str (Str.ofString "/claim/cut.py") 587] }
noncomputable def f135 : Obj := { cls := Value.type "tuple", data := Data.seq #[] }
noncomputable def f136 : Obj := { cls := Value.none, data := Data.fields #[] }
noncomputable def f137 : Obj := { cls := Value.type "tuple", data := Data.seq #[Value.str (Str.ofString "total") 594, Value.str (Str.ofString "c") 595] }
noncomputable def f138 : Obj := { cls := Value.type "tuple", data := Data.seq #[] }
noncomputable def f140 : Obj := { cls := Value.type "code", data := Data.fields #[Value.str (Str.ofString "_law_odd") 591, Value.str (Str.ofString "_law_odd") 592, Value.str (Str.ofString "/claim/cut.py") 593, Value.int 69 0, Value.int 1 0, Value.int 0 0, Value.int 0 0, Value.int 3 0, Value.ref 135, Value.bool true, Value.int 276 0, Value.ref 136, Value.none, Value.ref 137, Value.ref 138, Value.ref 139, Value.int 596 0, Value.int 69 0, Value.str (Str.ofString "/claim/cut.py") 597] }
noncomputable def f142 : Obj := { cls := Value.type "tuple", data := Data.seq #[] }
noncomputable def f143 : Obj := { cls := Value.none, data := Data.fields #[] }
noncomputable def f145 : Obj := { cls := Value.type "code", data := Data.fields #[Value.str (Str.ofString "_law_signs") 599, Value.str (Str.ofString "_law_signs") 600, Value.str (Str.ofString "/claim/cut.py") 601, Value.int 74 0, Value.int 2 0, Value.int 0 0, Value.int 0 0, Value.int 3 0, Value.ref 142, Value.bool true, Value.int 276 0, Value.ref 143, Value.none, Value.none, Value.none, Value.ref 144, Value.int 602 0, Value.int 74 0, Value.str (Str.ofString "/claim/cut.py") 603] }
noncomputable def f147 : Obj := { cls := Value.type "tuple", data := Data.seq #[] }
noncomputable def f148 : Obj := { cls := Value.none, data := Data.fields #[] }
noncomputable def f149 : Obj := { cls := Value.type "tuple", data := Data.seq #[Value.str (Str.ofString "kind") 608, Value.str (Str.ofString "text") 609, Value.str (Str.ofString "place") 610, Value.str (Str.ofString "fault") 611] }
noncomputable def f150 : Obj := { cls := Value.type "tuple", data := Data.seq #[] }
noncomputable def f152 : Obj := { cls := Value.type "code", data := Data.fields #[Value.str (Str.ofString "_law_asked") 605, Value.str (Str.ofString "_law_asked") 606, Value.str (Str.ofString "/claim/cut.py") 607, Value.int 78 0, Value.int 3 0, Value.int 0 0, Value.int 0 0, Value.int 3 0, Value.ref 147, Value.bool true, Value.int 276 0, Value.ref 148, Value.none, Value.ref 149, Value.ref 150, Value.ref 151, Value.int 612 0, Value.int 78 0, Value.str (Str.ofString "/claim/cut.py") 613] }
noncomputable def f154 : Obj := { cls := Value.type "tuple", data := Data.seq #[] }
noncomputable def f155 : Obj := { cls := Value.none, data := Data.fields #[] }
noncomputable def f157 : Obj := { cls := Value.type "code", data := Data.fields #[Value.str (Str.ofString "_law_rows") 615, Value.str (Str.ofString "_law_rows") 616, Value.str (Str.ofString "/claim/cut.py") 617, Value.int 87 0, Value.int 1 0, Value.int 0 0, Value.int 0 0, Value.int 3 0, Value.ref 154, Value.bool true, Value.int 276 0, Value.ref 155, Value.none, Value.none, Value.none, Value.ref 156, Value.int 618 0, Value.int 87 0, Value.str (Str.ofString "/claim/cut.py") 619] }
noncomputable def f159 : Obj := { cls := Value.type "tuple", data := Data.seq #[] }
noncomputable def f160 : Obj := { cls := Value.none, data := Data.fields #[] }
noncomputable def f161 : Obj := { cls := Value.type "tuple", data := Data.seq #[Value.str (Str.ofString "rows") 624, Value.str (Str.ofString "ends") 625, Value.str (Str.ofString "marks") 626, Value.str (Str.ofString "k") 627, Value.str (Str.ofString "row") 628, Value.str (Str.ofString "c") 629] }
noncomputable def f162 : Obj := { cls := Value.type "tuple", data := Data.seq #[] }
noncomputable def f164 : Obj := { cls := Value.type "code", data := Data.fields #[Value.str (Str.ofString "_law_marks") 621, Value.str (Str.ofString "_law_marks") 622, Value.str (Str.ofString "/claim/cut.py") 623, Value.int 90 0, Value.int 2 0, Value.int 0 0, Value.int 0 0, Value.int 3 0, Value.ref 159, Value.bool true, Value.int 276 0, Value.ref 160, Value.none, Value.ref 161, Value.ref 162, Value.ref 163, Value.int 630 0, Value.int 90 0, Value.str (Str.ofString "/claim/cut.py") 631] }
noncomputable def f166 : Obj := { cls := Value.type "tuple", data := Data.seq #[] }
noncomputable def f167 : Obj := { cls := Value.none, data := Data.fields #[] }
noncomputable def f169 : Obj := { cls := Value.type "code", data := Data.fields #[Value.str (Str.ofString "_law_due") 633, Value.str (Str.ofString "_law_due") 634, Value.str (Str.ofString "/claim/cut.py") 635, Value.int 97 0, Value.int 1 0, Value.int 0 0, Value.int 0 0, Value.int 3 0, Value.ref 166, Value.bool true, Value.int 276 0, Value.ref 167, Value.none, Value.none, Value.none, Value.ref 168, Value.int 636 0, Value.int 97 0, Value.str (Str.ofString "/claim/cut.py") 637] }
noncomputable def f171 : Obj := { cls := Value.type "tuple", data := Data.seq #[] }
noncomputable def f172 : Obj := { cls := Value.none, data := Data.fields #[] }
noncomputable def f174 : Obj := { cls := Value.type "code", data := Data.fields #[Value.str (Str.ofString "law") 639, Value.str (Str.ofString "law") 640, Value.str (Str.ofString "/claim/cut.py") 641, Value.int 127 0, Value.int 1 0, Value.int 0 0, Value.int 0 0, Value.int 3 0, Value.ref 171, Value.bool true, Value.int 276 0, Value.ref 172, Value.none, Value.none, Value.none, Value.ref 173, Value.int 642 0, Value.int 127 0, Value.str (Str.ofString "/claim/cut.py") 643] }
noncomputable def newObjs (P : Params) : List Obj := [f63, f64, f65 P, f66, f67, f68, f69, f70, f71 P, f72, f73, f74, f75, f76, f77, f78, f79, codeFn 9, f81, defFn 9 (.str (Str.ofString "cpy313.tomllib._parser") 282) (.ref 81), f83, f84, f85, f86, codeFn 10, f88, defFn 10 (.str (Str.ofString "cpy313.tomllib._parser") 282) (.ref 88), f90, f91, f92, f93, codeFn 11, f95, defFn 11 (.str (Str.ofString "cpy313.tomllib._parser") 282) (.ref 95), f97, f98, f99, f100, codeFn 12, f102, defFn 12 (.str (Str.ofString "cpy313.tomllib._parser") 282) (.ref 102), f104, f105, f106, f107, codeFn 13, f109, defFn 13 (.str (Str.ofString "cpy313.tomllib._parser") 282) (.ref 109), f111, f112, f113, f114, codeFn 14, f116, defFn 14 (.str (Str.ofString "cpy313.tomllib._parser") 282) (.ref 116), f118, f119, f120, f121, f122, f123, f124, f125, f126, f127, f128, f129, f130, f131, codeFn 19, f133, defFn 19 (.str (Str.ofString "cpy313.smtplib") 520) (.ref 133), f135, f136, f137, f138, codeFn 21, f140, defFn 21 (.str (Str.ofString "law_nb0099_01") 589) (.ref 140), f142, f143, codeFn 22, f145, defFn 22 (.str (Str.ofString "law_nb0099_01") 589) (.ref 145), f147, f148, f149, f150, codeFn 23, f152, defFn 23 (.str (Str.ofString "law_nb0099_01") 589) (.ref 152), f154, f155, codeFn 24, f157, defFn 24 (.str (Str.ofString "law_nb0099_01") 589) (.ref 157), f159, f160, f161, f162, codeFn 25, f164, defFn 25 (.str (Str.ofString "law_nb0099_01") 589) (.ref 164), f166, f167, codeFn 26, f169, defFn 26 (.str (Str.ofString "law_nb0099_01") 589) (.ref 169), f171, f172, codeFn 27, f174, defFn 27 (.str (Str.ofString "law_nb0099_01") 589) (.ref 174)]
noncomputable def baseF (P : Params) (W V : Obj) : List (Nat × Obj) := (3, g27 P) :: (29, f29) :: (53, V) :: (62, W) :: lits P
noncomputable def hF (P : Params) (x : Nat → Obj) (W V : Obj) : Heap := ⟨⟨(List.range 63).map (patch x (baseF P W V)) ++ newObjs P⟩, lifeL⟩
noncomputable def stF (w : World) (os : OsState) (x : Nat → Obj) (W V : Obj) : Shared := ⟨hF w.params x W V, GF, dr0, 645, os⟩
noncomputable def runF (w : World) (os : OsState) (x : Nat → Obj) (W V : Obj) : Option (Shared × Thread) := iTo w through 900 (st 63 x ((62, W) :: (53, V) :: base w.params g7) 444 os) (restQ (bodyB.drop 7) q_7)
noncomputable def thF (w : World) (os : OsState) (x : Nat → Obj) : Thread := (runF w os x D0 D0).elim t1 (·.2)
theorem runF_eq (w : World) (os : OsState) (x : Nat → Obj) (es2 : Array (Int × Value)) (ep2 : Nat) (t2 : SetTable) (es1 : Array (Int × Value)) (ep1 : Nat) (t1 : SetTable) : runF w os x (setObj es2 ep2 t2) (setObj es1 ep1 t1) = some (stF w os x (setObj es2 ep2 t2) (setObj es1 ep1 t1), thF w os x) := by kernel_rfl
end Mine
end

noncomputable section -- NbTop9
open PySem PySem.W PyProof.Rows
set_option maxRecDepth 100000
namespace Mine
noncomputable def fr31 : Obj := { cls := .type "frame", slots := #[some (.ref 30), some (.ref 3), some (.ref 3), none, some (.str (Str.ofString "__main__") 164), none, some (.ref 0)] }
noncomputable def sS (w : World) (os : OsState) (x : Nat → Obj) : Shared := ⟨hN 28 (patch x ((3, b3 w.params) :: lits w.params)), #[], dr0, 276, os⟩
noncomputable def x0 (x : Nat → Obj) : Nat → Obj := patch x ((28, tup0) :: (31, fr31) :: [])
noncomputable def sPre (w : World) (os : OsState) (x : Nat → Obj) : Shared := ⟨hN 32 (patch x ((3, b3 w.params) :: (29, b29 w.params) :: lits w.params)), #[], dr0, 282, os⟩
noncomputable def atBody (t : Thread) : Bool := match t.code with
  | .body .. => true
  | _ => false
noncomputable def runP (w : World) (os : OsState) (x : Nat → Obj) : Option (Shared × Thread) := iTo w atBody 30 (sS w os x) (topStub prg)
theorem runP_eq (w : World) (os : OsState) (x : Nat → Obj) : runP w os x = some (sPre w os (x0 x), ⟨denQ tabQ codeB, codeB, default, stkB⟩) := by kernel_rfl
noncomputable def hQ : Value → Sem PySem.Fin := fun e => ((leavingQ envB e).bind fun _ => (.raise e : Sem Flow)).wrap doneF .raise id id
theorem hQ_eq : hQ = leaveH envB := by
  funext e
  unfold hQ
  show (((PySem.W.Fast.tw9442747609961115081 envB e).bind fun _ => (.raise e : Sem Flow)).wrap doneF .raise id id) = _
  rw [← PySem.W.Fast.te9442747609961115081]
theorem execs_q : execsQ = execs := by
  show PySem.W.Fast.tw12563942051412417395 = _
  rw [← PySem.W.Fast.te12563942051412417395]
theorem denB : denQ tabQ codeB = (blockStart bodyB envB).wrap (fun _ => (execsQ bodyB envB).wrap doneF hQ id id) .raise id id := by
  rw [den_eq, execs_q, hQ_eq]
  exact body_wrap bodyB
theorem runS_eq (w : World) (os : OsState) (x : Nat → Obj) : iGo w 9 (sPre w os x) ⟨(blockStart bodyB envB).wrap (fun _ => (execsQ bodyB envB).wrap doneF hQ id id) .raise id id, codeB, default, stkB⟩ = some (s1 w os x, t1) := by kernel_rfl

theorem iTo_stop {w : World} {stop : Thread → Bool} : ∀ {n : Nat} {s s' : Shared} {t t' : Thread}, iTo w stop n s t = some (s', t') → stop t' = true
  | 0, _, _, _, _, h => by cases h
  | n + 1, s, s', t, t', h => by
    unfold iTo at h
    split at h
    · rename_i hs
      injection h with h; injection h with h1 h2; subst h1 h2; exact hs
    · split at h
      · cases h
      · split at h
        · exact iTo_stop h
        · cases h

/-- the whole top, in every world -/
theorem top_comes (w : World) (os : OsState) (x : Nat → Obj) : ∃ x' th es₂ ep₂ t₂ es₁ ep₁ t₁, Fz w wsC 3 (setObj es₂ ep₂ t₂) ∧ Fz w badC 32 (setObj es₁ ep₁ t₁) ∧ Same x x' ∧ through th = true ∧
    PySem.Comes (model prg w) (sS w os x) (topStub prg) (stF w os x' (setObj es₂ ep₂ t₂) (setObj es₁ ep₁ t₁)) th := by
  have h₀ := iTo_comes (runP_eq w os x)
  rw [denB] at h₀
  have h₁ := iGo_comes (runS_eq w os (x0 x))
  obtain ⟨Z, x₂, FZ, S₂, h₂⟩ := stmt2 w os (x0 x)
  obtain ⟨es, ep, t, rfl⟩ := fz_get FZ
  obtain ⟨es₁, ep₁, t₁, x₃, F₁, S₃, h₃⟩ := stmt3 w os x₂ es ep t FZ
  obtain ⟨es₂, ep₂, t₂, x₄, F₂, S₄, h₄⟩ := stmt6 w os x₃ es₁ ep₁ t₁
  obtain ⟨es₃, ep₃, t₃, x₅, F₃, S₅, h₅⟩ := stmt7 w os x₄ es₂ ep₂ t₂ es₁ ep₁ t₁ F₂
  have h₆ := runF_eq w os x₅ es₃ ep₃ t₃ es₁ ep₁ t₁
  exact ⟨x₅, _, es₃, ep₃, t₃, es₁, ep₁, t₁, F₃, F₁, ((((same_patch (by kernel_rfl)).trans S₂).trans S₃).trans S₄).trans S₅, iTo_stop h₆,
    (((((h₀.trans h₁).trans h₂).trans h₃).trans h₄).trans h₅).trans (iTo_comes h₆)⟩
end Mine
end

noncomputable section -- NbEnd1
open PySem PySem.W PyProof.Rows
set_option maxRecDepth 100000
namespace Mine

section
variable (P : Params) (x : Nat → Obj) (es₂ : Array (Int × Value)) (ep₂ : Nat) (t₂ : SetTable) (es₁ : Array (Int × Value)) (ep₁ : Nat) (t₁ : SetTable)
noncomputable def hH : Heap := bs (hF P x (setObj es₂ ep₂ t₂) (setObj es₁ ep₁ t₁)) []
variable {P x es₂ ep₂ t₂ es₁ ep₁ t₁} in
theorem hH_get {b : Addr} {o : Obj} (h : (hF P x (setObj es₂ ep₂ t₂) (setObj es₁ ep₁ t₁)).get? b = some o) (hb : b ≠ 112) : (hH P x es₂ ep₂ t₂ es₁ ep₁ t₁).get? b = some o :=
  hide_of (fun q => hb (by simpa [lsOf] using q)) h
noncomputable def esOf (o : Obj) : Array DictEntry := match o.data with | .dict es _ => es | _ => #[]
theorem ns_of {h : Heap} {a : Addr} {o : Obj} {n : Nat} (e : h.get? a = some o) (hd : o.data = .dict (esOf o) n) (hk : (esOf o).all (fun e => match e.key with | .str _ _ => true | _ => false) = true) : h.Ns a (nsFind (esOf o)) :=
  by
  refine ⟨o, esOf o, n, e, hd, fun e he => ?_, fun _ => rfl⟩
  have hx := Array.all_eq_true_iff_forall_mem.mp hk e he
  cases q : e.key <;> rw [q] at hx <;> first | exact ⟨_, _, rfl⟩ | cases hx
theorem nsM : (hH P x es₂ ep₂ t₂ es₁ ep₁ t₁).Ns mainGlobals (nsFind (esOf (g27 P))) := ns_of (n := 34) (hH_get (by kernel_rfl) (by decide)) (by kernel_rfl) (by kernel_rfl)
theorem nsB : (hH P x es₂ ep₂ t₂ es₁ ep₁ t₁).Ns builtinsNs (nsFind (esOf (boot_o_0 P))) := ns_of (n := 159) (hH_get (by kernel_rfl) (by decide)) (by kernel_rfl) (by kernel_rfl)
theorem nsC : (hH P x es₂ ep₂ t₂ es₁ ep₁ t₁).Ns cStatics (nsFind (esOf (b2 P))) := ns_of (n := 9) (hH_get (by kernel_rfl) (by decide)) (by kernel_rfl) (by kernel_rfl)

theorem hg_skip_chars : GN (hH P x es₂ ep₂ t₂ es₁ ep₁ t₁) "skip_chars" (.ref 82) := ⟨_, nsM P x es₂ ep₂ t₂ es₁ ep₁ t₁, by kernel_rfl⟩
theorem hg_skip_until : GN (hH P x es₂ ep₂ t₂ es₁ ep₁ t₁) "skip_until" (.ref 89) := ⟨_, nsM P x es₂ ep₂ t₂ es₁ ep₁ t₁, by kernel_rfl⟩
theorem hg_skip_comment : GN (hH P x es₂ ep₂ t₂ es₁ ep₁ t₁) "skip_comment" (.ref 96) := ⟨_, nsM P x es₂ ep₂ t₂ es₁ ep₁ t₁, by kernel_rfl⟩
theorem hg_skip_cws : GN (hH P x es₂ ep₂ t₂ es₁ ep₁ t₁) "skip_comments_and_array_ws" (.ref 103) := ⟨_, nsM P x es₂ ep₂ t₂ es₁ ep₁ t₁, by kernel_rfl⟩
theorem hg_parse_lit : GN (hH P x es₂ ep₂ t₂ es₁ ep₁ t₁) "parse_literal_str" (.ref 110) := ⟨_, nsM P x es₂ ep₂ t₂ es₁ ep₁ t₁, by kernel_rfl⟩
theorem hg_suffixed : GN (hH P x es₂ ep₂ t₂ es₁ ep₁ t₁) "suffixed_err" (.ref 117) := ⟨_, nsM P x es₂ ep₂ t₂ es₁ ep₁ t₁, by kernel_rfl⟩
theorem hg_quotedata : GN (hH P x es₂ ep₂ t₂ es₁ ep₁ t₁) "quotedata" (.ref 134) := ⟨_, nsM P x es₂ ep₂ t₂ es₁ ep₁ t₁, by kernel_rfl⟩
theorem hg_odd : GN (hH P x es₂ ep₂ t₂ es₁ ep₁ t₁) "_law_odd" (.ref 141) := ⟨_, nsM P x es₂ ep₂ t₂ es₁ ep₁ t₁, by kernel_rfl⟩
theorem hg_signs : GN (hH P x es₂ ep₂ t₂ es₁ ep₁ t₁) "_law_signs" (.ref 146) := ⟨_, nsM P x es₂ ep₂ t₂ es₁ ep₁ t₁, by kernel_rfl⟩
theorem hg_asked : GN (hH P x es₂ ep₂ t₂ es₁ ep₁ t₁) "_law_asked" (.ref 153) := ⟨_, nsM P x es₂ ep₂ t₂ es₁ ep₁ t₁, by kernel_rfl⟩
theorem hg_rows : GN (hH P x es₂ ep₂ t₂ es₁ ep₁ t₁) "_law_rows" (.ref 158) := ⟨_, nsM P x es₂ ep₂ t₂ es₁ ep₁ t₁, by kernel_rfl⟩
theorem hg_marks : GN (hH P x es₂ ep₂ t₂ es₁ ep₁ t₁) "_law_marks" (.ref 165) := ⟨_, nsM P x es₂ ep₂ t₂ es₁ ep₁ t₁, by kernel_rfl⟩
theorem hg_due : GN (hH P x es₂ ep₂ t₂ es₁ ep₁ t₁) "_law_due" (.ref 170) := ⟨_, nsM P x es₂ ep₂ t₂ es₁ ep₁ t₁, by kernel_rfl⟩
theorem hg_tomlerr : GN (hH P x es₂ ep₂ t₂ es₁ ep₁ t₁) "TOMLDecodeError" (.ref 72) := ⟨_, nsM P x es₂ ep₂ t₂ es₁ ep₁ t₁, by kernel_rfl⟩
theorem hg_lit_chars : GN (hH P x es₂ ep₂ t₂ es₁ ep₁ t₁) "ILLEGAL_LITERAL_STR_CHARS" (.ref 53) := ⟨_, nsM P x es₂ ep₂ t₂ es₁ ep₁ t₁, by kernel_rfl⟩
theorem hg_com_chars : GN (hH P x es₂ ep₂ t₂ es₁ ep₁ t₁) "ILLEGAL_COMMENT_CHARS" (.ref 53) := ⟨_, nsM P x es₂ ep₂ t₂ es₁ ep₁ t₁, by kernel_rfl⟩
theorem hg_wsnl : GN (hH P x es₂ ep₂ t₂ es₁ ep₁ t₁) "TOML_WS_AND_NEWLINE" (.ref 62) := ⟨_, nsM P x es₂ ep₂ t₂ es₁ ep₁ t₁, by kernel_rfl⟩
theorem hg_re1 : GN (hH P x es₂ ep₂ t₂ es₁ ep₁ t₁) "_twin_re_1" (.ref 122) := ⟨_, nsM P x es₂ ep₂ t₂ es₁ ep₁ t₁, by kernel_rfl⟩
theorem hg_re2 : GN (hH P x es₂ ep₂ t₂ es₁ ep₁ t₁) "_twin_re_2" (.ref 127) := ⟨_, nsM P x es₂ ep₂ t₂ es₁ ep₁ t₁, by kernel_rfl⟩
theorem hb_b_len : BN (hH P x es₂ ep₂ t₂ es₁ ep₁ t₁) "len" (.builtin "len") := ⟨_, _, nsM P x es₂ ep₂ t₂ es₁ ep₁ t₁, by kernel_rfl, nsB P x es₂ ep₂ t₂ es₁ ep₁ t₁, by kernel_rfl⟩
theorem hb_b_sum : BN (hH P x es₂ ep₂ t₂ es₁ ep₁ t₁) "sum" (.builtin "sum") := ⟨_, _, nsM P x es₂ ep₂ t₂ es₁ ep₁ t₁, by kernel_rfl, nsB P x es₂ ep₂ t₂ es₁ ep₁ t₁, by kernel_rfl⟩
theorem hb_b_chr : BN (hH P x es₂ ep₂ t₂ es₁ ep₁ t₁) "chr" (.builtin "chr") := ⟨_, _, nsM P x es₂ ep₂ t₂ es₁ ep₁ t₁, by kernel_rfl, nsB P x es₂ ep₂ t₂ es₁ ep₁ t₁, by kernel_rfl⟩
theorem hb_b_repr : BN (hH P x es₂ ep₂ t₂ es₁ ep₁ t₁) "repr" (.builtin "repr") := ⟨_, _, nsM P x es₂ ep₂ t₂ es₁ ep₁ t₁, by kernel_rfl, nsB P x es₂ ep₂ t₂ es₁ ep₁ t₁, by kernel_rfl⟩
theorem hb_b_range : BN (hH P x es₂ ep₂ t₂ es₁ ep₁ t₁) "range" (.type "range") := ⟨_, _, nsM P x es₂ ep₂ t₂ es₁ ep₁ t₁, by kernel_rfl, nsB P x es₂ ep₂ t₂ es₁ ep₁ t₁, by kernel_rfl⟩
theorem hb_b_str : BN (hH P x es₂ ep₂ t₂ es₁ ep₁ t₁) "str" (.type "str") := ⟨_, _, nsM P x es₂ ep₂ t₂ es₁ ep₁ t₁, by kernel_rfl, nsB P x es₂ ep₂ t₂ es₁ ep₁ t₁, by kernel_rfl⟩
theorem hb_b_ie : BN (hH P x es₂ ep₂ t₂ es₁ ep₁ t₁) "IndexError" (.type "IndexError") := ⟨_, _, nsM P x es₂ ep₂ t₂ es₁ ep₁ t₁, by kernel_rfl, nsB P x es₂ ep₂ t₂ es₁ ep₁ t₁, by kernel_rfl⟩
theorem hb_b_ve : BN (hH P x es₂ ep₂ t₂ es₁ ep₁ t₁) "ValueError" (.type "ValueError") := ⟨_, _, nsM P x es₂ ep₂ t₂ es₁ ep₁ t₁, by kernel_rfl, nsB P x es₂ ep₂ t₂ es₁ ep₁ t₁, by kernel_rfl⟩
theorem hf_f_skip_chars : Fn1 (hH P x es₂ ep₂ t₂ es₁ ep₁ t₁) 82 (stAt 9) := ⟨.ref 81, _, _, _, (hH_get (by kernel_rfl) (by decide) : (hH P x es₂ ep₂ t₂ es₁ ep₁ t₁).get? 82 = some (defFn 9 (.str (Str.ofString "cpy313.tomllib._parser") 282) (.ref 81))), rfl, 81, f81, _, 463, rfl, hH_get (by kernel_rfl) (by decide), rfl, by kernel_rfl⟩
theorem hf_f_skip_until : Fn1 (hH P x es₂ ep₂ t₂ es₁ ep₁ t₁) 89 (stAt 10) := ⟨.ref 88, _, _, _, (hH_get (by kernel_rfl) (by decide) : (hH P x es₂ ep₂ t₂ es₁ ep₁ t₁).get? 89 = some (defFn 10 (.str (Str.ofString "cpy313.tomllib._parser") 282) (.ref 88))), rfl, 88, f88, _, 472, rfl, hH_get (by kernel_rfl) (by decide), rfl, by kernel_rfl⟩
theorem hf_f_skip_comment : Fn1 (hH P x es₂ ep₂ t₂ es₁ ep₁ t₁) 96 (stAt 11) := ⟨.ref 95, _, _, _, (hH_get (by kernel_rfl) (by decide) : (hH P x es₂ ep₂ t₂ es₁ ep₁ t₁).get? 96 = some (defFn 11 (.str (Str.ofString "cpy313.tomllib._parser") 282) (.ref 95))), rfl, 95, f95, _, 484, rfl, hH_get (by kernel_rfl) (by decide), rfl, by kernel_rfl⟩
theorem hf_f_skip_cws : Fn1 (hH P x es₂ ep₂ t₂ es₁ ep₁ t₁) 103 (stAt 12) := ⟨.ref 102, _, _, _, (hH_get (by kernel_rfl) (by decide) : (hH P x es₂ ep₂ t₂ es₁ ep₁ t₁).get? 103 = some (defFn 12 (.str (Str.ofString "cpy313.tomllib._parser") 282) (.ref 102))), rfl, 102, f102, _, 493, rfl, hH_get (by kernel_rfl) (by decide), rfl, by kernel_rfl⟩
theorem hf_f_parse_lit : Fn1 (hH P x es₂ ep₂ t₂ es₁ ep₁ t₁) 110 (stAt 13) := ⟨.ref 109, _, _, _, (hH_get (by kernel_rfl) (by decide) : (hH P x es₂ ep₂ t₂ es₁ ep₁ t₁).get? 110 = some (defFn 13 (.str (Str.ofString "cpy313.tomllib._parser") 282) (.ref 109))), rfl, 109, f109, _, 502, rfl, hH_get (by kernel_rfl) (by decide), rfl, by kernel_rfl⟩
theorem hf_f_quotedata : Fn1 (hH P x es₂ ep₂ t₂ es₁ ep₁ t₁) 134 (stAt 19) := ⟨.ref 133, _, _, _, (hH_get (by kernel_rfl) (by decide) : (hH P x es₂ ep₂ t₂ es₁ ep₁ t₁).get? 134 = some (defFn 19 (.str (Str.ofString "cpy313.smtplib") 520) (.ref 133))), rfl, 133, f133, _, 583, rfl, hH_get (by kernel_rfl) (by decide), rfl, by kernel_rfl⟩
theorem hf_f_odd : Fn1 (hH P x es₂ ep₂ t₂ es₁ ep₁ t₁) 141 (stAt 21) := ⟨.ref 140, _, _, _, (hH_get (by kernel_rfl) (by decide) : (hH P x es₂ ep₂ t₂ es₁ ep₁ t₁).get? 141 = some (defFn 21 (.str (Str.ofString "law_nb0099_01") 589) (.ref 140))), rfl, 140, f140, _, 592, rfl, hH_get (by kernel_rfl) (by decide), rfl, by kernel_rfl⟩
theorem hf_f_signs : Fn1 (hH P x es₂ ep₂ t₂ es₁ ep₁ t₁) 146 (stAt 22) := ⟨.ref 145, _, _, _, (hH_get (by kernel_rfl) (by decide) : (hH P x es₂ ep₂ t₂ es₁ ep₁ t₁).get? 146 = some (defFn 22 (.str (Str.ofString "law_nb0099_01") 589) (.ref 145))), rfl, 145, f145, _, 600, rfl, hH_get (by kernel_rfl) (by decide), rfl, by kernel_rfl⟩
theorem hf_f_asked : Fn1 (hH P x es₂ ep₂ t₂ es₁ ep₁ t₁) 153 (stAt 23) := ⟨.ref 152, _, _, _, (hH_get (by kernel_rfl) (by decide) : (hH P x es₂ ep₂ t₂ es₁ ep₁ t₁).get? 153 = some (defFn 23 (.str (Str.ofString "law_nb0099_01") 589) (.ref 152))), rfl, 152, f152, _, 606, rfl, hH_get (by kernel_rfl) (by decide), rfl, by kernel_rfl⟩
theorem hf_f_rows : Fn1 (hH P x es₂ ep₂ t₂ es₁ ep₁ t₁) 158 (stAt 24) := ⟨.ref 157, _, _, _, (hH_get (by kernel_rfl) (by decide) : (hH P x es₂ ep₂ t₂ es₁ ep₁ t₁).get? 158 = some (defFn 24 (.str (Str.ofString "law_nb0099_01") 589) (.ref 157))), rfl, 157, f157, _, 616, rfl, hH_get (by kernel_rfl) (by decide), rfl, by kernel_rfl⟩
theorem hf_f_marks : Fn1 (hH P x es₂ ep₂ t₂ es₁ ep₁ t₁) 165 (stAt 25) := ⟨.ref 164, _, _, _, (hH_get (by kernel_rfl) (by decide) : (hH P x es₂ ep₂ t₂ es₁ ep₁ t₁).get? 165 = some (defFn 25 (.str (Str.ofString "law_nb0099_01") 589) (.ref 164))), rfl, 164, f164, _, 622, rfl, hH_get (by kernel_rfl) (by decide), rfl, by kernel_rfl⟩
theorem hf_f_due : Fn1 (hH P x es₂ ep₂ t₂ es₁ ep₁ t₁) 170 (stAt 26) := ⟨.ref 169, _, _, _, (hH_get (by kernel_rfl) (by decide) : (hH P x es₂ ep₂ t₂ es₁ ep₁ t₁).get? 170 = some (defFn 26 (.str (Str.ofString "law_nb0099_01") 589) (.ref 169))), rfl, 169, f169, _, 634, rfl, hH_get (by kernel_rfl) (by decide), rfl, by kernel_rfl⟩
theorem hf_f_law : Fn1 (hH P x es₂ ep₂ t₂ es₁ ep₁ t₁) 175 (stAt 27) := ⟨.ref 174, _, _, _, (hH_get (by kernel_rfl) (by decide) : (hH P x es₂ ep₂ t₂ es₁ ep₁ t₁).get? 175 = some (defFn 27 (.str (Str.ofString "law_nb0099_01") 589) (.ref 174))), rfl, 174, f174, _, 640, rfl, hH_get (by kernel_rfl) (by decide), rfl, by kernel_rfl⟩
theorem hf_suffixed : FnAt (hH P x es₂ ep₂ t₂ es₁ ep₁ t₁) 117 (nameOfS (stAt 14)) (stAt 14) (.ref 116) := ⟨_, _, _, (hH_get (by kernel_rfl) (by decide) : (hH P x es₂ ep₂ t₂ es₁ ep₁ t₁).get? 117 = some (defFn 14 (.str (Str.ofString "cpy313.tomllib._parser") 282) (.ref 116))), rfl, 116, f116, _, 511, rfl, hH_get (by kernel_rfl) (by decide), rfl, by kernel_rfl⟩
theorem h_nolim : (hH P x es₂ ep₂ t₂ es₁ ep₁ t₁).NoLimit := ⟨_, nsC P x es₂ ep₂ t₂ es₁ ep₁ t₁, by kernel_rfl⟩
theorem h_crlf : ∃ t, GN (hH P x es₂ ep₂ t₂ es₁ ep₁ t₁) "CRLF" (.str (Str.ofString "\r\n") t) := ⟨580, ⟨_, nsM P x es₂ ep₂ t₂ es₁ ep₁ t₁, by kernel_rfl⟩⟩
theorem h_pat1 : PatAt (hH P x es₂ ep₂ t₂ es₁ ep₁ t₁) 122 code1 := ⟨f122, _, 121, f121, 0, hH_get (by kernel_rfl) (by decide), ⟨rfl, rfl⟩, rfl, by kernel_rfl, by kernel_rfl, by kernel_rfl, hH_get (by kernel_rfl) (by decide), by kernel_rfl⟩
theorem h_pat2 : PatAt (hH P x es₂ ep₂ t₂ es₁ ep₁ t₁) 127 code2 := ⟨f127, _, 126, f126, 0, hH_get (by kernel_rfl) (by decide), ⟨rfl, rfl⟩, rfl, by kernel_rfl, by kernel_rfl, by kernel_rfl, hH_get (by kernel_rfl) (by decide), by kernel_rfl⟩
theorem h_cls : TomlCls (hH P x es₂ ep₂ t₂ es₁ ep₁ t₁) :=
  ⟨Str.ofString "TOMLDecodeError", Str.ofString "TOMLDecodeError", [.type "ValueError"], [.type "ValueError", .type "Exception", .type "BaseException", .type "object"], true, [], [], false, none, none,
    some (.ref 63), none, some (.str (Str.ofString "TOMLDecodeError") 444), some (.str (Str.ofString "TOMLDecodeError") 452), some (.bool true), "ValueError.__new__", "ValueError.__init__", nsFind (esOf (f71 P)),
    hH_get (by kernel_rfl) (by decide), PySem.F.excBase_ValueError, ns_of (n := 3) (hH_get (by kernel_rfl) (by decide)) (by kernel_rfl) (by kernel_rfl), by kernel_rfl, by kernel_rfl⟩
theorem h_bmod : BMod (hH P x es₂ ep₂ t₂ es₁ ep₁ t₁) := ⟨_, b4 P, nsM P x es₂ ep₂ t₂ es₁ ep₁ t₁, by kernel_rfl, hH_get (by kernel_rfl) (by decide), rfl, rfl, rfl⟩
theorem get53 : (hH P x es₂ ep₂ t₂ es₁ ep₁ t₁).get? 53 = some (setObj es₁ ep₁ t₁) := hH_get (by kernel_rfl) (by decide)
theorem get62 : (hH P x es₂ ep₂ t₂ es₁ ep₁ t₁).get? 62 = some (setObj es₂ ep₂ t₂) := hH_get (by kernel_rfl) (by decide)
theorem h_pool : Pool (hF P x (setObj es₂ ep₂ t₂) (setObj es₁ ep₁ t₁)) :=
  ⟨#[], ⟨f116, _, Str.ofString "/claim/cut.py", 518, 3, 0, true, 276, 0, f112, by kernel_rfl, rfl, by kernel_rfl, by kernel_rfl, by kernel_rfl, by kernel_rfl, by kernel_rfl, by kernel_rfl, rfl, trivial, by decide⟩,
    ⟨⟨f116, _, by kernel_rfl, rfl, rfl, by kernel_rfl⟩, by kernel_rfl⟩, .inl rfl⟩
end
theorem pb_end (w : World) (x : Nat → Obj) {es₂ : Array (Int × Value)} {ep₂ : Nat} {t₂ : SetTable} {es₁ : Array (Int × Value)} {ep₁ : Nat} {t₁ : SetTable} (F₂ : Fz w wsC 3 (setObj es₂ ep₂ t₂)) (F₁ : Fz w badC 32 (setObj es₁ ep₁ t₁)) :
    PB w (hH w.params x es₂ ep₂ t₂ es₁ ep₁ t₁) where
  nolim := h_nolim ..

  skip_chars := hg_skip_chars ..
  skip_until := hg_skip_until ..
  skip_comment := hg_skip_comment ..
  skip_cws := hg_skip_cws ..
  parse_lit := hg_parse_lit ..
  suffixed := hg_suffixed ..
  quotedata := hg_quotedata ..
  odd := hg_odd ..
  signs := hg_signs ..
  asked := hg_asked ..
  rows := hg_rows ..
  marks := hg_marks ..
  due := hg_due ..
  tomlerr := hg_tomlerr ..
  lit_chars := hg_lit_chars ..
  com_chars := hg_com_chars ..
  wsnl := hg_wsnl ..
  re1 := hg_re1 ..
  re2 := hg_re2 ..
  pat1 := h_pat1 ..
  pat2 := h_pat2 ..
  crlf := h_crlf ..
  b_len := hb_b_len ..
  b_sum := hb_b_sum ..
  b_chr := hb_b_chr ..
  b_repr := hb_b_repr ..
  b_range := hb_b_range ..
  b_str := hb_b_str ..
  b_ie := hb_b_ie ..
  b_ve := hb_b_ve ..
  f_skip_chars := hf_f_skip_chars ..
  f_skip_until := hf_f_skip_until ..
  f_skip_comment := hf_f_skip_comment ..
  f_skip_cws := hf_f_skip_cws ..
  f_parse_lit := hf_f_parse_lit ..
  f_quotedata := hf_f_quotedata ..
  f_odd := hf_f_odd ..
  f_signs := hf_f_signs ..
  f_asked := hf_f_asked ..
  f_rows := hf_f_rows ..
  f_marks := hf_f_marks ..
  f_due := hf_f_due ..
  f_law := hf_f_law ..
  f_suffixed := hf_suffixed ..
  cls := h_cls ..
  bmod := h_bmod ..
  bad := F₁.froz (get53 ..)
  ws := F₂.froz (get62 ..)
end Mine
end

noncomputable section -- NbOpen
open PySem PySem.W PyProof.Rows
set_option maxRecDepth 100000
namespace Mine

noncomputable def e1 (P : Params) : Obj := { cls := Value.type "dict", data := Data.dict #[{ hash := PyData.keyHash P (Str.ofString "builtins"), key := Value.str (Str.ofString "builtins") 162, val := Value.ref 4 }, { hash := PyData.keyHash P (Str.ofString "__main__"), key := Value.str (Str.ofString "__main__") 163, val := Value.ref 5 }, { hash := PyData.keyHash P (Str.ofString "_sre"), key := Value.str (Str.ofString "_sre") 244, val := Value.ref 12 }] 3 }
noncomputable def e5 (P : Params) : Obj := { cls := Value.type "module", dict := some 3 }
noncomputable def e6 (P : Params) : Obj := { cls := Value.type "dict", data := Data.dict #[] }
noncomputable def e7 (P : Params) : Obj := { cls := Value.type "tuple", data := Data.seq #[] }
noncomputable def e8 (P : Params) : Obj := { cls := Value.none, data := Data.fields #[] }
noncomputable def e9 (P : Params) : Obj := { cls := Value.type "code", data := Data.fields #[Value.str (Str.ofString "<module>") 176, Value.str (Str.ofString "<module>") 177, Value.str (Str.ofString "/claim/cut.py") 178, Value.int 1 0, Value.int 0 0, Value.int 0 0, Value.int 0 0, Value.int 0 0, Value.ref 7, Value.bool false, Value.int 175 0, Value.ref 8, Value.none, Value.none, Value.none, Value.none, Value.int 179 0, Value.int 1 0, Value.str (Str.ofString "/claim/cut.py") 180] }
noncomputable def e10 (P : Params) : Obj := { cls := Value.type "frame", slots := #[some (Value.ref 9), some (Value.ref 3), some (Value.ref 3), none, some (Value.str (Str.ofString "__main__") 164), none, some (Value.ref 0)] }
noncomputable def e13 (P : Params) : Obj := { cls := Value.type "dict", data := Data.dict #[{ hash := PyData.keyHash P (Str.ofString "__module__"), key := Value.str (Str.ofString "__module__") 189, val := Value.str (Str.ofString "_frozen_importlib") 186 }, { hash := PyData.keyHash P (Str.ofString "__firstlineno__"), key := Value.str (Str.ofString "__firstlineno__") 190, val := Value.int 971 187 }, { hash := PyData.keyHash P (Str.ofString "__doc__"), key := Value.str (Str.ofString "__doc__") 191, val := Value.builtin "_frozen_importlib.BuiltinImporter.__doc__:str#opaque" }, { hash := PyData.keyHash P (Str.ofString "_ORIGIN"), key := Value.str (Str.ofString "_ORIGIN") 192, val := Value.str (Str.ofString "built-in") 188 }, { hash := PyData.keyHash P (Str.ofString "find_spec"), key := Value.str (Str.ofString "find_spec") 193, val := Value.builtin "_frozen_importlib.BuiltinImporter.find_spec#opaque" }, { hash := PyData.keyHash P (Str.ofString "create_module"), key := Value.str (Str.ofString "create_module") 194, val := Value.builtin "_frozen_importlib.BuiltinImporter.create_module#opaque" }, { hash := PyData.keyHash P (Str.ofString "exec_module"), key := Value.str (Str.ofString "exec_module") 195, val := Value.builtin "_frozen_importlib.BuiltinImporter.exec_module#opaque" }, { hash := PyData.keyHash P (Str.ofString "get_code"), key := Value.str (Str.ofString "get_code") 196, val := Value.builtin "_frozen_importlib.BuiltinImporter.get_code#opaque" }, { hash := PyData.keyHash P (Str.ofString "get_source"), key := Value.str (Str.ofString "get_source") 197, val := Value.builtin "_frozen_importlib.BuiltinImporter.get_source#opaque" }, { hash := PyData.keyHash P (Str.ofString "is_package"), key := Value.str (Str.ofString "is_package") 198, val := Value.builtin "_frozen_importlib.BuiltinImporter.is_package#opaque" }, { hash := PyData.keyHash P (Str.ofString "load_module"), key := Value.str (Str.ofString "load_module") 199, val := Value.builtin "_frozen_importlib.BuiltinImporter.load_module#opaque" }, { hash := PyData.keyHash P (Str.ofString "__static_attributes__"), key := Value.str (Str.ofString "__static_attributes__") 200, val := Value.ref 15 }, { hash := PyData.keyHash P (Str.ofString "__dict__"), key := Value.str (Str.ofString "__dict__") 202, val := Value.ref 16 }, { hash := PyData.keyHash P (Str.ofString "__weakref__"), key := Value.str (Str.ofString "__weakref__") 204, val := Value.ref 17 }] 14 }
noncomputable def e14 (P : Params) : Obj := { cls := Value.type "type", data := Data.cls { name := Str.ofString "BuiltinImporter", bases := [Value.type "object"], mro := [Value.ref 14, Value.type "object"], ns := 13, qualname := Str.ofString "BuiltinImporter" } }
noncomputable def e15 (P : Params) : Obj := { cls := Value.type "tuple", data := Data.seq #[] }
noncomputable def e16 (P : Params) : Obj := { cls := Value.type "getset_descriptor", data := Data.fields #[Value.str (Str.ofString "__dict__") 201, Value.ref 14, Value.builtin "function.__dict__", Value.builtin "function.__dict__#set"] }
noncomputable def e17 (P : Params) : Obj := { cls := Value.type "getset_descriptor", data := Data.fields #[Value.str (Str.ofString "__weakref__") 203, Value.ref 14, Value.builtin "ExceptionGroup.__weakref__", Value.none] }
noncomputable def e18 (P : Params) : Obj := { cls := Value.none, data := Data.seq #[Value.int 13 0, Value.str { cps := #[6, 189, 10, 95, 95, 109, 111, 100, 117, 108, 101, 95, 95, 6, 186, 17, 95, 102, 114, 111, 122, 101, 110, 95, 105, 109, 112, 111, 114, 116, 108, 105, 98, 6, 190, 15, 95, 95, 102, 105, 114, 115, 116, 108, 105, 110, 101, 110, 111, 95, 95, 4, 187, 0, 971, 6, 191, 7, 95, 95, 100, 111, 99, 95, 95, 9, 52, 95, 102, 114, 111, 122, 101, 110, 95, 105, 109, 112, 111, 114, 116, 108, 105, 98, 46, 66, 117, 105, 108, 116, 105, 110, 73, 109, 112, 111, 114, 116, 101, 114, 46, 95, 95, 100, 111, 99, 95, 95, 58, 115, 116, 114, 35, 111, 112, 97, 113, 117, 101, 6, 192, 7, 95, 79, 82, 73, 71, 73, 78, 6, 188, 8, 98, 117, 105, 108, 116, 45, 105, 110, 6, 193, 9, 102, 105, 110, 100, 95, 115, 112, 101, 99, 9, 50, 95, 102, 114, 111, 122, 101, 110, 95, 105, 109, 112, 111, 114, 116, 108, 105, 98, 46, 66, 117, 105, 108, 116, 105, 110, 73, 109, 112, 111, 114, 116, 101, 114, 46, 102, 105, 110, 100, 95, 115, 112, 101, 99, 35, 111, 112, 97, 113, 117, 101, 6, 194, 13, 99, 114, 101, 97, 116, 101, 95, 109, 111, 100, 117, 108, 101, 9, 54, 95, 102, 114, 111, 122, 101, 110, 95, 105, 109, 112, 111, 114, 116, 108, 105, 98, 46, 66, 117, 105, 108, 116, 105, 110, 73, 109, 112, 111, 114, 116, 101, 114, 46, 99, 114, 101, 97, 116, 101, 95, 109, 111, 100, 117, 108, 101, 35, 111, 112, 97, 113, 117, 101, 6, 195, 11, 101, 120, 101, 99, 95, 109, 111, 100, 117, 108, 101, 9, 52, 95, 102, 114, 111, 122, 101, 110, 95, 105, 109, 112, 111, 114, 116, 108, 105, 98, 46, 66, 117, 105, 108, 116, 105, 110, 73, 109, 112, 111, 114, 116, 101, 114, 46, 101, 120, 101, 99, 95, 109, 111, 100, 117, 108, 101, 35, 111, 112, 97, 113, 117, 101, 6, 196, 8, 103, 101, 116, 95, 99, 111, 100, 101, 9, 49, 95, 102, 114, 111, 122, 101, 110, 95, 105, 109, 112, 111, 114, 116, 108, 105, 98, 46, 66, 117, 105, 108, 116, 105, 110, 73, 109, 112, 111, 114, 116, 101, 114, 46, 103, 101, 116, 95, 99, 111, 100, 101, 35, 111, 112, 97, 113, 117, 101, 6, 197, 10, 103, 101, 116, 95, 115, 111, 117, 114, 99, 101, 9, 51, 95, 102, 114, 111, 122, 101, 110, 95, 105, 109, 112, 111, 114, 116, 108, 105, 98, 46, 66, 117, 105, 108, 116, 105, 110, 73, 109, 112, 111, 114, 116, 101, 114, 46, 103, 101, 116, 95, 115, 111, 117, 114, 99, 101, 35, 111, 112, 97, 113, 117, 101, 6, 198, 10, 105, 115, 95, 112, 97, 99, 107, 97, 103, 101, 9, 51, 95, 102, 114, 111, 122, 101, 110, 95, 105, 109, 112, 111, 114, 116, 108, 105, 98, 46, 66, 117, 105, 108, 116, 105, 110, 73, 109, 112, 111, 114, 116, 101, 114, 46, 105, 115, 95, 112, 97, 99, 107, 97, 103, 101, 35, 111, 112, 97, 113, 117, 101, 6, 199, 11, 108, 111, 97, 100, 95, 109, 111, 100, 117, 108, 101, 9, 52, 95, 102, 114, 111, 122, 101, 110, 95, 105, 109, 112, 111, 114, 116, 108, 105, 98, 46, 66, 117, 105, 108, 116, 105, 110, 73, 109, 112, 111, 114, 116, 101, 114, 46, 108, 111, 97, 100, 95, 109, 111, 100, 117, 108, 101, 35, 111, 112, 97, 113, 117, 101, 6, 200, 21, 95, 95, 115, 116, 97, 116, 105, 99, 95, 97, 116, 116, 114, 105, 98, 117, 116, 101, 115, 95, 95, 4, 0, 0, 15, 6, 202, 8, 95, 95, 100, 105, 99, 116, 95, 95, 4, 0, 0, 16, 6, 204, 11, 95, 95, 119, 101, 97, 107, 114, 101, 102, 95, 95, 4, 0, 0, 17] } 0, Value.bool true, Value.bool true, Value.str { cps := #[] } 205, Value.int 21 0, Value.str { cps := #[6, 227, 10, 95, 95, 109, 111, 100, 117, 108, 101, 95, 95, 6, 217, 17, 95, 102, 114, 111, 122, 101, 110, 95, 105, 109, 112, 111, 114, 116, 108, 105, 98, 6, 228, 15, 95, 95, 102, 105, 114, 115, 116, 108, 105, 110, 101, 110, 111, 95, 95, 4, 218, 0, 562, 6, 229, 7, 95, 95, 100, 111, 99, 95, 95, 9, 47, 95, 102, 114, 111, 122, 101, 110, 95, 105, 109, 112, 111, 114, 116, 108, 105, 98, 46, 77, 111, 100, 117, 108, 101, 83, 112, 101, 99, 46, 95, 95, 100, 111, 99, 95, 95, 58, 115, 116, 114, 35, 111, 112, 97, 113, 117, 101, 6, 230, 8, 95, 95, 105, 110, 105, 116, 95, 95, 9, 44, 95, 102, 114, 111, 122, 101, 110, 95, 105, 109, 112, 111, 114, 116, 108, 105, 98, 46, 77, 111, 100, 117, 108, 101, 83, 112, 101, 99, 46, 95, 95, 105, 110, 105, 116, 95, 95, 35, 111, 112, 97, 113, 117, 101, 6, 231, 8, 95, 95, 114, 101, 112, 114, 95, 95, 9, 44, 95, 102, 114, 111, 122, 101, 110, 95, 105, 109, 112, 111, 114, 116, 108, 105, 98, 46, 77, 111, 100, 117, 108, 101, 83, 112, 101, 99, 46, 95, 95, 114, 101, 112, 114, 95, 95, 35, 111, 112, 97, 113, 117, 101, 6, 232, 6, 95, 95, 101, 113, 95, 95, 9, 42, 95, 102, 114, 111, 122, 101, 110, 95, 105, 109, 112, 111, 114, 116, 108, 105, 98, 46, 77, 111, 100, 117, 108, 101, 83, 112, 101, 99, 46, 95, 95, 101, 113, 95, 95, 35, 111, 112, 97, 113, 117, 101, 6, 233, 6, 99, 97, 99, 104, 101, 100, 9, 42, 95, 102, 114, 111, 122, 101, 110, 95, 105, 109, 112, 111, 114, 116, 108, 105, 98, 46, 77, 111, 100, 117, 108, 101, 83, 112, 101, 99, 46, 99, 97, 99, 104, 101, 100, 35, 111, 112, 97, 113, 117, 101, 6, 234, 6, 112, 97, 114, 101, 110, 116, 9, 42, 95, 102, 114, 111, 122, 101, 110, 95, 105, 109, 112, 111, 114, 116, 108, 105, 98, 46, 77, 111, 100, 117, 108, 101, 83, 112, 101, 99, 46, 112, 97, 114, 101, 110, 116, 35, 111, 112, 97, 113, 117, 101, 6, 235, 12, 104, 97, 115, 95, 108, 111, 99, 97, 116, 105, 111, 110, 9, 48, 95, 102, 114, 111, 122, 101, 110, 95, 105, 109, 112, 111, 114, 116, 108, 105, 98, 46, 77, 111, 100, 117, 108, 101, 83, 112, 101, 99, 46, 104, 97, 115, 95, 108, 111, 99, 97, 116, 105, 111, 110, 35, 111, 112, 97, 113, 117, 101, 6, 236, 21, 95, 95, 115, 116, 97, 116, 105, 99, 95, 97, 116, 116, 114, 105, 98, 117, 116, 101, 115, 95, 95, 4, 0, 0, 23, 6, 238, 8, 95, 95, 100, 105, 99, 116, 95, 95, 4, 0, 0, 24, 6, 240, 11, 95, 95, 119, 101, 97, 107, 114, 101, 102, 95, 95, 4, 0, 0, 25, 6, 241, 8, 95, 95, 104, 97, 115, 104, 95, 95, 0] } 0, Value.bool true, Value.bool true, Value.str { cps := #[] } 242] 1 }
noncomputable def e19 (P : Params) : Obj := { cls := Value.type "list", data := Data.seq #[] }
noncomputable def e20 (P : Params) : Obj := { cls := Value.type "dict", data := Data.dict #[{ hash := PyData.keyHash P (Str.ofString "name"), key := Value.str (Str.ofString "name") 208, val := Value.str (Str.ofString "_sre") 207 }, { hash := PyData.keyHash P (Str.ofString "loader"), key := Value.str (Str.ofString "loader") 209, val := Value.ref 14 }, { hash := PyData.keyHash P (Str.ofString "origin"), key := Value.str (Str.ofString "origin") 210, val := Value.str (Str.ofString "built-in") 184 }, { hash := PyData.keyHash P (Str.ofString "loader_state"), key := Value.str (Str.ofString "loader_state") 211, val := Value.none }, { hash := PyData.keyHash P (Str.ofString "submodule_search_locations"), key := Value.str (Str.ofString "submodule_search_locations") 212, val := Value.none }, { hash := PyData.keyHash P (Str.ofString "_uninitialized_submodules"), key := Value.str (Str.ofString "_uninitialized_submodules") 213, val := Value.ref 19 }, { hash := PyData.keyHash P (Str.ofString "_set_fileattr"), key := Value.str (Str.ofString "_set_fileattr") 214, val := Value.bool false }, { hash := PyData.keyHash P (Str.ofString "_cached"), key := Value.str (Str.ofString "_cached") 215, val := Value.none }, { hash := PyData.keyHash P (Str.ofString "_initializing"), key := Value.str (Str.ofString "_initializing") 243, val := Value.bool false }] 9 }
noncomputable def e21 (P : Params) : Obj := { cls := Value.type "dict", data := Data.dict #[{ hash := PyData.keyHash P (Str.ofString "__module__"), key := Value.str (Str.ofString "__module__") 227, val := Value.str (Str.ofString "_frozen_importlib") 217 }, { hash := PyData.keyHash P (Str.ofString "__firstlineno__"), key := Value.str (Str.ofString "__firstlineno__") 228, val := Value.int 562 218 }, { hash := PyData.keyHash P (Str.ofString "__doc__"), key := Value.str (Str.ofString "__doc__") 229, val := Value.builtin "_frozen_importlib.ModuleSpec.__doc__:str#opaque" }, { hash := PyData.keyHash P (Str.ofString "__init__"), key := Value.str (Str.ofString "__init__") 230, val := Value.builtin "_frozen_importlib.ModuleSpec.__init__#opaque" }, { hash := PyData.keyHash P (Str.ofString "__repr__"), key := Value.str (Str.ofString "__repr__") 231, val := Value.builtin "_frozen_importlib.ModuleSpec.__repr__#opaque" }, { hash := PyData.keyHash P (Str.ofString "__eq__"), key := Value.str (Str.ofString "__eq__") 232, val := Value.builtin "_frozen_importlib.ModuleSpec.__eq__#opaque" }, { hash := PyData.keyHash P (Str.ofString "cached"), key := Value.str (Str.ofString "cached") 233, val := Value.builtin "_frozen_importlib.ModuleSpec.cached#opaque" }, { hash := PyData.keyHash P (Str.ofString "parent"), key := Value.str (Str.ofString "parent") 234, val := Value.builtin "_frozen_importlib.ModuleSpec.parent#opaque" }, { hash := PyData.keyHash P (Str.ofString "has_location"), key := Value.str (Str.ofString "has_location") 235, val := Value.builtin "_frozen_importlib.ModuleSpec.has_location#opaque" }, { hash := PyData.keyHash P (Str.ofString "__static_attributes__"), key := Value.str (Str.ofString "__static_attributes__") 236, val := Value.ref 23 }, { hash := PyData.keyHash P (Str.ofString "__dict__"), key := Value.str (Str.ofString "__dict__") 238, val := Value.ref 24 }, { hash := PyData.keyHash P (Str.ofString "__weakref__"), key := Value.str (Str.ofString "__weakref__") 240, val := Value.ref 25 }, { hash := PyData.keyHash P (Str.ofString "__hash__"), key := Value.str (Str.ofString "__hash__") 241, val := Value.none }] 13 }
noncomputable def e22 (P : Params) : Obj := { cls := Value.type "type", data := Data.cls { name := Str.ofString "ModuleSpec", bases := [Value.type "object"], mro := [Value.ref 22, Value.type "object"], ns := 21, qualname := Str.ofString "ModuleSpec" } }
noncomputable def e23 (P : Params) : Obj := { cls := Value.type "tuple", data := Data.seq #[Value.str (Str.ofString "_cached") 219, Value.str (Str.ofString "_set_fileattr") 220, Value.str (Str.ofString "_uninitialized_submodules") 221, Value.str (Str.ofString "loader") 222, Value.str (Str.ofString "loader_state") 223, Value.str (Str.ofString "name") 224, Value.str (Str.ofString "origin") 225, Value.str (Str.ofString "submodule_search_locations") 226] }
noncomputable def e24 (P : Params) : Obj := { cls := Value.type "getset_descriptor", data := Data.fields #[Value.str (Str.ofString "__dict__") 237, Value.ref 22, Value.builtin "function.__dict__", Value.builtin "function.__dict__#set"] }
noncomputable def e25 (P : Params) : Obj := { cls := Value.type "getset_descriptor", data := Data.fields #[Value.str (Str.ofString "__weakref__") 239, Value.ref 22, Value.builtin "ExceptionGroup.__weakref__", Value.none] }
noncomputable def e26 (P : Params) : Obj := { cls := Value.ref 22, dict := some 20 }
noncomputable def e27 (P : Params) : Obj := { cls := Value.none, data := Data.seq #[Value.int 11 0, Value.str { cps := #[6, 247, 8, 95, 95, 110, 97, 109, 101, 95, 95, 6, 246, 4, 95, 115, 114, 101, 6, 248, 7, 95, 95, 100, 111, 99, 95, 95, 0, 6, 250, 11, 95, 95, 112, 97, 99, 107, 97, 103, 101, 95, 95, 6, 249, 0, 6, 251, 10, 95, 95, 108, 111, 97, 100, 101, 114, 95, 95, 4, 0, 0, 14, 6, 252, 8, 95, 95, 115, 112, 101, 99, 95, 95, 4, 0, 0, 26, 6, 253, 7, 99, 111, 109, 112, 105, 108, 101, 9, 12, 95, 115, 114, 101, 46, 99, 111, 109, 112, 105, 108, 101, 6, 254, 8, 116, 101, 109, 112, 108, 97, 116, 101, 9, 13, 95, 115, 114, 101, 46, 116, 101, 109, 112, 108, 97, 116, 101, 6, 255, 11, 103, 101, 116, 99, 111, 100, 101, 115, 105, 122, 101, 9, 16, 95, 115, 114, 101, 46, 103, 101, 116, 99, 111, 100, 101, 115, 105, 122, 101, 6, 256, 13, 97, 115, 99, 105, 105, 95, 105, 115, 99, 97, 115, 101, 100, 9, 18, 95, 115, 114, 101, 46, 97, 115, 99, 105, 105, 95, 105, 115, 99, 97, 115, 101, 100, 6, 257, 15, 117, 110, 105, 99, 111, 100, 101, 95, 105, 115, 99, 97, 115, 101, 100, 9, 20, 95, 115, 114, 101, 46, 117, 110, 105, 99, 111, 100, 101, 95, 105, 115, 99, 97, 115, 101, 100, 6, 258, 13, 97, 115, 99, 105, 105, 95, 116, 111, 108, 111, 119, 101, 114, 9, 18, 95, 115, 114, 101, 46, 97, 115, 99, 105, 105, 95, 116, 111, 108, 111, 119, 101, 114, 6, 259, 15, 117, 110, 105, 99, 111, 100, 101, 95, 116, 111, 108, 111, 119, 101, 114, 9, 20, 95, 115, 114, 101, 46, 117, 110, 105, 99, 111, 100, 101, 95, 116, 111, 108, 111, 119, 101, 114, 6, 261, 5, 77, 65, 71, 73, 67, 4, 260, 0, 20230612, 6, 263, 8, 67, 79, 68, 69, 83, 73, 90, 69, 4, 262, 0, 4, 6, 265, 9, 77, 65, 88, 82, 69, 80, 69, 65, 84, 4, 264, 0, 4294967295, 6, 267, 9, 77, 65, 88, 71, 82, 79, 85, 80, 83, 4, 266, 0, 1073741823, 6, 269, 9, 99, 111, 112, 121, 114, 105, 103, 104, 116, 6, 268, 53, 32, 83, 82, 69, 32, 50, 46, 50, 46, 50, 32, 67, 111, 112, 121, 114, 105, 103, 104, 116, 32, 40, 99, 41, 32, 49, 57, 57, 55, 45, 50, 48, 48, 50, 32, 98, 121, 32, 83, 101, 99, 114, 101, 116, 32, 76, 97, 98, 115, 32, 65, 66, 32] } 0, Value.bool true, Value.bool false, Value.str (Str.ofString "_sre") 271] }
noncomputable def xI (P : Params) : Nat → Obj := patch (fun _ => default) [(1, e1 P), (5, e5 P), (6, e6 P), (7, e7 P), (8, e8 P), (9, e9 P), (10, e10 P), (13, e13 P), (14, e14 P), (15, e15 P), (16, e16 P), (17, e17 P), (18, e18 P), (19, e19 P), (20, e20 P), (21, e21 P), (22, e22 P), (23, e23 P), (24, e24 P), (25, e25 P), (26, e26 P), (27, e27 P)]
noncomputable def iImp (p : Program) (w : World) : Nat → Shared → Thread → Option Shared
  | 0, _, _ => none
  | n + 1, s, t => match t.atExitBegin with
    | some [] => some s
    | some (_ :: _) => none
    | none => match stepQ (denQ tabQ) p w s t with
      | .go s' t' => iImp p w n s' t'
      | .halt _ _ => none
theorem step_q (d : Code → Sem PySem.Fin) (p : Program) (w : World) (s : Shared) (th : Thread) : stepQ d p w s th = step d p w s th := by
  show PySem.W.Fast.tw8437177126325714943 d p w s th = _
  rw [← PySem.W.Fast.te8437177126325714943]
theorem iImp_eq (p : Program) (w : World) : ∀ (n : Nat) (s : Shared) (t : Thread), iImp p w n s t = importEnds table p w n s t
  | 0, _, _ => rfl
  | n + 1, s, t => by
    unfold iImp importEnds
    rw [step_q, den_eq]
    split <;> rename_i h <;> rw [h]
    split <;> rename_i h' <;> rw [h']
    exact iImp_eq p w n _ _
noncomputable def osI : OsState := (start (opening prg)).1.os
theorem open_run (w : World) : (iImp (opening prg) w 900 (start (opening prg)).1 (start (opening prg)).2).bind (fenceModules? prg) = some (sS w osI (xI w.params)) := by kernel_rfl
theorem open_eq (w : World) : (importEnds table (opening prg) w 900 (start (opening prg)).1 (start (opening prg)).2).bind (fenceModules? prg) = some (sS w osI (xI w.params)) := by
  rw [← iImp_eq]; exact open_run w
end Mine
end

noncomputable section -- NbEnd2
open PySem PySem.W PyProof.Rows
set_option maxRecDepth 100000
namespace Mine

theorem step_through {w : World} {s : Shared} {th : Thread} (h : through th = true) (hG : leftWithCleanup s.gens = false) : ∃ f, (model prg w).step s th = .halt (.done f) s := by
  obtain ⟨cur, code, pos, stack⟩ := th
  unfold through at h
  obtain ⟨h1, h2⟩ := Bool.and_eq_true_iff.mp h
  have hs : stack = [] := List.isEmpty_iff.mp h1
  subst hs
  cases cur with
  | pure f =>
    cases f with
    | done f =>
      refine ⟨f, ?_⟩
      rw [Model.step_quiet _ (by rfl)]
      obtain ⟨heap, gens, drawn, toks, os⟩ := s
      show finish (.done f) ⟨heap, gens, drawn, toks, os⟩ = _
      unfold finish
      rw [hG]; rfl
    | again c => cases h2
  | _ => cases h2

theorem runNK_of {w : World} : ∀ {n : Nat} {s s' : Shared} {t t' : Thread}, (model prg w).runN n s t = .running s' t' → runNK (denote table) prg w n s t = .running s' t'
  | 0, s, s', t, t', h => h
  | n + 1, s, s', t, t', h => by
    rw [runN_succ] at h
    cases hl : t.loud with
    | true =>
      have e : (model prg w).step s t = .halt (.stuck "proof:not-calm") s := stepI_loud _ _ _ hl
      rw [e] at h; cases h
    | false =>
      rw [Model.step_quiet _ hl] at h
      unfold runNK
      split at h
      · rename_i s₁ t₁ hs
        have hs : stepK (denote table) prg w s t = .go s₁ t₁ := hs
        rw [hs]
        exact runNK_of h
      · cases h

theorem ran_of_comes {w : World} {s s' : Shared} {t th : Thread} (hz : s.asleep) (h : PySem.Comes (model prg w) s t s' th) (ht : through th = true) (hg : s'.NoSusp) (hG : leftWithCleanup s'.gens = false) :
    ∃ n t', schedN (denote table) prg w n (.single s t) = .running (.single s' t') ∧ through t' = true := by
  obtain ⟨n, hn⟩ := h
  obtain ⟨f, hf⟩ := step_through (w := w) (s := s') ht hG
  have h1 : (model prg w).runN (n + 1) s t = .halted (.done f) s' := by rw [runN_snoc hn, hf]
  obtain ⟨s'', hr, hfo, hc⟩ := runNI_real _ _ _ h1 rfl
  have hne : ∀ k s₂, runN (denote table) prg w k s t ≠ .halted (.unsupported "lifetime:generator-with-cleanup-left-suspended") s₂ := by
    intro k s₂ hk
    have a := runN_mono (denote table) prg w (n + 1) k s t _ s'' hr
    have b := runN_mono (denote table) prg w k (n + 1) s t _ s₂ hk
    rw [Nat.add_comm, b] at a
    cases a
  have hk := runNK_of hn
  have e := runNK_same (denote table) prg w n (s₁ := s) (s₂ := s) (t₁ := t) (t₂ := t) rfl rfl
  rw [hk] at e
  cases hq : runN (denote table) prg w n s t with
  | halted o s₂ => rw [hq] at e; cases e
  | running s₂ t₂ =>
    rw [hq] at e
    simp only [Run.forget] at e
    injection e with e1 e2
    obtain rfl : s₂ = s' := Shared.eq_of_forget_eq' e1.symm hg
    refine ⟨n, t₂, ?_, ?_⟩
    · rw [schedN_eq_runN (denote table) prg w s t hz ⟨hc, hne⟩ n, hq]; rfl
    · obtain ⟨cur, code, pos, stack⟩ := th
      obtain ⟨cur₂, code₂, pos₂, stack₂⟩ := t₂
      simp only [Thread.forget, Thread.mk.injEq] at e2
      obtain ⟨rfl, rfl, rfl, e2⟩ := e2
      unfold through at ht ⊢
      obtain ⟨h1, h2⟩ := Bool.and_eq_true_iff.mp ht
      have hs : stack = [] := List.isEmpty_iff.mp h1
      subst hs
      have : stack₂ = [] := by
        cases stack₂ with
        | nil => rfl
        | cons a l => cases e2
      subst this
      exact ht
end Mine
end

noncomputable section -- NbEnd3
open PySem PySem.W PyProof.Rows
set_option maxRecDepth 100000
namespace Mine

noncomputable def mix (P : Params) (x : Nat → Obj) (i : Nat) : Obj := bif Nat.blt i 28 then xI P i else x i
theorem mix_eq {P : Params} {x : Nat → Obj} (h : Same (xI P) x) (W V : Obj) : ∀ i, i < 63 → patch x (baseF P W V) i = patch (mix P x) (baseF P W V) i := fun i hi => by
  by_cases h28 : i < 28
  · cases hc : ([0, 2, 3, 4, 11, 12] : List Nat).contains i with
    | false =>
      have hb : Nat.blt i 28 = true := Nat.ble_eq.mpr h28
      have e : mix P x i = x i := by unfold mix; rw [hb]; exact (h i h28 hc).symm
      unfold patch
      rw [e]
    | true =>
      have hm := List.contains_iff_mem.mp hc
      simp only [List.mem_cons, List.not_mem_nil, or_false] at hm
      rcases hm with q | q | q | q | q | q <;> subst q <;> rfl
  · have hb : Nat.blt i 28 = false := by
      cases hq : Nat.blt i 28 with
      | false => rfl
      | true => exact absurd (Nat.ble_eq.mp hq) h28
    have e : mix P x i = x i := by unfold mix; rw [hb]; rfl
    unfold patch
    rw [e]
theorem hF_mix {P : Params} {x : Nat → Obj} (h : Same (xI P) x) (W V : Obj) : hF P x W V = hF P (mix P x) W V := by
  unfold hF
  rw [List.map_congr_left fun i hi => mix_eq h W V i (List.mem_range.mp hi)]

theorem gf_clean : leftWithCleanup GF = false := by kernel_rfl
section
variable (w : World) (x : Nat → Obj) (es₂ : Array (Int × Value)) (ep₂ : Nat) (t₂ : SetTable) (es₁ : Array (Int × Value)) (ep₁ : Nat) (t₁ : SetTable)
noncomputable def hE : Heap := hF w.params (mix w.params x) (setObj es₂ ep₂ t₂) (setObj es₁ ep₁ t₁)
noncomputable def hS (w : World) : Heap := (sS w osI (xI w.params)).heap
theorem eNsM : (hE w x es₂ ep₂ t₂ es₁ ep₁ t₁).isNs mainGlobals = true := by kernel_rfl
theorem eNsB : (hE w x es₂ ep₂ t₂ es₁ ep₁ t₁).isNs builtinsNs = true := by kernel_rfl
theorem sNsM : (hS w).isNs mainGlobals = true := by kernel_rfl
theorem e_old : ((List.range 28).filter fun b => !(b == 2) && !(b == 3)).map (fun b => (hE w x es₂ ep₂ t₂ es₁ ep₁ t₁).get? b) = ((List.range 28).filter fun b => !(b == 2) && !(b == 3)).map (fun b => (hS w).get? b) := by kernel_rfl
theorem e_acc : (hE w x es₂ ep₂ t₂ es₁ ep₁ t₁).accountedOkI (importedModules prg.main.body) = true := by kernel_rfl
theorem e_stat : staticsOk (importedModules prg.main.body) (hS w) (hE w x es₂ ep₂ t₂ es₁ ep₁ t₁) = true := by kernel_rfl
theorem e_blt : (hE w x es₂ ep₂ t₂ es₁ ep₁ t₁).bltView = bltViewBooted := by kernel_rfl
theorem e_bmain : (hE w x es₂ ep₂ t₂ es₁ ep₁ t₁).bmainOk = true := by kernel_rfl
theorem e_bound : namesBound prg (hE w x es₂ ep₂ t₂ es₁ ep₁ t₁) = true := by kernel_rfl
theorem e_laid : laidKept (hS w) (hE w x es₂ ep₂ t₂ es₁ ep₁ t₁) = true := by kernel_rfl
theorem sE_size : (hS w).objs.size = 28 := by kernel_rfl

theorem e_get {b : Addr} {o : Obj} (h : (hS w).get? b = some o) (h2 : b ≠ 2) (h3 : b ≠ 3) : (hE w x es₂ ep₂ t₂ es₁ ep₁ t₁).get? b = some o := by
  have hb : b < 28 := by have := Heap.lt_size h; rwa [sE_size] at this
  have hm : b ∈ (List.range 28).filter fun b => !(b == 2) && !(b == 3) := by
    rw [List.mem_filter]
    refine ⟨List.mem_range.mpr hb, ?_⟩
    simp [h2, h3]
  exact (List.map_inj_left.mp (e_old w x es₂ ep₂ t₂ es₁ ep₁ t₁) b hm).trans h

noncomputable def sE (w : World) (x : Nat → Obj) (W V : Obj) : Shared := ⟨hF w.params (mix w.params x) W V, GF, dr0, 645, osI⟩
theorem top_ran {th : Thread} (hth : through th = true) (hc : PySem.Comes (model prg w) (sS w osI (xI w.params)) (topStub prg) (sE w x (setObj es₂ ep₂ t₂) (setObj es₁ ep₁ t₁)) th) :
    TopRan prg w (sS w osI (xI w.params)) (sE w x (setObj es₂ ep₂ t₂) (setObj es₁ ep₁ t₁)) := by
  have hgs : (sE w x (setObj es₂ ep₂ t₂) (setObj es₁ ep₁ t₁)).gens = GF := rfl
  refine ⟨ran_of_comes ⟨rfl, rfl⟩ hc hth (fun g hg => ?_) (by rw [hgs]; exact gf_clean), rfl, Shared.rest_eq rfl, fun b o hb hn => ?_, Heap.accountedI_of_ok (e_acc w x es₂ ep₂ t₂ es₁ ep₁ t₁), statics_of_ok (e_stat w x es₂ ep₂ t₂ es₁ ep₁ t₁),
    Pin.keysAreStrs_of (eNsM w x es₂ ep₂ t₂ es₁ ep₁ t₁), fun n hn => (Pin.builtinOf_eq (eNsB w x es₂ ep₂ t₂ es₁ ep₁ t₁) n).trans (Heap.of_bltView (eNsB w x es₂ ep₂ t₂ es₁ ep₁ t₁) (e_blt w x es₂ ep₂ t₂ es₁ ep₁ t₁) n hn), ?_,
    fun g hg => ?_, names_of_bound (e_bound w x es₂ ep₂ t₂ es₁ ep₁ t₁), laid_of_kept (e_laid w x es₂ ep₂ t₂ es₁ ep₁ t₁)⟩
  · rw [hgs] at hg
    have : g = .finished := by simpa [GF] using hg
    subst this; rfl
  · exact e_get w x es₂ ep₂ t₂ es₁ ep₁ t₁ hb (fun q => hn (.inr (.inl q))) (fun q => hn (.inl q))
  · obtain ⟨bm, ob, a, _, c, d, f, _⟩ := Heap.bmainOk_spec (e_bmain w x es₂ ep₂ t₂ es₁ ep₁ t₁)
    exact ⟨bm, ob, (Pin.globalOf_eq (eNsM w x es₂ ep₂ t₂ es₁ ep₁ t₁) _).trans a, c, d, f⟩
  · rw [hgs] at hg
    have : g = .finished := by simpa [GF] using hg
    subst this; trivial
end
end Mine
end

noncomputable section -- NbEnd4
open PySem PySem.W PyProof.Rows
set_option maxRecDepth 100000
namespace Mine

/-! ## what is handed in -/
theorem has_int {y : WData} (h : WShape.has [] y .int = true) : ∃ n, y = .int n := by
  cases y <;> first | exact ⟨_, rfl⟩ | exact Bool.noConfusion (show false = true from h)
theorem has_list {y : WData} (h : WShape.has [] y (.list .int) = true) : ∃ ys, y = .list ys ∧ WShape.hasItems [] ys .int = true := by
  cases y
  case list xs =>
    have h : (WShape.hasItems [] xs .int || false) = true := h
    rw [Bool.or_false] at h
    exact ⟨xs, rfl, h⟩
  all_goals exact Bool.noConfusion (show false = true from h)
theorem items_ints : ∀ {ys : List WData}, WShape.hasItems [] ys .int = true → ∃ ns : List Int, ys = ns.map WData.int
  | [], _ => ⟨[], rfl⟩
  | y :: ys, h => by
    obtain ⟨h1, h2⟩ := Bool.and_eq_true_iff.mp (show (WShape.has [] y .int && WShape.hasItems [] ys .int) = true from h)
    obtain ⟨ns, e⟩ := items_ints h2
    obtain ⟨n, rfl⟩ := has_int h1
    exact ⟨n :: ns, by rw [e]; rfl⟩
theorem args_inv : ∀ {args : List WData}, WShape.hasAll [] args [.list .int] = true → ∃ ns : List Int, args = [.list (ns.map WData.int)]
  | [], h => Bool.noConfusion (show false = true from h)
  | [d], h => by
    obtain ⟨h1, h2⟩ := Bool.and_eq_true_iff.mp (show (WShape.has [] d (.list .int) && true) = true from h)
    obtain ⟨ys, rfl, h3⟩ := has_list h1
    obtain ⟨ns, rfl⟩ := items_ints h3
    exact ⟨ns, rfl⟩
  | d :: e :: r, h => by
    obtain ⟨_, h2⟩ := Bool.and_eq_true_iff.mp (show (WShape.has [] d (.list .int) && false) = true from h)
    cases h2
theorem ints_of_reads {cl : Str → Option Addr} {h : Heap} : ∀ {ns : List Int} {vs : List Value} {as : List Addr}, ReadsAllW [] cl h vs (ns.map WData.int) as → IntsAre vs ns
  | [], _, _, x => by cases x; exact .nil
  | n :: ns, _, _, x => by
    cases x with
    | cons a b =>
      cases a with
      | int i t => exact .cons _ _ (ints_of_reads b)
theorem list_of_reads {cl : Str → Option Addr} {h : Heap} {ns : List Int} {vals : List Value} {as : List Addr} (x : ReadsAllW [] cl h vals [.list (ns.map WData.int)] as) :
    ∃ l vs, vals = [.ref l] ∧ h.IsList l vs.toArray ∧ IntsAre vs ns := by
  cases x with
  | cons a b =>
    cases b with
    | nil =>
      cases a with
      | list h1 h2 h3 h4 =>
        rename_i l o vs n as
        exact ⟨l, vs.toList, rfl, ⟨o, h1, h2, n, by simpa using h3⟩, ints_of_reads h4⟩

noncomputable abbrev rwL : OpenLaw := PySem.Challenge.rw_nb0099_01
theorem pre_len {ys : List WData} (h : WTm.holds [] rwL.row.pre { args := [.list ys] } = true) : ys.length ≤ 63 := by
  have e : WTm.value [] rwL.row.pre { args := [.list ys] } = (match (some (.bool (!decide ((63 : Int) < ys.length))) : Option WData) with
      | some (.bool false) => some (.bool false)
      | some (.bool true) => some (.bool true)
      | _ => none) := by rfl
  unfold WTm.holds at h
  rw [e] at h
  by_cases hq : (63 : Int) < ys.length
  · simp [hq] at h
  · omega

/-! ## the code table grows -/
theorem as_it_was {h h' : Heap} (e : Eff [] h h') (p' : Pool h') {c : Addr} {oc : Obj} {vs : Array Value} (hc : h.get? c = some oc) (h1 : oc.cls = .type "code") (h2 : oc.data = .fields vs) (h3 : vs[11]? = some (.ref poolA))
    (hp : h.get? poolA = some { cls := .none, data := .fields #[] }) {b : Addr} {o : Obj} (hb : h.get? b = some o) : asItWas h h' b o := by
  by_cases hq : b = poolA
  · subst hq
    rw [hp] at hb
    injection hb with hb
    subst hb
    obtain ⟨ps, _, ⟨_, g⟩, _⟩ := p'
    exact .inr (.inl ⟨⟨c, oc, vs, hc, h1, h2, h3⟩, rfl, #[], ps, rfl, by rw [g]; simp⟩)
  · exact .inl (e.get (by simpa [lsOf] using hq) hb)
end Mine
end

noncomputable section -- NbEnd5
open PySem PySem.W PyProof.Rows
set_option maxRecDepth 100000
namespace Mine

theorem bs_mono {h h' : Heap} (k : ∀ b o, h.get? b = some o → h'.get? b = some o) : (bs h []).StaysIn (bs h' []) := fun b o e => let ⟨a, c⟩ := hide_some e; hide_of a (k b o c)

theorem post_true (a : List WData) : rwL.row.toRowW.claim.post a (.bool true) a = true := by kernel_rfl
section
variable (w : World) (x : Nat → Obj) (es₂ : Array (Int × Value)) (ep₂ : Nat) (t₂ : SetTable) (es₁ : Array (Int × Value)) (ep₁ : Nat) (t₁ : SetTable)
theorem e_code : (hE w x es₂ ep₂ t₂ es₁ ep₁ t₁).get? 116 = some f116 := by kernel_rfl
theorem e_pool : (hE w x es₂ ep₂ t₂ es₁ ep₁ t₁).get? 112 = some { cls := .none, data := .fields #[] } := by kernel_rfl
theorem e_law : (hE w x es₂ ep₂ t₂ es₁ ep₁ t₁).nsMap mainGlobals "law" = some (.ref 175) := by kernel_rfl
theorem e_fn : (hE w x es₂ ep₂ t₂ es₁ ep₁ t₁).get? 175 = some (defFn 27 (.str (Str.ofString "law_nb0099_01") 589) (.ref 174)) := by kernel_rfl
theorem the_law : prg.theDef "law" = some (prmOfS (stAt 27), bdyOfS (stAt 27), scpOfS (stAt 27)) := by kernel_rfl
theorem law_name : nameOfS (stAt 27) = "law" := by kernel_rfl
theorem law_dflt : (prmOfS (stAt 27)).defaults = [] := by kernel_rfl
theorem law_kw : kwWritten? (prmOfS (stAt 27)).kwonlyargs (prmOfS (stAt 27)).kw_defaults = some [] := by kernel_rfl

theorem law_stands : isTheDefsW prg (sE w x (setObj es₂ ep₂ t₂) (setObj es₁ ep₁ t₁)).heap "law" :=
  ⟨175, _, _, _, _, _, (Pin.globalOf_eq (eNsM w x es₂ ep₂ t₂ es₁ ep₁ t₁) _).trans (e_law w x es₂ ep₂ t₂ es₁ ep₁ t₁), e_fn w x es₂ ep₂ t₂ es₁ ep₁ t₁, rfl, the_law, law_name, law_name, rfl, rfl, rfl, rfl, rfl, rfl,
    .inl ⟨law_dflt, rfl⟩, [], law_kw, .inl ⟨rfl, rfl⟩⟩

theorem call_law (F₂ : Fz w wsC 3 (setObj es₂ ep₂ t₂)) (F₁ : Fz w badC 32 (setObj es₁ ep₁ t₁)) (free : Addr → Prop) (gens : Prop) (kept : Heap → Prop) (hkept : ∀ h, kept h) :
    rwL.row.toRowW.claim.CallFrom (callStub rwL.row.name) w free gens kept (sE w x (setObj es₂ ep₂ t₂) (setObj es₁ ep₁ t₁)) := by
  refine ClaimW.callFrom_of_specN (c := rwL.row.toRowW.claim) (tree := fun vs => do match ← nsGet mainNs rwL.row.name with
      | some f => do ret (← PySem.call f vs)
      | none => unsupported "claim.caller:no-such-global") ⟨rfl, rfl⟩ gf_clean fun args hpre hlay ord hord => ?_
  obtain ⟨hp1, hp2⟩ := pre_splitW (r := rwL.row.toRowW) hpre
  obtain ⟨ns, rfl⟩ := args_inv hp1
  obtain ⟨⟨vs, s₁⟩, hlaid⟩ := Option.isSome_iff_exists.mp (layAllW_isSome (R := []) (cl := classAt (sE w x (setObj es₂ ep₂ t₂) (setObj es₁ ep₁ t₁)).heap) (P := w.params) (ord := ord) (fun c hc => by cases hc) _ _ (sE w x (setObj es₂ ep₂ t₂) (setObj es₁ ep₁ t₁)) hp1)
  have keeps := layAllW_keeps _ _ _ hlaid
  have hal := layAllW_rest _ _ _ hlaid
  obtain ⟨as, hrd, hin, hold⟩ := reads_layAllW hord _ _ _ hlaid hlay s₁.heap (fun _ _ e => e)
  obtain ⟨l, us, hvs, hl, hi⟩ := list_of_reads hrd
  have hvs : vs = [.ref l] := hvs
  subst hvs
  have hlen : us.length ≤ 1000 := by
    have := pre_len hp2
    rw [List.length_map] at this
    rw [hi.length]; omega
  have keeps : ∀ b o, (hE w x es₂ ep₂ t₂ es₁ ep₁ t₁).get? b = some o → s₁.heap.get? b = some o := keeps
  have ok : Ok w callerA 0 [] s₁.heap :=
    { fa := rfl, dep := by decide, uni := by decide, ff := trivial
      pb := (pb_end w (mix w.params x) F₂ F₁).mono (bs_mono keeps)
      pl := (h_pool w.params (mix w.params x) es₂ ep₂ t₂ es₁ ep₁ t₁).keeps keeps }
  have hns : s₁.heap.Ns mainGlobals ((hE w x es₂ ep₂ t₂ es₁ ep₁ t₁).nsMap mainGlobals) := (Heap.Ns.of_isNs (eNsM w x es₂ ep₂ t₂ es₁ ep₁ t₁)).keeps keeps
  refine ⟨_, s₁, hlaid, wpAny_bind (wpAny_nsGet (s := { s₁ with gens := #[] }) hns ?_)⟩
  have hf : (hE w x es₂ ep₂ t₂ es₁ ep₁ t₁).nsMap mainGlobals rwL.row.name = some (.ref 175) := e_law w x es₂ ep₂ t₂ es₁ ep₁ t₁
  rw [hf]
  refine wpAny_bind (law_spec (s := { s₁ with gens := #[] }) ok (by decide) rfl hl hi hlen fun h' tk' e p' => ?_)
  have was : ∀ b o, s₁.heap.get? b = some o → asItWas s₁.heap h' b o := fun b o hb =>
    as_it_was e p' (keeps _ _ (e_code w x es₂ ep₂ t₂ es₁ ep₁ t₁)) rfl rfl (by rfl) (keeps _ _ (e_pool w x es₂ ep₂ t₂ es₁ ep₁ t₁)) hb
  refine wpAny_pure ⟨_, rfl, .inl ⟨.bool true, rfl, fun _ => rfl, ⟨.bool true, _, [], as, .bool true, hrd.keepsK fun b o hb hc => ?_, post_true _, fun _ => ⟨List.nodup_nil, nofun, nofun⟩, fun _ _ => ident_freeW (r := rwL.row.toRowW) rfl rfl rfl _ _⟩,
    (fun i hi => by cases hi), fun b o hb _ _ => was b o hb, fun i hi => by cases hi⟩, hal.2.2.1, rfl, hkept _⟩
  rcases was b o hb with q | ⟨_, q, _⟩ | ⟨_, q, _⟩
  · exact q
  · exact absurd q hc
  · exact absurd q hc
end
end Mine
end

noncomputable section -- NbEnd6
open PySem PySem.W PyProof.Rows
set_option maxRecDepth 100000
namespace Mine
theorem prg_bare : prg.bare := ⟨rfl, rfl, rfl, rfl, rfl, by kernel_rfl⟩
theorem prg_opens : opensWell prg = true := by kernel_rfl
theorem row_promised : rwL.row.toRowW.promised := ⟨[.list [.int 3]], by decide +kernel, by decide +kernel⟩
theorem row_holds (said : rwL.row.wellSaid = true) : rwL.row.Holds := by
  refine ⟨said, row_promised, ⟨prg_bare, prg_opens, rfl⟩, row_promised.witness, fun w => ?_⟩
  obtain ⟨s, h4, h5⟩ := Option.bind_eq_some_iff.mp (open_eq w)
  have A : AfterImport (opening prg) w s := AfterImport.of_importEnds h4
  refine ⟨⟨s, A⟩, fun s' hs' => ?_⟩
  obtain rfl : s' = s := AfterImport.unique hs' A
  obtain ⟨x', th, es₂, ep₂, t₂, es₁, ep₁, t₁, F₂, F₁, S, hth, hc⟩ := top_comes w osI (xI w.params)
  have hc' : PySem.Comes (model prg w) (sS w osI (xI w.params)) (topStub prg) (sE w x' (setObj es₂ ep₂ t₂) (setObj es₁ ep₁ t₁)) th := by
    unfold stF at hc
    rw [hF_mix S] at hc
    exact hc
  refine ⟨_, h5, rfl, sE w x' (setObj es₂ ep₂ t₂) (setObj es₁ ep₁ t₁), top_ran w x' es₂ ep₂ t₂ es₁ ep₁ t₁ hth hc', fun n hn => ?_, nofun, nofun,
    call_law w x' es₂ ep₂ t₂ es₁ ep₁ t₁ F₂ F₁ _ _ _ fun h q => by cases q⟩
  have hn' : rwL.row.pinned = true ∧ n = rwL.row.name := by simpa using hn
  obtain ⟨_, rfl⟩ := hn'
  exact law_stands w x' es₂ ep₂ t₂ es₁ ep₁ t₁
theorem look_sre : sreFenced prg.main = true := by kernel_rfl
theorem look_names : namesResolve prg = true := by kernel_rfl
theorem look_attrs : namesMeet prg prg.main.body (fun _ n => attrL n) = true := by kernel_rfl
theorem look_roads : noRoadLSs { strict := !(importedModules prg.main.body).all cThrough.contains, foot := none, bare := (["vars", "dir", "locals"] : List Str).filter (readsOut prg prg.main.body) } prg.main.body = true := by kernel_rfl
theorem looks : looksOpen prg = true := by
  unfold looksOpen
  refine look_both (look_both (look_both (look_both (look_both look_sre ?_) look_names) ?_) look_roads) look_attrs
  · kernel_rfl
  · kernel_rfl
theorem law_said : rwL.wellSaid = true := by
  unfold OpenLaw.wellSaid
  iterate 18 (refine look_both ?_ ?_; rotate_left; (kernel_rfl))
  unfold OpenRow.wellSaid
  iterate 2 (refine look_both ?_ ?_; rotate_left; (kernel_rfl))
  unfold OpenRow.partSaid
  iterate 13 (refine look_both ?_ ?_; rotate_left; (kernel_rfl))
  exact looks
end Mine
end

theorem PySem.Challenge.cw_nb0099_01_holds : PySem.Challenge.rw_nb0099_01.Holds :=
  PySem.W.holds_law Mine.law_said Mine.row_holds
#print axioms PySem.Challenge.cw_nb0099_01_holds
