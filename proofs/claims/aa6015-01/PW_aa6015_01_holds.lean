import PyProof.Rows.All
import Wide.All
import OpenK.AllK
import Wide.FinOn
import PySem.Challenge.RW_aa6015_01
open PySem PySem.W PySem.Calls PyProof.Rows
set_option Elab.async false
set_option linter.unusedVariables false
namespace Mine
set_option maxRecDepth 100000 in
set_option maxHeartbeats 8000000 in
open_top hd for PySem.Challenge.rw_aa6015_01
abbrev Led := List (Addr × Obj)
/-- a def of the text called from a frame: what the ledger must bear, what comes back -/
def CallR (w : World) (f : Addr) (args : List Value) (d : Nat) (Pre : Led → Prop) (Post : Led → Value → Led → Prop) : Prop :=
  ∀ (mean : ExcName → Option Value) (mg mb : Str → Option Value) (dp un : Nat) (gd : Option (List Code)) (cn : Str) (cs : Scope) (a : Addr) (ccd : Value) (cl : List (Str × Addr)) (outer : List Env) (A₀ : Around) (base h₀ : Heap) (L : Addr) (m : Str → Option Value) (news : Led) (s : Shared) (Q E : Value → Shared → Prop),
    Below A₀ base outer h₀ → Fr h₀ L s.heap m → (Mine.hd.heap_39 w.params).In h₀ → News h₀ L s.heap news →
    Top Mine.hd.view_39 (looseW Mine.hd.view_39 [Str.ofString "FileChangedChecker", Str.ofString "MD5Checker"]) mean mg mb h₀ → cs.kind = .function → dp + d < recursionLimit → un + 8 * d + 64 < cLine → Pre news →
    (∀ r h' tk' news', Fr h₀ L h' m → News h₀ L h' news' → Post news r news' → Q r { s with heap := h', toks := tk' }) →
    wpAny (model Challenge.rw_aa6015_01.row.prog w) (ktrTop dp un gd cn cs L a ccd cl outer) (call (.ref f) args) Q E s
theorem CallR.use {w : World} {f : Addr} {args : List Value} {d : Nat} {Pre : Led → Prop} {Post : Led → Value → Led → Prop} {mean : ExcName → Option Value} {mg mb : Str → Option Value} {dp un : Nat} {gd : Option (List Code)} {cn : Str} {cs : Scope} {a : Addr} {ccd : Value} {cl : List (Str × Addr)} {outer : List Env} {A₀ : Around} {base h₀ : Heap} {L : Addr} {m : Str → Option Value} {news : Led} {s : Shared} {Q E : Value → Shared → Prop}
    (B : Below A₀ base outer h₀) (F : Fr h₀ L s.heap m) (X : (Mine.hd.heap_39 w.params).In h₀) (N : News h₀ L s.heap news) (T : Top Mine.hd.view_39 (looseW Mine.hd.view_39 [Str.ofString "FileChangedChecker", Str.ofString "MD5Checker"]) mean mg mb h₀)
    (hk : cs.kind = .function) (C : CallR w f args d Pre Post) (hd : dp + d < recursionLimit) (hu : un + 8 * d + 64 < cLine) (hp : Pre news)
    (ret : ∀ r h' tk' news', Fr h₀ L h' m → News h₀ L h' news' → Post news r news' → Q r { s with heap := h', toks := tk' }) :
    wpAny (model Challenge.rw_aa6015_01.row.prog w) (ktrTop dp un gd cn cs L a ccd cl outer) (call (.ref f) args) Q E s := C _ _ _ _ _ _ _ _ _ _ _ _ _ _ _ _ _ _ _ _ _ B F X N T hk hd hu hp ret
/-- the ledger bears a dict with these pairs -/
def DictIn (w : World) (news : Led) (d : Addr) (kvs : List (Str × Value)) : Prop := ∃ o, (d, o) ∈ news ∧ o.IsDictOf (PySem.strKind Challenge.rw_aa6015_01.row.prog w) kvs ∧ (d == sysModules) = false
abbrev ins1 (hh : Int) (tk : Tok) (D : Addr) : Obj := dictOf [⟨hh, .str (Str.ofString "_db") tk, .ref D⟩] 1
/-- a store S over the dict D -/
def StoreAt (news : Led) (S Sd D : Addr) : Prop := ∃ hh tk, (S, instObj 80 Sd) ∈ news ∧ (Sd, ins1 hh tk D) ∈ news
abbrev ins3 (h1 h2 h3 : Int) (t1 t2 t3 : Tok) (c : Bool) (ck S : Addr) : Obj :=
  dictOf [⟨h1, .str (Str.ofString "_closed") t1, .bool c⟩, ⟨h2, .str (Str.ofString "checker") t2, .ref ck⟩, ⟨h3, .str (Str.ofString "backend") t3, .ref S⟩] 3
/-- a manager over the store S -/
def KeepAt (news : Led) (K Kd S : Addr) : Prop := ∃ h1 h2 h3 t1 t2 t3 c ck, (K, instObj 276 Kd) ∈ news ∧ (Kd, ins3 h1 h2 h3 t1 t2 t3 c ck S) ∈ news
theorem StoreAt.mk {news : Led} {S D Sd : Addr} {hh : Int} {tk : Tok} (h1 : (S, instObj 80 Sd) ∈ news) (h2 : (Sd, ins1 hh tk D) ∈ news) : StoreAt news S Sd D := ⟨_, _, h1, h2⟩
theorem KeepAt.mk {news : Led} {K S Kd ck : Addr} {h1 h2 h3 : Int} {t1 t2 t3 : Tok} {c : Bool} (a1 : (K, instObj 276 Kd) ∈ news) (a2 : (Kd, ins3 h1 h2 h3 t1 t2 t3 c ck S) ∈ news) : KeepAt news K Kd S := ⟨_, _, _, _, _, _, _, _, a1, a2⟩
theorem DictIn.mk {w : World} {news : Led} {d : Addr} {kvs : List (Str × Value)} {o : Obj} (h1 : (d, o) ∈ news) (h2 : o.IsDictOf (PySem.strKind Challenge.rw_aa6015_01.row.prog w) kvs) (h3 : (d == sysModules) = false) : DictIn w news d kvs := ⟨o, h1, h2, h3⟩
theorem isSome_t {kvs : List (Str × Value)} {t : Str} {v : Value} (h : valueAt kvs t = some v) : (valueAt kvs t).isSome = true := by rw [h]; rfl
theorem isSome_f {kvs : List (Str × Value)} {t : Str} (h : valueAt kvs t = none) : (valueAt kvs t).isSome = false := by rw [h]; rfl
def CellAt (w : World) (news : Led) (kvs : List (Str × Value)) (t key : Str) (v : Value) : Prop :=
  (valueAt kvs t = none ∧ v = .none) ∨ ∃ r row, valueAt kvs t = some (.ref r) ∧ DictIn w news r row ∧ v = (valueAt row key).getD .none
theorem CellAt.none {w : World} {news : Led} {kvs : List (Str × Value)} {t key : Str} (h : valueAt kvs t = .none) : CellAt w news kvs t key .none := .inl ⟨h, rfl⟩
theorem CellAt.some {w : World} {news : Led} {kvs row : List (Str × Value)} {t key : Str} {r : Addr} {o : Obj} (h : valueAt kvs t = some (.ref r)) (h1 : (r, o) ∈ news) (h2 : o.IsDictOf (PySem.strKind Challenge.rw_aa6015_01.row.prog w) row) (h3 : (r == sysModules) = false) :
    CellAt w news kvs t key ((valueAt row key).getD .none) := .inr ⟨r, row, h, ⟨o, h1, h2, h3⟩, rfl⟩
section
variable {w : World} {prog : Program} {A : Around} {E : Value → Shared → Prop} {s : Shared} {h₀ : Heap} {L d : Addr} {news : Led} {o : Obj} {kvs : List (Str × Value)} {k : Str} {tk : Tok} {v : Value} {Q : Value → Shared → Prop}
theorem in_t (N : News h₀ L s.heap news) (hp : (d, o) ∈ news) (hd : o.IsDictOf (PySem.strKind prog w) kvs) (lo : (d == sysModules) = false) (hv : valueAt kvs k = some v) (h : Q (.bool true) { s with toks := s.toks + 1 }) :
    wpAny (model prog w) A (compareOp .In (.str k tk) (.ref d)) Q E s := wpAny_in_of (strKind_is prog w k tk) lo (kda_dict N hp hd).mapOf (by rw [hv]; exact h)
theorem in_f (N : News h₀ L s.heap news) (hp : (d, o) ∈ news) (hd : o.IsDictOf (PySem.strKind prog w) kvs) (lo : (d == sysModules) = false) (hv : valueAt kvs k = none) (h : Q (.bool false) { s with toks := s.toks + 1 }) :
    wpAny (model prog w) A (compareOp .In (.str k tk) (.ref d)) Q E s := wpAny_in_of (strKind_is prog w k tk) lo (kda_dict N hp hd).mapOf (by rw [hv]; exact h)
theorem in_g (N : News h₀ L s.heap news) (hp : (d, o) ∈ news) (hd : o.IsDictOf (PySem.strKind prog w) kvs) (lo : (d == sysModules) = false) (h : Q (.bool (valueAt kvs k).isSome) { s with toks := s.toks + 1 }) :
    wpAny (model prog w) A (compareOp .In (.str k tk) (.ref d)) Q E s := wpAny_in_of (strKind_is prog w k tk) lo (kda_dict N hp hd).mapOf h
theorem notin_t (N : News h₀ L s.heap news) (hp : (d, o) ∈ news) (hd : o.IsDictOf (PySem.strKind prog w) kvs) (lo : (d == sysModules) = false) (hv : valueAt kvs k = some v) (h : Q (.bool false) { s with toks := s.toks + 1 }) :
    wpAny (model prog w) A (compareOp .NotIn (.str k tk) (.ref d)) Q E s := wpAny_notIn_of (strKind_is prog w k tk) lo (kda_dict N hp hd).mapOf (by rw [hv]; exact h)
theorem notin_f (N : News h₀ L s.heap news) (hp : (d, o) ∈ news) (hd : o.IsDictOf (PySem.strKind prog w) kvs) (lo : (d == sysModules) = false) (hv : valueAt kvs k = none) (h : Q (.bool true) { s with toks := s.toks + 1 }) :
    wpAny (model prog w) A (compareOp .NotIn (.str k tk) (.ref d)) Q E s := wpAny_notIn_of (strKind_is prog w k tk) lo (kda_dict N hp hd).mapOf (by rw [hv]; exact h)
theorem item_s {value slice : PySem.Expr} (N : News h₀ L s.heap news) (hp : (d, o) ∈ news) (hd : o.IsDictOf (PySem.strKind prog w) kvs) (hv : valueAt kvs k = some v) (h : Q v { s with toks := s.toks + 1 })
    (hs : subscripted slice false (.ref d) (.str k tk) = operate [.ref d, .str k tk] (getItem (.ref d) (.str k tk)) := by with_unfolding_all rfl) (hg : ∀ r, letTemporaryGo value (.ref d) r = pure () := by intro _; with_unfolding_all rfl) :
    wpAny (model prog w) A (subscriptTail value slice (.ref d) (.str k tk)) Q E s := kda_item N hp hd (strKind_is prog w k tk) hv h hs hg
theorem getm_s {pl : Sem Bool} {Q : Value × List Value → Shared → Prop} (N : News h₀ L s.heap news) (hp : (d, o) ∈ news) (hd : o.IsDictOf (PySem.strKind prog w) kvs) (h : Q (.builtin "dict.get", [.ref d]) s) :
    wpAny (model prog w) A (getMethod (.ref d) "get" pl) Q E s := kdg_method N hp hd h
theorem get2_s {dflt : Value} (N : News h₀ L s.heap news) (hp : (d, o) ∈ news) (hd : o.IsDictOf (PySem.strKind prog w) kvs) (lo : (d == sysModules) = false) (h : Q ((valueAt kvs k).getD dflt) { s with toks := s.toks + 1 }) :
    wpAny (model prog w) A (call (.builtin "dict.get") [.ref d, .str k tk, dflt]) Q E s := kdg_get2 N hp hd lo (strKind_is prog w k tk) _ rfl h
theorem get1_s (N : News h₀ L s.heap news) (hp : (d, o) ∈ news) (hd : o.IsDictOf (PySem.strKind prog w) kvs) (lo : (d == sysModules) = false) (h : Q ((valueAt kvs k).getD .none) { s with toks := s.toks + 1 }) :
    wpAny (model prog w) A (call (.builtin "dict.get") [.ref d, .str k tk]) Q E s := kdg_get1 N hp hd lo (strKind_is prog w k tk) _ rfl h
end
local macro_rules | `(tactic| walk_at "compareOp In str ref") => `(tactic| (k_here; k_dflt (first
  | (refine' in_t ?k1 ?k2 ?k3 ?k4 ?k5 ?_; (case k1 => k_asm); (case k2 => k_mem); (case k3 => k_asm); (case k4 => k_asm); (case k5 => k_asm); k_whole)
  | (refine' in_f ?k1 ?k2 ?k3 ?k4 ?k5 ?_; (case k1 => k_asm); (case k2 => k_mem); (case k3 => k_asm); (case k4 => k_asm); (case k5 => k_asm); k_whole)
  | (refine' in_g ?k1 ?k2 ?k3 ?k4 ?_; (case k1 => k_asm); (case k2 => k_mem); (case k3 => k_asm); (case k4 => k_asm); k_whole))))
local macro_rules | `(tactic| walk_at "compareOp NotIn str ref") => `(tactic| (k_here; k_dflt (first
  | (refine' notin_t ?k1 ?k2 ?k3 ?k4 ?k5 ?_; (case k1 => k_asm); (case k2 => k_mem); (case k3 => k_asm); (case k4 => k_asm); (case k5 => k_asm); k_whole)
  | (refine' notin_f ?k1 ?k2 ?k3 ?k4 ?k5 ?_; (case k1 => k_asm); (case k2 => k_mem); (case k3 => k_asm); (case k4 => k_asm); (case k5 => k_asm); k_whole))))
local macro_rules | `(tactic| walk_at "subscriptTail") => `(tactic| (k_here; (with_reducible show wpAny _ _ (subscriptTail _ _ (Value.ref _) (Value.str _ _)) _ _ _); k_dflt (refine' item_s ?k1 ?k2 ?k3 ?k4 ?_ ?k6 ?k7; (case k1 => k_asm); (case k2 => k_mem); (case k3 => k_asm); (case k4 => k_asm); (case k6 => with_unfolding_all rfl); (case k7 => intro _; with_unfolding_all rfl); k_whole)))
local macro_rules | `(tactic| walk_at "getMethod ref") => `(tactic| (k_here; (with_reducible show wpAny _ _ (getMethod (Value.ref _) (PySem.Str.ofString "get") _) _ _ _); k_dflt (refine' getm_s ?k1 ?k2 ?k3 ?_; (case k1 => k_asm); (case k2 => k_mem); (case k3 => k_asm); k_whole)))
local macro_rules | `(tactic| walk_at "call builtin:dict.get") => `(tactic| (k_here; k_dflt (first
  | (refine' get2_s ?k1 ?k2 ?k3 ?k4 ?_; (case k1 => k_asm); (case k2 => k_mem); (case k3 => k_asm); (case k4 => k_asm); k_whole)
  | (refine' get1_s ?k1 ?k2 ?k3 ?k4 ?_; (case k1 => k_asm); (case k2 => k_mem); (case k3 => k_asm); (case k4 => k_asm); k_whole))))
set_option maxRecDepth 100000 in
set_option maxHeartbeats 8000000 in
theorem in_ok {w : World} {S Sd D : Addr} {t : Str} {tt : Tok} {kvs : List (Str × Value)} {b : Bool} :
    CallR w 63 [.ref S, .str t tt] 4 (fun news => StoreAt news S Sd D ∧ DictIn w news D kvs ∧ (valueAt kvs t).isSome = b) (fun news r news' => r = .bool b ∧ news' = news) := by
  unfold CallR; w_top off; k_fill
  rintro mean mg mb dp un gd cn cs a ccd cl outer A₀ base h₀ L m news s Q E B F X N T hk hdp hun ⟨⟨hh, tk, hS, hSd⟩, ⟨oD, hD, hd, lo⟩, hbs⟩ ret
  refine wpAny_call ?_
  k_dflt ktr_enter
  k_steps
  exact ret _ _ _ _ (by k_asm) (by k_asm) ⟨congrArg Value.bool hbs, rfl⟩
set_option maxRecDepth 100000 in
set_option maxHeartbeats 8000000 in
theorem get_ok {w : World} {S Sd D : Addr} {t key : Str} {tt tkey : Tok} {kvs : List (Str × Value)} {v : Value} :
    CallR w 56 [.ref S, .str t tt, .str key tkey] 4 (fun news => StoreAt news S Sd D ∧ DictIn w news D kvs ∧ CellAt w news kvs t key v) (fun news r news' => r = v ∧ news' = news) := by
  unfold CallR; w_top off; k_fill
  rintro mean mg mb dp un gd cn cs a ccd cl outer A₀ base h₀ L m news s Q E B F X N T hk hdp hun ⟨⟨hh, tk, hS, hSd⟩, ⟨oD, hD, hd, lo⟩, hc⟩ ret
  rcases hc with ⟨hn, rfl⟩ | ⟨r, row, hv, ⟨oR, hR, hr, lor⟩, rfl⟩
  · refine wpAny_call ?_
    k_dflt ktr_enter
    k_steps
    exact ret _ _ _ _ (by k_asm) (by k_asm) ⟨rfl, rfl⟩
  · refine wpAny_call ?_
    k_dflt ktr_enter
    k_steps
    exact ret _ _ _ _ (by k_asm) (by k_asm) ⟨rfl, rfl⟩
/-- a value that the law may have stored -/
def ValOK (w : World) (news : Led) (v : Value) : Prop :=
  v = .none ∨ (∃ i t, v = .int i t) ∨ (∃ x t, v = .str x t) ∨ (∃ d kvs, v = .ref d ∧ DictIn w news d kvs) ∨ ∃ a items n, v = .ref a ∧ (a, ({ cls := .type "tuple", data := .seq items n } : Obj)) ∈ news
theorem hits_self {K : Type} [DecidableEq K] {A : Around} {s : Shared} {kb : List (K × Value)} (hn : (kb.map (·.1)).Nodup) : KeqHits A s kb kb true := by
  have key : ∀ (r : List (K × Value)), (∀ p ∈ r, valueAt kb p.1 = some p.2) → KeqHits A s kb r true := by
    intro r
    induction r with
    | nil => intro _; exact .nil
    | cons p r ih =>
      intro h
      obtain ⟨k, v⟩ := p
      have := KeqHits.hit (A := A) (s := s) (h (k, v) (.head _)) (SeqAt.EqAt.same v) (ih fun q hq => h q (.tail _ hq))
      simpa using this
  refine key kb fun p hp => ?_
  obtain ⟨k, v⟩ := p
  have hk : ∀ (l : List (K × Value)), (l.map (·.1)).Nodup → (k, v) ∈ l → valueAt l k = some v := by
    intro l
    induction l with
    | nil => intro _ h; cases h
    | cons q l ih =>
      intro hn hm
      unfold valueAt
      rw [List.find?_cons]
      rw [List.map_cons, List.nodup_cons] at hn
      rcases List.mem_cons.mp hm with rfl | hm
      · simp
      · have hne : q.1 ≠ k := fun e => hn.1 (e ▸ List.mem_map.mpr ⟨(k, v), hm, rfl⟩)
        have := ih hn.2 hm
        unfold valueAt at this
        simp only [hne, decide_false]; exact this
  exact hk kb hn hp
theorem ne_self {w : World} {A : Around} {E : Value → Shared → Prop} {s : Shared} {h₀ : Heap} {L : Addr} {news : Led} {v : Value} {Q : Value → Shared → Prop}
    (N : News h₀ L s.heap news) (ok : ValOK w news v) (hu : A.units < cLine) (h : Q (.bool false) s) :
    wpAny (model Challenge.rw_aa6015_01.row.prog w) A (compareOp .NotEq v v) Q E s := by
  rcases ok with rfl | ⟨i, t, rfl⟩ | ⟨x, t, rfl⟩ | ⟨d, kvs, rfl, o, hp, hd, lo⟩ | ⟨a, items, n, rfl, hp⟩
  · exact EqNone.ne_none_none h
  · exact ne_int (by simpa using h)
  · exact ne_str (by simpa using h)
  · have hD := kda_dict N hp hd
    have hn : (kvs.map (·.1)).Nodup := by obtain ⟨_, _, _, _, _, _, hn⟩ := hd; exact hn
    exact keq_ne lo lo hD hD hu (fun _ => hits_self hn) (by simpa using h)
  · have hT : s.heap.IsTuple a items := ⟨_, (N _ hp).1, rfl, n, rfl⟩
    refine cmp_ofNotEq (SeqAt.RcNeAt.tuples (e := fun _ => true) hT hT hu (fun j h1 h2 => SeqAt.EqAt.same _) _ _ _ _ ?_)
    have e : (!((List.range (min items.size items.size)).all (fun _ => true) && items.size == items.size)) = false := by
      have : ((List.range (min items.size items.size)).all (fun _ => true)) = true := by simp
      rw [this]; simp
    rw [e]; exact h
theorem ValOK.none (w : World) (news : Led) : ValOK w news .none := .inl rfl
/-- the kinds of a row's values -/
def RowOK (w : World) (news : Led) (row : List (Str × Value)) : Prop := ∀ k v, valueAt row k = some v → ValOK w news v
theorem RowOK.getD {w : World} {news : Led} {row : List (Str × Value)} (h : RowOK w news row) (k : Str) : ValOK w news ((valueAt row k).getD .none) := by
  cases e : valueAt row k with
  | none => exact .inl rfl
  | some v => exact h k v e
theorem DictIn.mono {w : World} {news news' : Led} {d : Addr} {kvs : List (Str × Value)} (h : DictIn w news d kvs) (hs : ∀ p ∈ news, p ∈ news') : DictIn w news' d kvs := by
  obtain ⟨o, hp, r⟩ := h; exact ⟨o, hs _ hp, r⟩
theorem ValOK.mono {w : World} {news news' : Led} {v : Value} (h : ValOK w news v) (hs : ∀ p ∈ news, p ∈ news') : ValOK w news' v := by
  rcases h with h | h | h | ⟨d, kvs, e, hd⟩ | ⟨a, items, n, e, hp⟩
  · exact .inl h
  · exact .inr (.inl h)
  · exact .inr (.inr (.inl h))
  · exact .inr (.inr (.inr (.inl ⟨d, kvs, e, hd.mono hs⟩)))
  · exact .inr (.inr (.inr (.inr ⟨a, items, n, e, hs _ hp⟩)))
theorem RowOK.mono {w : World} {news news' : Led} {row : List (Str × Value)} (h : RowOK w news row) (hs : ∀ p ∈ news, p ∈ news') : RowOK w news' row := fun k v e => (h k v e).mono hs
local macro_rules | `(tactic| walk_at "call ref") => `(tactic| (k_here; (with_reducible show wpAny _ _ (call (Value.ref 63) _) _ _ _); k_dflt (refine' CallR.use ?kB ?kF ?kX ?kN ?kT ?kk in_ok ?kd ?ku ⟨StoreAt.mk ?a ?b, DictIn.mk ?c ?d ?e, ?g⟩ ?_; (case kB => k_asm); (case kF => k_asm); (case kX => k_asm); (case kN => k_asm); (case kT => k_asm); (case kk => first | exact rfl | assumption); (case a => k_mem); (case b => k_mem); (case c => k_mem); (case d => k_asm); (case e => k_asm); (case g => first | exact isSome_t (by k_asm) | exact isSome_f (by k_asm) | k_asm); (case kd => ktr_room); (case ku => ktr_units); k_whole; intro r' h' tk' news' F' N' hp'; obtain ⟨hr', hn'⟩ := hp'; subst hr' hn')))
local macro_rules | `(tactic| walk_at "call ref") => `(tactic| (k_here; (with_reducible show wpAny _ _ (call (Value.ref 56) _) _ _ _); k_dflt (refine' CallR.use ?kB ?kF ?kX ?kN ?kT ?kk get_ok ?kd ?ku ⟨StoreAt.mk ?a ?b, DictIn.mk ?c ?d ?e, ?g⟩ ?_; (case kB => k_asm); (case kF => k_asm); (case kX => k_asm); (case kN => k_asm); (case kT => k_asm); (case kk => first | exact rfl | assumption); (case a => k_mem); (case b => k_mem); (case c => k_mem); (case d => k_asm); (case e => k_asm); (case g => first | k_asm | (refine' CellAt.none ?i; (case i => k_asm)) | (refine' CellAt.some ?i ?j ?k ?l; (case i => k_asm); (case j => k_mem); (case k => k_asm); (case l => k_asm))); (case kd => ktr_room); (case ku => ktr_units); k_whole; intro r' h' tk' news' F' N' hp'; obtain ⟨hr', hn'⟩ := hp'; subst hr' hn')))
set_option maxRecDepth 100000 in
set_option maxHeartbeats 8000000 in
theorem kin_ok {w : World} {K Kd S Sd D : Addr} {t : Str} {tt : Tok} {kvs : List (Str × Value)} {b : Bool} :
    CallR w 208 [.ref K, .str t tt] 8 (fun news => KeepAt news K Kd S ∧ StoreAt news S Sd D ∧ DictIn w news D kvs ∧ (valueAt kvs t).isSome = b) (fun news r news' => r = .bool b ∧ news' = news) := by
  unfold CallR; w_top off; k_fill
  rintro mean mg mb dp un gd cn cs a ccd cl outer A₀ base h₀ L m news s Q E B F X N T hk hdp hun ⟨⟨h1, h2, h3, t1, t2, t3, c, ck, hK, hKd⟩, ⟨hh, tk, hS, hSd⟩, ⟨oD, hD, hd, lo⟩, hbs⟩ ret
  refine wpAny_call ?_
  k_dflt ktr_enter
  k_steps
  exact ret _ _ _ _ (by k_asm) (by k_asm) ⟨rfl, rfl⟩
set_option maxRecDepth 100000 in
set_option maxHeartbeats 8000000 in
theorem kget_ok {w : World} {K Kd S Sd D : Addr} {t key : Str} {tt tkey : Tok} {kvs : List (Str × Value)} {v : Value} :
    CallR w 187 [.ref K, .str t tt, .str key tkey] 8 (fun news => KeepAt news K Kd S ∧ StoreAt news S Sd D ∧ DictIn w news D kvs ∧ CellAt w news kvs t key v) (fun news r news' => r = v ∧ news' = news) := by
  unfold CallR; w_top off; k_fill
  rintro mean mg mb dp un gd cn cs a ccd cl outer A₀ base h₀ L m news s Q E B F X N T hk hdp hun ⟨⟨h1, h2, h3, t1, t2, t3, c, ck, hK, hKd⟩, ⟨hh, tk, hS, hSd⟩, ⟨oD, hD, hd, lo⟩, hc⟩ ret
  refine wpAny_call ?_
  k_dflt ktr_enter
  k_steps
  exact ret _ _ _ _ (by k_asm) (by k_asm) ⟨rfl, rfl⟩
/-- all but what stands at ds is as it was -/
def Chg (ds : List Addr) (news news' : Led) : Prop := ∀ p ∈ news, p.1 ∉ ds → p ∈ news'
theorem split1 {h₀ h : Heap} {L d : Addr} {o : Obj} {news : Led} (N : News h₀ L h news) (hd : (d, o) ∈ news) :
    ∃ rest : Led, News h₀ L h ((d, o) :: rest) ∧ (∀ p ∈ rest, p.1 ≠ d) ∧ (∀ p ∈ news, p.1 ≠ d → p ∈ rest) := by
  refine ⟨news.filter (fun p => decide (p.1 ≠ d)), fun p hp => ?_, fun p hp => ?_, fun p hp hne => ?_⟩
  · rcases List.mem_cons.mp hp with rfl | hp
    · exact N _ hd
    · exact N _ (List.mem_filter.mp hp).1
  · exact of_decide_eq_true (List.mem_filter.mp hp).2
  · exact List.mem_filter.mpr ⟨hp, decide_eq_true hne⟩
theorem allLt_all {d : Addr} : ∀ {l : Led}, AllLt d l → ∀ p ∈ l, p.1 < d := by
  intro l
  induction l with
  | nil => intro _ p hp; exact absurd hp List.not_mem_nil
  | cons q l ih =>
    intro h p hp
    unfold AllLt at h
    rcases List.mem_cons.mp hp with rfl | hp
    · exact h.1
    · exact ih h.2 p hp
theorem fresh_of {D d' : Addr} {news rest : Led} (h : D < d' ∧ AllLt d' rest) (hsub : ∀ p ∈ news, p.1 ≠ D → p ∈ rest) : ∀ p ∈ news, p.1 ≠ d' := fun p hp => by
  by_cases e : p.1 = D
  · exact Nat.ne_of_lt (e ▸ h.1)
  · exact Nat.ne_of_lt (allLt_all h.2 p (hsub p hp e))
theorem allLt_ne {d : Addr} {l : Led} (h : AllLt d l) : ∀ p ∈ l, p.1 ≠ d := fun p hp => Nat.ne_of_lt (allLt_all h p hp)
section
variable {w : World} {prog : Program} {A : Around} {E : Value → Shared → Prop} {s : Shared} {h₀ : Heap} {L d : Addr} {m : Str → Option Value} {news : Led} {g : Obj → Led} {o : Obj} {kvs : List (Str × Value)} {k : Str} {tk : Tok} {v : Value}
theorem set_s {Q : Unit → Shared → Prop} (F : Fr h₀ L s.heap m) (N : News h₀ L s.heap news) (U : UpdF d o news g) (hd : o.IsDictOf (PySem.strKind prog w) kvs) (hsz : kvs.length ≤ sizeLine)
    (h : ∀ h' o', Fr h₀ L h' m → News h₀ L h' (g o') → o'.IsDictOf (PySem.strKind prog w) (stored kvs k v) → Q () { s with heap := h', toks := s.toks + 1 }) : wpAny (model prog w) A (setItem (.ref d) (.str k tk) v) Q E s :=
  kda_set F N U hd (strKind_is prog w k tk) hsz h
theorem getItem_s {Q : Value → Shared → Prop} (N : News h₀ L s.heap news) (hp : (d, o) ∈ news) (hd : o.IsDictOf (PySem.strKind prog w) kvs) (hv : valueAt kvs k = some v) (h : Q v { s with toks := s.toks + 1 }) :
    wpAny (model prog w) A (getItem (.ref d) (.str k tk)) Q E s := wpAny_getItem_of (strKind_is prog w k tk) (kda_dict N hp hd).mapOf hv h
theorem del_s {Q : Unit → Shared → Prop} (F : Fr h₀ L s.heap m) (N : News h₀ L s.heap news) (U : UpdF d o news g) (hd : o.IsDictOf (PySem.strKind prog w) kvs) (hv : valueAt kvs k = some v) (hsz : kvs.length ≤ sizeLine)
    (h : ∀ h' o', Fr h₀ L h' m → News h₀ L h' (g o') → o'.IsDictOf (PySem.strKind prog w) (without kvs k) → Q () { s with heap := h', toks := s.toks + 1 }) : wpAny (model prog w) A (delItem (.ref d) (.str k tk)) Q E s :=
  kob_del F N U hd (strKind_is prog w k tk) (by rw [hv]; rfl) hsz h
theorem popm_s {pl : Sem Bool} {Q : Value × List Value → Shared → Prop} (N : News h₀ L s.heap news) (hp : (d, o) ∈ news) (hd : o.IsDictOf (PySem.strKind prog w) kvs) (h : Q (.builtin "dict.pop", [.ref d]) s) :
    wpAny (model prog w) A (getMethod (.ref d) "pop" pl) Q E s := kob_method PySem.F.slot_dict_pop PySem.F.type_dict_pop N hp hd h
theorem pop_t {dflt : Value} {Q : Value → Shared → Prop} (F : Fr h₀ L s.heap m) (N : News h₀ L s.heap news) (U : UpdF d o news g) (hd : o.IsDictOf (PySem.strKind prog w) kvs) (hv : valueAt kvs k = some v) (hsz : kvs.length ≤ sizeLine)
    (h : ∀ h' o', Fr h₀ L h' m → News h₀ L h' (g o') → o'.IsDictOf (PySem.strKind prog w) (without kvs k) → Q v { s with heap := h', toks := s.toks + 1 }) : wpAny (model prog w) A (call (.builtin "dict.pop") [.ref d, .str k tk, dflt]) Q E s :=
  kob_pop F N U hd (strKind_is prog w k tk) (.inr ⟨_, rfl⟩) rfl (PySem.F.args_dict_pop_3 _ _ _) hv hsz h
theorem pop_f {dflt : Value} {Q : Value → Shared → Prop} (N : News h₀ L s.heap news) (hp : (d, o) ∈ news) (hd : o.IsDictOf (PySem.strKind prog w) kvs) (lo : (d == sysModules) = false) (hv : valueAt kvs k = none) (h : Q dflt { s with toks := s.toks + 1 }) :
    wpAny (model prog w) A (call (.builtin "dict.pop") [.ref d, .str k tk, dflt]) Q E s :=
  have hD := kda_dict N hp hd
  call_meetsIn PySem.F.slot_dict_pop hD.typeIs PySem.F.entry_dict_pop (PySem.F.args_dict_pop_3 _ _ _) (meets_dict_pop_default (PySem.strKind prog w) d (strKind_is prog w k tk) lo rfl dflt) ⟨kvs, hD, hv, h⟩
theorem valueAt_cons (p : Str × Value) (r : List (Str × Value)) (x : Str) : valueAt (p :: r) x = if p.1 = x then some p.2 else valueAt r x := by
  unfold valueAt
  rw [List.find?_cons]
  by_cases e : p.1 = x
  · simp [e]
  · simp [e]
theorem valueAt_map_put (k : Str) (v : Value) (x : Str) : ∀ kvs : List (Str × Value), valueAt (kvs.map fun kv => if kv.1 = k then (kv.1, v) else kv) x = if x = k then (if (valueAt kvs x).isSome then some v else none) else valueAt kvs x
  | [] => by by_cases hx : x = k <;> simp [valueAt, hx]
  | p :: r => by
    rw [List.map_cons, valueAt_cons, valueAt_cons, valueAt_map_put k v x r]
    by_cases hx : x = k
    · subst hx
      by_cases e : p.1 = x <;> simp [e]
    · by_cases e : p.1 = k
      · have e2 : ¬ k = x := fun q => hx q.symm
        have e3 : ¬ p.1 = x := fun q => hx (q.symm.trans e)
        simp [hx, e, e2]
      · simp [hx, e]
theorem valueAt_append (a b : List (Str × Value)) (x : Str) : valueAt (a ++ b) x = (valueAt a x).or (valueAt b x) := by
  induction a with
  | nil => simp [valueAt]
  | cons p r ih => rw [List.cons_append, valueAt_cons, valueAt_cons, ih]; by_cases e : p.1 = x <;> simp [e]
theorem valueAt_stored (kvs : List (Str × Value)) (k : Str) (v : Value) (x : Str) : valueAt (stored kvs k v) x = if x = k then some v else valueAt kvs x := by
  have ha := valueAt_isSome_eq_any kvs k
  unfold stored
  by_cases hany : (kvs.any fun kv => decide (kv.1 = k)) = true
  · rw [if_pos hany, valueAt_map_put]
    by_cases hx : x = k
    · subst hx; rw [if_pos rfl, if_pos rfl, if_pos (by rw [ha]; exact hany)]
    · rw [if_neg hx, if_neg hx]
  · rw [if_neg hany, valueAt_append, valueAt_cons]
    have hn : valueAt kvs k = none := by
      cases hv : valueAt kvs k with
      | none => rfl
      | some v => rw [hv] at ha; exact absurd ha.symm hany
    by_cases hx : x = k
    · subst hx; rw [hn]; simp
    · have e3 : ¬ k = x := fun q => hx q.symm
      simp [hx, e3, valueAt]
theorem valueAt_stored_self (kvs : List (Str × Value)) (k : Str) (v : Value) : valueAt (stored kvs k v) k = some v := by rw [valueAt_stored, if_pos rfl]
theorem valueAt_without (kvs : List (Str × Value)) (k x : Str) : valueAt (without kvs k) x = if x = k then none else valueAt kvs x := by
  unfold without
  induction kvs with
  | nil => by_cases hx : x = k <;> simp [valueAt, hx]
  | cons p r ih =>
    by_cases e : p.1 = k
    · rw [List.filter_cons, if_neg (by simp [e]), ih, valueAt_cons]
      by_cases hx : x = k
      · simp [hx]
      · have e2 : ¬ p.1 = x := fun q => hx (q.symm.trans e)
        simp [hx, e2]
    · rw [List.filter_cons, if_pos (by simp [e]), valueAt_cons, valueAt_cons, ih]
      by_cases e2 : p.1 = x
      · have hx : ¬ x = k := fun q => e (e2.trans q)
        simp [e2, hx]
      · simp [e2]
end
local macro_rules | `(tactic| k_mem) => `(tactic| first | ktr_member | exact List.mem_cons_self | (refine' List.mem_cons_of_mem _ ?_; k_mem))
local macro_rules | `(tactic| k_all) => `(tactic| first | assumption | exact allLt_ne (by assumption))
local macro_rules | `(tactic| walk_at "setItem ref str") => `(tactic| (k_here; k_dflt (refine' set_s ?F ?N ?U ?d ?z ?_; (case F => k_asm); (case N => k_asm); (case U => k_updF); (case d => k_asm); (case z => first | assumption | size_fits); k_whole); intro h' o' F' N' d'; (try dsimp only at N'); (try k_sweep)))
local macro_rules | `(tactic| walk_at "getItem ref str") => `(tactic| (k_here; k_dflt (refine' getItem_s ?k1 ?k2 ?k3 ?k4 ?_; (case k1 => k_asm); (case k2 => k_mem); (case k3 => k_asm); (case k4 => first | k_asm | exact valueAt_stored_self _ _ _); k_whole)))
local macro_rules | `(tactic| walk_at "delItem ref str") => `(tactic| (k_here; k_dflt (refine' del_s ?F ?N ?U ?d ?v ?z ?_; (case F => k_asm); (case N => k_asm); (case U => k_updF); (case d => k_asm); (case v => k_asm); (case z => first | assumption | size_fits); k_whole); intro h' o' F' N' d'; (try dsimp only at N'); (try k_sweep)))
local macro_rules | `(tactic| walk_at "getMethod ref") => `(tactic| (k_here; (with_reducible show wpAny _ _ (getMethod (Value.ref _) (PySem.Str.ofString "pop") _) _ _ _); k_dflt (refine' popm_s ?k1 ?k2 ?k3 ?_; (case k1 => k_asm); (case k2 => k_mem); (case k3 => k_asm); k_whole)))
local macro_rules | `(tactic| walk_at "call builtin:dict.pop") => `(tactic| (k_here; k_dflt (first
  | (refine' pop_t ?F ?N ?U ?d ?v ?z ?_; (case F => k_asm); (case N => k_asm); (case U => k_updF); (case d => k_asm); (case v => k_asm); (case z => first | assumption | size_fits); k_whole; intro h' o' F' N' d'; (try dsimp only at N'); (try k_sweep))
  | (refine' pop_f ?k1 ?k2 ?k3 ?k4 ?k5 ?_; (case k1 => k_asm); (case k2 => k_mem); (case k3 => k_asm); (case k4 => k_asm); (case k5 => k_asm); k_whole))))
set_option maxRecDepth 100000 in
set_option maxHeartbeats 8000000 in
theorem set_old {w : World} {S Sd D r : Addr} {t key : Str} {tt tkey : Tok} {v : Value} {kvs row : List (Str × Value)} :
    CallR w 49 [.ref S, .str t tt, .str key tkey, v] 4 (fun news => StoreAt news S Sd D ∧ DictIn w news D kvs ∧ valueAt kvs t = some (.ref r) ∧ DictIn w news r row ∧ row.length ≤ sizeLine ∧ S ≠ r ∧ Sd ≠ r ∧ D ≠ r)
      (fun news x news' => x = .none ∧ DictIn w news' r (stored row key v) ∧ Chg [r] news news') := by
  unfold CallR; w_top off; k_fill
  rintro mean mg mb dp un gd cn cs a ccd cl outer A₀ base h₀ L m news s Q E B F X N T hk hdp hun ⟨⟨hh, tk, hS, hSd⟩, ⟨oD, hD, hd, lo⟩, hv, ⟨oR, hR, hr, lor⟩, hsz, hSr, hSdr, hDr⟩ ret
  obtain ⟨rest, N1, hsep, hsub⟩ := split1 N hR
  replace hS := hsub _ hS hSr
  replace hSd := hsub _ hSd hSdr
  replace hD := hsub _ hD hDr
  clear N
  refine wpAny_call ?_
  k_dflt ktr_enter
  k_steps
  exact ret _ _ _ _ (by k_asm) (by k_asm) ⟨rfl, ⟨_, List.mem_cons_self, by k_asm, lor⟩, fun p hp hne => List.mem_cons_of_mem _ (hsub p hp (by simpa using hne))⟩
set_option maxRecDepth 100000 in
set_option maxHeartbeats 8000000 in
theorem set_new {w : World} {S Sd D : Addr} {t key : Str} {tt tkey : Tok} {v : Value} {kvs : List (Str × Value)} :
    CallR w 49 [.ref S, .str t tt, .str key tkey, v] 4 (fun news => StoreAt news S Sd D ∧ DictIn w news D kvs ∧ valueAt kvs t = none ∧ kvs.length ≤ sizeLine ∧ S ≠ D ∧ Sd ≠ D)
      (fun news x news' => x = .none ∧ ∃ r, DictIn w news' r [(key, v)] ∧ DictIn w news' D (stored kvs t (.ref r)) ∧ (∀ p ∈ news, p.1 ≠ r) ∧ Chg [D] news news') := by
  unfold CallR; w_top off; k_fill
  rintro mean mg mb dp un gd cn cs a ccd cl outer A₀ base h₀ L m news s Q E B F X N T hk hdp hun ⟨⟨hh, tk, hS, hSd⟩, ⟨oD, hD, hd, lo⟩, hv, hsz, hSD, hSdD⟩ ret
  obtain ⟨rest, N1, hsep, hsub⟩ := split1 N hD
  replace hS := hsub _ hS hSD
  replace hSd := hsub _ hSd hSdD
  clear N
  refine wpAny_call ?_
  k_dflt ktr_enter
  k_steps
  exact ret _ _ _ _ (by k_asm) (by k_asm) ⟨rfl, _, ⟨_, List.mem_cons_self, by k_asm, by k_asm⟩, ⟨_, List.mem_cons_of_mem _ List.mem_cons_self, by k_asm, lo⟩, fresh_of (by assumption) hsub, fun p hp hne => List.mem_cons_of_mem _ (List.mem_cons_of_mem _ (hsub p hp (by simpa using hne)))⟩
set_option maxRecDepth 100000 in
set_option maxHeartbeats 8000000 in
theorem rem_there {w : World} {S Sd D : Addr} {t : Str} {tt : Tok} {v : Value} {kvs : List (Str × Value)} :
    CallR w 70 [.ref S, .str t tt] 4 (fun news => StoreAt news S Sd D ∧ DictIn w news D kvs ∧ valueAt kvs t = some v ∧ kvs.length ≤ sizeLine ∧ S ≠ D ∧ Sd ≠ D)
      (fun news x news' => x = .none ∧ DictIn w news' D (without kvs t) ∧ Chg [D] news news') := by
  unfold CallR; w_top off; k_fill
  rintro mean mg mb dp un gd cn cs a ccd cl outer A₀ base h₀ L m news s Q E B F X N T hk hdp hun ⟨⟨hh, tk, hS, hSd⟩, ⟨oD, hD, hd, lo⟩, hv, hsz, hSD, hSdD⟩ ret
  obtain ⟨rest, N1, hsep, hsub⟩ := split1 N hD
  replace hS := hsub _ hS hSD
  replace hSd := hsub _ hSd hSdD
  clear N
  refine wpAny_call ?_
  k_dflt ktr_enter
  k_steps
  exact ret _ _ _ _ (by k_asm) (by k_asm) ⟨rfl, ⟨_, List.mem_cons_self, by k_asm, lo⟩, fun p hp hne => List.mem_cons_of_mem _ (hsub p hp (by simpa using hne))⟩
set_option maxRecDepth 100000 in
set_option maxHeartbeats 8000000 in
theorem rem_not {w : World} {S Sd D : Addr} {t : Str} {tt : Tok} {kvs : List (Str × Value)} :
    CallR w 70 [.ref S, .str t tt] 4 (fun news => StoreAt news S Sd D ∧ DictIn w news D kvs ∧ valueAt kvs t = none) (fun news x news' => x = .none ∧ news' = news) := by
  unfold CallR; w_top off; k_fill
  rintro mean mg mb dp un gd cn cs a ccd cl outer A₀ base h₀ L m news s Q E B F X N T hk hdp hun ⟨⟨hh, tk, hS, hSd⟩, ⟨oD, hD, hd, lo⟩, hv⟩ ret
  refine wpAny_call ?_
  k_dflt ktr_enter
  k_steps
  exact ret _ _ _ _ (by k_asm) (by k_asm) ⟨rfl, rfl⟩
set_option maxRecDepth 100000 in
set_option maxHeartbeats 8000000 in
theorem dump_ok {w : World} {S Sd D : Addr} :
    CallR w 42 [.ref S] 4 (fun news => StoreAt news S Sd D) (fun news x news' => x = .none ∧ news' = news) := by
  unfold CallR; w_top off; k_fill
  rintro mean mg mb dp un gd cn cs a ccd cl outer A₀ base h₀ L m news s Q E B F X N T hk hdp hun ⟨hh, tk, hS, hSd⟩ ret
  refine wpAny_call ?_
  k_dflt ktr_enter
  k_steps
  exact ret _ _ _ _ (by k_asm) (by k_asm) ⟨rfl, rfl⟩
local macro_rules | `(tactic| walk_at "call ref") => `(tactic| (k_here; (with_reducible show wpAny _ _ (call (Value.ref 42) _) _ _ _); k_dflt (refine' CallR.use ?kB ?kF ?kX ?kN ?kT ?kk dump_ok ?kd ?ku (StoreAt.mk ?a ?b) ?_; (case kB => k_asm); (case kF => k_asm); (case kX => k_asm); (case kN => k_asm); (case kT => k_asm); (case kk => first | exact rfl | assumption); (case a => k_mem); (case b => k_mem); (case kd => ktr_room); (case ku => ktr_units); k_whole; intro r' h' tk' news' F' N' hp'; obtain ⟨hr', hn'⟩ := hp'; subst hr' hn')))
set_option maxRecDepth 100000 in
set_option maxHeartbeats 8000000 in
theorem rall_ok {w : World} {S Sd D : Addr} :
    CallR w 77 [.ref S] 4 (fun news => StoreAt news S Sd D ∧ S ≠ Sd) (fun news x news' => x = .none ∧ ∃ D', StoreAt news' S Sd D' ∧ DictIn w news' D' [] ∧ (∀ p ∈ news, p.1 ≠ D') ∧ Chg [Sd] news news') := by
  unfold CallR; w_top off; k_fill
  rintro mean mg mb dp un gd cn cs a ccd cl outer A₀ base h₀ L m news s Q E B F X N T hk hdp hun ⟨⟨hh, tk, hS, hSd⟩, hne⟩ ret
  obtain ⟨rest, N1, hsep, hsub⟩ := split1 N hSd
  replace hS := hsub _ hS hne
  clear N
  refine wpAny_call ?_
  k_dflt ktr_enter
  k_steps
  exact ret _ _ _ _ (by k_asm) (by k_asm) ⟨rfl, _, StoreAt.mk (List.mem_cons_of_mem _ (List.mem_cons_of_mem _ hS)) (List.mem_cons_of_mem _ List.mem_cons_self), ⟨_, List.mem_cons_self, by k_asm, by k_asm⟩, fresh_of (by assumption) hsub, fun p hp hne => List.mem_cons_of_mem _ (List.mem_cons_of_mem _ (hsub p hp (by simpa using hne)))⟩
set_option maxRecDepth 100000 in
set_option maxHeartbeats 8000000 in
theorem close_ok {w : World} {K Kd S Sd D : Addr} :
    CallR w 215 [.ref K] 8 (fun news => KeepAt news K Kd S ∧ StoreAt news S Sd D ∧ K ≠ Kd ∧ S ≠ Kd ∧ Sd ≠ Kd) (fun news x news' => x = .none ∧ KeepAt news' K Kd S ∧ Chg [Kd] news news') := by
  unfold CallR; w_top off; k_fill
  rintro mean mg mb dp un gd cn cs a ccd cl outer A₀ base h₀ L m news s Q E B F X N T hk hdp hun ⟨⟨h1, h2, h3, t1, t2, t3, c, ck, hK, hKd⟩, ⟨hh, tk, hS, hSd⟩, hKK, hSK, hSdK⟩ ret
  obtain ⟨rest, N1, hsep, hsub⟩ := split1 N hKd
  replace hK := hsub _ hK hKK
  replace hS := hsub _ hS hSK
  replace hSd := hsub _ hSd hSdK
  clear N
  cases c
  · refine wpAny_call ?_
    k_dflt ktr_enter
    k_steps
    exact ret _ _ _ _ (by k_asm) (by k_asm) ⟨rfl, KeepAt.mk (List.mem_cons_of_mem _ hK) List.mem_cons_self, fun p hp hne => List.mem_cons_of_mem _ (hsub p hp (by simpa using hne))⟩
  · refine wpAny_call ?_
    k_dflt ktr_enter
    k_steps
    exact ret _ _ _ _ (by k_asm) (by k_asm) ⟨rfl, KeepAt.mk (List.mem_cons_of_mem _ hK) List.mem_cons_self, fun p hp hne => List.mem_cons_of_mem _ (hsub p hp (by simpa using hne))⟩
set_option maxRecDepth 100000 in
set_option maxHeartbeats 8000000 in
theorem kset_old {w : World} {K Kd S Sd D r : Addr} {t key : Str} {tt tkey : Tok} {v : Value} {kvs row : List (Str × Value)} :
    CallR w 180 [.ref K, .str t tt, .str key tkey, v] 8 (fun news => KeepAt news K Kd S ∧ StoreAt news S Sd D ∧ DictIn w news D kvs ∧ valueAt kvs t = some (.ref r) ∧ DictIn w news r row ∧ row.length ≤ sizeLine ∧ S ≠ r ∧ Sd ≠ r ∧ D ≠ r)
      (fun news x news' => x = .none ∧ DictIn w news' r (stored row key v) ∧ Chg [r] news news') := by
  unfold CallR; w_top off; k_fill
  rintro mean mg mb dp un gd cn cs a ccd cl outer A₀ base h₀ L m news s Q E B F X N T hk hdp hun ⟨⟨h1, h2, h3, t1, t2, t3, c, ck, hK, hKd⟩, hpre⟩ ret
  have hpre' := hpre
  obtain ⟨⟨hh, tk, hS, hSd⟩, -⟩ := hpre'
  refine wpAny_call ?_
  k_dflt ktr_enter
  k_steps
  try dsimp only [List.nil_append, List.cons_append, List.append_nil]
  refine' CallR.use ?kB ?kF ?kX ?kN ?kT ?kk set_old ?kd ?ku hpre ?_
  (case kB => k_asm); (case kF => k_asm); (case kX => k_asm); (case kN => k_asm); (case kT => k_asm)
  (case kk => first | exact rfl | assumption)
  (case kd => ktr_room); (case ku => ktr_units)
  intro r' h' tk' news' F' N' hp'
  k_steps
  exact ret _ _ _ _ (by k_asm) (by k_asm) ⟨rfl, hp'.2⟩
set_option maxRecDepth 100000 in
set_option maxHeartbeats 8000000 in
theorem kset_new {w : World} {K Kd S Sd D : Addr} {t key : Str} {tt tkey : Tok} {v : Value} {kvs : List (Str × Value)} :
    CallR w 180 [.ref K, .str t tt, .str key tkey, v] 8 (fun news => KeepAt news K Kd S ∧ StoreAt news S Sd D ∧ DictIn w news D kvs ∧ valueAt kvs t = none ∧ kvs.length ≤ sizeLine ∧ S ≠ D ∧ Sd ≠ D)
      (fun news x news' => x = .none ∧ ∃ r, DictIn w news' r [(key, v)] ∧ DictIn w news' D (stored kvs t (.ref r)) ∧ (∀ p ∈ news, p.1 ≠ r) ∧ Chg [D] news news') := by
  unfold CallR; w_top off; k_fill
  rintro mean mg mb dp un gd cn cs a ccd cl outer A₀ base h₀ L m news s Q E B F X N T hk hdp hun ⟨⟨h1, h2, h3, t1, t2, t3, c, ck, hK, hKd⟩, hpre⟩ ret
  have hpre' := hpre
  obtain ⟨⟨hh, tk, hS, hSd⟩, -⟩ := hpre'
  refine wpAny_call ?_
  k_dflt ktr_enter
  k_steps
  try dsimp only [List.nil_append, List.cons_append, List.append_nil]
  refine' CallR.use ?kB ?kF ?kX ?kN ?kT ?kk set_new ?kd ?ku hpre ?_
  (case kB => k_asm); (case kF => k_asm); (case kX => k_asm); (case kN => k_asm); (case kT => k_asm)
  (case kk => first | exact rfl | assumption)
  (case kd => ktr_room); (case ku => ktr_units)
  intro r' h' tk' news' F' N' hp'
  k_steps
  exact ret _ _ _ _ (by k_asm) (by k_asm) ⟨rfl, hp'.2⟩
set_option maxRecDepth 100000 in
set_option maxHeartbeats 8000000 in
theorem krem_there {w : World} {K Kd S Sd D : Addr} {t : Str} {tt : Tok} {v : Value} {kvs : List (Str × Value)} :
    CallR w 194 [.ref K, .str t tt] 8 (fun news => KeepAt news K Kd S ∧ StoreAt news S Sd D ∧ DictIn w news D kvs ∧ valueAt kvs t = some v ∧ kvs.length ≤ sizeLine ∧ S ≠ D ∧ Sd ≠ D)
      (fun news x news' => x = .none ∧ DictIn w news' D (without kvs t) ∧ Chg [D] news news') := by
  unfold CallR; w_top off; k_fill
  rintro mean mg mb dp un gd cn cs a ccd cl outer A₀ base h₀ L m news s Q E B F X N T hk hdp hun ⟨⟨h1, h2, h3, t1, t2, t3, c, ck, hK, hKd⟩, hpre⟩ ret
  have hpre' := hpre
  obtain ⟨⟨hh, tk, hS, hSd⟩, -⟩ := hpre'
  refine wpAny_call ?_
  k_dflt ktr_enter
  k_steps
  try dsimp only [List.nil_append, List.cons_append, List.append_nil]
  refine' CallR.use ?kB ?kF ?kX ?kN ?kT ?kk rem_there ?kd ?ku hpre ?_
  (case kB => k_asm); (case kF => k_asm); (case kX => k_asm); (case kN => k_asm); (case kT => k_asm)
  (case kk => first | exact rfl | assumption)
  (case kd => ktr_room); (case ku => ktr_units)
  intro r' h' tk' news' F' N' hp'
  k_steps
  exact ret _ _ _ _ (by k_asm) (by k_asm) ⟨rfl, hp'.2⟩
set_option maxRecDepth 100000 in
set_option maxHeartbeats 8000000 in
theorem krem_not {w : World} {K Kd S Sd D : Addr} {t : Str} {tt : Tok} {kvs : List (Str × Value)} :
    CallR w 194 [.ref K, .str t tt] 8 (fun news => KeepAt news K Kd S ∧ StoreAt news S Sd D ∧ DictIn w news D kvs ∧ valueAt kvs t = none)
      (fun news x news' => x = .none ∧ news' = news) := by
  unfold CallR; w_top off; k_fill
  rintro mean mg mb dp un gd cn cs a ccd cl outer A₀ base h₀ L m news s Q E B F X N T hk hdp hun ⟨⟨h1, h2, h3, t1, t2, t3, c, ck, hK, hKd⟩, hpre⟩ ret
  have hpre' := hpre
  obtain ⟨⟨hh, tk, hS, hSd⟩, -⟩ := hpre'
  refine wpAny_call ?_
  k_dflt ktr_enter
  k_steps
  try dsimp only [List.nil_append, List.cons_append, List.append_nil]
  refine' CallR.use ?kB ?kF ?kX ?kN ?kT ?kk rem_not ?kd ?ku hpre ?_
  (case kB => k_asm); (case kF => k_asm); (case kX => k_asm); (case kN => k_asm); (case kT => k_asm)
  (case kk => first | exact rfl | assumption)
  (case kd => ktr_room); (case ku => ktr_units)
  intro r' h' tk' news' F' N' hp'
  k_steps
  exact ret _ _ _ _ (by k_asm) (by k_asm) ⟨rfl, hp'.2⟩
set_option maxRecDepth 100000 in
set_option maxHeartbeats 8000000 in
theorem krall_ok {w : World} {K Kd S Sd D : Addr} :
    CallR w 201 [.ref K] 8 (fun news => KeepAt news K Kd S ∧ StoreAt news S Sd D ∧ S ≠ Sd)
      (fun news x news' => x = .none ∧ ∃ D', StoreAt news' S Sd D' ∧ DictIn w news' D' [] ∧ (∀ p ∈ news, p.1 ≠ D') ∧ Chg [Sd] news news') := by
  unfold CallR; w_top off; k_fill
  rintro mean mg mb dp un gd cn cs a ccd cl outer A₀ base h₀ L m news s Q E B F X N T hk hdp hun ⟨⟨h1, h2, h3, t1, t2, t3, c, ck, hK, hKd⟩, hpre⟩ ret
  have hpre' := hpre
  obtain ⟨⟨hh, tk, hS, hSd⟩, -⟩ := hpre'
  refine wpAny_call ?_
  k_dflt ktr_enter
  k_steps
  try dsimp only [List.nil_append, List.cons_append, List.append_nil]
  refine' CallR.use ?kB ?kF ?kX ?kN ?kT ?kk rall_ok ?kd ?ku hpre ?_
  (case kB => k_asm); (case kF => k_asm); (case kX => k_asm); (case kN => k_asm); (case kT => k_asm)
  (case kk => first | exact rfl | assumption)
  (case kd => ktr_room); (case ku => ktr_units)
  intro r' h' tk' news' F' N' hp'
  k_steps
  exact ret _ _ _ _ (by k_asm) (by k_asm) ⟨rfl, hp'.2⟩
def TurnEnd (h₀ : Heap) (L I : Addr) (oI : Obj) (cs : Led) (J : (Str → Option Value) → Led → Prop) (s₁ s₂ : Shared) : Prop :=
  ∃ h' tk m' news', s₂ = { s₁ with heap := h', toks := tk } ∧ Fr h₀ L h' m' ∧ News h₀ L h' ((I, oI) :: news') ∧ (∀ p ∈ news', p.1 ≠ I) ∧ (∀ p ∈ cs, p ∈ news') ∧ J m' news'
def TurnPost (h₀ : Heap) (L I : Addr) (oI : Obj) (cs : Led) (J : (Str → Option Value) → Led → Prop) (Q : Flow → Shared → Prop) (s₁ : Shared) (f : Flow) (s₂ : Shared) : Prop :=
  match f with
  | .ret v => Q (.ret v) s₂
  | .brk => Q .next s₂
  | _ => TurnEnd h₀ L I oI cs J s₁ s₂
section
variable {prog : Program} {w : World} {A : Around} {E : Value → Shared → Prop} {s : Shared} {env : Env} {h₀ : Heap} {x : Str} {body : List Stmt} {Q : Flow → Shared → Prop} {m₀ : Str → Option Value} {news : Led}
theorem loop_led {I : Addr} {cs : Led} {n : Nat} {P : Nat → Value → Prop} {St : Nat → Heap → Prop} (W : Walks prog w A I (I :: cs.map (·.1)) [I] n P St) (hst : St 0 s.heap) (hI0 : h₀.get? I = none) (hIL : env.locals ≠ I) (hIn : ∀ p ∈ news, p.1 ≠ I) (hcs : ∀ p ∈ cs, p ∈ news)
    (hlive : ∀ i h, St i h → ∃ o, h.get? I = some o) (F : Fr h₀ env.locals s.heap m₀) (N : News h₀ env.locals s.heap news) (J : Nat → (Str → Option Value) → Led → Prop) (hj : J 0 m₀ news)
    (turn : ∀ i v m₁ news₁ oI h tk, i < n → P i v → (∀ p ∈ news₁, p.1 ≠ I) → (∀ p ∈ cs, p ∈ news₁) → J i m₁ news₁ → Fr h₀ env.locals h (fun y => if y = x then some v else m₁ y) → News h₀ env.locals h ((I, oI) :: news₁) →
      wpAny (model prog w) A (execs body env) (TurnPost h₀ env.locals I oI cs (J (i + 1)) Q { s with heap := h, toks := tk }) E { s with heap := h, toks := tk })
    (done : ∀ m₁ news₁ h tk, J n m₁ news₁ → (∀ p ∈ cs, p ∈ news₁) → Fr h₀ env.locals h m₁ → News h₀ env.locals h news₁ → Q .next { s with heap := h, toks := tk }) :
    LoopAtV prog w A h₀ env x body Q E (.ref I) s := by
  have mI : I ∈ [I] := List.mem_singleton.mpr rfl
  refine ⟨I, I :: cs.map (·.1), [I], n, P, St, m₀, news, fun i m nx => (∀ p ∈ cs, p ∈ nx) ∧ J i m nx, rfl, W, ?_, ?_, ?_, hst, F, N, ⟨hcs, hj⟩, ?_, ?_⟩
  · intro hm
    rcases List.mem_cons.mp hm with e | hm
    · exact hIL e
    · obtain ⟨q, hq, e⟩ := List.mem_map.mp hm
      exact (N _ (hcs q hq)).2.1 e
  · intro b hb
    rw [List.mem_singleton.mp hb]; exact hI0
  · intro p hp hI
    exact hIn p hp (List.mem_singleton.mp hI)
  · rintro i v m₁ news₁ s₁ own ⟨h, tk, rfl⟩ hi hP ⟨hc1, hJ⟩ hoff hsub hget hall hst₁ F₁ N₁
    obtain ⟨oI, hoI⟩ := hlive _ _ hst₁
    have hown : (I, oI) ∈ own := hall I List.mem_cons_self hI0 oI hoI
    have hn1 : ∀ p ∈ news₁, p.1 ≠ I := fun p hp e => hoff p hp (by rw [e]; exact mI)
    have N₂ : News h₀ env.locals h ((I, oI) :: news₁) := fun p hp => by
      rcases List.mem_cons.mp hp with rfl | hp
      · exact N₁ _ (List.mem_append_left _ hown)
      · exact N₁ _ (List.mem_append_right _ hp)
    refine wpAny_mono (turn i v m₁ news₁ oI h tk hi hP hn1 hc1 hJ F₁ N₂) (fun f s₂ p => ?_) fun _ _ e => e
    have fin : TurnEnd h₀ env.locals I oI cs (J (i + 1)) { s with heap := h, toks := tk } s₂ → LoopStepU h₀ env.locals [I] own (fun m nx => (∀ p ∈ cs, p ∈ nx) ∧ J (i + 1) m nx) { s with heap := h, toks := tk } .next s₂ := by
      rintro ⟨h', tk', m', news', e, F', N', hoff', hc', hJ'⟩
      refine ⟨rfl, h', tk', m', news', e, F', fun p hp => ?_, fun p hp hI => hoff' p hp (List.mem_singleton.mp hI), hc', hJ'⟩
      rcases List.mem_append.mp hp with hp | hp
      · have hg := hget p hp
        rcases List.mem_cons.mp (hsub p hp) with e1 | hm
        · have : p = (I, oI) := Prod.ext e1 (by rw [e1] at hg; exact (Option.some.inj (hg.symm.trans hoI)))
          rw [this]; exact N' _ List.mem_cons_self
        · obtain ⟨q, hq, e1⟩ := List.mem_map.mp hm
          have hq1 := (N₁ _ (List.mem_append_right _ (hc1 q hq))).1
          have : p = q := Prod.ext e1.symm (by rw [← e1] at hg; exact (Option.some.inj (hg.symm.trans hq1)))
          rw [this]; exact N' _ (List.mem_cons_of_mem _ (hc' q hq))
      · exact N' _ (List.mem_cons_of_mem _ hp)
    cases f with
    | ret v => exact .ret p
    | brk => exact .brk p
    | next => exact .next (fin p)
    | cont => exact .cont (fin p)
  · rintro h' tk m' news' F' N' _ ⟨hc', hJ⟩
    exact done m' news' h' tk hJ hc' F' N'
theorem fresh_all {h : Heap} {L : Addr} {news : Led} (N : News h₀ L h news) : ∀ p ∈ news, p.1 ≠ h.objs.size := fun p hp e => absurd (Heap.lt_size (N p hp).1) (by rw [e]; exact Nat.lt_irrefl _)
theorem pushed {h : Heap} {L : Addr} {news : Led} (N : News h₀ L h news) (o : Obj) : News h₀ L (h.push o) news := fun p hp => ⟨Heap.get?_push_of_some _ (N p hp).1, (N p hp).2⟩
theorem iter_list {l : Addr} {vs : List Value} {nn : Nat} (hh : A.handled = none) (hl : (l, listOf vs.toArray nn) ∈ news) (F : Fr h₀ env.locals s.heap m₀) (N : News h₀ env.locals s.heap news) (J : Nat → (Str → Option Value) → Led → Prop) (hj : J 0 m₀ news)
    (turn : ∀ i v m₁ news₁ I oI h tk, vs[i]? = some v → (∀ p ∈ news₁, p.1 ≠ I) → (l, listOf vs.toArray nn) ∈ news₁ → J i m₁ news₁ → Fr h₀ env.locals h (fun y => if y = x then some v else m₁ y) → News h₀ env.locals h ((I, oI) :: news₁) →
      wpAny (model prog w) A (execs body env) (TurnPost h₀ env.locals I oI [(l, listOf vs.toArray nn)] (J (i + 1)) Q { s with heap := h, toks := tk }) E { s with heap := h, toks := tk })
    (done : ∀ m₁ news₁ h tk, J vs.length m₁ news₁ → Fr h₀ env.locals h m₁ → News h₀ env.locals h news₁ → Q .next { s with heap := h, toks := tk }) :
    wpAny (model prog w) A (pyIter (.ref l)) (fun it s₂ => LoopAtV prog w A h₀ env x body Q E it s₂) E s := by
  have hol : s.heap.get? l = some (listOf vs.toArray nn) := (N _ hl).1
  have hls : s.heap.IsList l vs.toArray := ⟨_, hol, rfl, nn, rfl⟩
  have hne : l ≠ s.heap.objs.size := Nat.ne_of_lt (Heap.lt_size hol)
  refine wpAny_pyIter_list hls ?_
  have W := Walks.list (prog := prog) (w := w) hh s.heap.objs.size l hne vs.toArray
  rw [List.size_toArray] at W
  refine loop_led (cs := [(l, listOf vs.toArray nn)]) W ⟨⟨_, Heap.get?_push_size _ rfl, rfl, rfl⟩, hls.at fun o e => Heap.get?_push_of_some _ e⟩ (next_is_new F) (Nat.ne_of_lt F.ns.lt) (fresh_all N) (fun p hp => by rw [List.mem_singleton.mp hp]; exact hl)
    (fun i h st => let ⟨o, ho, _⟩ := st.1; ⟨o, ho⟩) (F.push _) (pushed N _) J hj ?_ ?_
  · intro i v m₁ news₁ oI h tk hi hP hn hc hJ F₁ N₁
    exact turn i v m₁ news₁ _ oI h tk (by simpa using hP) hn (hc _ (List.mem_singleton.mpr rfl)) hJ F₁ N₁
  · intro m₁ news₁ h tk hJ hc F₁ N₁
    exact done m₁ news₁ h tk hJ F₁ N₁
theorem iter_dict {d : Addr} {o : Obj} {kvs : List (Str × Value)} (hh : A.handled = none) (hd : (d, o) ∈ news) (ho : o.IsDictOf (PySem.strKind prog w) kvs) (lo : (d == sysModules) = false) (F : Fr h₀ env.locals s.heap m₀) (N : News h₀ env.locals s.heap news) (J : Nat → (Str → Option Value) → Led → Prop) (hj : J 0 m₀ news)
    (turn : ∀ i k xv t m₁ news₁ I oI h tk, kvs[i]? = some (k, xv) → (∀ p ∈ news₁, p.1 ≠ I) → (d, o) ∈ news₁ → J i m₁ news₁ → Fr h₀ env.locals h (fun y => if y = x then some (.str k t) else m₁ y) → News h₀ env.locals h ((I, oI) :: news₁) →
      wpAny (model prog w) A (execs body env) (TurnPost h₀ env.locals I oI [(d, o)] (J (i + 1)) Q { s with heap := h, toks := tk }) E { s with heap := h, toks := tk })
    (done : ∀ m₁ news₁ h tk, J kvs.length m₁ news₁ → Fr h₀ env.locals h m₁ → News h₀ env.locals h news₁ → Q .next { s with heap := h, toks := tk }) :
    wpAny (model prog w) A (pyIter (.ref d)) (fun it s₂ => LoopAtV prog w A h₀ env x body Q E it s₂) E s := by
  obtain ⟨ep, hat⟩ := (kda_dict N hd ho).dictAt
  have hne : d ≠ s.heap.objs.size := Nat.ne_of_lt hat.lt_size
  refine wpAny_pyIter_dict lo hat ?_
  refine loop_led (cs := [(d, o)]) (Walks.dictKeys (knd := PySem.strKind prog w) hh _ d hne kvs ep) ⟨⟨_, Heap.get?_push_size _ rfl, rfl, rfl⟩, hat.push _⟩ (next_is_new F) (Nat.ne_of_lt F.ns.lt) (fresh_all N) (fun p hp => by rw [List.mem_singleton.mp hp]; exact hd)
    (fun i h st => let ⟨o, ho, _⟩ := st.1; ⟨o, ho⟩) (F.push _) (pushed N _) J hj ?_ ?_
  · rintro i v m₁ news₁ oI h tk hi ⟨k, xv, hx, hkey⟩ hn hc hJ F₁ N₁
    obtain ⟨t, rfl⟩ := Value.isStrOf_shape hkey
    exact turn i k xv t m₁ news₁ _ oI h tk hx hn (hc _ (List.mem_singleton.mpr rfl)) hJ F₁ N₁
  · intro m₁ news₁ h tk hJ hc F₁ N₁
    exact done m₁ news₁ h tk hJ F₁ N₁
theorem iter_range {r : Addr} {a₀ b₀ : Int} {t₀ u₀ v₀ : Tok} {n : Nat} (hh : A.handled = none) (hr : IsRange s.heap r a₀ b₀ 1 t₀ u₀ v₀) (hsmall : Builtin.Range.small a₀ b₀ 1 = true) (hn : Builtin.Range.rangeSize a₀ b₀ 1 = (n : Int)) (F : Fr h₀ env.locals s.heap m₀) (N : News h₀ env.locals s.heap news)
    (J : Nat → (Str → Option Value) → Led → Prop) (hj : J 0 m₀ news)
    (turn : ∀ i t m₁ news₁ I oI h tk, i < n → (∀ p ∈ news₁, p.1 ≠ I) → J i m₁ news₁ → Fr h₀ env.locals h (fun y => if y = x then some (.int (a₀ + (i : Int)) t) else m₁ y) → News h₀ env.locals h ((I, oI) :: news₁) →
      wpAny (model prog w) A (execs body env) (TurnPost h₀ env.locals I oI [] (J (i + 1)) Q { s with heap := h, toks := tk }) E { s with heap := h, toks := tk })
    (done : ∀ m₁ news₁ h tk, J n m₁ news₁ → Fr h₀ env.locals h m₁ → News h₀ env.locals h news₁ → Q .next { s with heap := h, toks := tk }) :
    wpAny (model prog w) A (pyIter (.ref r)) (fun it s₂ => LoopAtV prog w A h₀ env x body Q E it s₂) E s := by
  refine wpAny_pyIter_range hr hsmall ?_
  have W : Walks prog w A s.heap.objs.size [s.heap.objs.size] [s.heap.objs.size] n (fun i v => ∃ t, v = .int (a₀ + i * 1) t)
      (fun i h => IsRangeIter h s.heap.objs.size (a₀ + (i : Nat) * 1) ((n : Int) - (i : Nat)) 1) := Walks.range hh _ a₀ 1 n
  refine loop_led (cs := []) W (by show IsRangeIter _ _ _ _ _; rw [hn]; simpa using Heap.get?_push_size _ rfl) (next_is_new F) (Nat.ne_of_lt F.ns.lt) (fresh_all N) (fun p hp => absurd hp List.not_mem_nil)
    (fun i h st => ⟨_, st⟩) (F.push _) (pushed N _) J hj ?_ ?_
  · rintro i v m₁ news₁ oI h tk hi ⟨t, rfl⟩ hn hc hJ F₁ N₁
    exact turn i t m₁ news₁ _ oI h tk hi hn hJ (by simpa using F₁) N₁
  · intro m₁ news₁ h tk hJ hc F₁ N₁
    exact done m₁ news₁ h tk hJ F₁ N₁
end
def Halt (P : Prop) : Prop := P
theorem halt {P : Prop} (h : Halt P) : P := h
/-- the same but for an int's token -/
def ORel (a b : Option Value) : Prop := a = b ∨ ∃ i t t', a = some (.int i t) ∧ b = some (.int i t')
def RowRel (row row2 : List (Str × Value)) : Prop := row2.map (·.1) = row.map (·.1) ∧ ∀ k, ORel (valueAt row k) (valueAt row2 k)
theorem RowRel.refl (row : List (Str × Value)) : RowRel row row := ⟨rfl, fun _ => .inl rfl⟩
theorem ne_rel {w : World} {A : Around} {E : Value → Shared → Prop} {s : Shared} {h₀ : Heap} {L : Addr} {news : Led} {row row2 : List (Str × Value)} {k : Str} {Q : Value → Shared → Prop}
    (N : News h₀ L s.heap news) (hr : RowRel row row2) (ok : RowOK w news row) (hu : A.units < cLine) (h : Q (.bool false) s) :
    wpAny (model Challenge.rw_aa6015_01.row.prog w) A (compareOp .NotEq ((valueAt row k).getD .none) ((valueAt row2 k).getD .none)) Q E s := by
  rcases hr.2 k with e | ⟨i, t, t', e1, e2⟩
  · rw [← e]; exact ne_self N (ok.getD k) hu h
  · rw [e1, e2]; exact ne_int (by simpa using h)
/-- the store's dict and the book say the same -/
def Same (w : World) (news : Led) (kD kB : List (Str × Value)) : Prop :=
  ∀ t, (valueAt kD t = none ∧ valueAt kB t = none) ∨ ∃ r q row row2, valueAt kD t = some (.ref r) ∧ valueAt kB t = some (.ref q) ∧ DictIn w news r row ∧ DictIn w news q row2 ∧ RowRel row row2 ∧ RowOK w news row
theorem map_junk2 {x j1 j2 : Str} {v : Value} {m₁ m₀ : Str → Option Value} (hm : ∀ z, z ≠ x → z ≠ j1 → z ≠ j2 → m₁ z = m₀ z) :
    (fun y => if y = x then some v else m₁ y) = fun y => if y = x then some v else if y = j1 then m₁ y else if y = j2 then m₁ y else m₀ y := by
  funext y
  by_cases h : y = x
  · simp [h]
  · by_cases h1 : y = j1
    · simp [h, h1]
    · by_cases h2 : y = j2
      · simp [h, h1, h2]
      · simp [h, h1, h2, hm y h h1 h2]
theorem map_junk1 {x j1 : Str} {v : Value} {m₁ m₀ : Str → Option Value} (hm : ∀ z, z ≠ x → z ≠ j1 → m₁ z = m₀ z) :
    (fun y => if y = x then some v else m₁ y) = fun y => if y = x then some v else if y = j1 then m₁ y else m₀ y := by
  funext y
  by_cases h : y = x
  · simp [h]
  · by_cases h1 : y = j1
    · simp [h, h1]
    · simp [h, h1, hm y h h1]
theorem map_junk0 {x : Str} {v : Value} {m₁ m₀ : Str → Option Value} (hm : ∀ z, z ≠ x → m₁ z = m₀ z) :
    (fun y => if y = x then some v else m₁ y) = fun y => if y = x then some v else m₀ y := by
  funext y
  by_cases h : y = x
  · simp [h]
  · simp [h, hm y h]
theorem turn_ro {h₀ h' : Heap} {L I : Addr} {oI : Obj} {cs news nx : Led} {J : (Str → Option Value) → Led → Prop} {m' : Str → Option Value} {s₁ : Shared} {tk : Nat} (F' : Fr h₀ L h' m') (N' : News h₀ L h' nx) (hsub : ∀ p ∈ (I, oI) :: news, p ∈ nx)
    (hI : ∀ p ∈ news, p.1 ≠ I) (hcs : ∀ p ∈ cs, p ∈ news) (hJ : J m' news) : TurnEnd h₀ L I oI cs J s₁ { s₁ with heap := h', toks := tk } :=
  ⟨h', tk, m', news, rfl, F', fun p hp => N' p (hsub p hp), hI, hcs, hJ⟩
theorem subN {h₀ h : Heap} {L : Addr} {news nx : Led} (N : News h₀ L h nx) (hs : ∀ p ∈ news, p ∈ nx) : News h₀ L h news := fun p hp => N p (hs p hp)
def J3 (x a b : Str) (m₀ : Str → Option Value) (news : Led) : Nat → (Str → Option Value) → Led → Prop := fun _ mm nx => nx = news ∧ ∀ z, z ≠ x → z ≠ a → z ≠ b → mm z = m₀ z
theorem j3_start {x a b : Str} {m₀ : Str → Option Value} {news : Led} : J3 x a b m₀ news 0 m₀ news := ⟨rfl, fun _ _ _ _ => rfl⟩
def J2 (x a : Str) (m₀ : Str → Option Value) (news : Led) : Nat → (Str → Option Value) → Led → Prop := fun _ mm nx => nx = news ∧ ∀ z, z ≠ x → z ≠ a → mm z = m₀ z
theorem j2_start {x a : Str} {m₀ : Str → Option Value} {news : Led} : J2 x a m₀ news 0 m₀ news := ⟨rfl, fun _ _ _ => rfl⟩
local macro_rules | `(tactic| k_room) => `(tactic| ktr_room)
local macro_rules | `(tactic| k_units) => `(tactic| first | exact Nat.le_of_ble_eq_true rfl | ktr_units)
local macro_rules | `(tactic| walk_at "call ref") => `(tactic| (k_here; (with_reducible show wpAny _ _ (call (Value.ref 208) _) _ _ _); k_dflt (refine' CallR.use ?kB ?kF ?kX ?kN ?kT ?kk kin_ok ?kd ?ku ⟨KeepAt.mk ?p ?q, StoreAt.mk ?a ?b, DictIn.mk ?c ?d ?e, ?g⟩ ?_; (case kB => k_asm); (case kF => k_asm); (case kX => k_asm); (case kN => k_asm); (case kT => k_asm); (case kk => first | exact rfl | assumption); (case p => k_mem); (case q => k_mem); (case a => k_mem); (case b => k_mem); (case c => k_mem); (case d => k_asm); (case e => k_asm); (case g => first | exact isSome_t (by k_asm) | exact isSome_f (by k_asm) | k_asm); (case kd => ktr_room); (case ku => ktr_units); k_whole; intro r' h' tk' news' F' N' hp'; obtain ⟨hr', hn'⟩ := hp'; subst hr' hn')))
local macro_rules | `(tactic| walk_at "call ref") => `(tactic| (k_here; (with_reducible show wpAny _ _ (call (Value.ref 187) _) _ _ _); k_dflt (refine' CallR.use ?kB ?kF ?kX ?kN ?kT ?kk kget_ok ?kd ?ku ⟨KeepAt.mk ?p ?q, StoreAt.mk ?a ?b, DictIn.mk ?c ?d ?e, ?g⟩ ?_; (case kB => k_asm); (case kF => k_asm); (case kX => k_asm); (case kN => k_asm); (case kT => k_asm); (case kk => first | exact rfl | assumption); (case p => k_mem); (case q => k_mem); (case a => k_mem); (case b => k_mem); (case c => k_mem); (case d => k_asm); (case e => k_asm); (case g => first | k_asm | (refine' CellAt.none ?i; (case i => k_asm)) | (refine' CellAt.some ?i ?j ?k ?l; (case i => k_asm); (case j => k_mem); (case k => k_asm); (case l => k_asm))); (case kd => ktr_room); (case ku => ktr_units); k_whole; intro r' h' tk' news' F' N' hp'; obtain ⟨hr', hn'⟩ := hp'; subst hr' hn')))
local macro_rules | `(tactic| walk_at "exec For Name Call cons nil") => `(tactic| (k_here; refine halt ?_))
local macro_rules | `(tactic| walk_at "exec For Name Name cons nil") => `(tactic| (k_here; refine halt ?_))
local macro_rules | `(tactic| walk_at "pyIter ref") => `(tactic| (k_here; refine halt ?_))
local macro_rules | `(tactic| walk_at "compareOp NotEq") => `(tactic| (k_here; k_dflt (first
  | (refine' ne_rel ?N ?rel ?ok ?u ?_; (case N => k_asm); (case rel => k_asm); (case ok => first | k_asm | (refine' RowOK.mono ?rr ?ss; (case rr => k_asm); (case ss => (intro p hp; repeat (first | exact hp | apply List.mem_cons_of_mem))))); (case u => ktr_units); k_whole)
  | (refine' ne_self ?N ?ok ?u ?_; (case N => k_asm); (case ok => exact ValOK.none _ _); (case u => ktr_units); k_whole))))
set_option maxRecDepth 100000 in
set_option maxHeartbeats 8000000 in
theorem look_ok {w : World} {K Kd S Sd D Bk : Addr} {kD kB : List (Str × Value)} :
    CallR w 308 [.ref S, .ref K, .ref Bk] 16 (fun news => StoreAt news S Sd D ∧ KeepAt news K Kd S ∧ DictIn w news D kD ∧ DictIn w news Bk kB ∧ Same w news kD kB) (fun news x news' => x = .bool true ∧ news' = news) := by
  unfold CallR; w_top off; k_fill
  rintro mean mg mb dp un gd cn cs a ccd cl outer A₀ base h₀ L m news s Q E B F X N T hk hdp hun ⟨⟨hh, tk, hS, hSd⟩, ⟨h1, h2, h3, t1, t2, t3, c, ck, hK, hKd⟩, ⟨oD, hD, hd, lo⟩, ⟨oB, hB, hb, lob⟩, hsame⟩ ret
  refine wpAny_call ?_
  k_dflt ktr_enter
  k_steps
  unfold Halt
  rename Fr _ _ _ _ => lF'
  with_unfolding_all refine' For_invVF lF' ?k1 ?k2 ?_
  (case k1 => exact rfl); (case k2 => exact rfl)
  k_steps
  unfold Halt
  rename Fr _ _ _ _ => lF
  rename News _ _ _ _ => lN
  refine iter_list rfl List.mem_cons_self lF lN (J3 (Str.ofString "t") (Str.ofString "key") (Str.ofString "due") _ _) j3_start ?_ ?_
  · rintro i v m₁ news₁ I oI h tk' hv hI hl ⟨rfl, hm⟩ F₁ N₁
    obtain ⟨t, tt, rfl⟩ : ∃ t tt, v = Value.str t tt := by
      have := List.mem_of_getElem? hv
      simp only [List.mem_cons, List.not_mem_nil, or_false] at this
      rcases this with rfl | rfl | rfl <;> exact ⟨_, _, rfl⟩
    rw [map_junk2 hm] at F₁
    clear lF lN lF'
    rcases hsame t with ⟨hv1, hv2⟩ | ⟨r, q, row, row2, hv1, hv2, ⟨oR, hR, hr, lor⟩, ⟨oQ, hQ, hq, loq⟩, hrel, hrow⟩
    · k_steps
      unfold Halt
      rename Fr _ _ _ _ => lF'
      with_unfolding_all refine' For_invVF lF' ?k1 ?k2 ?_
      (case k1 => exact rfl); (case k2 => exact rfl)
      k_steps
      unfold Halt
      rename Fr _ _ _ _ => lF
      rename News _ _ _ _ => lN
      refine iter_list rfl List.mem_cons_self lF lN (J2 (Str.ofString "key") (Str.ofString "due") _ _) j2_start ?_ ?_
      · rintro i2 v2 m2 news2 I2 oI2 h2 tk2 hv' hI2 hl2 ⟨rfl, hm2⟩ F2 N2
        obtain ⟨key, tkey, rfl⟩ : ∃ t tt, v2 = Value.str t tt := by
          have := List.mem_of_getElem? hv'
          simp only [List.mem_cons, List.not_mem_nil, or_false] at this
          rcases this with rfl | rfl | rfl <;> exact ⟨_, _, rfl⟩
        rw [map_junk1 hm2] at F2
        clear lF lN lF'
        k_steps
        refine' turn_ro ?f ?n ?h ?i ?c ?j
        case f => k_asm
        case n => k_asm
        case h => (intro p hp; repeat (first | exact hp | apply List.mem_cons_of_mem))
        case i => exact hI2
        case c => exact (fun p hp => by rw [List.mem_singleton.mp hp]; exact hl2)
        case j => exact ⟨rfl, fun z a b => by simp only [if_neg a, if_neg b]⟩
      · rintro m2 news2 h2 tk2 ⟨rfl, hm2⟩ F2 N2
        clear lF lN lF'
        k_steps
        refine' turn_ro ?f ?n ?h ?i ?c ?j
        case f => k_asm
        case n => k_asm
        case h => (intro p hp; repeat (first | exact hp | apply List.mem_cons_of_mem))
        case i => exact hI
        case c => exact (fun p hp => by rw [List.mem_singleton.mp hp]; exact hl)
        case j => exact ⟨rfl, fun z a b c => by rw [hm2 z b c]; simp only [if_neg a, if_neg b, if_neg c]⟩
    · k_steps
      unfold Halt
      rename Fr _ _ _ _ => lF'
      with_unfolding_all refine' For_invVF lF' ?k1 ?k2 ?_
      (case k1 => exact rfl); (case k2 => exact rfl)
      k_steps
      unfold Halt
      rename Fr _ _ _ _ => lF
      rename News _ _ _ _ => lN
      refine iter_list rfl List.mem_cons_self lF lN (J2 (Str.ofString "key") (Str.ofString "due") _ _) j2_start ?_ ?_
      · rintro i2 v2 m2 news2 I2 oI2 h2 tk2 hv' hI2 hl2 ⟨rfl, hm2⟩ F2 N2
        obtain ⟨key, tkey, rfl⟩ : ∃ t tt, v2 = Value.str t tt := by
          have := List.mem_of_getElem? hv'
          simp only [List.mem_cons, List.not_mem_nil, or_false] at this
          rcases this with rfl | rfl | rfl <;> exact ⟨_, _, rfl⟩
        rw [map_junk1 hm2] at F2
        clear lF lN lF'
        k_steps
        refine' turn_ro ?f ?n ?h ?i ?c ?j
        case f => k_asm
        case n => k_asm
        case h => (intro p hp; repeat (first | exact hp | apply List.mem_cons_of_mem))
        case i => exact hI2
        case c => exact (fun p hp => by rw [List.mem_singleton.mp hp]; exact hl2)
        case j => exact ⟨rfl, fun z a b => by simp only [if_neg a, if_neg b]⟩
      · rintro m2 news2 h2 tk2 ⟨rfl, hm2⟩ F2 N2
        clear lF lN lF'
        k_steps
        refine' turn_ro ?f ?n ?h ?i ?c ?j
        case f => k_asm
        case n => k_asm
        case h => (intro p hp; repeat (first | exact hp | apply List.mem_cons_of_mem))
        case i => exact hI
        case c => exact (fun p hp => by rw [List.mem_singleton.mp hp]; exact hl)
        case j => exact ⟨rfl, fun z a b c => by rw [hm2 z b c]; simp only [if_neg a, if_neg b, if_neg c]⟩
  · rintro m₁ news₁ h tk' ⟨rfl, hm⟩ F₁ N₁
    clear lF lN lF'
    k_steps
    refine' ret _ _ _ _ ?f (subN ?n ?h) ⟨rfl, rfl⟩
    case f => k_asm
    case n => k_asm
    case h => (intro p hp; repeat (first | exact hp | apply List.mem_cons_of_mem))
abbrev StrLe (x y : Str) : Prop := x.cps.toList ≤ y.cps.toList
theorem strLe_antisymm {x y : Str} (h1 : StrLe x y) (h2 : StrLe y x) : x = y := by
  have : x.cps.toList = y.cps.toList := List.le_antisymm h1 h2
  cases x; cases y
  simp only [Str.mk.injEq]
  exact Array.toList_inj.mp this
theorem strLe_of {x y : Str} (h : PySem.Spec.ltCps y.cps.toList x.cps.toList = false) : StrLe x y := by
  rw [ltCps_eq] at h
  exact List.not_lt.mp (of_decide_eq_false h)
theorem rising_pw : ∀ (p : Str) (l : List Str), risingS p l = true → (p :: l).Pairwise StrLe
  | p, [], _ => List.pairwise_singleton _ _
  | p, x :: r, h => by
    have h' : (!PySem.Spec.ltCps x.cps.toList p.cps.toList && risingS x r) = true := h
    rw [Bool.and_eq_true] at h'
    have ih := rising_pw x r h'.2
    have hpx : StrLe p x := strLe_of (by simpa using h'.1)
    refine List.pairwise_cons.mpr ⟨fun y hy => ?_, ih⟩
    rcases List.mem_cons.mp hy with rfl | hy
    · exact hpx
    · exact List.le_trans hpx (List.rel_of_pairwise_cons ih hy)
theorem sortedS_pw : ∀ l : List Str, sortedS l = true → l.Pairwise StrLe
  | [], _ => List.Pairwise.nil
  | p :: r, h => rising_pw p r h
theorem sorted_uniq : ∀ {a b : List Str}, a.Perm b → a.Pairwise StrLe → b.Pairwise StrLe → a = b
  | [], b, hp, _, _ => (List.Perm.nil_eq hp)
  | x :: r, [], hp, _, _ => absurd hp.length_eq (by simp)
  | x :: r, y :: q, hp, h1, h2 => by
    have hxy : x = y := by
      have hx : x ∈ y :: q := hp.mem_iff.mp List.mem_cons_self
      have hy : y ∈ x :: r := hp.mem_iff.mpr List.mem_cons_self
      rcases List.mem_cons.mp hx with e | hx
      · exact e
      · rcases List.mem_cons.mp hy with e | hy
        · exact e.symm
        · exact strLe_antisymm (List.rel_of_pairwise_cons h1 hy) (List.rel_of_pairwise_cons h2 hx)
    subst hxy
    rw [sorted_uniq (List.perm_cons x |>.mp hp) (List.pairwise_cons.mp h1).2 (List.pairwise_cons.mp h2).2]
section
variable {w : World} {prog : Program} {A : Around} {E : Value → Shared → Prop} {s : Shared} {h₀ : Heap} {L d : Addr} {m : Str → Option Value} {news : Led} {o : Obj} {kvs : List (Str × Value)}
theorem strs_of : ∀ (vs : List Value) (ks : List Str), vs.length = ks.length → (∀ (j : Nat) (v : Value), vs[j]? = some v → ∃ k, ks[j]? = some k ∧ ∃ t : Tok, v = Value.str k t) → StrsAre vs ks
  | [], [], _, _ => .nil
  | [], _ :: _, h, _ => absurd h (by simp)
  | _ :: _, [], h, _ => absurd h (by simp)
  | v :: vs, k :: ks, h, hv => by
    obtain ⟨k', e, t, rfl⟩ := hv 0 v rfl
    obtain rfl : k = k' := by simpa using e
    exact .cons _ _ (strs_of vs ks (by simpa using h) fun j u hu => by simpa using hv (j + 1) u (by simpa using hu))
theorem sorted_s {Q : Value → Shared → Prop} (hh : A.handled = none) (F : Fr h₀ L s.heap m) (N : News h₀ L s.heap news) (hp : (d, o) ∈ news) (hd : o.IsDictOf (PySem.strKind prog w) kvs) (lo : (d == sysModules) = false) (hn : kvs.length < 64)
    (h : ∀ D h' tk vs ss n, Fr h₀ L h' m → News h₀ L h' ((D, PySem.W.listOf (List.toArray vs) n) :: news) → StrsAre vs ss → ss.Perm (kvs.map (·.1)) → sortedS ss = true → Q (.ref D) { s with heap := h', toks := tk }) :
    wpAny (model prog w) A (call (.builtin "sorted") [.ref d]) Q E s := by
  obtain ⟨ep, hat⟩ := (kda_dict N hp hd).dictAt
  refine kdu_sorted (kdl_dict (knd := PySem.strKind prog w) (kvs := kvs) (ep := ep) lo) hh F N hat (by rw [sizeLine_eq]; omega) fun D h' tk vs F' N' l1 hl hv => ?_
  have hS : StrsAre vs (kvs.map (·.1)) := strs_of vs _ (by simpa using hl) fun j v e => by
    obtain ⟨k, x, hx, hk⟩ := hv j v e
    obtain ⟨t, rfl⟩ := Value.isStrOf_shape hk
    exact ⟨k, by simp [hx], t, rfl⟩
  have z := N' _ List.mem_cons_self
  have ho : h'.get? D = some (seqObj "list" vs.toArray 0) := z.1
  refine wpAny_call_entry PyProof.Rows.slot_list_sort ⟨_, z.1, rfl⟩ PyProof.Rows.entry_list_sort
    (list_sort_treeK strKind_oneLt ho hS.keysOf (fun v₁ v₂ rest e => keyKind_strs (by rw [← e]; exact hS)) (by rw [hl]; exact hn) fun st' hp hs => ⟨.none, rfl, ?_⟩) (PyProof.Rows.args_list_sort _)
  obtain ⟨ss, h1, h2, h3⟩ := sorted_out_str hS hp hs
  obtain ⟨e, he⟩ := sortedHeap_at (out := (arrOf st').map (·.2)) ho
  have old : ∀ b o, b ≠ D → h'.get? b = some o → (sortedHeap h' D vs ((arrOf st').map (·.2))).get? b = some o := fun b o hb ho => (sortedHeap_old hb (Heap.lt_size ho)).trans ho
  have ea : ((arrOf st').map (·.2)) = (((arrOf st').map (·.2)).toList).toArray := by rw [Array.toArray_toList]
  refine h D _ tk _ ss e ⟨F'.ns.at' fun o ho => old _ _ (Ne.symm z.2.1) ho, fun b o ho => old b o (fun q => by have := z.2.2; rw [← q, ho] at this; cases this) (F'.keep b o ho), F'.above⟩ (fun p hp => ?_) h1 h2 h3
  rcases List.mem_cons.mp hp with rfl | hp
  · refine ⟨?_, z.2⟩
    rw [← ea]; exact he
  · have zp := N' p (List.mem_cons_of_mem _ hp)
    exact ⟨old _ _ (Nat.ne_of_lt (l1 p hp)) zp.1, zp.2⟩
theorem ne_strs {l1 l2 : Addr} {vs1 vs2 : List Value} {ss1 ss2 ks ks2 : List Str} {n1 n2 : Nat} {Q : Value → Shared → Prop} (N : News h₀ L s.heap news) (hm1 : (l1, PySem.W.listOf (List.toArray vs1) n1) ∈ news) (hm2 : (l2, PySem.W.listOf (List.toArray vs2) n2) ∈ news)
    (h1 : StrsAre vs1 ss1) (h2 : StrsAre vs2 ss2) (p1 : ss1.Perm ks) (p2 : ss2.Perm ks2) (hks : ks2 = ks) (s1 : sortedS ss1 = true) (s2 : sortedS ss2 = true) (hu : A.units < cLine) (h : Q (.bool false) s) :
    wpAny (model prog w) A (compareOp .NotEq (.ref l1) (.ref l2)) Q E s := by
  subst hks
  have e : ss1 = ss2 := sorted_uniq (p1.trans p2.symm) (sortedS_pw _ s1) (sortedS_pw _ s2)
  subst e
  have i1 : s.heap.IsList l1 vs1.toArray := ⟨_, (N _ hm1).1, rfl, n1, rfl⟩
  have i2 : s.heap.IsList l2 vs2.toArray := ⟨_, (N _ hm2).1, rfl, n2, rfl⟩
  have len1 := StrsAre.length h1
  have len2 := StrsAre.length h2
  refine cmp_ofNotEq (SeqAt.RcNeAt.lists (e := fun _ => true) i1 i2 (by simp [len1, len2]) hu (fun j a b => ?_) _ _ _ _ ?_)
  · have a' : j < vs1.length := by simpa using a
    have b' : j < vs2.length := by simpa using b
    obtain ⟨y1, t1, e1, g1⟩ := StrsAre.item h1 j vs1[j] (by simp [a'])
    obtain ⟨y2, t2, e2, g2⟩ := StrsAre.item h2 j vs2[j] (by simp [b'])
    have : y1 = y2 := Option.some.inj (g1.symm.trans g2)
    subst this
    simp only [List.getElem_toArray]
    rw [e1, e2]
    have := SeqAt.EqAt.str_str (A := A.in1) (s := s) y1 t1 y1 t2
    rwa [beq_self_eq_true] at this
  · have : (!(List.range vs1.toArray.size).all (fun _ => true)) = false := by simp
    rw [this]; exact h
theorem hits_rel {A : Around} {s : Shared} {row row2 : List (Str × Value)} (hn : (row.map (·.1)).Nodup) (hr : RowRel row row2) : KeqHits A s row2 row true := by
  have key : ∀ (r : List (Str × Value)), (∀ p ∈ r, valueAt row p.1 = some p.2) → KeqHits A s row2 r true := by
    intro r
    induction r with
    | nil => intro _; exact .nil
    | cons p r ih =>
      intro h
      obtain ⟨k, v⟩ := p
      have hv := h (k, v) (.head _)
      have rest := ih fun q hq => h q (.tail _ hq)
      rcases hr.2 k with e | ⟨i, t, t', e1, e2⟩
      · have := KeqHits.hit (A := A) (s := s) (e.symm.trans hv) (SeqAt.EqAt.same v) rest
        simpa using this
      · have ev : v = .int i t := Option.some.inj (hv.symm.trans e1)
        have hq : SeqAt.EqAt A s v (.int i t') true := by
          rw [ev]
          have := SeqAt.EqAt.int_int (A := A) (s := s) i t i t'
          rwa [beq_self_eq_true] at this
        have := KeqHits.hit (A := A) (s := s) e2 hq rest
        simpa using this
  refine key row fun p hp => ?_
  obtain ⟨i, hi, e⟩ := List.mem_iff_getElem.mp hp
  exact valueAt_of_get hn (i := i) (by rw [List.getElem?_eq_getElem hi, e])
theorem ne_rows {w : World} {a b : Addr} {oa ob : Obj} {row row2 : List (Str × Value)} {Q : Value → Shared → Prop} (N : News h₀ L s.heap news) (ha : (a, oa) ∈ news) (hb : (b, ob) ∈ news) (da : oa.IsDictOf (PySem.strKind prog w) row) (db : ob.IsDictOf (PySem.strKind prog w) row2)
    (hr : RowRel row row2) (la : (a == sysModules) = false) (lb : (b == sysModules) = false) (hu : A.units < cLine) (h : Q (.bool false) s) : wpAny (model prog w) A (compareOp .NotEq (.ref a) (.ref b)) Q E s := by
  have hn : (row.map (·.1)).Nodup := by obtain ⟨_, _, _, _, _, _, hn⟩ := da; exact hn
  have hl : row.length = row2.length := by have := congrArg List.length hr.1; simpa using this.symm
  exact keq_ne la lb (kda_dict N ha da) (kda_dict N hb db) hu (fun _ => hits_rel hn hr) (by simpa [hl] using h)
end
local macro_rules | `(tactic| walk_at "call builtin:sorted") => `(tactic| (k_here; (with_reducible show wpAny _ _ (call (Value.builtin "sorted") [Value.ref _]) _ _ _); k_dflt (refine' sorted_s ?a ?b ?c ?d ?e ?f ?g ?_; (case a => exact rfl); (case b => k_asm); (case c => k_asm); (case d => k_mem); (case e => k_asm); (case f => k_asm); (case g => assumption); k_whole); intro l' h' tk' vs' ss' n' F' N' hs1' hs2' hs3'))
local macro_rules | `(tactic| walk_at "compareOp NotEq ref ref") => `(tactic| (k_here; k_dflt (first
  | (refine' ne_strs ?a ?b ?c ?d ?e ?f ?g ?k ?h ?i ?u ?_; (case a => k_asm); (case b => k_mem); (case c => k_mem); (case d => k_asm); (case e => k_asm); (case f => k_asm); (case g => k_asm); (case k => k_asm); (case h => k_asm); (case i => k_asm); (case u => ktr_units); k_whole)
  | (refine' ne_rows ?a ?b ?c ?d ?e ?r ?f ?g ?u ?_; (case a => k_asm); (case b => k_mem); (case c => k_mem); (case d => k_asm); (case e => k_asm); (case r => k_asm); (case f => k_asm); (case g => k_asm); (case u => ktr_units); k_whole))))
def J1 (x : Str) (m₀ : Str → Option Value) (news : Led) : Nat → (Str → Option Value) → Led → Prop := fun _ mm nx => nx = news ∧ ∀ z, z ≠ x → mm z = m₀ z
theorem j1_start {x : Str} {m₀ : Str → Option Value} {news : Led} : J1 x m₀ news 0 m₀ news := ⟨rfl, fun _ _ => rfl⟩
set_option maxRecDepth 100000 in
set_option maxHeartbeats 8000000 in
theorem mirror_ok {w : World} {M Bk : Addr} {kD kB : List (Str × Value)} :
    CallR w 315 [.ref M, .ref Bk] 12 (fun news => DictIn w news M kD ∧ DictIn w news Bk kB ∧ kB.map (·.1) = kD.map (·.1) ∧ kD.length < 64 ∧ kB.length < 64 ∧ Same w news kD kB) (fun news x news' => x = .bool true ∧ news' = news) := by
  unfold CallR; w_top off; k_fill
  rintro mean mg mb dp un gd cn cs a ccd cl outer A₀ base h₀ L m news s Q E B F X N T hk hdp hun ⟨⟨oD, hD, hd, lo⟩, ⟨oB, hB, hb, lob⟩, hkeys, hlD, hlB, hsame⟩ ret
  refine wpAny_call ?_
  k_dflt ktr_enter
  k_steps
  unfold Halt
  rename Fr _ _ _ _ => lF'
  with_unfolding_all refine' For_invVF lF' ?k1 ?k2 ?_
  (case k1 => exact rfl); (case k2 => exact rfl)
  k_steps
  unfold Halt
  rename Fr _ _ _ _ => lF
  rename News _ _ _ _ => lN
  have hnod : (kB.map (·.1)).Nodup := by
    have hb' := hb
    obtain ⟨_, _, _, _, _, _, hn⟩ := hb'
    exact hn
  refine iter_dict rfl (List.mem_cons_of_mem _ (List.mem_cons_of_mem _ hB)) hb lob lF lN (J1 (Str.ofString "t") _ _) j1_start ?_ ?_
  · rintro i k xv t m₁ news₁ I oI h tk hx hI hl ⟨rfl, hm⟩ F₁ N₁
    rw [map_junk0 hm] at F₁
    clear lF lN
    have hv := valueAt_of_get hnod hx
    rcases hsame k with ⟨hv1, hv2⟩ | ⟨r, q, row, row2, hv1, hv2, ⟨oR, hR, hr, lor⟩, ⟨oQ, hQ, hq, loq⟩, hrel, hrow⟩
    · rw [hv] at hv2; cases hv2
    · clear hv
      k_steps
      refine' turn_ro ?f ?n ?h ?i ?c ?j
      case f => k_asm
      case n => k_asm
      case h => (intro p hp; repeat (first | exact hp | apply List.mem_cons_of_mem))
      case i => exact hI
      case c => exact (fun p hp => by rw [List.mem_singleton.mp hp]; exact hl)
      case j => exact ⟨rfl, fun z a => by simp only [if_neg a]⟩
  · rintro m₁ news₁ h tk' ⟨rfl, hm⟩ F₁ N₁
    clear lF lN
    k_steps
    refine' ret _ _ _ _ ?f (subN ?n ?h) ⟨rfl, rfl⟩
    case f => k_asm
    case n => k_asm
    case h => (intro p hp; repeat (first | exact hp | apply List.mem_cons_of_mem))
theorem fmod_lo (a : Int) {b : Int} (h : 0 < b) : 0 ≤ a.fmod b := by rw [Int.fmod_eq_emod_of_nonneg _ (Int.le_of_lt h)]; exact Int.emod_nonneg _ (by omega)
theorem fmod_hi (a : Int) {b : Int} (h : 0 < b) : a.fmod b < b := by rw [Int.fmod_eq_emod_of_nonneg _ (Int.le_of_lt h)]; exact Int.emod_lt_of_pos _ h
section
variable {prog : Program} {w : World} {A : Around} {E : Value → Shared → Prop} {s : Shared} {h₀ : Heap} {L l : Addr} {news : Led} {vs : List Value} {n : Nat}
theorem len_l {Q : Value → Shared → Prop} (N : News h₀ L s.heap news) (hl : (l, PySem.W.listOf (List.toArray vs) n) ∈ news) (hz : vs.length < 64) (h : Q (.int vs.length (s.toks + 1)) { s with toks := s.toks + 1 + 1 }) :
    wpAny (model prog w) A (call (.builtin "len") [.ref l]) Q E s :=
  call_len_list (items := vs.toArray) ⟨_, (N _ hl).1, rfl, n, rfl⟩ (by rw [List.size_toArray]; omega) (by rw [List.size_toArray]; exact h)
theorem item_l {value slice : PySem.Expr} {k : Int} {u : Tok} {v : Value} {Q : Value → Shared → Prop} (N : News h₀ L s.heap news) (hl : (l, PySem.W.listOf (List.toArray vs) n) ∈ news) (h0 : 0 ≤ k) (hhi : k < 64) (hx : vs[k.toNat]? = some v) (h : Q v s)
    (hs : subscripted slice false (.ref l) (.int k u) = operate [.ref l, .int k u] (getItem (.ref l) (.int k u)) := by with_unfolding_all rfl) :
    wpAny (model prog w) A (subscriptTail value slice (.ref l) (.int k u)) Q E s :=
  have hL : s.heap.IsList l vs.toArray := ⟨_, (N _ hl).1, rfl, n, rfl⟩
  tail_any hL.typeIs slot_list_getitem.lookup (wpAny_getItem_list hL h0 (by omega) (by simpa using hx) h) hs
end
local macro_rules | `(tactic| walk_at "call builtin:len") => `(tactic| (k_here; (with_reducible show wpAny _ _ (call (Value.builtin "len") [Value.ref _]) _ _ _); k_dflt (refine' len_l ?a ?b ?c ?_; (case a => k_asm); (case b => k_mem); (case c => assumption); k_whole)))
local macro_rules | `(tactic| walk_at "subscriptTail") => `(tactic| (k_here; (with_reducible show wpAny _ _ (subscriptTail _ _ (Value.ref _) (Value.int _ _)) _ _ _); k_dflt (refine' item_l ?a ?b ?c ?d ?e ?_ ?f; (case a => k_asm); (case b => k_mem); (case c => first | assumption | decide | omega); (case d => first | assumption | decide | omega); (case e => first | k_asm | rfl); (case f => with_unfolding_all rfl); k_whole)))
set_option maxRecDepth 100000 in
set_option maxHeartbeats 8000000 in
theorem num_ok {w : World} {l : Addr} {vs : List Value} {ns : List Int} {n : Nat} {k : Int} {tk : Tok} :
    CallR w 301 [.ref l, .int k tk] 8 (fun news => (l, listOf vs.toArray n) ∈ news ∧ IntsAre vs ns ∧ 0 ≤ k ∧ k < 24 ∧ ns.length < 64) (fun news x news' => (∃ i t, x = .int i t ∧ 0 ≤ i ∧ i < 1000003) ∧ news' = news) := by
  unfold CallR; w_top off; k_fill
  rintro mean mg mb dp un gd cn cs a ccd cl outer A₀ base h₀ L m news s Q E B F X N T hk hdp hun ⟨hl, hi, hk0, hk1, hlen⟩ ret
  have hlv : vs.length = ns.length := hi.length
  have hl64 : vs.length < 64 := by omega
  by_cases hlt : k < (vs.length : Int)
  · have hk64 : k < 64 := by omega
    obtain ⟨t, hx⟩ := hi.get k.toNat ns[k.toNat] (by simp)
    refine wpAny_call ?_
    k_dflt ktr_enter
    k_steps
    exact ret _ _ _ _ (by k_asm) (by k_asm) ⟨⟨_, _, rfl, fmod_lo _ (by decide), Int.lt_of_lt_of_le (fmod_hi _ (by decide)) (by decide)⟩, rfl⟩
  · refine wpAny_call ?_
    k_dflt ktr_enter
    k_steps
    exact ret _ _ _ _ (by k_asm) (by k_asm) ⟨⟨_, _, rfl, fmod_lo _ (by decide), Int.lt_of_lt_of_le (fmod_hi _ (by decide)) (by decide)⟩, rfl⟩
structure Ent where
  t : Str
  r : Addr
  q : Addr
  row : List (Str × Value)
  row2 : List (Str × Value)
structure Side where
  S : Addr
  Sd : Addr
  K : Addr
  Kd : Addr
  D : Addr
  Bk : Addr
  ents : List Ent
def kD (es : List Ent) : List (Str × Value) := es.map fun e => (e.t, .ref e.r)
def kB (es : List Ent) : List (Str × Value) := es.map fun e => (e.t, .ref e.q)
def rowsAt (es : List Ent) : List Addr := es.flatMap fun e => [e.r, e.q]
def fp (sd : Side) : List Addr := [sd.S, sd.Sd, sd.K, sd.Kd, sd.D, sd.Bk] ++ rowsAt sd.ents
def Safe (bad : List Addr) (v : Value) : Prop := ∀ a, v = .ref a → a ∉ bad
def EntOK (w : World) (news : Led) (bad : List Addr) (b : Nat) (e : Ent) : Prop :=
  DictIn w news e.r e.row ∧ DictIn w news e.q e.row2 ∧ (e.row.length ≤ b ∧ RowRel e.row e.row2) ∧ ∀ k v, valueAt e.row k = some v → ValOK w news v ∧ Safe bad v
structure SideOK (w : World) (news : Led) (bad : List Addr) (b : Nat) (sd : Side) : Prop where
  st : StoreAt news sd.S sd.Sd sd.D
  kp : KeepAt news sd.K sd.Kd sd.S
  dd : DictIn w news sd.D (kD sd.ents)
  db : DictIn w news sd.Bk (kB sd.ents)
  rows : ∀ e ∈ sd.ents, EntOK w news bad b e
  keys : (sd.ents.map (·.t)).Nodup
  len : sd.ents.length ≤ b
  nod : (fp sd).Nodup
  sub : ∀ a ∈ fp sd, a ∈ bad
theorem valueAt_kD (es : List Ent) (t : Str) : valueAt (kD es) t = (es.find? fun e => decide (e.t = t)).map fun e => .ref e.r := by
  induction es with
  | nil => rfl
  | cons e es ih =>
    unfold kD at ih ⊢
    rw [List.map_cons, valueAt_cons, ih, List.find?_cons]
    by_cases h : e.t = t <;> simp [h]
theorem valueAt_kB (es : List Ent) (t : Str) : valueAt (kB es) t = (es.find? fun e => decide (e.t = t)).map fun e => .ref e.q := by
  induction es with
  | nil => rfl
  | cons e es ih =>
    unfold kB at ih ⊢
    rw [List.map_cons, valueAt_cons, ih, List.find?_cons]
    by_cases h : e.t = t <;> simp [h]
theorem kD_keys (es : List Ent) : (kD es).map (·.1) = es.map (·.t) := by unfold kD; rw [List.map_map]; rfl
theorem kB_keys (es : List Ent) : (kB es).map (·.1) = es.map (·.t) := by unfold kB; rw [List.map_map]; rfl
theorem kD_len (es : List Ent) : (kD es).length = es.length := by unfold kD; simp
theorem kB_len (es : List Ent) : (kB es).length = es.length := by unfold kB; simp
theorem pick (es : List Ent) (t : Str) : (valueAt (kD es) t = none ∧ valueAt (kB es) t = none ∧ ∀ e ∈ es, e.t ≠ t) ∨ ∃ e, e ∈ es ∧ e.t = t ∧ valueAt (kD es) t = some (.ref e.r) ∧ valueAt (kB es) t = some (.ref e.q) := by
  rw [valueAt_kD, valueAt_kB]
  cases h : es.find? fun e => decide (e.t = t) with
  | none =>
    refine .inl ⟨rfl, rfl, fun e he q => ?_⟩
    have := List.find?_eq_none.mp h e he
    simp [q] at this
  | some e =>
    refine .inr ⟨e, List.mem_of_find?_eq_some h, ?_, rfl, rfl⟩
    simpa using List.find?_some h
theorem SideOK.same {w : World} {news : Led} {bad : List Addr} {b : Nat} {sd : Side} (h : SideOK w news bad b sd) : Same w news (kD sd.ents) (kB sd.ents) := fun t => by
  rcases pick sd.ents t with ⟨a, c, _⟩ | ⟨e, he, _, h1, h2⟩
  · exact .inl ⟨a, c⟩
  · obtain ⟨g1, g2, g3, g4⟩ := h.rows e he
    exact .inr ⟨e.r, e.q, e.row, e.row2, h1, h2, g1, g2, g3.2, fun k v hv => (g4 k v hv).1⟩
theorem Chg.mono {ds ds' : List Addr} {news news' : Led} (h : Chg ds news news') (hs : ∀ a ∈ ds, a ∈ ds') : Chg ds' news news' := fun p hp hn => h p hp fun q => hn (hs _ q)
theorem Chg.trans {ds : List Addr} {a b c : Led} (h1 : Chg ds a b) (h2 : Chg ds b c) : Chg ds a c := fun p hp hn => h2 p (h1 p hp hn) hn
theorem Chg.of_sub {ds : List Addr} {a b : Led} (h : ∀ p ∈ a, p ∈ b) : Chg ds a b := fun p hp _ => h p hp
theorem StoreAt.keep {ds : List Addr} {news news' : Led} {S Sd D : Addr} (h : StoreAt news S Sd D) (c : Chg ds news news') (h1 : S ∉ ds) (h2 : Sd ∉ ds) : StoreAt news' S Sd D := by
  obtain ⟨hh, tk, a, b⟩ := h
  exact ⟨hh, tk, c _ a h1, c _ b h2⟩
theorem KeepAt.keep {ds : List Addr} {news news' : Led} {K Kd S : Addr} (h : KeepAt news K Kd S) (c : Chg ds news news') (h1 : K ∉ ds) (h2 : Kd ∉ ds) : KeepAt news' K Kd S := by
  obtain ⟨a1, a2, a3, a4, a5, a6, a7, a8, a, b⟩ := h
  exact ⟨a1, a2, a3, a4, a5, a6, a7, a8, c _ a h1, c _ b h2⟩
theorem DictIn.keep {w : World} {ds : List Addr} {news news' : Led} {d : Addr} {kvs : List (Str × Value)} (h : DictIn w news d kvs) (c : Chg ds news news') (h1 : d ∉ ds) : DictIn w news' d kvs := by
  obtain ⟨o, a, b⟩ := h
  exact ⟨o, c _ a h1, b⟩
theorem ValOK.keep {w : World} {ds : List Addr} {news news' : Led} {v : Value} (h : ValOK w news v) (c : Chg ds news news') (h1 : Safe ds v) : ValOK w news' v := by
  rcases h with h | h | h | ⟨d, kvs, e, hd⟩ | ⟨a, items, n, e, hp⟩
  · exact .inl h
  · exact .inr (.inl h)
  · exact .inr (.inr (.inl h))
  · exact .inr (.inr (.inr (.inl ⟨d, kvs, e, hd.keep c (h1 _ e)⟩)))
  · exact .inr (.inr (.inr (.inr ⟨a, items, n, e, c _ hp (h1 _ e)⟩)))
theorem Safe.sub {bad bad' : List Addr} {v : Value} (h : Safe bad v) (hs : ∀ a ∈ bad', a ∈ bad) : Safe bad' v := fun a e q => h a e (hs a q)
theorem Safe.append {a b : List Addr} {v : Value} (h1 : Safe a v) (h2 : Safe b v) : Safe (a ++ b) v := fun x e q => (List.mem_append.mp q).elim (h1 x e) (h2 x e)
/-- what is new is not what a value stands at -/
theorem ValOK.safe_new {w : World} {news : Led} {v : Value} (h : ValOK w news v) {nw : List Addr} (hn : ∀ a ∈ nw, ∀ p ∈ news, p.1 ≠ a) : Safe nw v := fun a e q => by
  rcases h with h | ⟨i, t, h⟩ | ⟨x, t, h⟩ | ⟨d, kvs, h, o, hp, _⟩ | ⟨a', items, n, h, hp⟩
  · rw [h] at e; cases e
  · rw [h] at e; cases e
  · rw [h] at e; cases e
  · rw [h] at e; injection e with e; exact hn a q _ hp e
  · rw [h] at e; injection e with e; exact hn a q _ hp e
/-- one side stands while ds are changed -/
theorem SideOK.keep {w : World} {news news' : Led} {bad nw ds : List Addr} {b b' : Nat} {sd : Side} (h : SideOK w news bad b sd) (c : Chg ds news news') (hds : ∀ a ∈ fp sd, a ∉ ds) (hbad : ∀ a ∈ ds, a ∈ bad) (hnw : ∀ a ∈ nw, ∀ p ∈ news, p.1 ≠ a) (hb : b ≤ b') :
    SideOK w news' (nw ++ bad) b' sd := by
  have mem : ∀ a, a ∈ fp sd → a ∉ ds := hds
  refine ⟨h.st.keep c (mem _ ?_) (mem _ ?_), h.kp.keep c (mem _ ?_) (mem _ ?_), h.dd.keep c (mem _ ?_), h.db.keep c (mem _ ?_), fun e he => ?_, h.keys, Nat.le_trans h.len hb, h.nod, fun a ha => List.mem_append_right _ (h.sub a ha)⟩
  · simp [fp]
  · simp [fp]
  · simp [fp]
  · simp [fp]
  · simp [fp]
  · simp [fp]
  · obtain ⟨g1, g2, g3, g4⟩ := h.rows e he
    refine ⟨g1.keep c (mem _ ?_), g2.keep c (mem _ ?_), ⟨Nat.le_trans g3.1 hb, g3.2⟩, fun k v hv => ?_⟩
    · exact List.mem_append_right _ (List.mem_flatMap.mpr ⟨e, he, by simp⟩)
    · exact List.mem_append_right _ (List.mem_flatMap.mpr ⟨e, he, by simp⟩)
    · obtain ⟨v1, v2⟩ := g4 k v hv
      exact ⟨v1.keep c (v2.sub hbad), Safe.append (v1.safe_new hnw) v2⟩
theorem SideOK.grow {w : World} {news news' : Led} {bad : List Addr} {b b' : Nat} {sd : Side} (h : SideOK w news bad b sd) (c : ∀ p ∈ news, p ∈ news') (hb : b ≤ b') : SideOK w news' bad b' sd :=
  h.keep (nw := []) (ds := []) (Chg.of_sub c) (fun _ _ => List.not_mem_nil) (fun _ q => absurd q List.not_mem_nil) (fun _ q => absurd q List.not_mem_nil) hb
def putEnt (es : List Ent) (t key : Str) (v : Value) : List Ent := es.map fun e => if e.t = t then { e with row := stored e.row key v, row2 := stored e.row2 key v } else e
theorem putEnt_kD (es : List Ent) (t key : Str) (v : Value) : kD (putEnt es t key v) = kD es := by
  unfold kD putEnt; rw [List.map_map]; apply List.map_congr_left; intro e _; simp only [Function.comp]; split <;> rfl
theorem putEnt_kB (es : List Ent) (t key : Str) (v : Value) : kB (putEnt es t key v) = kB es := by
  unfold kB putEnt; rw [List.map_map]; apply List.map_congr_left; intro e _; simp only [Function.comp]; split <;> rfl
theorem putEnt_keys (es : List Ent) (t key : Str) (v : Value) : (putEnt es t key v).map (·.t) = es.map (·.t) := by
  unfold putEnt; rw [List.map_map]; apply List.map_congr_left; intro e _; simp only [Function.comp]; split <;> rfl
theorem putEnt_rows (es : List Ent) (t key : Str) (v : Value) : rowsAt (putEnt es t key v) = rowsAt es := by
  unfold rowsAt putEnt
  induction es with
  | nil => rfl
  | cons e es ih =>
    rw [List.map_cons, List.flatMap_cons, List.flatMap_cons, ih]
    split <;> rfl
theorem nodup_split {α : Type} {a b : List α} (h : (a ++ b).Nodup) : a.Nodup ∧ b.Nodup ∧ ∀ x ∈ a, x ∉ b := by
  rw [List.nodup_append] at h
  exact ⟨h.1, h.2.1, fun x hx hb => h.2.2 x hx x hb rfl⟩
theorem rows_apart : ∀ {es : List Ent}, (rowsAt es).Nodup → (es.map (·.t)).Nodup → ∀ {e e' : Ent}, e ∈ es → e' ∈ es → e'.t ≠ e.t → e'.r ≠ e.r ∧ e'.r ≠ e.q ∧ e'.q ≠ e.r ∧ e'.q ≠ e.q
  | [], _, _, _, _, h, _, _ => absurd h List.not_mem_nil
  | x :: es, hn, hk, e, e', he, he', ht => by
    unfold rowsAt at hn
    rw [List.flatMap_cons] at hn
    obtain ⟨h1, h2, h3⟩ := nodup_split hn
    rw [List.map_cons, List.nodup_cons] at hk
    have inn : ∀ y ∈ es, y.r ∈ es.flatMap (fun e => [e.r, e.q]) ∧ y.q ∈ es.flatMap (fun e => [e.r, e.q]) := fun y hy => ⟨List.mem_flatMap.mpr ⟨y, hy, by simp⟩, List.mem_flatMap.mpr ⟨y, hy, by simp⟩⟩
    have hr : x.r ∉ es.flatMap (fun e => [e.r, e.q]) := h3 _ (by simp)
    have hq : x.q ∉ es.flatMap (fun e => [e.r, e.q]) := h3 _ (by simp)
    rcases List.mem_cons.mp he with rfl | ke
    · rcases List.mem_cons.mp he' with rfl | ke'
      · exact absurd rfl ht
      · obtain ⟨i1, i2⟩ := inn e' ke'
        exact ⟨fun q => hr (q ▸ i1), fun q => hq (q ▸ i1), fun q => hr (q ▸ i2), fun q => hq (q ▸ i2)⟩
    · rcases List.mem_cons.mp he' with rfl | ke'
      · obtain ⟨i1, i2⟩ := inn e ke
        exact ⟨fun q => hr (q ▸ i1), fun q => hr (q ▸ i2), fun q => hq (q ▸ i1), fun q => hq (q ▸ i2)⟩
      · exact rows_apart h2 hk.2 ke ke' ht
theorem row_pair {es : List Ent} (hn : (rowsAt es).Nodup) {e : Ent} (he : e ∈ es) : e.r ≠ e.q := by
  induction es with
  | nil => exact absurd he List.not_mem_nil
  | cons x es ih =>
    unfold rowsAt at hn
    rw [List.flatMap_cons] at hn
    obtain ⟨h1, h2, _⟩ := nodup_split hn
    rcases List.mem_cons.mp he with rfl | he
    · simpa using h1
    · exact ih h2 he
theorem fp_row {sd : Side} {e : Ent} (he : e ∈ sd.ents) : e.r ∈ fp sd ∧ e.q ∈ fp sd :=
  ⟨List.mem_append_right _ (List.mem_flatMap.mpr ⟨e, he, by simp⟩), List.mem_append_right _ (List.mem_flatMap.mpr ⟨e, he, by simp⟩)⟩
theorem fp_heads {sd : Side} (hn : (fp sd).Nodup) {e : Ent} (he : e ∈ sd.ents) : (sd.S ≠ e.r ∧ sd.Sd ≠ e.r ∧ sd.K ≠ e.r ∧ sd.Kd ≠ e.r ∧ sd.D ≠ e.r ∧ sd.Bk ≠ e.r) ∧ (sd.S ≠ e.q ∧ sd.Sd ≠ e.q ∧ sd.K ≠ e.q ∧ sd.Kd ≠ e.q ∧ sd.D ≠ e.q ∧ sd.Bk ≠ e.q) := by
  obtain ⟨_, _, h⟩ := nodup_split hn
  have hr : e.r ∈ rowsAt sd.ents := List.mem_flatMap.mpr ⟨e, he, by simp⟩
  have hq : e.q ∈ rowsAt sd.ents := List.mem_flatMap.mpr ⟨e, he, by simp⟩
  have k : ∀ x ∈ [sd.S, sd.Sd, sd.K, sd.Kd, sd.D, sd.Bk], x ≠ e.r ∧ x ≠ e.q := fun x hx => ⟨fun q => h x hx (q ▸ hr), fun q => h x hx (q ▸ hq)⟩
  exact ⟨⟨(k _ (by simp)).1, (k _ (by simp)).1, (k _ (by simp)).1, (k _ (by simp)).1, (k _ (by simp)).1, (k _ (by simp)).1⟩, ⟨(k _ (by simp)).2, (k _ (by simp)).2, (k _ (by simp)).2, (k _ (by simp)).2, (k _ (by simp)).2, (k _ (by simp)).2⟩⟩
theorem valueAt_stored_cases {row : List (Str × Value)} {key k : Str} {v x : Value} (h : valueAt (stored row key v) k = some x) : x = v ∨ valueAt row k = some x := by
  rw [valueAt_stored] at h
  split at h
  · exact .inl (Option.some.inj h).symm
  · exact .inr h
theorem inj_keys {es : List Ent} (hk : (es.map (·.t)).Nodup) {x y : Ent} (hx : x ∈ es) (hy : y ∈ es) (ht : x.t = y.t) : x = y := by
  induction es with
  | nil => exact absurd hx List.not_mem_nil
  | cons z es ih =>
    rw [List.map_cons, List.nodup_cons] at hk
    rcases List.mem_cons.mp hx with e1 | kx
    · rcases List.mem_cons.mp hy with e2 | ky
      · exact e1.trans e2.symm
      · exact absurd (List.mem_map.mpr ⟨y, ky, by rw [← ht, e1]⟩) hk.1
    · rcases List.mem_cons.mp hy with e2 | ky
      · exact absurd (List.mem_map.mpr ⟨x, kx, by rw [ht, e2]⟩) hk.1
      · exact ih hk.2 kx ky
theorem any_keys (row : List (Str × Value)) (k : Str) : (row.any fun kv => decide (kv.1 = k)) = (row.map (·.1)).any fun x => decide (x = k) := by rw [List.any_map]; rfl
theorem stored_keys (row : List (Str × Value)) (k : Str) (v : Value) : (stored row k v).map (·.1) = if ((row.map (·.1)).any fun x => decide (x = k)) = true then row.map (·.1) else row.map (·.1) ++ [k] := by
  unfold stored
  rw [any_keys]
  split
  · rw [List.map_map]; apply List.map_congr_left; intro p _; simp only [Function.comp]; split <;> rfl
  · rw [List.map_append]; rfl
theorem RowRel.stored {row row2 : List (Str × Value)} (h : RowRel row row2) (k : Str) (v : Value) : RowRel (PySem.stored row k v) (PySem.stored row2 k v) := by
  refine ⟨by rw [stored_keys, stored_keys, h.1], fun x => ?_⟩
  rw [valueAt_stored, valueAt_stored]
  by_cases hx : x = k
  · rw [if_pos hx, if_pos hx]; exact .inl rfl
  · rw [if_neg hx, if_neg hx]; exact h.2 x
/-- a value set in a task that is there -/
theorem SideOK.put_old {w : World} {news news' : Led} {bad : List Addr} {b : Nat} {sd : Side} {e : Ent} {key : Str} {v : Value} (h : SideOK w news bad b sd) (he : e ∈ sd.ents)
    (c : Chg [e.r, e.q] news news') (h1 : DictIn w news' e.r (stored e.row key v)) (h2 : DictIn w news' e.q (stored e.row2 key v)) (hv : ValOK w news' v) (hs : Safe bad v) :
    SideOK w news' bad (b + 1) { sd with ents := putEnt sd.ents e.t key v } := by
  obtain ⟨⟨a1, a2, a3, a4, a5, a6⟩, ⟨c1, c2, c3, c4, c5, c6⟩⟩ := fp_heads h.nod he
  obtain ⟨_, hrn, _⟩ := nodup_split h.nod
  have no : ∀ {x : Addr}, x ≠ e.r → x ≠ e.q → x ∉ [e.r, e.q] := fun hx hy q => by
    rcases List.mem_cons.mp q with q | q
    · exact hx q
    · exact hy (List.mem_singleton.mp q)
  refine ⟨h.st.keep c (no a1 c1) (no a2 c2), h.kp.keep c (no a3 c3) (no a4 c4), ?_, ?_, fun e' he' => ?_, ?_, ?_, ?_, ?_⟩
  · show DictIn w news' sd.D (kD (putEnt sd.ents e.t key v))
    rw [putEnt_kD]; exact h.dd.keep c (no a5 c5)
  · show DictIn w news' sd.Bk (kB (putEnt sd.ents e.t key v))
    rw [putEnt_kB]; exact h.db.keep c (no a6 c6)
  · obtain ⟨x, hx, rfl⟩ := List.mem_map.mp he'
    obtain ⟨g1, g2, g3, g4⟩ := h.rows x hx
    by_cases ht : x.t = e.t
    · have hxe : x = e := by
        have hk := h.keys
        exact inj_keys hk hx he ht
      subst hxe
      simp only [if_true]
      refine ⟨h1, h2, ⟨Nat.le_trans (stored_length_le _ _ _) (Nat.succ_le_succ g3.1), g3.2.stored key v⟩, fun k u hu => ?_⟩
      rcases valueAt_stored_cases hu with rfl | hu
      · exact ⟨hv, hs⟩
      · obtain ⟨v1, v2⟩ := g4 k u hu
        exact ⟨v1.keep c (v2.sub fun a ha => h.sub a (by
          rcases List.mem_cons.mp ha with rfl | ha
          · exact (fp_row he).1
          · rw [List.mem_singleton.mp ha]; exact (fp_row he).2)), v2⟩
    · simp only [if_neg ht]
      obtain ⟨n1, n2, n3, n4⟩ := rows_apart hrn h.keys he hx ht
      refine ⟨g1.keep c (no n1 n2), g2.keep c (no n3 n4), ⟨Nat.le_succ_of_le g3.1, g3.2⟩, fun k u hu => ?_⟩
      obtain ⟨v1, v2⟩ := g4 k u hu
      exact ⟨v1.keep c (v2.sub fun a ha => h.sub a (by
          rcases List.mem_cons.mp ha with rfl | ha
          · exact (fp_row he).1
          · rw [List.mem_singleton.mp ha]; exact (fp_row he).2)), v2⟩
  · show ((putEnt sd.ents e.t key v).map (·.t)).Nodup
    rw [putEnt_keys]; exact h.keys
  · show (putEnt sd.ents e.t key v).length ≤ b + 1
    unfold putEnt; rw [List.length_map]; exact Nat.le_succ_of_le h.len
  · show ([sd.S, sd.Sd, sd.K, sd.Kd, sd.D, sd.Bk] ++ rowsAt (putEnt sd.ents e.t key v)).Nodup
    rw [putEnt_rows]; exact h.nod
  · show ∀ a ∈ [sd.S, sd.Sd, sd.K, sd.Kd, sd.D, sd.Bk] ++ rowsAt (putEnt sd.ents e.t key v), a ∈ bad
    rw [putEnt_rows]; exact h.sub
theorem fresh_ne {w : World} {news : Led} {bad : List Addr} {b : Nat} {sd : Side} (h : SideOK w news bad b sd) {r : Addr} (hr : ∀ p ∈ news, p.1 ≠ r) : r ∉ fp sd := by
  intro q
  obtain ⟨hh, tk, a1, a2⟩ := h.st
  obtain ⟨x1, x2, x3, x4, x5, x6, x7, x8, a3, a4⟩ := h.kp
  obtain ⟨oD, a5, _⟩ := h.dd
  obtain ⟨oB, a6, _⟩ := h.db
  rcases List.mem_append.mp q with q | q
  · simp only [List.mem_cons, List.not_mem_nil, or_false] at q
    rcases q with q | q | q | q | q | q
    · exact hr _ a1 q.symm
    · exact hr _ a2 q.symm
    · exact hr _ a3 q.symm
    · exact hr _ a4 q.symm
    · exact hr _ a5 q.symm
    · exact hr _ a6 q.symm
  · obtain ⟨e, he, hm⟩ := List.mem_flatMap.mp q
    obtain ⟨⟨o1, b1, _⟩, ⟨o2, b2, _⟩, _⟩ := h.rows e he
    rcases List.mem_cons.mp hm with hm | hm
    · exact hr _ b1 hm.symm
    · exact hr _ b2 (List.mem_singleton.mp hm).symm
/-- a value set in a task that is not there -/
theorem SideOK.put_new {w : World} {news news' : Led} {bad : List Addr} {b : Nat} {sd : Side} {t key : Str} {v : Value} {r q : Addr} (h : SideOK w news bad b sd) (hn : ∀ e ∈ sd.ents, e.t ≠ t)
    (c : Chg [sd.D, sd.Bk] news news') (hr : ∀ p ∈ news, p.1 ≠ r) (hq : ∀ p ∈ news, p.1 ≠ q) (hrq : r ≠ q) (h1 : DictIn w news' r [(key, v)]) (h2 : DictIn w news' q [(key, v)])
    (hD : DictIn w news' sd.D (kD sd.ents ++ [(t, .ref r)])) (hB : DictIn w news' sd.Bk (kB sd.ents ++ [(t, .ref q)])) (hv : ValOK w news' v) (hs : Safe bad v) (hs2 : Safe [r, q] v) :
    SideOK w news' ([r, q] ++ bad) (b + 1) { sd with ents := sd.ents ++ [(⟨t, r, q, [(key, v)], [(key, v)]⟩ : Ent)] } := by
  obtain ⟨hh, hrn, hap⟩ := nodup_split h.nod
  have hh' := hh
  simp only [List.nodup_cons, List.mem_cons, List.not_mem_nil, or_false, not_or, List.nodup_nil, and_true, not_false_eq_true] at hh'
  obtain ⟨⟨s1, s2, s3, s4, s5⟩, ⟨d1, d2, d3, d4⟩, ⟨k1, k2, k3⟩, ⟨l1, l2⟩, m1⟩ := hh'
  have no : ∀ {x : Addr}, x ≠ sd.D → x ≠ sd.Bk → x ∉ [sd.D, sd.Bk] := fun hx hy q => by
    rcases List.mem_cons.mp q with q | q
    · exact hx q
    · exact hy (List.mem_singleton.mp q)
  have fr := fresh_ne h hr
  have fq := fresh_ne h hq
  have frr : r ∉ rowsAt sd.ents := fun x => fr (List.mem_append_right _ x)
  have frq : q ∉ rowsAt sd.ents := fun x => fq (List.mem_append_right _ x)
  have dbad : ∀ a ∈ [sd.D, sd.Bk], a ∈ bad := fun a ha => h.sub a (List.mem_append_left _ (by
    rcases List.mem_cons.mp ha with rfl | ha
    · simp
    · rw [List.mem_singleton.mp ha]; simp))
  have fnew : ∀ a ∈ [r, q], ∀ p ∈ news, p.1 ≠ a := fun a ha => by
    rcases List.mem_cons.mp ha with rfl | ha
    · exact hr
    · rw [List.mem_singleton.mp ha]; exact hq
  have rows_app : rowsAt (sd.ents ++ [(⟨t, r, q, [(key, v)], [(key, v)]⟩ : Ent)]) = rowsAt sd.ents ++ [r, q] := by unfold rowsAt; rw [List.flatMap_append]; rfl
  refine ⟨h.st.keep c (no s4 s5) (no d3 d4), h.kp.keep c (no k2 k3) (no l1 l2), ?_, ?_, fun e' he' => ?_, ?_, ?_, ?_, ?_⟩
  · show DictIn w news' sd.D (kD (sd.ents ++ [(⟨t, r, q, [(key, v)], [(key, v)]⟩ : Ent)]))
    have : kD (sd.ents ++ [(⟨t, r, q, [(key, v)], [(key, v)]⟩ : Ent)]) = kD sd.ents ++ [(t, .ref r)] := by unfold kD; rw [List.map_append]; rfl
    rw [this]; exact hD
  · show DictIn w news' sd.Bk (kB (sd.ents ++ [(⟨t, r, q, [(key, v)], [(key, v)]⟩ : Ent)]))
    have : kB (sd.ents ++ [(⟨t, r, q, [(key, v)], [(key, v)]⟩ : Ent)]) = kB sd.ents ++ [(t, .ref q)] := by unfold kB; rw [List.map_append]; rfl
    rw [this]; exact hB
  · rcases List.mem_append.mp he' with he | he
    · obtain ⟨g1, g2, g3, g4⟩ := h.rows e' he
      have ir : e'.r ∈ rowsAt sd.ents := List.mem_flatMap.mpr ⟨e', he, by simp⟩
      have iq : e'.q ∈ rowsAt sd.ents := List.mem_flatMap.mpr ⟨e', he, by simp⟩
      refine ⟨g1.keep c (no (fun x => hap sd.D (by simp) (x ▸ ir)) fun x => hap sd.Bk (by simp) (x ▸ ir)), g2.keep c (no (fun x => hap sd.D (by simp) (x ▸ iq)) fun x => hap sd.Bk (by simp) (x ▸ iq)), ⟨Nat.le_succ_of_le g3.1, g3.2⟩, fun k u hu => ?_⟩
      obtain ⟨v1, v2⟩ := g4 k u hu
      exact ⟨v1.keep c (v2.sub dbad), Safe.append (v1.safe_new fnew) v2⟩
    · rw [List.mem_singleton.mp he]
      refine ⟨h1, h2, ⟨by simp, RowRel.refl _⟩, fun k u hu => ?_⟩
      have : u = v := by
        rw [valueAt_cons] at hu
        split at hu
        · exact (Option.some.inj hu).symm
        · simp [valueAt] at hu
      rw [this]
      exact ⟨hv, Safe.append hs2 hs⟩
  · show ((sd.ents ++ [(⟨t, r, q, [(key, v)], [(key, v)]⟩ : Ent)]).map (·.t)).Nodup
    rw [List.map_append, List.nodup_append]
    refine ⟨h.keys, by simp, fun x hx y hy => ?_⟩
    obtain ⟨e, he, rfl⟩ := List.mem_map.mp hx
    simp only [List.map_cons, List.map_nil, List.mem_singleton] at hy
    rw [hy]; exact hn e he
  · show (sd.ents ++ [(⟨t, r, q, [(key, v)], [(key, v)]⟩ : Ent)]).length ≤ b + 1
    rw [List.length_append]; exact Nat.succ_le_succ h.len
  · show ([sd.S, sd.Sd, sd.K, sd.Kd, sd.D, sd.Bk] ++ rowsAt (sd.ents ++ [(⟨t, r, q, [(key, v)], [(key, v)]⟩ : Ent)])).Nodup
    rw [rows_app, ← List.append_assoc, List.nodup_append]
    refine ⟨h.nod, by simp [hrq], fun x hx y hy e => ?_⟩
    rcases List.mem_cons.mp hy with hy | hy
    · exact fr (by rw [← hy, ← e]; exact hx)
    · exact fq (by rw [← List.mem_singleton.mp hy, ← e]; exact hx)
  · show ∀ a ∈ [sd.S, sd.Sd, sd.K, sd.Kd, sd.D, sd.Bk] ++ rowsAt (sd.ents ++ [(⟨t, r, q, [(key, v)], [(key, v)]⟩ : Ent)]), a ∈ [r, q] ++ bad
    rw [rows_app, ← List.append_assoc]
    intro a ha
    rcases List.mem_append.mp ha with ha | ha
    · exact List.mem_append_right _ (h.sub a ha)
    · exact List.mem_append_left _ ha
def dropEnt (es : List Ent) (t : Str) : List Ent := es.filter fun e => decide (e.t ≠ t)
theorem dropEnt_kD (es : List Ent) (t : Str) : without (kD es) t = kD (dropEnt es t) := by
  unfold without kD dropEnt; rw [List.filter_map]; rfl
theorem dropEnt_kB (es : List Ent) (t : Str) : without (kB es) t = kB (dropEnt es t) := by
  unfold without kB dropEnt; rw [List.filter_map]; rfl
theorem dropEnt_sub {es : List Ent} {t : Str} {a : Addr} (h : a ∈ rowsAt (dropEnt es t)) : a ∈ rowsAt es := by
  obtain ⟨e, he, hm⟩ := List.mem_flatMap.mp h
  exact List.mem_flatMap.mpr ⟨e, (List.mem_filter.mp he).1, hm⟩
theorem dropEnt_nodup (es : List Ent) (t : Str) : (rowsAt (dropEnt es t)).Sublist (rowsAt es) := by
  unfold rowsAt dropEnt
  induction es with
  | nil => exact List.Sublist.refl _
  | cons e es ih =>
    rw [List.filter_cons, List.flatMap_cons]
    split
    · rw [List.flatMap_cons]; exact List.Sublist.append (List.Sublist.refl _) ih
    · exact List.Sublist.trans ih (List.sublist_append_right _ _)
/-- a task removed -/
theorem SideOK.drop {w : World} {news news' : Led} {bad : List Addr} {b : Nat} {sd : Side} {t : Str} (h : SideOK w news bad b sd)
    (c : Chg [sd.D, sd.Bk] news news') (hD : DictIn w news' sd.D (kD (dropEnt sd.ents t))) (hB : DictIn w news' sd.Bk (kB (dropEnt sd.ents t))) :
    SideOK w news' bad (b + 1) { sd with ents := dropEnt sd.ents t } := by
  obtain ⟨hh, hrn, hap⟩ := nodup_split h.nod
  have hh' := hh
  simp only [List.nodup_cons, List.mem_cons, List.not_mem_nil, or_false, not_or, List.nodup_nil, and_true, not_false_eq_true] at hh'
  obtain ⟨⟨s1, s2, s3, s4, s5⟩, ⟨d1, d2, d3, d4⟩, ⟨k1, k2, k3⟩, ⟨l1, l2⟩, m1⟩ := hh'
  have no : ∀ {x : Addr}, x ≠ sd.D → x ≠ sd.Bk → x ∉ [sd.D, sd.Bk] := fun hx hy q => by
    rcases List.mem_cons.mp q with q | q
    · exact hx q
    · exact hy (List.mem_singleton.mp q)
  have dbad : ∀ a ∈ [sd.D, sd.Bk], a ∈ bad := fun a ha => h.sub a (List.mem_append_left _ (by
    rcases List.mem_cons.mp ha with rfl | ha
    · simp
    · rw [List.mem_singleton.mp ha]; simp))
  refine ⟨h.st.keep c (no s4 s5) (no d3 d4), h.kp.keep c (no k2 k3) (no l1 l2), hD, hB, fun e' he' => ?_, ?_, ?_, ?_, ?_⟩
  · have he : e' ∈ sd.ents := (List.mem_filter.mp he').1
    obtain ⟨g1, g2, g3, g4⟩ := h.rows e' he
    have ir : e'.r ∈ rowsAt sd.ents := List.mem_flatMap.mpr ⟨e', he, by simp⟩
    have iq : e'.q ∈ rowsAt sd.ents := List.mem_flatMap.mpr ⟨e', he, by simp⟩
    refine ⟨g1.keep c (no (fun x => hap sd.D (by simp) (x ▸ ir)) fun x => hap sd.Bk (by simp) (x ▸ ir)), g2.keep c (no (fun x => hap sd.D (by simp) (x ▸ iq)) fun x => hap sd.Bk (by simp) (x ▸ iq)), ⟨Nat.le_succ_of_le g3.1, g3.2⟩, fun k u hu => ?_⟩
    obtain ⟨v1, v2⟩ := g4 k u hu
    exact ⟨v1.keep c (v2.sub dbad), v2⟩
  · exact List.Sublist.nodup (List.Sublist.map _ List.filter_sublist) h.keys
  · exact Nat.le_succ_of_le (Nat.le_trans (List.length_filter_le _ _) h.len)
  · exact List.Sublist.nodup (List.Sublist.append (List.Sublist.refl _) (dropEnt_nodup _ _)) h.nod
  · intro a ha
    rcases List.mem_append.mp ha with ha | ha
    · exact h.sub a (List.mem_append_left _ ha)
    · exact h.sub a (List.mem_append_right _ (dropEnt_sub ha))
/-- the manager closed -/
theorem SideOK.closed {w : World} {news news' : Led} {bad : List Addr} {b : Nat} {sd : Side} (h : SideOK w news bad b sd) (c : Chg [sd.Kd] news news') (hk : KeepAt news' sd.K sd.Kd sd.S) : SideOK w news' bad (b + 1) sd := by
  obtain ⟨hh, hrn, hap⟩ := nodup_split h.nod
  have hh' := hh
  simp only [List.nodup_cons, List.mem_cons, List.not_mem_nil, or_false, not_or, List.nodup_nil, and_true, not_false_eq_true] at hh'
  obtain ⟨⟨s1, s2, s3, s4, s5⟩, ⟨d1, d2, d3, d4⟩, ⟨k1, k2, k3⟩, ⟨l1, l2⟩, m1⟩ := hh'
  have no : ∀ {x : Addr}, x ≠ sd.Kd → x ∉ [sd.Kd] := fun hx q => hx (List.mem_singleton.mp q)
  refine ⟨h.st.keep c (no s3) (no d2), hk, h.dd.keep c (no (Ne.symm l1)), h.db.keep c (no (Ne.symm l2)), fun e he => ?_, h.keys, Nat.le_succ_of_le h.len, h.nod, h.sub⟩
  obtain ⟨g1, g2, g3, g4⟩ := h.rows e he
  have ir : e.r ∈ rowsAt sd.ents := List.mem_flatMap.mpr ⟨e, he, by simp⟩
  have iq : e.q ∈ rowsAt sd.ents := List.mem_flatMap.mpr ⟨e, he, by simp⟩
  refine ⟨g1.keep c (no fun x => hap sd.Kd (by simp) (x ▸ ir)), g2.keep c (no fun x => hap sd.Kd (by simp) (x ▸ iq)), ⟨Nat.le_succ_of_le g3.1, g3.2⟩, fun k u hu => ?_⟩
  obtain ⟨v1, v2⟩ := g4 k u hu
  exact ⟨v1.keep c (v2.sub fun a ha => by rw [List.mem_singleton.mp ha]; exact h.sub _ (by simp [fp])), v2⟩
/-- all removed: a new dict, a new book -/
theorem SideOK.fresh {w : World} {news news' : Led} {bad : List Addr} {b : Nat} {sd : Side} {D' B' : Addr} (h : SideOK w news bad b sd) (c : Chg [sd.Sd] news news') (hs : StoreAt news' sd.S sd.Sd D')
    (hD : DictIn w news' D' []) (hB : DictIn w news' B' []) (fD : ∀ p ∈ news, p.1 ≠ D') (fB : ∀ p ∈ news, p.1 ≠ B') (hne : D' ≠ B') :
    SideOK w news' ([D', B'] ++ bad) (b + 1) { sd with D := D', Bk := B', ents := [] } := by
  obtain ⟨hh, hrn, hap⟩ := nodup_split h.nod
  have hh' := hh
  simp only [List.nodup_cons, List.mem_cons, List.not_mem_nil, or_false, not_or, List.nodup_nil, and_true, not_false_eq_true] at hh'
  obtain ⟨⟨s1, s2, s3, s4, s5⟩, ⟨d1, d2, d3, d4⟩, ⟨k1, k2, k3⟩, ⟨l1, l2⟩, m1⟩ := hh'
  have no : ∀ {x : Addr}, x ≠ sd.Sd → x ∉ [sd.Sd] := fun hx q => hx (List.mem_singleton.mp q)
  have nD := fresh_ne h fD
  have nB := fresh_ne h fB
  simp only [fp, List.cons_append, List.nil_append, List.mem_cons, not_or] at nD nB
  refine ⟨hs, h.kp.keep c (no (Ne.symm d1)) (no (Ne.symm d2)), hD, hB, fun e he => absurd he List.not_mem_nil, List.nodup_nil, Nat.zero_le _, ?_, ?_⟩
  · show ([sd.S, sd.Sd, sd.K, sd.Kd, D', B'] ++ rowsAt []).Nodup
    simp only [rowsAt, List.flatMap_nil, List.append_nil, List.nodup_cons, List.mem_cons, List.not_mem_nil, or_false, not_or, List.nodup_nil, and_true, not_false_eq_true]
    exact ⟨⟨s1, s2, s3, Ne.symm nD.1, Ne.symm nB.1⟩, ⟨d1, d2, Ne.symm nD.2.1, Ne.symm nB.2.1⟩, ⟨k1, Ne.symm nD.2.2.1, Ne.symm nB.2.2.1⟩, ⟨Ne.symm nD.2.2.2.1, Ne.symm nB.2.2.2.1⟩, hne⟩
  · show ∀ a ∈ [sd.S, sd.Sd, sd.K, sd.Kd, D', B'] ++ rowsAt [], a ∈ [D', B'] ++ bad
    intro a ha
    simp only [rowsAt, List.flatMap_nil, List.append_nil, List.mem_cons, List.not_mem_nil, or_false] at ha
    have hb : ∀ x ∈ [sd.S, sd.Sd, sd.K, sd.Kd], x ∈ bad := fun x hx => h.sub x (List.mem_append_left _ (by
      simp only [List.mem_cons, List.not_mem_nil, or_false] at hx ⊢
      rcases hx with hx | hx | hx | hx <;> simp [hx]))
    rcases ha with ha | ha | ha | ha | ha | ha
    · exact List.mem_append_right _ (hb a (by simp [ha]))
    · exact List.mem_append_right _ (hb a (by simp [ha]))
    · exact List.mem_append_right _ (hb a (by simp [ha]))
    · exact List.mem_append_right _ (hb a (by simp [ha]))
    · simp [ha]
    · simp [ha]
section
variable {prog : Program} {w : World} {A : Around} {E : Value → Shared → Prop} {s : Shared} {h₀ : Heap} {L l : Addr} {news : Led} {vs : List Value} {n : Nat}
theorem pick_l {value slice : PySem.Expr} {k : Int} {u : Tok} {Q : Value → Shared → Prop} (N : News h₀ L s.heap news) (hl : (l, PySem.W.listOf (List.toArray vs) n) ∈ news) (h0 : 0 ≤ k) (h1 : k < vs.length) (h64 : vs.length < 64) (h : ∀ v, v ∈ vs → Q v s)
    (hs : subscripted slice false (.ref l) (.int k u) = operate [.ref l, .int k u] (getItem (.ref l) (.int k u)) := by with_unfolding_all rfl) :
    wpAny (model prog w) A (subscriptTail value slice (.ref l) (.int k u)) Q E s :=
  have hk : k.toNat < vs.length := by omega
  item_l N hl h0 (by omega) (List.getElem?_eq_getElem hk) (h _ (List.getElem_mem hk)) hs
/-- a place of a written list of texts *)-/
theorem pick_s {value slice : PySem.Expr} {k : Int} {u : Tok} {Q : Value → Shared → Prop} (N : News h₀ L s.heap news) (hl : (l, PySem.W.listOf (List.toArray vs) n) ∈ news) (h0 : 0 ≤ k) (h1 : k < vs.length) (h64 : vs.length < 64) (hall : vs.all (fun v => match v with | .str _ _ => true | _ => false) = true)
    (h : ∀ t tt, Q (.str t tt) s)
    (hs : subscripted slice false (.ref l) (.int k u) = operate [.ref l, .int k u] (getItem (.ref l) (.int k u)) := by with_unfolding_all rfl) :
    wpAny (model prog w) A (subscriptTail value slice (.ref l) (.int k u)) Q E s :=
  pick_l N hl h0 h1 h64 (fun v hv => by
    have := List.all_eq_true.mp hall v hv
    cases v <;> first | exact h _ _ | cases this) hs
end
theorem mod_known {prog : Program} {w : World} {A : Around} {E : Value → Shared → Prop} {s : Shared} {a b c : Int} {t u : Tok} {Q : Value → Shared → Prop} (hb : b ≠ 0) (hc : a.fmod b = c) (h : Q (.int c s.toks) { s with toks := s.toks + 1 }) :
    wpAny (model prog w) A (binaryOp .Mod (.int a t) (.int b u)) Q E s := mod_int' hb (by rw [hc]; exact h)
local macro_rules | `(tactic| walk_at "binaryOp Mod int int") => `(tactic| (k_here; k_dflt (refine' mod_known ?a ?b ?_; (case a => decide); (case b => with_reducible assumption); k_whole)))
local macro_rules | `(tactic| walk_at "subscriptTail") => `(tactic| (k_here; (with_reducible show wpAny _ _ (subscriptTail _ _ (Value.ref _) (Value.int (Int.fmod _ _) _)) _ _ _); refine halt ?_))
local macro_rules | `(tactic| walk_at "call ref") => `(tactic| (k_here; (with_reducible show wpAny _ _ (call (Value.ref 49) _) _ _ _); refine halt ?_))
local macro_rules | `(tactic| walk_at "call ref") => `(tactic| (k_here; (with_reducible show wpAny _ _ (call (Value.ref 180) _) _ _ _); refine halt ?_))
def DeedPost (w : World) (bad : List Addr) (b : Nat) (sd : Side) (news : Led) (x : Value) (news' : Led) : Prop :=
  x = .bool true ∧ ∃ (nw : List Addr) (es : List Ent), (∀ a ∈ nw, ∀ p ∈ news, p.1 ≠ a) ∧ (∀ a ∈ fp { sd with ents := es }, a ∈ fp sd ∨ a ∈ nw) ∧ Chg (fp sd) news news' ∧ SideOK w news' (nw ++ bad) (b + 1) { sd with ents := es }
theorem val5 {w : World} {news news1 : Led} {bad : List Addr} {val : Value} {i : Int} {tk tx : Tok} {x : Str} {dz tup : Addr} {od : Obj} {kz : List (Str × Value)} {items : Array Value} {n : Nat} (hval : val ∈ [Value.int i tk, .str x tx, .ref dz, .none, .ref tup])
    (h1 : (dz, od) ∈ news1) (h2 : od.IsDictOf (PySem.strKind Challenge.rw_aa6015_01.row.prog w) kz) (h3 : (dz == sysModules) = false) (h4 : (tup, ({ cls := .type "tuple", data := .seq items n } : Obj)) ∈ news1)
    (f1 : AllLt dz news) (f2 : AllLt tup news) (hbad : ∀ a ∈ bad, ∃ p ∈ news, p.1 = a) : ValOK w news1 val ∧ Safe bad val := by
  have sf : ∀ d, AllLt d news → Safe bad (.ref d) := fun d f a e q => by
    injection e with e
    obtain ⟨p, hp, hpa⟩ := hbad a q
    exact allLt_ne f p hp (hpa.trans e.symm)
  simp only [List.mem_cons, List.not_mem_nil, or_false] at hval
  rcases hval with rfl | rfl | rfl | rfl | rfl
  · exact ⟨.inr (.inl ⟨_, _, rfl⟩), fun a e => by cases e⟩
  · exact ⟨.inr (.inr (.inl ⟨_, _, rfl⟩)), fun a e => by cases e⟩
  · exact ⟨.inr (.inr (.inr (.inl ⟨dz, kz, rfl, od, h1, h2, h3⟩))), sf _ f1⟩
  · exact ⟨.inl rfl, fun a e => by cases e⟩
  · exact ⟨.inr (.inr (.inr (.inr ⟨tup, items, n, rfl, h4⟩))), sf _ f2⟩
theorem wrapL {w : World} {h₀ h : Heap} {L : Addr} {news nl : Led} {val : Value} (N : News h₀ L h nl) (hs : ∀ p ∈ news, p ∈ nl) {bad : List Addr} (hv : ValOK w nl val ∧ Safe bad val) : ∃ news1, News h₀ L h news1 ∧ (∀ p ∈ news, p ∈ news1) ∧ ValOK w news1 val ∧ Safe bad val := ⟨nl, N, hs, hv⟩
theorem not_mem1 {a x : Addr} (h : a ≠ x) : a ∉ [x] := fun q => h (List.mem_singleton.mp q)
theorem deed_old_end {w : World} {S Sd K Kd D Bk : Addr} {es : List Ent} {bad : List Addr} {b : Nat} {news news1 news2 rest : Led} {e : Ent} {key : Str} {val : Value} {o : Obj} (hsd : SideOK w news bad b ⟨S, Sd, K, Kd, D, Bk, es⟩) (he : e ∈ es)
    (hsub1 : ∀ p ∈ news, p ∈ news1) (hvok : ValOK w news1 val) (hsafe : Safe bad val) (hr2 : DictIn w news2 e.r (stored e.row key val)) (c2 : Chg [e.r] news1 news2) (hsub3 : ∀ p ∈ news2, p.1 ≠ e.q → p ∈ rest)
    (ho : o.IsDictOf (PySem.strKind Challenge.rw_aa6015_01.row.prog w) (stored e.row2 key val)) (loq : (e.q == sysModules) = false) : DeedPost w bad b ⟨S, Sd, K, Kd, D, Bk, es⟩ news (.bool true) ((e.q, o) :: rest) := by
  obtain ⟨fr, fq⟩ := fp_row (sd := ⟨S, Sd, K, Kd, D, Bk, es⟩) he
  obtain ⟨_, hrn, _⟩ := nodup_split hsd.nod
  have hrq := row_pair hrn he
  have c3 : Chg [e.q] news2 ((e.q, o) :: rest) := fun p hp hn => List.mem_cons_of_mem _ (hsub3 p hp fun q => hn (by rw [q]; exact List.mem_singleton.mpr rfl))
  have cc : Chg [e.r, e.q] news ((e.q, o) :: rest) := fun p hp hn => c3 p (c2 p (hsub1 p hp) (fun q => hn (by rw [List.mem_singleton.mp q]; simp))) (fun q => hn (by rw [List.mem_singleton.mp q]; simp))
  have sub2 : ∀ a ∈ [e.r, e.q], a ∈ fp ⟨S, Sd, K, Kd, D, Bk, es⟩ := fun a ha => by
    rcases List.mem_cons.mp ha with rfl | ha
    · exact fr
    · rw [List.mem_singleton.mp ha]; exact fq
  refine ⟨rfl, [], putEnt es e.t key val, fun _ q => absurd q List.not_mem_nil, fun a ha => .inl ?_, cc.mono sub2, ?_⟩
  · have : a ∈ [S, Sd, K, Kd, D, Bk] ++ rowsAt (putEnt es e.t key val) := ha
    rw [putEnt_rows] at this; exact this
  · have sr : Safe [e.r] val := hsafe.sub fun a ha => hsd.sub a (sub2 a (by rw [List.mem_singleton.mp ha]; simp))
    have sq : Safe [e.q] val := hsafe.sub fun a ha => hsd.sub a (sub2 a (by rw [List.mem_singleton.mp ha]; simp))
    exact hsd.put_old he cc (hr2.keep c3 (not_mem1 hrq)) ⟨o, List.mem_cons_self, ho, loq⟩ ((hvok.keep c2 sr).keep c3 sq) hsafe
theorem deed_new_end {w : World} {S Sd K Kd D Bk : Addr} {es : List Ent} {bad : List Addr} {b : Nat} {news news1 news2 rest : Led} {t key : Str} {val : Value} {r q : Addr} {oB oq : Obj} (hsd : SideOK w news bad b ⟨S, Sd, K, Kd, D, Bk, es⟩) (hne : ∀ e ∈ es, e.t ≠ t)
    (hB0 : ∃ o, (Bk, o) ∈ news) (hsub1 : ∀ p ∈ news, p ∈ news1) (hvok : ValOK w news1 val) (hsafe : Safe bad val) (hv1 : valueAt (kD es) t = none) (hv2 : valueAt (kB es) t = none)
    (hr2 : DictIn w news2 r [(key, val)]) (hD2 : DictIn w news2 D (stored (kD es) t (.ref r))) (fr1 : ∀ p ∈ news1, p.1 ≠ r) (c2 : Chg [D] news1 news2) (hsub3 : ∀ p ∈ news2, p.1 ≠ Bk → p ∈ rest) (hl : Bk < q ∧ AllLt q rest)
    (hoB : oB.IsDictOf (PySem.strKind Challenge.rw_aa6015_01.row.prog w) (stored (kB es) t (.ref q))) (hoq : oq.IsDictOf (PySem.strKind Challenge.rw_aa6015_01.row.prog w) (stored [] key val)) (loB : (Bk == sysModules) = false) (loq : (q == sysModules) = false) :
    DeedPost w bad b ⟨S, Sd, K, Kd, D, Bk, es⟩ news (.bool true) ((q, oq) :: (Bk, oB) :: rest) := by
  obtain ⟨hh, hrn, hap⟩ := nodup_split hsd.nod
  have hh' := hh
  simp only [List.nodup_cons, List.mem_cons, List.not_mem_nil, or_false, not_or, List.nodup_nil, and_true, not_false_eq_true] at hh'
  obtain ⟨⟨s1, s2, s3, s4, s5⟩, ⟨d1, d2, d3, d4⟩, ⟨k1, k2, k3⟩, ⟨l1, l2⟩, m1⟩ := hh'
  obtain ⟨oB0, hB0⟩ := hB0
  have hBr : Bk ≠ r := fr1 _ (hsub1 _ hB0)
  obtain ⟨oD2, hD2m, hD2r⟩ := id hD2
  obtain ⟨or2, hr2m, hr2r⟩ := id hr2
  have hlt := allLt_all hl.2
  have hrq : r ≠ q := Nat.ne_of_lt (hlt _ (hsub3 _ hr2m (Ne.symm hBr)))
  have hDq : D < q := hlt _ (hsub3 _ hD2m m1)
  have fq1 : ∀ p ∈ news1, p.1 ≠ q := fun p hp => by
    by_cases e1 : p.1 = D
    · exact Nat.ne_of_lt (e1 ▸ hDq)
    · by_cases e2 : p.1 = Bk
      · exact Nat.ne_of_lt (e2 ▸ hl.1)
      · exact Nat.ne_of_lt (hlt _ (hsub3 _ (c2 p hp (not_mem1 e1)) e2))
  have c3 : Chg [Bk] news2 ((q, oq) :: (Bk, oB) :: rest) := fun p hp hn => List.mem_cons_of_mem _ (List.mem_cons_of_mem _ (hsub3 p hp fun x => hn (by rw [x]; exact List.mem_singleton.mpr rfl)))
  have cc : Chg [D, Bk] news ((q, oq) :: (Bk, oB) :: rest) := fun p hp hn => c3 p (c2 p (hsub1 p hp) (fun x => hn (by rw [List.mem_singleton.mp x]; simp))) (fun x => hn (by rw [List.mem_singleton.mp x]; simp))
  have sub2 : ∀ a ∈ [D, Bk], a ∈ fp ⟨S, Sd, K, Kd, D, Bk, es⟩ := fun a ha => List.mem_append_left _ (by
    rcases List.mem_cons.mp ha with rfl | ha
    · simp
    · rw [List.mem_singleton.mp ha]; simp)
  have sD : Safe [D] val := hsafe.sub fun a ha => hsd.sub a (sub2 a (by rw [List.mem_singleton.mp ha]; simp))
  have sB : Safe [Bk] val := hsafe.sub fun a ha => hsd.sub a (sub2 a (by rw [List.mem_singleton.mp ha]; simp))
  have fnew1 : ∀ a ∈ [r, q], ∀ p ∈ news1, p.1 ≠ a := fun a ha => by
    rcases List.mem_cons.mp ha with rfl | ha
    · exact fr1
    · rw [List.mem_singleton.mp ha]; exact fq1
  have snew : Safe [r, q] val := hvok.safe_new fnew1
  have eD : stored (kD es) t (.ref r) = kD es ++ [(t, .ref r)] := stored_absent hv1 _
  have eB : stored (kB es) t (.ref q) = kB es ++ [(t, .ref q)] := stored_absent hv2 _
  refine ⟨rfl, [r, q], es ++ [(⟨t, r, q, [(key, val)], [(key, val)]⟩ : Ent)], fun a ha p hp => fnew1 a ha p (hsub1 p hp), fun a ha => ?_, cc.mono sub2, ?_⟩
  · have e : rowsAt (es ++ [(⟨t, r, q, [(key, val)], [(key, val)]⟩ : Ent)]) = rowsAt es ++ [r, q] := by unfold rowsAt; rw [List.flatMap_append]; rfl
    have : a ∈ [S, Sd, K, Kd, D, Bk] ++ rowsAt (es ++ [(⟨t, r, q, [(key, val)], [(key, val)]⟩ : Ent)]) := ha
    rw [e, ← List.append_assoc] at this
    exact List.mem_append.mp this
  · exact hsd.put_new hne cc (fun p hp => fr1 p (hsub1 p hp)) (fun p hp => fq1 p (hsub1 p hp)) hrq (hr2.keep c3 (not_mem1 (Ne.symm hBr))) ⟨oq, List.mem_cons_self, hoq, loq⟩
      (by rw [← eD]; exact hD2.keep c3 (not_mem1 m1)) ⟨oB, List.mem_cons_of_mem _ List.mem_cons_self, by rw [← eB]; exact hoB, loB⟩ ((hvok.keep c2 sD).keep c3 sB) hsafe snew
local macro_rules | `(tactic| walk_at "subscriptTail") => `(tactic| (k_here; (with_reducible show wpAny _ _ (subscriptTail _ _ (Value.ref _) (Value.str _ _)) _ _ _); k_dflt (refine' item_s ?k1 ?k2 ?k3 ?k4 ?_ ?k6 ?k7; (case k1 => k_asm); (case k2 => k_mem); (case k3 => k_asm); (case k4 => first | k_asm | exact valueAt_stored_self _ _ _); (case k6 => with_unfolding_all rfl); (case k7 => intro _; with_unfolding_all rfl); k_whole)))
set_option maxRecDepth 100000 in
set_option maxHeartbeats 8000000 in
theorem deed_set {w : World} {S Sd K Kd D Bk : Addr} {es : List Ent} {bad : List Addr} {b : Nat} {v k kd : Int} {tv tk : Tok} :
    CallR w 322 [.int v tv, .int k tk, .ref S, .ref K, .ref Bk] 24 (fun news => SideOK w news bad b ⟨S, Sd, K, Kd, D, Bk, es⟩ ∧ b ≤ 40 ∧ 0 ≤ k ∧ k < 24 ∧ (∀ a ∈ bad, ∃ p ∈ news, p.1 = a) ∧ (v.fdiv 18).fmod 8 = kd ∧ kd < 3 ∧ kd ≠ 2)
      (fun news x news' => DeedPost w bad b ⟨S, Sd, K, Kd, D, Bk, es⟩ news x news') := by
  unfold CallR; w_top off; k_fill
  rintro mean mg mb dp un gd cn cs a ccd cl outer A₀ base h₀ L m news s Q E B F X N T hk hdp hun ⟨hsd, hb, hk0, hk1, hbad, hkind, hkd3, hkd2⟩ ret
  obtain ⟨hh, tkS, hS, hSd⟩ := hsd.st
  obtain ⟨h1, h2, h3, t1, t2, t3, c, ck, hK, hKd⟩ := hsd.kp
  obtain ⟨oD, hD, hd, lo⟩ := hsd.dd
  obtain ⟨oB, hB, hbd, lob⟩ := hsd.db
  dsimp only at hS hSd hK hKd hD hB hd hbd
  refine wpAny_call ?_
  k_dflt ktr_enter
  k_steps
  unfold Halt
  refine' pick_s ?a ?b ?c ?d ?e ?g ?_ ?f
  (case a => k_asm)
  (case b => k_mem)
  (case c => exact fmod_lo _ (by decide)); (case d => exact fmod_hi _ (by decide)); (case e => exact Nat.le_of_ble_eq_true rfl)
  (case g => exact rfl); (case f => with_unfolding_all rfl)
  intro t tt
  k_steps
  unfold Halt
  refine' pick_s ?a ?b ?c ?d ?e ?g ?_ ?f
  (case a => k_asm)
  (case b => k_mem)
  (case c => exact fmod_lo _ (by decide)); (case d => exact fmod_hi _ (by decide)); (case e => exact Nat.le_of_ble_eq_true rfl)
  (case g => exact rfl); (case f => with_unfolding_all rfl)
  intro key tkey
  k_steps
  unfold Halt
  refine' pick_l ?a ?b ?c ?d ?e ?_ ?f
  (case a => k_asm)
  (case b => k_mem)
  (case c => exact fmod_lo _ (by decide)); (case d => exact fmod_hi _ (by decide)); (case e => exact Nat.le_of_ble_eq_true rfl)
  (case f => with_unfolding_all rfl)
  intro val hval
  rename News _ _ _ _ => lN
  repeat' (rename @LT.lt Nat _ _ _ ∧ _ => hc; obtain ⟨_, _⟩ := hc)
  obtain ⟨news1, N1, hsub1, hvok, hsafe⟩ := wrapL (w := w) (news := news) (val := val) (bad := bad) lN (by intro p hp; repeat (first | exact hp | apply List.mem_cons_of_mem)) (by
    refine' val5 hval ?va ?vb ?vc ?vd ?ve ?vf hbad
    case va => k_mem
    case vb => assumption
    case vc => assumption
    case vd => k_mem
    case ve => assumption
    case vf => assumption)
  clear lN hval
  have hS1 := hsub1 _ hS
  have hSd1 := hsub1 _ hSd
  have hK1 := hsub1 _ hK
  have hKd1 := hsub1 _ hKd
  have hD1 := hsub1 _ hD
  have hB1 := hsub1 _ hB
  k_steps
  any_goals (exfalso; omega)
  unfold Halt
  rcases pick es t with ⟨hv1, hv2, hne⟩ | ⟨e, he, rfl, hv1, hv2⟩
  · obtain ⟨⟨s1, s2, s3, s4, s5⟩, ⟨d1, d2, d3, d4⟩, m1⟩ : (S ≠ Sd ∧ S ≠ K ∧ S ≠ Kd ∧ S ≠ D ∧ S ≠ Bk) ∧ (Sd ≠ K ∧ Sd ≠ Kd ∧ Sd ≠ D ∧ Sd ≠ Bk) ∧ D ≠ Bk := by
      have hh' := (nodup_split hsd.nod).1
      simp only [List.nodup_cons, List.mem_cons, List.not_mem_nil, or_false, not_or, List.nodup_nil, and_true, not_false_eq_true] at hh'
      exact ⟨hh'.1, hh'.2.1, hh'.2.2.2.2⟩
    have hlen := hsd.len
    have hszD : (kD es).length ≤ sizeLine := by rw [sizeLine_eq, kD_len]; dsimp only at hlen; omega
    have hszB : (kB es).length ≤ sizeLine := by rw [sizeLine_eq, kB_len]; dsimp only at hlen; omega
    have C49 := @set_new w S Sd D t key tt tkey val (kD es)
    refine' CallR.use ?kB ?kF ?kX ?kN ?kT ?kk C49 ?kd ?ku ⟨StoreAt.mk hS1 hSd1, DictIn.mk hD1 hd lo, hv1, hszD, s4, d3⟩ ?_
    (case kB => k_asm); (case kF => k_asm); (case kX => k_asm); (case kN => k_asm); (case kT => k_asm)
    (case kk => first | exact rfl | assumption)
    (case kd => ktr_room); (case ku => ktr_units)
    rintro r' h' tk' news2 F2 N2 ⟨rfl, r, hr2, hD2, fr1, chg2⟩
    have hB2 := chg2 _ hB1 (not_mem1 (Ne.symm m1))
    obtain ⟨rest, N3, hsep, hsub3⟩ := split1 N2 hB2
    clear N2 hB2
    k_steps
    exact ret _ _ _ _ (by k_asm) (by k_asm) (deed_new_end hsd hne ⟨oB, hB⟩ hsub1 hvok hsafe hv1 hv2 hr2 hD2 fr1 chg2 hsub3 (by k_asm) (by k_asm) (by k_asm) lob (by k_asm))
  · obtain ⟨g1, g2, g3, g4⟩ := hsd.rows e he
    obtain ⟨⟨a1, a2, a3, a4, a5, a6⟩, ⟨c1, c2, c3, c4, c5, c6⟩⟩ := fp_heads hsd.nod he
    dsimp only at a1 a2 a3 a4 a5 a6 c1 c2 c3 c4 c5 c6
    obtain ⟨_, hrn, _⟩ := nodup_split hsd.nod
    have hrq := row_pair hrn he
    have hsz : e.row.length ≤ sizeLine := by rw [sizeLine_eq]; have := g3.1; omega
    have hsz2 : e.row2.length ≤ sizeLine := by have := congrArg List.length g3.2.1; simp only [List.length_map] at this; rw [this]; exact hsz
    have C49 := @set_old w S Sd D e.r e.t key tt tkey val (kD es) e.row
    refine' CallR.use ?kB ?kF ?kX ?kN ?kT ?kk C49 ?kd ?ku ⟨StoreAt.mk hS1 hSd1, DictIn.mk hD1 hd lo, hv1, g1.mono hsub1, hsz, a1, a2, a5⟩ ?_
    (case kB => k_asm); (case kF => k_asm); (case kX => k_asm); (case kN => k_asm); (case kT => k_asm)
    (case kk => first | exact rfl | assumption)
    (case kd => ktr_room); (case ku => ktr_units)
    rintro r' h' tk' news2 F2 N2 ⟨rfl, hr2, chg2⟩
    obtain ⟨oQ, hQ, hq, loq⟩ := g2
    have hB2 := chg2 _ hB1 (not_mem1 a6)
    have hQ2 := chg2 _ (hsub1 _ hQ) (not_mem1 (Ne.symm hrq))
    obtain ⟨rest, N3, hsep, hsub3⟩ := split1 N2 hQ2
    replace hB2 := hsub3 _ hB2 c6
    clear N2 hQ2
    k_steps
    exact ret _ _ _ _ (by k_asm) (by k_asm) (deed_old_end hsd he hsub1 hvok hsafe hr2 chg2 hsub3 (by k_asm) loq)
set_option maxRecDepth 100000 in
set_option maxHeartbeats 8000000 in
theorem deed_kset {w : World} {S Sd K Kd D Bk : Addr} {es : List Ent} {bad : List Addr} {b : Nat} {v k : Int} {tv tk : Tok} :
    CallR w 322 [.int v tv, .int k tk, .ref S, .ref K, .ref Bk] 24 (fun news => SideOK w news bad b ⟨S, Sd, K, Kd, D, Bk, es⟩ ∧ b ≤ 40 ∧ 0 ≤ k ∧ k < 24 ∧ (∀ a ∈ bad, ∃ p ∈ news, p.1 = a) ∧ (v.fdiv 18).fmod 8 = 2)
      (fun news x news' => DeedPost w bad b ⟨S, Sd, K, Kd, D, Bk, es⟩ news x news') := by
  unfold CallR; w_top off; k_fill
  rintro mean mg mb dp un gd cn cs a ccd cl outer A₀ base h₀ L m news s Q E B F X N T hk hdp hun ⟨hsd, hb, hk0, hk1, hbad, hkind⟩ ret
  obtain ⟨hh, tkS, hS, hSd⟩ := hsd.st
  obtain ⟨h1, h2, h3, t1, t2, t3, c, ck, hK, hKd⟩ := hsd.kp
  obtain ⟨oD, hD, hd, lo⟩ := hsd.dd
  obtain ⟨oB, hB, hbd, lob⟩ := hsd.db
  dsimp only at hS hSd hK hKd hD hB hd hbd
  refine wpAny_call ?_
  k_dflt ktr_enter
  k_steps
  unfold Halt
  refine' pick_s ?a ?b ?c ?d ?e ?g ?_ ?f
  (case a => k_asm)
  (case b => k_mem)
  (case c => exact fmod_lo _ (by decide)); (case d => exact fmod_hi _ (by decide)); (case e => exact Nat.le_of_ble_eq_true rfl)
  (case g => exact rfl); (case f => with_unfolding_all rfl)
  intro t tt
  k_steps
  unfold Halt
  refine' pick_s ?a ?b ?c ?d ?e ?g ?_ ?f
  (case a => k_asm)
  (case b => k_mem)
  (case c => exact fmod_lo _ (by decide)); (case d => exact fmod_hi _ (by decide)); (case e => exact Nat.le_of_ble_eq_true rfl)
  (case g => exact rfl); (case f => with_unfolding_all rfl)
  intro key tkey
  k_steps
  unfold Halt
  refine' pick_l ?a ?b ?c ?d ?e ?_ ?f
  (case a => k_asm)
  (case b => k_mem)
  (case c => exact fmod_lo _ (by decide)); (case d => exact fmod_hi _ (by decide)); (case e => exact Nat.le_of_ble_eq_true rfl)
  (case f => with_unfolding_all rfl)
  intro val hval
  rename News _ _ _ _ => lN
  repeat' (rename @LT.lt Nat _ _ _ ∧ _ => hc; obtain ⟨_, _⟩ := hc)
  obtain ⟨news1, N1, hsub1, hvok, hsafe⟩ := wrapL (w := w) (news := news) (val := val) (bad := bad) lN (by intro p hp; repeat (first | exact hp | apply List.mem_cons_of_mem)) (by
    refine' val5 hval ?va ?vb ?vc ?vd ?ve ?vf hbad
    case va => k_mem
    case vb => assumption
    case vc => assumption
    case vd => k_mem
    case ve => assumption
    case vf => assumption)
  clear lN hval
  have hS1 := hsub1 _ hS
  have hSd1 := hsub1 _ hSd
  have hK1 := hsub1 _ hK
  have hKd1 := hsub1 _ hKd
  have hD1 := hsub1 _ hD
  have hB1 := hsub1 _ hB
  k_steps
  unfold Halt
  rcases pick es t with ⟨hv1, hv2, hne⟩ | ⟨e, he, rfl, hv1, hv2⟩
  · obtain ⟨⟨s1, s2, s3, s4, s5⟩, ⟨d1, d2, d3, d4⟩, m1⟩ : (S ≠ Sd ∧ S ≠ K ∧ S ≠ Kd ∧ S ≠ D ∧ S ≠ Bk) ∧ (Sd ≠ K ∧ Sd ≠ Kd ∧ Sd ≠ D ∧ Sd ≠ Bk) ∧ D ≠ Bk := by
      have hh' := (nodup_split hsd.nod).1
      simp only [List.nodup_cons, List.mem_cons, List.not_mem_nil, or_false, not_or, List.nodup_nil, and_true, not_false_eq_true] at hh'
      exact ⟨hh'.1, hh'.2.1, hh'.2.2.2.2⟩
    have hlen := hsd.len
    have hszD : (kD es).length ≤ sizeLine := by rw [sizeLine_eq, kD_len]; dsimp only at hlen; omega
    have hszB : (kB es).length ≤ sizeLine := by rw [sizeLine_eq, kB_len]; dsimp only at hlen; omega
    have C49 := @kset_new w K Kd S Sd D t key tt tkey val (kD es)
    refine' CallR.use ?kB ?kF ?kX ?kN ?kT ?kk C49 ?kd ?ku ⟨KeepAt.mk hK1 hKd1, StoreAt.mk hS1 hSd1, DictIn.mk hD1 hd lo, hv1, hszD, s4, d3⟩ ?_
    (case kB => k_asm); (case kF => k_asm); (case kX => k_asm); (case kN => k_asm); (case kT => k_asm)
    (case kk => first | exact rfl | assumption)
    (case kd => ktr_room); (case ku => ktr_units)
    rintro r' h' tk' news2 F2 N2 ⟨rfl, r, hr2, hD2, fr1, chg2⟩
    have hB2 := chg2 _ hB1 (not_mem1 (Ne.symm m1))
    obtain ⟨rest, N3, hsep, hsub3⟩ := split1 N2 hB2
    clear N2 hB2
    k_steps
    exact ret _ _ _ _ (by k_asm) (by k_asm) (deed_new_end hsd hne ⟨oB, hB⟩ hsub1 hvok hsafe hv1 hv2 hr2 hD2 fr1 chg2 hsub3 (by k_asm) (by k_asm) (by k_asm) lob (by k_asm))
  · obtain ⟨g1, g2, g3, g4⟩ := hsd.rows e he
    obtain ⟨⟨a1, a2, a3, a4, a5, a6⟩, ⟨c1, c2, c3, c4, c5, c6⟩⟩ := fp_heads hsd.nod he
    dsimp only at a1 a2 a3 a4 a5 a6 c1 c2 c3 c4 c5 c6
    obtain ⟨_, hrn, _⟩ := nodup_split hsd.nod
    have hrq := row_pair hrn he
    have hsz : e.row.length ≤ sizeLine := by rw [sizeLine_eq]; have := g3.1; omega
    have hsz2 : e.row2.length ≤ sizeLine := by have := congrArg List.length g3.2.1; simp only [List.length_map] at this; rw [this]; exact hsz
    have C49 := @kset_old w K Kd S Sd D e.r e.t key tt tkey val (kD es) e.row
    refine' CallR.use ?kB ?kF ?kX ?kN ?kT ?kk C49 ?kd ?ku ⟨KeepAt.mk hK1 hKd1, StoreAt.mk hS1 hSd1, DictIn.mk hD1 hd lo, hv1, g1.mono hsub1, hsz, a1, a2, a5⟩ ?_
    (case kB => k_asm); (case kF => k_asm); (case kX => k_asm); (case kN => k_asm); (case kT => k_asm)
    (case kk => first | exact rfl | assumption)
    (case kd => ktr_room); (case ku => ktr_units)
    rintro r' h' tk' news2 F2 N2 ⟨rfl, hr2, chg2⟩
    obtain ⟨oQ, hQ, hq, loq⟩ := g2
    have hB2 := chg2 _ hB1 (not_mem1 a6)
    have hQ2 := chg2 _ (hsub1 _ hQ) (not_mem1 (Ne.symm hrq))
    obtain ⟨rest, N3, hsep, hsub3⟩ := split1 N2 hQ2
    replace hB2 := hsub3 _ hB2 c6
    clear N2 hQ2
    k_steps
    exact ret _ _ _ _ (by k_asm) (by k_asm) (deed_old_end hsd he hsub1 hvok hsafe hr2 chg2 hsub3 (by k_asm) loq)
theorem without_none {kvs : List (Str × Value)} {k : Str} (h : valueAt kvs k = none) : without kvs k = kvs := without_of_not_mem kvs k fun hm => by
  obtain ⟨p, hp, e⟩ := List.mem_map.mp hm
  have := valueAt_isSome_eq_any kvs k
  rw [h] at this
  have ha : (kvs.any fun kv => decide (kv.1 = k)) = true := List.any_eq_true.mpr ⟨p, hp, by simpa using e⟩
  rw [ha] at this; cases this
theorem rem_any {w : World} {S Sd D : Addr} {t : Str} {tt : Tok} {kvs : List (Str × Value)} :
    CallR w 70 [.ref S, .str t tt] 4 (fun news => StoreAt news S Sd D ∧ DictIn w news D kvs ∧ kvs.length ≤ sizeLine ∧ S ≠ D ∧ Sd ≠ D)
      (fun news x news' => x = .none ∧ DictIn w news' D (without kvs t) ∧ Chg [D] news news') := by
  unfold CallR
  rintro mean mg mb dp un gd cn cs a ccd cl outer A₀ base h₀ L m news s Q E B F X N T hk hdp hun ⟨h1, h2, h3, h4, h5⟩ ret
  cases hv : valueAt kvs t with
  | none =>
    refine CallR.use B F X N T hk (@rem_not w S Sd D t tt kvs) hdp hun ⟨h1, h2, hv⟩ ?_
    rintro r h' tk' news' F' N' ⟨rfl, rfl⟩
    exact ret _ _ _ _ F' N' ⟨rfl, by rw [without_none hv]; exact h2, fun p hp _ => hp⟩
  | some v => exact CallR.use B F X N T hk (@rem_there w S Sd D t tt v kvs) hdp hun ⟨h1, h2, hv, h3, h4, h5⟩ ret
theorem krem_any {w : World} {K Kd S Sd D : Addr} {t : Str} {tt : Tok} {kvs : List (Str × Value)} :
    CallR w 194 [.ref K, .str t tt] 8 (fun news => KeepAt news K Kd S ∧ StoreAt news S Sd D ∧ DictIn w news D kvs ∧ kvs.length ≤ sizeLine ∧ S ≠ D ∧ Sd ≠ D)
      (fun news x news' => x = .none ∧ DictIn w news' D (without kvs t) ∧ Chg [D] news news') := by
  unfold CallR
  rintro mean mg mb dp un gd cn cs a ccd cl outer A₀ base h₀ L m news s Q E B F X N T hk hdp hun ⟨h0, h1, h2, h3, h4, h5⟩ ret
  cases hv : valueAt kvs t with
  | none =>
    refine CallR.use B F X N T hk (@krem_not w K Kd S Sd D t tt kvs) hdp hun ⟨h0, h1, h2, hv⟩ ?_
    rintro r h' tk' news' F' N' ⟨rfl, rfl⟩
    exact ret _ _ _ _ F' N' ⟨rfl, by rw [without_none hv]; exact h2, fun p hp _ => hp⟩
  | some v => exact CallR.use B F X N T hk (@krem_there w K Kd S Sd D t tt v kvs) hdp hun ⟨h0, h1, h2, hv, h3, h4, h5⟩ ret
theorem pop_any {w : World} {prog : Program} {A : Around} {E : Value → Shared → Prop} {s : Shared} {h₀ : Heap} {L d : Addr} {m : Str → Option Value} {news : Led} {g : Obj → Led} {o : Obj} {kvs : List (Str × Value)} {k : Str} {tk : Tok} {dflt : Value} {Q : Value → Shared → Prop}
    (F : Fr h₀ L s.heap m) (N : News h₀ L s.heap news) (U : UpdF d o news g) (hp : (d, o) ∈ news) (hd : o.IsDictOf (PySem.strKind prog w) kvs) (lo : (d == sysModules) = false) (hsz : kvs.length ≤ sizeLine)
    (h : ∀ v h' o', Fr h₀ L h' m → News h₀ L h' (g o') → o'.IsDictOf (PySem.strKind prog w) (without kvs k) → Q v { s with heap := h', toks := s.toks + 1 }) : wpAny (model prog w) A (call (.builtin "dict.pop") [.ref d, .str k tk, dflt]) Q E s := by
  cases hv : valueAt kvs k with
  | none =>
    obtain ⟨pre, post, e, hg, _, _⟩ := U.split
    exact pop_f N hp hd lo hv (h dflt s.heap o F (by rw [hg, ← e]; exact N) (by rw [without_none hv]; exact hd))
  | some v => exact pop_t F N U hd hv hsz (h v)
theorem deed_drop_end {w : World} {S Sd K Kd D Bk : Addr} {es : List Ent} {bad : List Addr} {b : Nat} {news news1 news2 rest : Led} {t : Str} {oB : Obj} (hsd : SideOK w news bad b ⟨S, Sd, K, Kd, D, Bk, es⟩)
    (hsub1 : ∀ p ∈ news, p ∈ news1) (hD2 : DictIn w news2 D (without (kD es) t)) (c2 : Chg [D] news1 news2) (hsub3 : ∀ p ∈ news2, p.1 ≠ Bk → p ∈ rest)
    (hoB : oB.IsDictOf (PySem.strKind Challenge.rw_aa6015_01.row.prog w) (without (kB es) t)) (loB : (Bk == sysModules) = false) : DeedPost w bad b ⟨S, Sd, K, Kd, D, Bk, es⟩ news (.bool true) ((Bk, oB) :: rest) := by
  have m1 : D ≠ Bk := by
    have hh' := (nodup_split hsd.nod).1
    simp only [List.nodup_cons, List.mem_cons, List.not_mem_nil, or_false, not_or, List.nodup_nil, and_true, not_false_eq_true] at hh'
    exact hh'.2.2.2.2
  have c3 : Chg [Bk] news2 ((Bk, oB) :: rest) := fun p hp hn => List.mem_cons_of_mem _ (hsub3 p hp fun x => hn (by rw [x]; exact List.mem_singleton.mpr rfl))
  have cc : Chg [D, Bk] news ((Bk, oB) :: rest) := fun p hp hn => c3 p (c2 p (hsub1 p hp) (fun x => hn (by rw [List.mem_singleton.mp x]; simp))) (fun x => hn (by rw [List.mem_singleton.mp x]; simp))
  have sub2 : ∀ a ∈ [D, Bk], a ∈ fp ⟨S, Sd, K, Kd, D, Bk, es⟩ := fun a ha => List.mem_append_left _ (by
    rcases List.mem_cons.mp ha with rfl | ha
    · simp
    · rw [List.mem_singleton.mp ha]; simp)
  refine ⟨rfl, [], dropEnt es t, fun _ q => absurd q List.not_mem_nil, fun a ha => .inl ?_, cc.mono sub2, ?_⟩
  · rcases List.mem_append.mp ha with ha | ha
    · exact List.mem_append_left _ ha
    · exact List.mem_append_right _ (dropEnt_sub ha)
  · exact hsd.drop cc (by rw [← dropEnt_kD]; exact hD2.keep c3 (not_mem1 m1)) ⟨oB, List.mem_cons_self, by rw [← dropEnt_kB]; exact hoB, loB⟩
theorem wrapN {h₀ h : Heap} {L : Addr} {news nl : Led} (N : News h₀ L h nl) (hs : ∀ p ∈ news, p ∈ nl) : ∃ news1, News h₀ L h news1 ∧ (∀ p ∈ news, p ∈ news1) := ⟨nl, N, hs⟩
local macro_rules | `(tactic| walk_at "subscriptTail") => `(tactic| (k_here; (with_reducible show wpAny _ _ (subscriptTail _ _ (Value.ref _) (Value.int (Int.fmod _ _) _)) _ _ _); k_dflt (refine' pick_s ?a ?b ?c ?d ?e ?g ?_ ?f; (case a => k_asm); (case b => k_mem); (case c => exact fmod_lo _ (by decide)); (case d => exact fmod_hi _ (by decide)); (case e => exact Nat.le_of_ble_eq_true rfl); (case g => exact rfl); (case f => with_unfolding_all rfl); k_whole); intro t' tt'))
local macro_rules | `(tactic| walk_at "call ref") => `(tactic| (k_here; (with_reducible show wpAny _ _ (call (Value.ref 70) _) _ _ _); refine halt ?_))
local macro_rules | `(tactic| walk_at "call ref") => `(tactic| (k_here; (with_reducible show wpAny _ _ (call (Value.ref 194) _) _ _ _); refine halt ?_))
local macro_rules | `(tactic| walk_at "call ref") => `(tactic| (k_here; (with_reducible show wpAny _ _ (call (Value.ref 215) _) _ _ _); refine halt ?_))
local macro_rules | `(tactic| walk_at "call builtin:dict.pop") => `(tactic| (k_here; k_dflt (refine' pop_any ?F ?N ?U ?p ?d ?l ?z ?_; (case F => k_asm); (case N => k_asm); (case U => k_updF); (case p => k_mem); (case d => k_asm); (case l => k_asm); (case z => assumption); k_whole; intro v' h' o' F' N' d'; (try dsimp only at N'); (try k_sweep))))
set_option maxRecDepth 100000 in
set_option maxHeartbeats 8000000 in
theorem deed_rem {w : World} {S Sd K Kd D Bk : Addr} {es : List Ent} {bad : List Addr} {b : Nat} {v k : Int} {tv tk : Tok} :
    CallR w 322 [.int v tv, .int k tk, .ref S, .ref K, .ref Bk] 24 (fun news => SideOK w news bad b ⟨S, Sd, K, Kd, D, Bk, es⟩ ∧ b ≤ 40 ∧ (v.fdiv 18).fmod 8 = 3)
      (fun news x news' => DeedPost w bad b ⟨S, Sd, K, Kd, D, Bk, es⟩ news x news') := by
  unfold CallR; w_top off; k_fill
  rintro mean mg mb dp un gd cn cs a ccd cl outer A₀ base h₀ L m news s Q E B F X N T hk hdp hun ⟨hsd, hb, hkind⟩ ret
  obtain ⟨hh, tkS, hS, hSd⟩ := hsd.st
  obtain ⟨h1, h2, h3, t1, t2, t3, c, ck, hK, hKd⟩ := hsd.kp
  obtain ⟨oD, hD, hd, lo⟩ := hsd.dd
  obtain ⟨oB, hB, hbd, lob⟩ := hsd.db
  dsimp only at hS hSd hK hKd hD hB hd hbd
  obtain ⟨⟨s1, s2, s3, s4, s5⟩, ⟨d1, d2, d3, d4⟩, m1⟩ : (S ≠ Sd ∧ S ≠ K ∧ S ≠ Kd ∧ S ≠ D ∧ S ≠ Bk) ∧ (Sd ≠ K ∧ Sd ≠ Kd ∧ Sd ≠ D ∧ Sd ≠ Bk) ∧ D ≠ Bk := by
    have hh' := (nodup_split hsd.nod).1
    simp only [List.nodup_cons, List.mem_cons, List.not_mem_nil, or_false, not_or, List.nodup_nil, and_true, not_false_eq_true] at hh'
    exact ⟨hh'.1, hh'.2.1, hh'.2.2.2.2⟩
  have hlen := hsd.len
  have hszD : (kD es).length ≤ sizeLine := by rw [sizeLine_eq, kD_len]; dsimp only at hlen; omega
  have hszB : (kB es).length ≤ sizeLine := by rw [sizeLine_eq, kB_len]; dsimp only at hlen; omega
  refine wpAny_call ?_
  k_dflt ktr_enter
  k_steps
  unfold Halt
  rename News _ _ _ _ => lN
  obtain ⟨news1, N1, hsub1⟩ := wrapN (news := news) lN (by intro p hp; repeat (first | exact hp | apply List.mem_cons_of_mem))
  clear lN
  have C70 := @rem_any w S Sd D
  refine' CallR.use ?kB ?kF ?kX ?kN ?kT ?kk C70 ?kd ?ku ⟨StoreAt.mk (hsub1 _ hS) (hsub1 _ hSd), DictIn.mk (hsub1 _ hD) hd lo, hszD, s4, d3⟩ ?_
  (case kB => k_asm); (case kF => k_asm); (case kX => k_asm); (case kN => k_asm); (case kT => k_asm)
  (case kk => first | exact rfl | assumption)
  (case kd => ktr_room); (case ku => ktr_units)
  rintro r' h' tk' news2 F2 N2 ⟨rfl, hD2, chg2⟩
  have hB2 := chg2 _ (hsub1 _ hB) (not_mem1 (Ne.symm m1))
  obtain ⟨rest, N3, hsep, hsub3⟩ := split1 N2 hB2
  clear N2 hB2
  k_steps
  exact ret _ _ _ _ (by k_asm) (by k_asm) (deed_drop_end hsd hsub1 hD2 chg2 hsub3 (by k_asm) lob)
theorem deed_still {w : World} {bad : List Addr} {b : Nat} {sd : Side} {news : Led} (hsd : SideOK w news bad b sd) : DeedPost w bad b sd news (.bool true) news :=
  ⟨rfl, [], sd.ents, fun _ q => absurd q List.not_mem_nil, fun _ ha => .inl ha, fun p hp _ => hp, hsd.grow (fun _ h => h) (Nat.le_succ _)⟩
theorem deed_close_end {w : World} {bad : List Addr} {b : Nat} {sd : Side} {news news' : Led} (hsd : SideOK w news bad b sd) (c : Chg [sd.Kd] news news') (hk : KeepAt news' sd.K sd.Kd sd.S) : DeedPost w bad b sd news (.bool true) news' :=
  ⟨rfl, [], sd.ents, fun _ q => absurd q List.not_mem_nil, fun _ ha => .inl ha, c.mono (fun a ha => by rw [List.mem_singleton.mp ha]; simp [fp]), hsd.closed c hk⟩
set_option maxRecDepth 100000 in
set_option maxHeartbeats 8000000 in
theorem deed_krem {w : World} {S Sd K Kd D Bk : Addr} {es : List Ent} {bad : List Addr} {b : Nat} {v k : Int} {tv tk : Tok} :
    CallR w 322 [.int v tv, .int k tk, .ref S, .ref K, .ref Bk] 24 (fun news => SideOK w news bad b ⟨S, Sd, K, Kd, D, Bk, es⟩ ∧ b ≤ 40 ∧ (v.fdiv 18).fmod 8 = 4)
      (fun news x news' => DeedPost w bad b ⟨S, Sd, K, Kd, D, Bk, es⟩ news x news') := by
  unfold CallR; w_top off; k_fill
  rintro mean mg mb dp un gd cn cs a ccd cl outer A₀ base h₀ L m news s Q E B F X N T hk hdp hun ⟨hsd, hb, hkind⟩ ret
  obtain ⟨hh, tkS, hS, hSd⟩ := hsd.st
  obtain ⟨h1, h2, h3, t1, t2, t3, c, ck, hK, hKd⟩ := hsd.kp
  obtain ⟨oD, hD, hd, lo⟩ := hsd.dd
  obtain ⟨oB, hB, hbd, lob⟩ := hsd.db
  dsimp only at hS hSd hK hKd hD hB hd hbd
  obtain ⟨⟨s1, s2, s3, s4, s5⟩, ⟨d1, d2, d3, d4⟩, m1⟩ : (S ≠ Sd ∧ S ≠ K ∧ S ≠ Kd ∧ S ≠ D ∧ S ≠ Bk) ∧ (Sd ≠ K ∧ Sd ≠ Kd ∧ Sd ≠ D ∧ Sd ≠ Bk) ∧ D ≠ Bk := by
    have hh' := (nodup_split hsd.nod).1
    simp only [List.nodup_cons, List.mem_cons, List.not_mem_nil, or_false, not_or, List.nodup_nil, and_true, not_false_eq_true] at hh'
    exact ⟨hh'.1, hh'.2.1, hh'.2.2.2.2⟩
  have hlen := hsd.len
  have hszD : (kD es).length ≤ sizeLine := by rw [sizeLine_eq, kD_len]; dsimp only at hlen; omega
  have hszB : (kB es).length ≤ sizeLine := by rw [sizeLine_eq, kB_len]; dsimp only at hlen; omega
  refine wpAny_call ?_
  k_dflt ktr_enter
  k_steps
  unfold Halt
  rename News _ _ _ _ => lN
  obtain ⟨news1, N1, hsub1⟩ := wrapN (news := news) lN (by intro p hp; repeat (first | exact hp | apply List.mem_cons_of_mem))
  clear lN
  have C70 := @krem_any w K Kd S Sd D
  refine' CallR.use ?kB ?kF ?kX ?kN ?kT ?kk C70 ?kd ?ku ⟨KeepAt.mk (hsub1 _ hK) (hsub1 _ hKd), StoreAt.mk (hsub1 _ hS) (hsub1 _ hSd), DictIn.mk (hsub1 _ hD) hd lo, hszD, s4, d3⟩ ?_
  (case kB => k_asm); (case kF => k_asm); (case kX => k_asm); (case kN => k_asm); (case kT => k_asm)
  (case kk => first | exact rfl | assumption)
  (case kd => ktr_room); (case ku => ktr_units)
  rintro r' h' tk' news2 F2 N2 ⟨rfl, hD2, chg2⟩
  have hB2 := chg2 _ (hsub1 _ hB) (not_mem1 (Ne.symm m1))
  obtain ⟨rest, N3, hsep, hsub3⟩ := split1 N2 hB2
  clear N2 hB2
  k_steps
  exact ret _ _ _ _ (by k_asm) (by k_asm) (deed_drop_end hsd hsub1 hD2 chg2 hsub3 (by k_asm) lob)
set_option maxRecDepth 100000 in
set_option maxHeartbeats 8000000 in
theorem deed_dump {w : World} {S Sd K Kd D Bk : Addr} {es : List Ent} {bad : List Addr} {b : Nat} {v k : Int} {tv tk : Tok} :
    CallR w 322 [.int v tv, .int k tk, .ref S, .ref K, .ref Bk] 24 (fun news => SideOK w news bad b ⟨S, Sd, K, Kd, D, Bk, es⟩ ∧ b ≤ 40 ∧ (v.fdiv 18).fmod 8 = 5)
      (fun news x news' => DeedPost w bad b ⟨S, Sd, K, Kd, D, Bk, es⟩ news x news') := by
  unfold CallR; w_top off; k_fill
  rintro mean mg mb dp un gd cn cs a ccd cl outer A₀ base h₀ L m news s Q E B F X N T hk hdp hun ⟨hsd, hb, hkind⟩ ret
  obtain ⟨hh, tkS, hS, hSd⟩ := hsd.st
  obtain ⟨h1, h2, h3, t1, t2, t3, c, ck, hK, hKd⟩ := hsd.kp
  obtain ⟨oD, hD, hd, lo⟩ := hsd.dd
  obtain ⟨oB, hB, hbd, lob⟩ := hsd.db
  dsimp only at hS hSd hK hKd hD hB hd hbd
  obtain ⟨⟨s1, s2, s3, s4, s5⟩, ⟨d1, d2, d3, d4⟩, m1⟩ : (S ≠ Sd ∧ S ≠ K ∧ S ≠ Kd ∧ S ≠ D ∧ S ≠ Bk) ∧ (Sd ≠ K ∧ Sd ≠ Kd ∧ Sd ≠ D ∧ Sd ≠ Bk) ∧ D ≠ Bk := by
    have hh' := (nodup_split hsd.nod).1
    simp only [List.nodup_cons, List.mem_cons, List.not_mem_nil, or_false, not_or, List.nodup_nil, and_true, not_false_eq_true] at hh'
    exact ⟨hh'.1, hh'.2.1, hh'.2.2.2.2⟩
  refine wpAny_call ?_
  k_dflt ktr_enter
  k_steps
  refine' ret _ _ _ _ ?f (subN ?n ?h) (deed_still hsd)
  case f => k_asm
  case n => k_asm
  case h => (intro p hp; repeat (first | exact hp | apply List.mem_cons_of_mem))
set_option maxRecDepth 100000 in
set_option maxHeartbeats 8000000 in
theorem deed_seven {w : World} {S Sd K Kd D Bk : Addr} {es : List Ent} {bad : List Addr} {b : Nat} {v k : Int} {tv tk : Tok} :
    CallR w 322 [.int v tv, .int k tk, .ref S, .ref K, .ref Bk] 24 (fun news => SideOK w news bad b ⟨S, Sd, K, Kd, D, Bk, es⟩ ∧ b ≤ 40 ∧ (v.fdiv 18).fmod 8 = 7)
      (fun news x news' => DeedPost w bad b ⟨S, Sd, K, Kd, D, Bk, es⟩ news x news') := by
  unfold CallR; w_top off; k_fill
  rintro mean mg mb dp un gd cn cs a ccd cl outer A₀ base h₀ L m news s Q E B F X N T hk hdp hun ⟨hsd, hb, hkind⟩ ret
  obtain ⟨hh, tkS, hS, hSd⟩ := hsd.st
  obtain ⟨h1, h2, h3, t1, t2, t3, c, ck, hK, hKd⟩ := hsd.kp
  obtain ⟨oD, hD, hd, lo⟩ := hsd.dd
  obtain ⟨oB, hB, hbd, lob⟩ := hsd.db
  dsimp only at hS hSd hK hKd hD hB hd hbd
  obtain ⟨⟨s1, s2, s3, s4, s5⟩, ⟨d1, d2, d3, d4⟩, m1⟩ : (S ≠ Sd ∧ S ≠ K ∧ S ≠ Kd ∧ S ≠ D ∧ S ≠ Bk) ∧ (Sd ≠ K ∧ Sd ≠ Kd ∧ Sd ≠ D ∧ Sd ≠ Bk) ∧ D ≠ Bk := by
    have hh' := (nodup_split hsd.nod).1
    simp only [List.nodup_cons, List.mem_cons, List.not_mem_nil, or_false, not_or, List.nodup_nil, and_true, not_false_eq_true] at hh'
    exact ⟨hh'.1, hh'.2.1, hh'.2.2.2.2⟩
  refine wpAny_call ?_
  k_dflt ktr_enter
  k_steps
  refine' ret _ _ _ _ ?f (subN ?n ?h) (deed_still hsd)
  case f => k_asm
  case n => k_asm
  case h => (intro p hp; repeat (first | exact hp | apply List.mem_cons_of_mem))
set_option maxRecDepth 100000 in
set_option maxHeartbeats 8000000 in
theorem deed_close {w : World} {S Sd K Kd D Bk : Addr} {es : List Ent} {bad : List Addr} {b : Nat} {v k : Int} {tv tk : Tok} :
    CallR w 322 [.int v tv, .int k tk, .ref S, .ref K, .ref Bk] 24 (fun news => SideOK w news bad b ⟨S, Sd, K, Kd, D, Bk, es⟩ ∧ b ≤ 40 ∧ (v.fdiv 18).fmod 8 = 6)
      (fun news x news' => DeedPost w bad b ⟨S, Sd, K, Kd, D, Bk, es⟩ news x news') := by
  unfold CallR; w_top off; k_fill
  rintro mean mg mb dp un gd cn cs a ccd cl outer A₀ base h₀ L m news s Q E B F X N T hk hdp hun ⟨hsd, hb, hkind⟩ ret
  obtain ⟨hh, tkS, hS, hSd⟩ := hsd.st
  obtain ⟨h1, h2, h3, t1, t2, t3, c, ck, hK, hKd⟩ := hsd.kp
  obtain ⟨oD, hD, hd, lo⟩ := hsd.dd
  obtain ⟨oB, hB, hbd, lob⟩ := hsd.db
  dsimp only at hS hSd hK hKd hD hB hd hbd
  obtain ⟨⟨s1, s2, s3, s4, s5⟩, ⟨d1, d2, d3, d4⟩, m1⟩ : (S ≠ Sd ∧ S ≠ K ∧ S ≠ Kd ∧ S ≠ D ∧ S ≠ Bk) ∧ (Sd ≠ K ∧ Sd ≠ Kd ∧ Sd ≠ D ∧ Sd ≠ Bk) ∧ D ≠ Bk := by
    have hh' := (nodup_split hsd.nod).1
    simp only [List.nodup_cons, List.mem_cons, List.not_mem_nil, or_false, not_or, List.nodup_nil, and_true, not_false_eq_true] at hh'
    exact ⟨hh'.1, hh'.2.1, hh'.2.2.2.2⟩
  obtain ⟨k1, l1⟩ : K ≠ Kd ∧ True := by
    have hh' := (nodup_split hsd.nod).1
    simp only [List.nodup_cons, List.mem_cons, List.not_mem_nil, or_false, not_or, List.nodup_nil, and_true, not_false_eq_true] at hh'
    exact ⟨hh'.2.2.1.1, trivial⟩
  refine wpAny_call ?_
  k_dflt ktr_enter
  k_steps
  unfold Halt
  rename News _ _ _ _ => lN
  obtain ⟨news1, N1, hsub1⟩ := wrapN (news := news) lN (by intro p hp; repeat (first | exact hp | apply List.mem_cons_of_mem))
  clear lN
  have C215 := @close_ok w K Kd S Sd D
  refine' CallR.use ?kB ?kF ?kX ?kN ?kT ?kk C215 ?kd ?ku ⟨KeepAt.mk (hsub1 _ hK) (hsub1 _ hKd), StoreAt.mk (hsub1 _ hS) (hsub1 _ hSd), k1, s3, d2⟩ ?_
  (case kB => k_asm); (case kF => k_asm); (case kX => k_asm); (case kN => k_asm); (case kT => k_asm)
  (case kk => first | exact rfl | assumption)
  (case kd => ktr_room); (case ku => ktr_units)
  rintro r' h' tk' news2 F2 N2 ⟨rfl, hK2, chg2⟩
  have hS2 := chg2 _ (hsub1 _ hS) (not_mem1 s3)
  have hSd2 := chg2 _ (hsub1 _ hSd) (not_mem1 d2)
  have hK2' := hK2
  obtain ⟨x1, x2, x3, x4, x5, x6, x7, x8, hKm, hKdm⟩ := hK2'
  clear hK hKd
  k_steps
  unfold Halt
  have C215 := @close_ok w K Kd S Sd D
  refine' CallR.use ?kB ?kF ?kX ?kN ?kT ?kk C215 ?kd ?ku ⟨hK2, StoreAt.mk hS2 hSd2, k1, s3, d2⟩ ?_
  (case kB => k_asm); (case kF => k_asm); (case kX => k_asm); (case kN => k_asm); (case kT => k_asm)
  (case kk => first | exact rfl | assumption)
  (case kd => ktr_room); (case ku => ktr_units)
  rintro r' h' tk' news3 F3 N3 ⟨rfl, hK3, chg3⟩
  clear hKm hKdm hS2 hSd2 hS hSd
  k_steps
  exact ret _ _ _ _ (by k_asm) (by k_asm) (deed_close_end hsd (Chg.trans (Chg.trans (Chg.of_sub hsub1) chg2) chg3) hK3)
theorem deed_ok {w : World} {S Sd K Kd D Bk : Addr} {es : List Ent} {bad : List Addr} {b : Nat} {v k : Int} {tv tk : Tok} :
    CallR w 322 [.int v tv, .int k tk, .ref S, .ref K, .ref Bk] 24 (fun news => SideOK w news bad b ⟨S, Sd, K, Kd, D, Bk, es⟩ ∧ b ≤ 40 ∧ 0 ≤ k ∧ k < 24 ∧ (∀ a ∈ bad, ∃ p ∈ news, p.1 = a))
      (fun news x news' => DeedPost w bad b ⟨S, Sd, K, Kd, D, Bk, es⟩ news x news') := by
  have h0 := fmod_lo (v.fdiv 18) (b := 8) (by decide)
  have h1 := fmod_hi (v.fdiv 18) (b := 8) (by decide)
  generalize hkd : (v.fdiv 18).fmod 8 = kd at h0 h1
  unfold CallR
  rintro mean mg mb dp un gd cn cs a ccd cl outer A₀ base h₀ L m news s Q E B F X N T hk hdp hun ⟨hsd, hb, hk0, hk1, hbad⟩ ret
  by_cases e1 : kd < 3
  · by_cases e2 : kd = 2
    · subst e2
      exact CallR.use B F X N T hk (@deed_kset w S Sd K Kd D Bk es bad b v k tv tk) hdp hun ⟨hsd, hb, hk0, hk1, hbad, hkd⟩ ret
    · exact CallR.use B F X N T hk (@deed_set w S Sd K Kd D Bk es bad b v k kd tv tk) hdp hun ⟨hsd, hb, hk0, hk1, hbad, hkd, e1, e2⟩ ret
  · have e3 : kd = 3 ∨ kd = 4 ∨ kd = 5 ∨ kd = 6 ∨ kd = 7 := by omega
    rcases e3 with rfl | rfl | rfl | rfl | rfl
    · exact CallR.use B F X N T hk (@deed_rem w S Sd K Kd D Bk es bad b v k tv tk) hdp hun ⟨hsd, hb, hkd⟩ ret
    · exact CallR.use B F X N T hk (@deed_krem w S Sd K Kd D Bk es bad b v k tv tk) hdp hun ⟨hsd, hb, hkd⟩ ret
    · exact CallR.use B F X N T hk (@deed_dump w S Sd K Kd D Bk es bad b v k tv tk) hdp hun ⟨hsd, hb, hkd⟩ ret
    · exact CallR.use B F X N T hk (@deed_close w S Sd K Kd D Bk es bad b v k tv tk) hdp hun ⟨hsd, hb, hkd⟩ ret
    · exact CallR.use B F X N T hk (@deed_seven w S Sd K Kd D Bk es bad b v k tv tk) hdp hun ⟨hsd, hb, hkd⟩ ret
theorem SideOK.fp_in {w : World} {news : Led} {bad : List Addr} {b : Nat} {sd : Side} (h : SideOK w news bad b sd) : ∀ a ∈ fp sd, ∃ p ∈ news, p.1 = a := fun a ha => by
  obtain ⟨hh, tk, a1, a2⟩ := h.st
  obtain ⟨x1, x2, x3, x4, x5, x6, x7, x8, a3, a4⟩ := h.kp
  obtain ⟨oD, a5, _⟩ := h.dd
  obtain ⟨oB, a6, _⟩ := h.db
  rcases List.mem_append.mp ha with q | q
  · simp only [List.mem_cons, List.not_mem_nil, or_false] at q
    rcases q with q | q | q | q | q | q
    · exact ⟨_, a1, q.symm⟩
    · exact ⟨_, a2, q.symm⟩
    · exact ⟨_, a3, q.symm⟩
    · exact ⟨_, a4, q.symm⟩
    · exact ⟨_, a5, q.symm⟩
    · exact ⟨_, a6, q.symm⟩
  · obtain ⟨e, he, hm⟩ := List.mem_flatMap.mp q
    obtain ⟨⟨o1, b1, _⟩, ⟨o2, b2, _⟩, _⟩ := h.rows e he
    rcases List.mem_cons.mp hm with hm | hm
    · exact ⟨_, b1, hm.symm⟩
    · exact ⟨_, b2, (List.mem_singleton.mp hm).symm⟩
theorem SideOK.rebad {w : World} {news : Led} {bad bad' : List Addr} {b : Nat} {sd : Side} (h : SideOK w news bad b sd) (h1 : ∀ a ∈ bad', a ∈ bad) (h2 : ∀ a ∈ fp sd, a ∈ bad') : SideOK w news bad' b sd :=
  ⟨h.st, h.kp, h.dd, h.db, fun e he => let ⟨g1, g2, g3, g4⟩ := h.rows e he; ⟨g1, g2, g3, fun k v hv => ⟨(g4 k v hv).1, (g4 k v hv).2.sub h1⟩⟩, h.keys, h.len, h.nod, h2⟩
/-- both sides beside the law's own lists -/
structure Core (w : World) (news : Led) (ls : List Addr) (b : Nat) (sa sb : Side) : Prop where
  a : SideOK w news (ls ++ (fp sa ++ fp sb)) b sa
  b : SideOK w news (ls ++ (fp sa ++ fp sb)) b sb
  ap : ∀ x ∈ fp sa, x ∉ fp sb
  la : ∀ x ∈ ls, x ∉ fp sa ∧ x ∉ fp sb
  lin : ∀ x ∈ ls, ∃ p ∈ news, p.1 = x
theorem bad_swap {ls A B : List Addr} {x : Addr} (h : x ∈ ls ++ (A ++ B)) : x ∈ ls ++ (B ++ A) := by
  simp only [List.mem_append] at h ⊢
  rcases h with h | h | h
  · exact .inl h
  · exact .inr (.inr h)
  · exact .inr (.inl h)
theorem Core.swap {w : World} {news : Led} {ls : List Addr} {b : Nat} {sa sb : Side} (h : Core w news ls b sa sb) : Core w news ls b sb sa :=
  ⟨h.b.rebad (fun _ => bad_swap) (fun x hx => by simp [hx]), h.a.rebad (fun _ => bad_swap) (fun x hx => by simp [hx]), fun x hx q => h.ap x q hx, fun x hx => ⟨(h.la x hx).2, (h.la x hx).1⟩, h.lin⟩
theorem Core.bad_in {w : World} {news : Led} {ls : List Addr} {b : Nat} {sa sb : Side} (h : Core w news ls b sa sb) : ∀ x ∈ ls ++ (fp sa ++ fp sb), ∃ p ∈ news, p.1 = x := fun x hx => by
  rcases List.mem_append.mp hx with hx | hx
  · exact h.lin x hx
  · rcases List.mem_append.mp hx with hx | hx
    · exact h.a.fp_in x hx
    · exact h.b.fp_in x hx
/-- one side turned: the other stands -/
theorem Core.step {w : World} {news news' : Led} {ls nw ds : List Addr} {b : Nat} {sa sb sa' : Side} (h : Core w news ls b sa sb) (hnw : ∀ a ∈ nw, ∀ p ∈ news, p.1 ≠ a) (hfp : ∀ a ∈ fp sa', a ∈ fp sa ∨ a ∈ nw) (hds : ∀ a ∈ ds, a ∈ fp sa) (c : Chg ds news news')
    (ha : SideOK w news' (nw ++ (ls ++ (fp sa ++ fp sb))) (b + 1) sa') : Core w news' ls (b + 1) sa' sb := by
  have nb : ∀ x ∈ nw, x ∉ fp sb := fun x hx => fresh_ne h.b (hnw x hx)
  have nl : ∀ x ∈ nw, x ∉ ls := fun x hx q => by
    obtain ⟨p, hp, e⟩ := h.lin x q
    exact hnw x hx p hp e
  have hb : SideOK w news' (nw ++ (ls ++ (fp sa ++ fp sb))) (b + 1) sb := h.b.keep c (fun x hx q => h.ap x (hds x q) hx) (fun x hx => by simp [hds x hx]) hnw (Nat.le_succ _)
  have sub : ∀ x ∈ ls ++ (fp sa' ++ fp sb), x ∈ nw ++ (ls ++ (fp sa ++ fp sb)) := fun x hx => by
    simp only [List.mem_append] at hx ⊢
    rcases hx with hx | hx | hx
    · exact .inr (.inl hx)
    · rcases hfp x hx with h1 | h1
      · exact .inr (.inr (.inl h1))
      · exact .inl h1
    · exact .inr (.inr (.inr hx))
  refine ⟨ha.rebad sub fun x hx => by simp [hx], hb.rebad sub fun x hx => by simp [hx], fun x hx q => ?_, fun x hx => ⟨fun q => ?_, (h.la x hx).2⟩, fun x hx => ?_⟩
  · rcases hfp x hx with h1 | h1
    · exact h.ap x h1 q
    · exact nb x h1 q
  · rcases hfp x q with h1 | h1
    · exact (h.la x hx).1 h1
    · exact nl x h1 hx
  · obtain ⟨p, hp, e⟩ := h.lin x hx
    exact ⟨p, c p hp (fun q => (h.la x hx).1 (hds x (e ▸ q))), e⟩
theorem Core.deed {w : World} {news news' : Led} {ls : List Addr} {b : Nat} {sa sb : Side} {x : Value} (h : Core w news ls b sa sb) (d : DeedPost w (ls ++ (fp sa ++ fp sb)) b sa news x news') :
    ∃ es, Core w news' ls (b + 1) { sa with ents := es } sb ∧ Chg (fp sa) news news' := by
  obtain ⟨_, nw, es, hnw, hfp, c, ha⟩ := d
  exact ⟨es, h.step hnw hfp (fun _ q => q) c ha, c⟩
theorem Core.all {w : World} {news news' : Led} {ls ds : List Addr} {b : Nat} {sa sb : Side} {D' B' : Addr} (h : Core w news ls b sa sb) (c : Chg [sa.Sd] news news') (hs : StoreAt news' sa.S sa.Sd D')
    (hD : DictIn w news' D' []) (hB : DictIn w news' B' []) (fD : ∀ p ∈ news, p.1 ≠ D') (fB : ∀ p ∈ news, p.1 ≠ B') (hne : D' ≠ B') : Core w news' ls (b + 1) { sa with D := D', Bk := B', ents := [] } sb := by
  refine h.step (nw := [D', B']) (ds := [sa.Sd]) (fun a ha => ?_) (fun a ha => ?_) (fun a ha => ?_) c (h.a.fresh c hs hD hB fD fB hne)
  · rcases List.mem_cons.mp ha with rfl | ha
    · exact fD
    · rw [List.mem_singleton.mp ha]; exact fB
  · simp only [fp, rowsAt, List.flatMap_nil, List.append_nil, List.mem_cons, List.not_mem_nil, or_false] at ha
    rcases ha with ha | ha | ha | ha | ha | ha
    · exact .inl (by simp [fp, ha])
    · exact .inl (by simp [fp, ha])
    · exact .inl (by simp [fp, ha])
    · exact .inl (by simp [fp, ha])
    · exact .inr (by simp [ha])
    · exact .inr (by simp [ha])
  · rw [List.mem_singleton.mp ha]; simp [fp]
/-- the law's own lists turned, or more laid beside: both sides stand -/
theorem Core.lists {w : World} {news news' : Led} {ls ds : List Addr} {b : Nat} {sa sb : Side} (h : Core w news ls b sa sb) (c : Chg ds news news') (hds : ∀ a ∈ ds, a ∈ ls) (hin : ∀ x ∈ ls, ∃ p ∈ news', p.1 = x) : Core w news' ls b sa sb := by
  have ka := h.a.keep (nw := []) (b' := b) c (fun x hx q => (h.la x (hds x q)).1 hx) (fun x hx => by simp [hds x hx]) (fun _ q => absurd q List.not_mem_nil) (Nat.le_refl _)
  have kb := h.b.keep (nw := []) (b' := b) c (fun x hx q => (h.la x (hds x q)).2 hx) (fun x hx => by simp [hds x hx]) (fun _ q => absurd q List.not_mem_nil) (Nat.le_refl _)
  exact ⟨ka, kb, h.ap, h.la, hin⟩
theorem Core.more {w : World} {news news' : Led} {ls : List Addr} {b : Nat} {sa sb : Side} (h : Core w news ls b sa sb) (c : ∀ p ∈ news, p ∈ news') : Core w news' ls b sa sb :=
  h.lists (ds := []) (Chg.of_sub c) (fun _ q => absurd q List.not_mem_nil) fun x hx => let ⟨p, hp, e⟩ := h.lin x hx; ⟨p, c p hp, e⟩
theorem Core.addI {w : World} {news : Led} {ls : List Addr} {b : Nat} {sa sb : Side} {I : Addr} {oI : Obj} (h : Core w news ls b sa sb) (hI : ∀ p ∈ news, p.1 ≠ I) : Core w ((I, oI) :: news) (I :: ls) b sa sb := by
  have g : ∀ {sd : Side}, SideOK w news (ls ++ (fp sa ++ fp sb)) b sd → SideOK w ((I, oI) :: news) (I :: ls ++ (fp sa ++ fp sb)) b sd := fun k =>
    (k.keep (nw := [I]) (ds := []) (b' := b) (Chg.of_sub fun p hp => List.mem_cons_of_mem _ hp) (fun _ _ => List.not_mem_nil) (fun _ q => absurd q List.not_mem_nil) (fun a ha => by rw [List.mem_singleton.mp ha]; exact hI) (Nat.le_refl _)).rebad (fun a ha => by simpa using ha) (fun a ha => by
      have := k.sub a ha
      simp only [List.cons_append, List.mem_cons]
      exact .inr this)
  refine ⟨g h.a, g h.b, h.ap, fun x hx => ?_, fun x hx => ?_⟩
  · rcases List.mem_cons.mp hx with rfl | hx
    · exact ⟨fresh_ne h.a hI, fresh_ne h.b hI⟩
    · exact h.la x hx
  · rcases List.mem_cons.mp hx with rfl | hx
    · exact ⟨_, List.mem_cons_self, rfl⟩
    · obtain ⟨p, hp, e⟩ := h.lin x hx
      exact ⟨p, List.mem_cons_of_mem _ hp, e⟩
theorem Core.dropI {w : World} {nl rest : Led} {ls : List Addr} {b : Nat} {sa sb : Side} {I : Addr} (h : Core w nl (I :: ls) b sa sb) (hr : ∀ p ∈ nl, p.1 ≠ I → p ∈ rest) (hn : I ∉ ls) : Core w rest ls b sa sb := by
  have c : Chg [I] nl rest := fun p hp q => hr p hp fun e => q (by rw [e]; exact List.mem_singleton.mpr rfl)
  have hI := h.la I List.mem_cons_self
  have g : ∀ {sd : Side}, SideOK w nl (I :: ls ++ (fp sa ++ fp sb)) b sd → I ∉ fp sd → (∀ x ∈ fp sd, x ∈ fp sa ++ fp sb) → SideOK w rest (ls ++ (fp sa ++ fp sb)) b sd := fun k ki kf =>
    (k.keep (nw := []) (ds := [I]) (b' := b) c (fun a ha q => ki (List.mem_singleton.mp q ▸ ha)) (fun a ha => by rw [List.mem_singleton.mp ha]; simp) (fun _ q => absurd q List.not_mem_nil) (Nat.le_refl _)).rebad (fun a ha => by
      simp only [List.nil_append, List.cons_append, List.mem_cons]; exact .inr ha) (fun a ha => List.mem_append_right _ (kf a ha))
  refine ⟨g h.a hI.1 fun x hx => List.mem_append_left _ hx, g h.b hI.2 fun x hx => List.mem_append_right _ hx, h.ap, fun x hx => h.la x (List.mem_cons_of_mem _ hx), fun x hx => ?_⟩
  obtain ⟨p, hp, e⟩ := h.lin x (List.mem_cons_of_mem _ hx)
  exact ⟨p, hr p hp (fun q => hn (q ▸ e ▸ hx)), e⟩
theorem split2 {h₀ h : Heap} {L b v : Addr} {ob ov : Obj} {news : Led} (N : News h₀ L h news) (hb : (b, ob) ∈ news) (hv : (v, ov) ∈ news) :
    ∃ rest : Led, News h₀ L h ((b, ob) :: (v, ov) :: rest) ∧ (∀ p ∈ rest, p.1 ≠ b) ∧ (∀ p ∈ rest, p.1 ≠ v) ∧ (∀ p ∈ news, p.1 ≠ b → p.1 ≠ v → p ∈ rest) := by
  refine ⟨news.filter (fun p => decide (p.1 ≠ b) && decide (p.1 ≠ v)), fun p hp => ?_, fun p hp => ?_, fun p hp => ?_, fun p hp h1 h2 => ?_⟩
  · rcases List.mem_cons.mp hp with rfl | hp
    · exact N _ hb
    · rcases List.mem_cons.mp hp with rfl | hp
      · exact N _ hv
      · exact N _ (List.mem_filter.mp hp).1
  · have := (List.mem_filter.mp hp).2
    rw [Bool.and_eq_true] at this
    exact of_decide_eq_true this.1
  · have := (List.mem_filter.mp hp).2
    rw [Bool.and_eq_true] at this
    exact of_decide_eq_true this.2
  · exact List.mem_filter.mpr ⟨hp, by rw [decide_eq_true h1, decide_eq_true h2]; rfl⟩
structure LawAt (w : World) (news : Led) (ws : List Value) (sl ml bl tl kl vl : Addr) (b : Nat) (sa sb : Side) (lv0 lv1 : Bool) (M0 M1 : Addr) : Prop where
  fs : (sl, PySem.W.listOf ws.toArray 0) ∈ news
  fm : (ml, PySem.W.listOf #[.ref M0, .ref M1] 0) ∈ news
  fb : (bl, PySem.W.listOf #[.ref sa.Bk, .ref sb.Bk] 0) ∈ news
  ft : (tl, PySem.W.listOf #[.ref sa.S, .ref sb.S] 0) ∈ news
  fk : (kl, PySem.W.listOf #[.ref sa.K, .ref sb.K] 0) ∈ news
  fv : (vl, PySem.W.listOf #[.bool lv0, .bool lv1] 0) ∈ news
  core : Core w news [sl, ml, bl, tl, kl, vl] b sa sb
  m0 : lv0 = true → M0 = sa.D
  m1 : lv1 = true → M1 = sb.D
  nd : [sl, ml, bl, tl, kl, vl].Nodup
def Names (sl ml bl tl kl vl : Addr) (mm : Str → Option Value) : Prop :=
  mm (Str.ofString "script") = some (.ref sl) ∧ mm (Str.ofString "mine") = some (.ref ml) ∧ mm (Str.ofString "books") = some (.ref bl) ∧ mm (Str.ofString "stores") = some (.ref tl) ∧ mm (Str.ofString "keepers") = some (.ref kl) ∧ mm (Str.ofString "live") = some (.ref vl)
def LawJ (w : World) (ws : List Value) (sl ml bl tl kl vl : Addr) (i : Nat) (mm : Str → Option Value) (news : Led) : Prop :=
  Names sl ml bl tl kl vl mm ∧ ∃ sa sb lv0 lv1 M0 M1, LawAt w news ws sl ml bl tl kl vl (i + 1) sa sb lv0 lv1 M0 M1
theorem map_six {sl ml bl tl kl vl : Addr} {m₁ : Str → Option Value} (h : Names sl ml bl tl kl vl m₁) (x : Str) (v : Value) :
    (fun y => if y = x then some v else m₁ y) = fun y => if y = x then some v else if y = Str.ofString "script" then some (.ref sl) else if y = Str.ofString "mine" then some (.ref ml) else if y = Str.ofString "books" then some (.ref bl) else if y = Str.ofString "stores" then some (.ref tl) else if y = Str.ofString "keepers" then some (.ref kl) else if y = Str.ofString "live" then some (.ref vl) else m₁ y := by
  obtain ⟨h1, h2, h3, h4, h5, h6⟩ := h
  funext y
  by_cases e : y = x
  · rw [if_pos e, if_pos e]
  · rw [if_neg e, if_neg e]
    by_cases e1 : y = Str.ofString "script"
    · rw [if_pos e1, e1, h1]
    · rw [if_neg e1]
      by_cases e2 : y = Str.ofString "mine"
      · rw [if_pos e2, e2, h2]
      · rw [if_neg e2]
        by_cases e3 : y = Str.ofString "books"
        · rw [if_pos e3, e3, h3]
        · rw [if_neg e3]
          by_cases e4 : y = Str.ofString "stores"
          · rw [if_pos e4, e4, h4]
          · rw [if_neg e4]
            by_cases e5 : y = Str.ofString "keepers"
            · rw [if_pos e5, e5, h5]
            · rw [if_neg e5]
              by_cases e6 : y = Str.ofString "live"
              · rw [if_pos e6, e6, h6]
              · rw [if_neg e6]
/-- the state between the turn's deed and its looks -/
def Mid (w : World) (ws : List Value) (sl ml bl tl kl vl : Addr) (b : Nat) (h₀ : Heap) (L I : Addr) (oI : Obj) (s s' : Shared) : Prop :=
  ∃ h' tk' m' news', s' = { s with heap := h', toks := tk' } ∧ Fr h₀ L h' m' ∧ News h₀ L h' ((I, oI) :: news') ∧ (∀ p ∈ news', p.1 ≠ I) ∧ Names sl ml bl tl kl vl m' ∧ ∃ sa sb lv0 lv1 M0 M1, LawAt w news' ws sl ml bl tl kl vl b sa sb lv0 lv1 M0 M1
theorem exec_mid {M : Model} {A : Around} {t : Sem Flow} {Q : Flow → Shared → Prop} {E : Value → Shared → Prop} {s : Shared} (P : Shared → Prop) (h1 : wpAny M A t (fun f s' => f = .next ∧ P s') E s) (h2 : ∀ s', P s' → Q .next s') : wpAny M A t Q E s :=
  wpAny_mono h1 (fun f s' ⟨e, hm⟩ => by subst e; exact h2 s' hm) (fun _ _ x => x)
/-- behind a turned ledger: the iterator apart again -/
theorem mid_of {w : World} {ws : List Value} {sl ml bl tl kl vl : Addr} {b : Nat} {h₀ h' : Heap} {L I : Addr} {oI : Obj} {s : Shared} {tk' : Nat} {m' : Str → Option Value} {nl : Led} {sa sb : Side} {lv0 lv1 : Bool} {M0 M1 : Addr} (F : Fr h₀ L h' m') (N : News h₀ L h' nl) (hI : (I, oI) ∈ nl)
    (hn : Names sl ml bl tl kl vl m') (hnI : I ∉ [sl, ml, bl, tl, kl, vl]) (hc : Core w nl (I :: [sl, ml, bl, tl, kl, vl]) b sa sb) (e1 : (sl, PySem.W.listOf ws.toArray 0) ∈ nl) (e2 : (ml, PySem.W.listOf #[.ref M0, .ref M1] 0) ∈ nl) (e3 : (bl, PySem.W.listOf #[.ref sa.Bk, .ref sb.Bk] 0) ∈ nl)
    (e4 : (tl, PySem.W.listOf #[.ref sa.S, .ref sb.S] 0) ∈ nl) (e5 : (kl, PySem.W.listOf #[.ref sa.K, .ref sb.K] 0) ∈ nl) (e6 : (vl, PySem.W.listOf #[.bool lv0, .bool lv1] 0) ∈ nl) (m0 : lv0 = true → M0 = sa.D) (m1 : lv1 = true → M1 = sb.D) (nd : [sl, ml, bl, tl, kl, vl].Nodup) :
    Mid w ws sl ml bl tl kl vl b h₀ L I oI s { s with heap := h', toks := tk' } := by
  obtain ⟨rest, N1, hsep, hsub⟩ := split1 N hI
  have ne : ∀ {x : Addr}, x ∈ [sl, ml, bl, tl, kl, vl] → x ≠ I := fun hx e => hnI (e ▸ hx)
  exact ⟨h', tk', m', rest, rfl, F, N1, hsep, hn, sa, sb, lv0, lv1, M0, M1, hsub _ e1 (ne (by simp)), hsub _ e2 (ne (by simp)), hsub _ e3 (ne (by simp)), hsub _ e4 (ne (by simp)), hsub _ e5 (ne (by simp)), hsub _ e6 (ne (by simp)), hc.dropI hsub hnI, m0, m1, nd⟩
theorem law_init {w : World} {news : Led} {ws : List Value} {sl ml bl tl kl vl S0 Sd0 K0 Kd0 D0 B0 S1 Sd1 K1 Kd1 D1 B1 r1 q1 c0 c1 : Addr} {hh0 hh1 u1 u2 u3 v1 v2 v3 : Int} {tk0 tk1 x1 x2 x3 y1 y2 y3 : Tok} {oD0 oB0 oD1 oB1 or1 oq1 : Obj} {t1 t2 : Tok}
    (a1 : (sl, PySem.W.listOf ws.toArray 0) ∈ news) (a2 : (ml, PySem.W.listOf #[.ref D0, .ref D1] 0) ∈ news) (a3 : (bl, PySem.W.listOf #[.ref B0, .ref B1] 0) ∈ news) (a4 : (tl, PySem.W.listOf #[.ref S0, .ref S1] 0) ∈ news) (a5 : (kl, PySem.W.listOf #[.ref K0, .ref K1] 0) ∈ news) (a6 : (vl, PySem.W.listOf #[.bool true, .bool true] 0) ∈ news)
    (b1 : (S0, instObj 80 Sd0) ∈ news) (b2 : (Sd0, ins1 hh0 tk0 D0) ∈ news) (b3 : (K0, instObj 276 Kd0) ∈ news) (b4 : (Kd0, ins3 u1 u2 u3 x1 x2 x3 false c0 S0) ∈ news)
    (c1' : (S1, instObj 80 Sd1) ∈ news) (c2 : (Sd1, ins1 hh1 tk1 D1) ∈ news) (c3 : (K1, instObj 276 Kd1) ∈ news) (c4 : (Kd1, ins3 v1 v2 v3 y1 y2 y3 false c1 S1) ∈ news)
    (d1 : (D0, oD0) ∈ news) (d2 : oD0.IsDictOf (PySem.strKind Challenge.rw_aa6015_01.row.prog w) []) (d3 : (D0 == sysModules) = false) (e1 : (B0, oB0) ∈ news) (e2 : oB0.IsDictOf (PySem.strKind Challenge.rw_aa6015_01.row.prog w) []) (e3 : (B0 == sysModules) = false)
    (f1 : (D1, oD1) ∈ news) (f2 : oD1.IsDictOf (PySem.strKind Challenge.rw_aa6015_01.row.prog w) [(Str.ofString "b", .ref r1)]) (f3 : (D1 == sysModules) = false) (g1 : (B1, oB1) ∈ news) (g2 : oB1.IsDictOf (PySem.strKind Challenge.rw_aa6015_01.row.prog w) [(Str.ofString "b", .ref q1)]) (g3 : (B1 == sysModules) = false)
    (i1 : (r1, or1) ∈ news) (i2 : or1.IsDictOf (PySem.strKind Challenge.rw_aa6015_01.row.prog w) [(Str.ofString "k", .int 5 t1)]) (i3 : (r1 == sysModules) = false) (j1 : (q1, oq1) ∈ news) (j2 : oq1.IsDictOf (PySem.strKind Challenge.rw_aa6015_01.row.prog w) [(Str.ofString "k", .int 5 t2)]) (j3 : (q1 == sysModules) = false)
    (nd : [sl, ml, bl, tl, kl, vl, S0, Sd0, K0, Kd0, D0, B0, S1, Sd1, K1, Kd1, D1, B1, r1, q1].Nodup) :
    ∃ sa sb lv0 lv1 M0 M1, LawAt w news ws sl ml bl tl kl vl 1 sa sb lv0 lv1 M0 M1 := by
  let sa : Side := ⟨S0, Sd0, K0, Kd0, D0, B0, []⟩
  let sb : Side := ⟨S1, Sd1, K1, Kd1, D1, B1, [⟨Str.ofString "b", r1, q1, [(Str.ofString "k", .int 5 t1)], [(Str.ofString "k", .int 5 t2)]⟩]⟩
  have fa : fp sa = [S0, Sd0, K0, Kd0, D0, B0] := by simp [fp, sa, rowsAt]
  have fb : fp sb = [S1, Sd1, K1, Kd1, D1, B1, r1, q1] := by simp [fp, sb, rowsAt]
  have nd' : ([sl, ml, bl, tl, kl, vl] ++ (fp sa ++ fp sb)).Nodup := by rw [fa, fb]; exact nd
  obtain ⟨n1, n2, n3⟩ := nodup_split nd'
  obtain ⟨n4, n5, n6⟩ := nodup_split n2
  refine ⟨sa, sb, true, true, D0, D1, ⟨a1, a2, a3, a4, a5, a6, ⟨⟨StoreAt.mk b1 b2, KeepAt.mk b3 b4, ⟨_, d1, d2, d3⟩, ⟨_, e1, e2, e3⟩, fun e he => absurd he List.not_mem_nil, List.nodup_nil, Nat.zero_le _, n4, fun x hx => by simp [hx]⟩,
    ⟨StoreAt.mk c1' c2, KeepAt.mk c3 c4, ⟨_, f1, f2, f3⟩, ⟨_, g1, g2, g3⟩, fun e he => ?_, by simp [sb], by simp [sb], n5, fun x hx => by simp [hx]⟩, n6, fun x hx => ⟨fun q => n3 x hx (List.mem_append_left _ q), fun q => n3 x hx (List.mem_append_right _ q)⟩, fun x hx => ?_⟩, fun _ => rfl, fun _ => rfl, n1⟩⟩
  · rw [List.mem_singleton.mp he]
    refine ⟨⟨_, i1, i2, i3⟩, ⟨_, j1, j2, j3⟩, ⟨by simp, rfl, fun k => ?_⟩, fun k v hv => ?_⟩
    · rw [valueAt_cons, valueAt_cons]
      by_cases e : (Str.ofString "k") = k
      · rw [if_pos e, if_pos e]; exact .inr ⟨5, t1, t2, rfl, rfl⟩
      · rw [if_neg e, if_neg e]; exact .inl rfl
    · have hv' : valueAt [(Str.ofString "k", Value.int 5 t1)] k = some v := hv
      rw [valueAt_cons] at hv'
      split at hv'
      · rw [← Option.some.inj hv']
        exact ⟨.inr (.inl ⟨_, _, rfl⟩), fun a e => by cases e⟩
      · simp [valueAt] at hv'
  · simp only [List.mem_cons, List.not_mem_nil, or_false] at hx
    rcases hx with rfl | rfl | rfl | rfl | rfl | rfl
    · exact ⟨_, a1, rfl⟩
    · exact ⟨_, a2, rfl⟩
    · exact ⟨_, a3, rfl⟩
    · exact ⟨_, a4, rfl⟩
    · exact ⟨_, a5, rfl⟩
    · exact ⟨_, a6, rfl⟩
theorem law_start {w : World} {h₀ h : Heap} {L : Addr} {m : Str → Option Value} {news : Led} {ws : List Value} {sl ml bl tl kl vl : Addr} (F : Fr h₀ L h m) (N : News h₀ L h news) (hn : Names sl ml bl tl kl vl m)
    (hi : ∃ sa sb lv0 lv1 M0 M1, LawAt w news ws sl ml bl tl kl vl 1 sa sb lv0 lv1 M0 M1) : ∃ sl ml bl tl kl vl, LawJ w ws sl ml bl tl kl vl 0 m news := ⟨sl, ml, bl, tl, kl, vl, hn, hi⟩
/-- a hypothesis of this kind lets the walker halt once at an `if` over a compare -/
def Gate : Prop := True
theorem exec_midA {w : World} {news₁ : Led} {ws : List Value} {sl ml bl tl kl vl : Addr} {b : Nat} {sa sb : Side} {lv0 lv1 : Bool} {M0 M1 : Addr} {M : Model} {A : Around} {t : Sem Flow} {Q : Flow → Shared → Prop} {E : Value → Shared → Prop} {s : Shared} {h₀ : Heap} {L I : Addr} {oI : Obj}
    (_ : LawAt w news₁ ws sl ml bl tl kl vl b sa sb lv0 lv1 M0 M1) (N : News h₀ L s.heap ((I, oI) :: news₁)) (s0 : Shared) (h1 : wpAny M A t (fun f s' => f = .next ∧ Mid w ws sl ml bl tl kl vl (b + 1) h₀ L I oI s0 s') E s) (h2 : ∀ s', Mid w ws sl ml bl tl kl vl (b + 1) h₀ L I oI s0 s' → Q .next s') : wpAny M A t Q E s := exec_mid _ h1 h2
/-- the law's own def in the written part: its scope, the turn of its first loop -/
def fnAt (K : Frag) (a : Addr) : Option FuncData := match K.lookup a with
  | some o => (match o.data with | .func f => some f | _ => none)
  | none => none
def stmtsOf (f : Option FuncData) : List Stmt := match f with
  | some f => (match f.body with | .stmts b => b | _ => [])
  | none => []
def scopeOf (f : Option FuncData) : Scope := match f with
  | some f => f.scope
  | none => default
def forBody : List Stmt → List Stmt
  | .For _ _ b _ _ :: _ => b
  | _ :: r => forBody r
  | [] => []
def nthStmt : List Stmt → Nat → Stmt
  | s :: _, 0 => s
  | _ :: r, n + 1 => nthStmt r n
  | [], _ => default
noncomputable def lawScope (w : World) : Scope := scopeOf (fnAt (Mine.hd.heap_39 w.params) 329)
noncomputable def turnBody (w : World) : List Stmt := forBody (stmtsOf (fnAt (Mine.hd.heap_39 w.params) 329))
noncomputable def midStmt (w : World) : Stmt := nthStmt (turnBody w) 3
noncomputable def lookStmts (w : World) : List Stmt := forBody (turnBody w)
noncomputable abbrev lawEnv (w : World) (L fa : Addr) (cd : Value) : Env := envOf (Str.ofString "law") (lawScope w) L fa cd
theorem turn_gen {M : Model} {A : Around} {t : Sem Flow} {E : Value → Shared → Prop} {s : Shared} {h₀ h : Heap} {L I : Addr} {oI : Obj} {cs : Led} {J : (Str → Option Value) → Led → Prop} {Q : Flow → Shared → Prop} {tk : Nat}
    (H : ∀ Qp Ep g d o tk, wpAny M A t (TurnPost h₀ L I oI cs J Qp (Shared.mk h g d tk o)) Ep (Shared.mk h g d tk o)) :
    wpAny M A t (TurnPost h₀ L I oI cs J Q { s with heap := h, toks := tk }) E { s with heap := h, toks := tk } := H Q E _ _ _ _
theorem map_cons {m m' : Str → Option Value} {x : Str} {v : Value} (h : m x = some v) (e : m = m') : m = fun y => if y = x then some v else m' y := by
  funext y
  by_cases hy : y = x
  · rw [if_pos hy, hy, h]
  · rw [if_neg hy, e]
theorem map_sixE {sl ml bl tl kl vl : Addr} {m : Str → Option Value} (h : Names sl ml bl tl kl vl m) :
    m = fun y => if y = Str.ofString "script" then some (.ref sl) else if y = Str.ofString "mine" then some (.ref ml) else if y = Str.ofString "books" then some (.ref bl) else if y = Str.ofString "stores" then some (.ref tl) else if y = Str.ofString "keepers" then some (.ref kl) else if y = Str.ofString "live" then some (.ref vl) else m y :=
  map_cons h.1 (map_cons h.2.1 (map_cons h.2.2.1 (map_cons h.2.2.2.1 (map_cons h.2.2.2.2.1 (map_cons h.2.2.2.2.2 rfl)))))
theorem LawAt.ne_a {w : World} {news : Led} {ws : List Value} {sl ml bl tl kl vl : Addr} {b : Nat} {sa sb : Side} {lv0 lv1 : Bool} {M0 M1 : Addr} (hA : LawAt w news ws sl ml bl tl kl vl b sa sb lv0 lv1 M0 M1) {x y : Addr} (hx : x ∈ [sl, ml, bl, tl, kl, vl]) (hy : y ∈ fp sa) : x ∉ [y] :=
  fun e => (hA.core.la x hx).1 (List.mem_singleton.mp e ▸ hy)
theorem LawAt.bv {w : World} {news : Led} {ws : List Value} {sl ml bl tl kl vl : Addr} {b : Nat} {sa sb : Side} {lv0 lv1 : Bool} {M0 M1 : Addr} (hA : LawAt w news ws sl ml bl tl kl vl b sa sb lv0 lv1 M0 M1) : vl ≠ bl ∧ bl ≠ vl := by
  have h := hA.nd
  simp only [List.nodup_cons, List.mem_cons, List.not_mem_nil, or_false, not_or, List.nodup_nil, and_true, not_false_eq_true] at h
  exact ⟨fun e => h.2.2.1.2.2 e.symm, h.2.2.1.2.2⟩
theorem core_all {w : World} {news news2 rest : Led} {ls : List Addr} {b : Nat} {sa sb : Side} {bl vl D' d' : Addr} {ob2 ov2 o' : Obj} (hc : Core w news ls b sa sb) (hbl : bl ∈ ls) (hvl : vl ∈ ls)
    (hS2 : StoreAt news2 sa.S sa.Sd D') (hD2 : DictIn w news2 D' []) (fD : ∀ p ∈ news, p.1 ≠ D') (chg : Chg [sa.Sd] news news2) (hsub : ∀ p ∈ news2, p.1 ≠ bl → p.1 ≠ vl → p ∈ rest)
    (l1 : bl < d' ∧ vl < d' ∧ AllLt d' rest) (ho : o'.IsDictOf (PySem.strKind Challenge.rw_aa6015_01.row.prog w) []) (lo : (d' == sysModules) = false) :
    Core w ((d', o') :: (bl, ob2) :: (vl, ov2) :: rest) ls (b + 1) { sa with D := D', Bk := d', ents := [] } sb ∧ (∀ p ∈ news, p.1 ∉ [sa.Sd, bl, vl] → p ∈ (d', o') :: (bl, ob2) :: (vl, ov2) :: rest) := by
  have ne2 : ∀ p ∈ news2, p.1 ≠ d' := fun p hp => by
    by_cases e1 : p.1 = bl
    · rw [e1]; exact Nat.ne_of_lt l1.1
    · by_cases e2 : p.1 = vl
      · rw [e2]; exact Nat.ne_of_lt l1.2.1
      · exact Nat.ne_of_lt (allLt_all l1.2.2 p (hsub p hp e1 e2))
  have fB : ∀ p ∈ news, p.1 ≠ d' := fun p hp => by
    by_cases e : p.1 = sa.Sd
    · obtain ⟨_, _, _, q⟩ := hS2
      rw [e]; exact ne2 _ q
    · exact ne2 p (chg p hp (by simpa using e))
  have hne : D' ≠ d' := by
    obtain ⟨o, q, _⟩ := hD2
    exact ne2 _ q
  have c3 : Chg [sa.Sd] news ((d', o') :: news2) := fun p hp q => List.mem_cons_of_mem _ (chg p hp q)
  have k3 := hc.all (ds := []) (D' := D') (B' := d') c3 (by obtain ⟨hh, tk, q1, q2⟩ := hS2; exact ⟨hh, tk, List.mem_cons_of_mem _ q1, List.mem_cons_of_mem _ q2⟩) (by obtain ⟨o, q1, q2⟩ := hD2; exact ⟨o, List.mem_cons_of_mem _ q1, q2⟩) ⟨o', List.mem_cons_self, ho, lo⟩ fD fB hne
  have c4 : Chg [bl, vl] ((d', o') :: news2) ((d', o') :: (bl, ob2) :: (vl, ov2) :: rest) := fun p hp q => by
    rcases List.mem_cons.mp hp with rfl | hp
    · exact List.mem_cons_self
    · simp only [List.mem_cons, List.not_mem_nil, or_false, not_or] at q
      exact List.mem_cons_of_mem _ (List.mem_cons_of_mem _ (List.mem_cons_of_mem _ (hsub p hp q.1 q.2)))
  refine ⟨k3.lists c4 (fun a ha => ?_) (fun x hx => ?_), fun p hp q => ?_⟩
  · simp only [List.mem_cons, List.not_mem_nil, or_false] at ha
    rcases ha with rfl | rfl
    · exact hbl
    · exact hvl
  · obtain ⟨p, hp, e⟩ := k3.lin x hx
    by_cases e1 : x = bl
    · exact ⟨(bl, ob2), by simp, e1.symm⟩
    · by_cases e2 : x = vl
      · exact ⟨(vl, ov2), by simp, e2.symm⟩
      · exact ⟨p, c4 p hp (by simp only [List.mem_cons, List.not_mem_nil, or_false, not_or]; exact ⟨fun q => e1 (e ▸ q), fun q => e2 (e ▸ q)⟩), e⟩
  · simp only [List.mem_cons, List.not_mem_nil, or_false, not_or] at q
    exact c4 p (c3 p hp (by simpa using q.1)) (by simp only [List.mem_cons, List.not_mem_nil, or_false, not_or]; exact q.2)
theorem mid_all0 {w : World} {news news2 rest : Led} {ws : List Value} {sl ml bl tl kl vl : Addr} {b : Nat} {sa sb : Side} {lv0 lv1 : Bool} {M0 M1 I D' d' : Addr} {oI o' : Obj} {h₀ h' : Heap} {L : Addr} {m' : Str → Option Value} {s s' : Shared} {tk' : Nat}
    (hA : LawAt w news ws sl ml bl tl kl vl b sa sb lv0 lv1 M0 M1) (hI : ∀ p ∈ news, p.1 ≠ I)
    (hS2 : StoreAt news2 sa.S sa.Sd D') (hD2 : DictIn w news2 D' []) (fD : ∀ p ∈ (I, oI) :: news, p.1 ≠ D') (chg : Chg [sa.Sd] ((I, oI) :: news) news2) (hsub : ∀ p ∈ news2, p.1 ≠ bl → p.1 ≠ vl → p ∈ rest)
    (l1 : bl < d' ∧ vl < d' ∧ AllLt d' rest) (ho : o'.IsDictOf (PySem.strKind Challenge.rw_aa6015_01.row.prog w) []) (lo : (d' == sysModules) = false) (F : Fr h₀ L h' m') (hn : Names sl ml bl tl kl vl m')
    (N : News h₀ L h' ((d', o') :: (bl, PySem.W.listOf #[.ref d', .ref sb.Bk] 0) :: (vl, PySem.W.listOf #[.bool false, .bool lv1] 0) :: rest)) (es : s' = { s with heap := h', toks := tk' }) :
    Mid w ws sl ml bl tl kl vl (b + 1) h₀ L I oI s s' := by
  subst es
  obtain ⟨hc, hk⟩ := core_all (bl := bl) (vl := vl) (ob2 := PySem.W.listOf #[.ref d', .ref sb.Bk] 0) (ov2 := PySem.W.listOf #[.bool false, .bool lv1] 0) (hA.core.addI (oI := oI) hI) (by simp) (by simp) hS2 hD2 fD chg hsub l1 ho lo
  have hIl : I ∉ [sl, ml, bl, tl, kl, vl] := fun q => by
    obtain ⟨p, hp, e⟩ := hA.core.lin I q
    exact hI p hp e
  have nd := hA.nd
  simp only [List.nodup_cons, List.mem_cons, List.not_mem_nil, or_false, not_or, List.nodup_nil, and_true, not_false_eq_true] at nd hIl
  obtain ⟨⟨n1, n2, n3, n4, n5⟩, ⟨n6, n7, n8, n9⟩, ⟨n10, n11, n12⟩, ⟨n13, n14⟩, n15⟩ := nd
  obtain ⟨i1, i2, i3, i4, i5, i6⟩ := hIl
  have nS : ∀ x ∈ [sl, ml, bl, tl, kl, vl], x ≠ sa.Sd := fun x hx e => (hA.core.la x hx).1 (e ▸ by simp [fp])
  have hIS : I ≠ sa.Sd := fun e => ((hA.core.addI (oI := oI) hI).la I List.mem_cons_self).1 (e ▸ by simp [fp])
  have up : ∀ {p : Addr × Obj}, p ∈ news → p.1 ≠ sa.Sd → p.1 ≠ bl → p.1 ≠ vl → p ∈ (d', o') :: (bl, PySem.W.listOf #[.ref d', .ref sb.Bk] 0) :: (vl, PySem.W.listOf #[.bool false, .bool lv1] 0) :: rest := fun hp a1 a2 a3 =>
    hk _ (List.mem_cons_of_mem _ hp) (by simp only [List.mem_cons, List.not_mem_nil, or_false, not_or]; exact ⟨a1, a2, a3⟩)
  exact mid_of (lv0 := false) (lv1 := lv1) (M0 := M0) (M1 := M1) F N (hk _ List.mem_cons_self (by simp only [List.mem_cons, List.not_mem_nil, or_false, not_or]; exact ⟨hIS, i3, i6⟩)) hn (by simp only [List.mem_cons, List.not_mem_nil, or_false, not_or]; exact ⟨i1, i2, i3, i4, i5, i6⟩) hc
    (up hA.fs (nS _ (by simp)) n2 n5) (up hA.fm (nS _ (by simp)) n6 n9) (by simp) (up hA.ft (nS _ (by simp)) (Ne.symm n10) n14) (up hA.fk (nS _ (by simp)) (Ne.symm n11) n15) (by simp) (fun q => by cases q) hA.m1 hA.nd
theorem mid_all1 {w : World} {news news2 rest : Led} {ws : List Value} {sl ml bl tl kl vl : Addr} {b : Nat} {sa sb : Side} {lv0 lv1 : Bool} {M0 M1 I D' d' : Addr} {oI o' : Obj} {h₀ h' : Heap} {L : Addr} {m' : Str → Option Value} {s s' : Shared} {tk' : Nat}
    (hA : LawAt w news ws sl ml bl tl kl vl b sa sb lv0 lv1 M0 M1) (hI : ∀ p ∈ news, p.1 ≠ I)
    (hS2 : StoreAt news2 sb.S sb.Sd D') (hD2 : DictIn w news2 D' []) (fD : ∀ p ∈ (I, oI) :: news, p.1 ≠ D') (chg : Chg [sb.Sd] ((I, oI) :: news) news2) (hsub : ∀ p ∈ news2, p.1 ≠ bl → p.1 ≠ vl → p ∈ rest)
    (l1 : bl < d' ∧ vl < d' ∧ AllLt d' rest) (ho : o'.IsDictOf (PySem.strKind Challenge.rw_aa6015_01.row.prog w) []) (lo : (d' == sysModules) = false) (F : Fr h₀ L h' m') (hn : Names sl ml bl tl kl vl m')
    (N : News h₀ L h' ((d', o') :: (bl, PySem.W.listOf #[.ref sa.Bk, .ref d'] 0) :: (vl, PySem.W.listOf #[.bool lv0, .bool false] 0) :: rest)) (es : s' = { s with heap := h', toks := tk' }) :
    Mid w ws sl ml bl tl kl vl (b + 1) h₀ L I oI s s' := by
  subst es
  obtain ⟨hc, hk⟩ := core_all (bl := bl) (vl := vl) (ob2 := PySem.W.listOf #[.ref sa.Bk, .ref d'] 0) (ov2 := PySem.W.listOf #[.bool lv0, .bool false] 0) (hA.core.addI (oI := oI) hI).swap (by simp) (by simp) hS2 hD2 fD chg hsub l1 ho lo
  have hIl : I ∉ [sl, ml, bl, tl, kl, vl] := fun q => by
    obtain ⟨p, hp, e⟩ := hA.core.lin I q
    exact hI p hp e
  have nd := hA.nd
  simp only [List.nodup_cons, List.mem_cons, List.not_mem_nil, or_false, not_or, List.nodup_nil, and_true, not_false_eq_true] at nd hIl
  obtain ⟨⟨n1, n2, n3, n4, n5⟩, ⟨n6, n7, n8, n9⟩, ⟨n10, n11, n12⟩, ⟨n13, n14⟩, n15⟩ := nd
  obtain ⟨i1, i2, i3, i4, i5, i6⟩ := hIl
  have nS : ∀ x ∈ [sl, ml, bl, tl, kl, vl], x ≠ sb.Sd := fun x hx e => (hA.core.la x hx).2 (e ▸ by simp [fp])
  have hIS : I ≠ sb.Sd := fun e => ((hA.core.addI (oI := oI) hI).la I List.mem_cons_self).2 (e ▸ by simp [fp])
  have up : ∀ {p : Addr × Obj}, p ∈ news → p.1 ≠ sb.Sd → p.1 ≠ bl → p.1 ≠ vl → p ∈ (d', o') :: (bl, PySem.W.listOf #[.ref sa.Bk, .ref d'] 0) :: (vl, PySem.W.listOf #[.bool lv0, .bool false] 0) :: rest := fun hp a1 a2 a3 =>
    hk _ (List.mem_cons_of_mem _ hp) (by simp only [List.mem_cons, List.not_mem_nil, or_false, not_or]; exact ⟨a1, a2, a3⟩)
  exact mid_of (lv0 := lv0) (lv1 := false) (M0 := M0) (M1 := M1) F N (hk _ List.mem_cons_self (by simp only [List.mem_cons, List.not_mem_nil, or_false, not_or]; exact ⟨hIS, i3, i6⟩)) hn (by simp only [List.mem_cons, List.not_mem_nil, or_false, not_or]; exact ⟨i1, i2, i3, i4, i5, i6⟩) hc.swap
    (up hA.fs (nS _ (by simp)) n2 n5) (up hA.fm (nS _ (by simp)) n6 n9) (by simp) (up hA.ft (nS _ (by simp)) (Ne.symm n10) n14) (up hA.fk (nS _ (by simp)) (Ne.symm n11) n15) (by simp) hA.m0 (fun q => by cases q) hA.nd
theorem LawAt.ne_b {w : World} {news : Led} {ws : List Value} {sl ml bl tl kl vl : Addr} {b : Nat} {sa sb : Side} {lv0 lv1 : Bool} {M0 M1 : Addr} (hA : LawAt w news ws sl ml bl tl kl vl b sa sb lv0 lv1 M0 M1) {x y : Addr} (hx : x ∈ [sl, ml, bl, tl, kl, vl]) (hy : y ∈ fp sb) : x ∉ [y] :=
  fun e => (hA.core.la x hx).2 (List.mem_singleton.mp e ▸ hy)
theorem LawAt.nI {w : World} {news : Led} {ws : List Value} {sl ml bl tl kl vl : Addr} {b : Nat} {sa sb : Side} {lv0 lv1 : Bool} {M0 M1 I : Addr} (hA : LawAt w news ws sl ml bl tl kl vl b sa sb lv0 lv1 M0 M1) (hI : ∀ p ∈ news, p.1 ≠ I) : I ∉ [sl, ml, bl, tl, kl, vl] := fun q => by
  obtain ⟨p, hp, e⟩ := hA.core.lin I q
  exact hI p hp e
theorem mid_deed0 {w : World} {news news2 : Led} {ws : List Value} {sl ml bl tl kl vl : Addr} {b : Nat} {sa sb : Side} {lv0 lv1 : Bool} {M0 M1 I : Addr} {oI : Obj} {h₀ h' : Heap} {L : Addr} {m' : Str → Option Value} {s s' : Shared} {tk' : Nat} {x : Value}
    (hA : LawAt w news ws sl ml bl tl kl vl b sa sb lv0 lv1 M0 M1) (hI : ∀ p ∈ news, p.1 ≠ I) (d : DeedPost w ([I, sl, ml, bl, tl, kl, vl] ++ (fp sa ++ fp sb)) b sa ((I, oI) :: news) x news2)
    (F : Fr h₀ L h' m') (hn : Names sl ml bl tl kl vl m') (N : News h₀ L h' news2) (es : s' = { s with heap := h', toks := tk' }) :
    Mid w ws sl ml bl tl kl vl (b + 1) h₀ L I oI s s' := by
  subst es
  have hcI := hA.core.addI (oI := oI) hI
  obtain ⟨es, hc, chg⟩ := hcI.deed d
  have up : ∀ {p : Addr × Obj}, p ∈ news → p.1 ∈ [sl, ml, bl, tl, kl, vl] → p ∈ news2 := fun hp hx => chg _ (List.mem_cons_of_mem _ hp) (hA.core.la _ hx).1
  exact mid_of (lv0 := lv0) (lv1 := lv1) (M0 := M0) (M1 := M1) F N (chg _ List.mem_cons_self (hcI.la I List.mem_cons_self).1) hn (hA.nI hI) hc (up hA.fs (by simp)) (up hA.fm (by simp)) (up hA.fb (by simp)) (up hA.ft (by simp)) (up hA.fk (by simp)) (up hA.fv (by simp)) hA.m0 hA.m1 hA.nd
theorem mid_deed1 {w : World} {news news2 : Led} {ws : List Value} {sl ml bl tl kl vl : Addr} {b : Nat} {sa sb : Side} {lv0 lv1 : Bool} {M0 M1 I : Addr} {oI : Obj} {h₀ h' : Heap} {L : Addr} {m' : Str → Option Value} {s s' : Shared} {tk' : Nat} {x : Value}
    (hA : LawAt w news ws sl ml bl tl kl vl b sa sb lv0 lv1 M0 M1) (hI : ∀ p ∈ news, p.1 ≠ I) (d : DeedPost w ([I, sl, ml, bl, tl, kl, vl] ++ (fp sb ++ fp sa)) b sb ((I, oI) :: news) x news2)
    (F : Fr h₀ L h' m') (hn : Names sl ml bl tl kl vl m') (N : News h₀ L h' news2) (es : s' = { s with heap := h', toks := tk' }) :
    Mid w ws sl ml bl tl kl vl (b + 1) h₀ L I oI s s' := by
  subst es
  have hcI := (hA.core.addI (oI := oI) hI).swap
  obtain ⟨es, hc, chg⟩ := hcI.deed d
  have up : ∀ {p : Addr × Obj}, p ∈ news → p.1 ∈ [sl, ml, bl, tl, kl, vl] → p ∈ news2 := fun hp hx => chg _ (List.mem_cons_of_mem _ hp) (hA.core.la _ hx).2
  exact mid_of (lv0 := lv0) (lv1 := lv1) (M0 := M0) (M1 := M1) F N (chg _ List.mem_cons_self (hcI.la I List.mem_cons_self).1) hn (hA.nI hI) hc.swap (up hA.fs (by simp)) (up hA.fm (by simp)) (up hA.fb (by simp)) (up hA.ft (by simp)) (up hA.fk (by simp)) (up hA.fv (by simp)) hA.m0 hA.m1 hA.nd
local macro_rules | `(tactic| walk_at "call ref") => `(tactic| (k_here; (with_reducible show wpAny _ _ (call (Value.ref 301) _) _ _ _); refine Mine.halt ?_))
local macro_rules | `(tactic| walk_at "call ref") => `(tactic| (k_here; (with_reducible show wpAny _ _ (call (Value.ref 322) _) _ _ _); refine Mine.halt ?_))
local macro_rules | `(tactic| walk_at "call ref") => `(tactic| (k_here; (with_reducible show wpAny _ _ (call (Value.ref 308) _) _ _ _); refine Mine.halt ?_))
local macro_rules | `(tactic| walk_at "call ref") => `(tactic| (k_here; (with_reducible show wpAny _ _ (call (Value.ref 315) _) _ _ _); refine Mine.halt ?_))
local macro_rules | `(tactic| walk_at "call ref") => `(tactic| (k_here; (with_reducible show wpAny _ _ (call (Value.ref 77) _) _ _ _); refine Mine.halt ?_))
local macro_rules | `(tactic| walk_at "call ref") => `(tactic| (k_here; (with_reducible show wpAny _ _ (call (Value.ref 201) _) _ _ _); refine Mine.halt ?_))
set_option maxRecDepth 100000 in
set_option maxHeartbeats 4000000 in
theorem mid0_ok {w : World} {fa cx L : Addr} {h₀ : Heap} {mean : ExcName → Option Value} {mg mb : Str → Option Value} {news : Led} {ws : List Value} {sl ml bl tl kl vl : Addr} {b : Nat} {S0 Sd0 K0 Kd0 D0 B0 : Addr} {es0 : List Ent} {sb : Side} {lv0 lv1 : Bool} {M0 M1 I : Addr} {oI : Obj} {m : Str → Option Value} {s : Shared} {E : Value → Shared → Prop} {k v : Int} {tkk tv ts : Tok}
    (KX : (Mine.hd.heap_39 w.params).In h₀) (T : Top Mine.hd.view_39 (looseW Mine.hd.view_39 [Str.ofString "FileChangedChecker", Str.ofString "MD5Checker"]) mean mg mb h₀) (K1 : Below callerA h₀ [] h₀)
    (hA : LawAt w news ws sl ml bl tl kl vl b ⟨S0, Sd0, K0, Kd0, D0, B0, es0⟩ sb lv0 lv1 M0 M1) (hI : ∀ p ∈ news, p.1 ≠ I) (hn : Names sl ml bl tl kl vl m) (hb : b ≤ 40) (hk0 : 0 ≤ k) (hk1 : k < 24)
    (mk : m (Str.ofString "k") = some (.int k tkk)) (mv : m (Str.ofString "v") = some (.int v tv)) (ms : m (Str.ofString "s") = some (.int 0 ts)) (mst : m (Str.ofString "store") = some (.ref S0)) (mke : m (Str.ofString "keeper") = some (.ref K0)) (mbk : m (Str.ofString "book") = some (.ref B0))
    (F : Fr h₀ L s.heap m) (N : News h₀ L s.heap ((I, oI) :: news)) :
    wpAny (model Challenge.rw_aa6015_01.row.prog w) (callerA.deeper (lawEnv w L fa (.ref cx))) (exec (midStmt w) (lawEnv w L fa (.ref cx))) (fun f s' => f = .next ∧ Mid w ws sl ml bl tl kl vl (b + 1) h₀ L I oI s s') E s := by
  revert KX
  w_top off
  k_fill
  intro KX
  have hI' : (midStmt w) = (midStmt w) := rfl
  conv at hI' =>
    enter [2]
    whnf
  have hS' : (lawScope w) = (lawScope w) := rfl
  conv at hS' =>
    enter [2]
    whnf
  rw [hI']
  dsimp only [lawEnv]
  rw [hS']
  clear hI' hS'
  have e := map_cons mk (map_cons mv (map_cons ms (map_cons mst (map_cons mke (map_cons mbk (map_sixE hn))))))
  rw [e] at F
  clear e
  have hbl := hA.fb
  have hvl := hA.fv
  have hcI := hA.core.addI (oI := oI) hI
  obtain ⟨hh0, tkS0, hS0, hSd0⟩ := hA.core.a.st
  obtain ⟨u1, u2, u3, y1, y2, y3, c0, ck0, hK0, hKd0⟩ := hA.core.a.kp
  dsimp only at hbl hS0 hSd0 hK0 hKd0
  have hSS : S0 ≠ Sd0 := by
    have hh' := (nodup_split hA.core.a.nod).1
    simp only [List.nodup_cons, List.mem_cons, List.not_mem_nil, or_false, not_or, List.nodup_nil, and_true, not_false_eq_true] at hh'
    exact hh'.1.1
  obtain ⟨hvb, hbv⟩ := hA.bv
  generalize hkd : (v.fdiv 18).fmod 8 = kd
  by_cases e7 : kd = 7
  · subst e7
    have q3 : (v.fdiv 144).fmod 2 = 0 ∨ (v.fdiv 144).fmod 2 = 1 := by
      have h0 := Mine.fmod_lo (v.fdiv 144) (b := 2) (by decide)
      have h1 := Mine.fmod_hi (v.fdiv 144) (b := 2) (by decide)
      omega
    rcases q3 with q3 | q3
    · k_steps
      unfold Mine.Halt
      have C := @krall_ok w K0 Kd0 S0 Sd0 D0
      refine' CallR.use ?kB ?kF ?kX ?kN ?kT ?kk C ?kd ?ku ⟨KeepAt.mk (List.mem_cons_of_mem _ hK0) (List.mem_cons_of_mem _ hKd0), StoreAt.mk (List.mem_cons_of_mem _ hS0) (List.mem_cons_of_mem _ hSd0), hSS⟩ ?_
      (case kB => k_asm); (case kF => k_asm); (case kX => k_asm); (case kN => k_asm); (case kT => k_asm)
      (case kk => first | exact rfl | assumption)
      (case kd => ktr_room); (case ku => ktr_units)
      rintro r' h2 tk2 news2 F2 N2 ⟨rfl, D', hS2, hD2, fD, chg⟩
      clear C
      have hb2 := chg _ (List.mem_cons_of_mem _ hbl) (hA.ne_a (by simp) (by simp [fp]))
      have hv2 := chg _ (List.mem_cons_of_mem _ hvl) (hA.ne_a (by simp) (by simp [fp]))
      obtain ⟨rest, N3, sepb, sepv, hsub⟩ := split2 N2 hb2 hv2
      clear N2 F N
      k_steps
      exact mid_all0 hA hI hS2 hD2 fD chg hsub (by assumption) (by assumption) (by assumption) (by k_asm) ⟨rfl, rfl, rfl, rfl, rfl, rfl⟩ (by k_asm) rfl
    · k_steps
      unfold Mine.Halt
      have C := @rall_ok w S0 Sd0 D0
      refine' CallR.use ?kB ?kF ?kX ?kN ?kT ?kk C ?kd ?ku ⟨StoreAt.mk (List.mem_cons_of_mem _ hS0) (List.mem_cons_of_mem _ hSd0), hSS⟩ ?_
      (case kB => k_asm); (case kF => k_asm); (case kX => k_asm); (case kN => k_asm); (case kT => k_asm)
      (case kk => first | exact rfl | assumption)
      (case kd => ktr_room); (case ku => ktr_units)
      rintro r' h2 tk2 news2 F2 N2 ⟨rfl, D', hS2, hD2, fD, chg⟩
      clear C
      have hb2 := chg _ (List.mem_cons_of_mem _ hbl) (hA.ne_a (by simp) (by simp [fp]))
      have hv2 := chg _ (List.mem_cons_of_mem _ hvl) (hA.ne_a (by simp) (by simp [fp]))
      obtain ⟨rest, N3, sepb, sepv, hsub⟩ := split2 N2 hb2 hv2
      clear N2 F N
      k_steps
      exact mid_all0 hA hI hS2 hD2 fD chg hsub (by assumption) (by assumption) (by assumption) (by k_asm) ⟨rfl, rfl, rfl, rfl, rfl, rfl⟩ (by k_asm) rfl
  · k_steps
    · exact absurd (by assumption) e7
    unfold Mine.Halt
    have C := @deed_ok w S0 Sd0 K0 Kd0 D0 B0 es0 ([I, sl, ml, bl, tl, kl, vl] ++ (fp ⟨S0, Sd0, K0, Kd0, D0, B0, es0⟩ ++ fp sb)) b v k tv tkk
    refine' CallR.use ?kB ?kF ?kX ?kN ?kT ?kk C ?kd ?ku ⟨hcI.a, hb, hk0, hk1, hcI.bad_in⟩ ?_
    (case kB => k_asm); (case kF => k_asm); (case kX => k_asm); (case kN => k_asm); (case kT => k_asm)
    (case kk => first | exact rfl | assumption)
    (case kd => ktr_room); (case ku => ktr_units)
    rintro r' h2 tk2 news2 F2 N2 hd2
    clear C
    have hr2 := hd2.1
    subst hr2
    clear F N
    k_steps
    exact mid_deed0 hA hI hd2 (by k_asm) ⟨rfl, rfl, rfl, rfl, rfl, rfl⟩ (by k_asm) rfl
set_option maxRecDepth 100000 in
set_option maxHeartbeats 4000000 in
theorem mid1_ok {w : World} {fa cx L : Addr} {h₀ : Heap} {mean : ExcName → Option Value} {mg mb : Str → Option Value} {news : Led} {ws : List Value} {sl ml bl tl kl vl : Addr} {b : Nat} {S0 Sd0 K0 Kd0 D0 B0 : Addr} {es0 : List Ent} {sa : Side} {lv0 lv1 : Bool} {M0 M1 I : Addr} {oI : Obj} {m : Str → Option Value} {s : Shared} {E : Value → Shared → Prop} {k v : Int} {tkk tv ts : Tok}
    (KX : (Mine.hd.heap_39 w.params).In h₀) (T : Top Mine.hd.view_39 (looseW Mine.hd.view_39 [Str.ofString "FileChangedChecker", Str.ofString "MD5Checker"]) mean mg mb h₀) (K1 : Below callerA h₀ [] h₀)
    (hA : LawAt w news ws sl ml bl tl kl vl b sa ⟨S0, Sd0, K0, Kd0, D0, B0, es0⟩ lv0 lv1 M0 M1) (hI : ∀ p ∈ news, p.1 ≠ I) (hn : Names sl ml bl tl kl vl m) (hb : b ≤ 40) (hk0 : 0 ≤ k) (hk1 : k < 24)
    (mk : m (Str.ofString "k") = some (.int k tkk)) (mv : m (Str.ofString "v") = some (.int v tv)) (ms : m (Str.ofString "s") = some (.int 1 ts)) (mst : m (Str.ofString "store") = some (.ref S0)) (mke : m (Str.ofString "keeper") = some (.ref K0)) (mbk : m (Str.ofString "book") = some (.ref B0))
    (F : Fr h₀ L s.heap m) (N : News h₀ L s.heap ((I, oI) :: news)) :
    wpAny (model Challenge.rw_aa6015_01.row.prog w) (callerA.deeper (lawEnv w L fa (.ref cx))) (exec (midStmt w) (lawEnv w L fa (.ref cx))) (fun f s' => f = .next ∧ Mid w ws sl ml bl tl kl vl (b + 1) h₀ L I oI s s') E s := by
  revert KX
  w_top off
  k_fill
  intro KX
  have hI' : (midStmt w) = (midStmt w) := rfl
  conv at hI' =>
    enter [2]
    whnf
  have hS' : (lawScope w) = (lawScope w) := rfl
  conv at hS' =>
    enter [2]
    whnf
  rw [hI']
  dsimp only [lawEnv]
  rw [hS']
  clear hI' hS'
  have e := map_cons mk (map_cons mv (map_cons ms (map_cons mst (map_cons mke (map_cons mbk (map_sixE hn))))))
  rw [e] at F
  clear e
  have hbl := hA.fb
  have hvl := hA.fv
  have hcI := hA.core.addI (oI := oI) hI
  obtain ⟨hh0, tkS0, hS0, hSd0⟩ := hA.core.b.st
  obtain ⟨u1, u2, u3, y1, y2, y3, c0, ck0, hK0, hKd0⟩ := hA.core.b.kp
  dsimp only at hbl hS0 hSd0 hK0 hKd0
  have hSS : S0 ≠ Sd0 := by
    have hh' := (nodup_split hA.core.b.nod).1
    simp only [List.nodup_cons, List.mem_cons, List.not_mem_nil, or_false, not_or, List.nodup_nil, and_true, not_false_eq_true] at hh'
    exact hh'.1.1
  obtain ⟨hvb, hbv⟩ := hA.bv
  generalize hkd : (v.fdiv 18).fmod 8 = kd
  by_cases e7 : kd = 7
  · subst e7
    have q3 : (v.fdiv 144).fmod 2 = 0 ∨ (v.fdiv 144).fmod 2 = 1 := by
      have h0 := Mine.fmod_lo (v.fdiv 144) (b := 2) (by decide)
      have h1 := Mine.fmod_hi (v.fdiv 144) (b := 2) (by decide)
      omega
    rcases q3 with q3 | q3
    · k_steps
      unfold Mine.Halt
      have C := @krall_ok w K0 Kd0 S0 Sd0 D0
      refine' CallR.use ?kB ?kF ?kX ?kN ?kT ?kk C ?kd ?ku ⟨KeepAt.mk (List.mem_cons_of_mem _ hK0) (List.mem_cons_of_mem _ hKd0), StoreAt.mk (List.mem_cons_of_mem _ hS0) (List.mem_cons_of_mem _ hSd0), hSS⟩ ?_
      (case kB => k_asm); (case kF => k_asm); (case kX => k_asm); (case kN => k_asm); (case kT => k_asm)
      (case kk => first | exact rfl | assumption)
      (case kd => ktr_room); (case ku => ktr_units)
      rintro r' h2 tk2 news2 F2 N2 ⟨rfl, D', hS2, hD2, fD, chg⟩
      clear C
      have hb2 := chg _ (List.mem_cons_of_mem _ hbl) (hA.ne_b (by simp) (by simp [fp]))
      have hv2 := chg _ (List.mem_cons_of_mem _ hvl) (hA.ne_b (by simp) (by simp [fp]))
      obtain ⟨rest, N3, sepb, sepv, hsub⟩ := split2 N2 hb2 hv2
      clear N2 F N
      k_steps
      exact mid_all1 hA hI hS2 hD2 fD chg hsub (by assumption) (by assumption) (by assumption) (by k_asm) ⟨rfl, rfl, rfl, rfl, rfl, rfl⟩ (by k_asm) rfl
    · k_steps
      unfold Mine.Halt
      have C := @rall_ok w S0 Sd0 D0
      refine' CallR.use ?kB ?kF ?kX ?kN ?kT ?kk C ?kd ?ku ⟨StoreAt.mk (List.mem_cons_of_mem _ hS0) (List.mem_cons_of_mem _ hSd0), hSS⟩ ?_
      (case kB => k_asm); (case kF => k_asm); (case kX => k_asm); (case kN => k_asm); (case kT => k_asm)
      (case kk => first | exact rfl | assumption)
      (case kd => ktr_room); (case ku => ktr_units)
      rintro r' h2 tk2 news2 F2 N2 ⟨rfl, D', hS2, hD2, fD, chg⟩
      clear C
      have hb2 := chg _ (List.mem_cons_of_mem _ hbl) (hA.ne_b (by simp) (by simp [fp]))
      have hv2 := chg _ (List.mem_cons_of_mem _ hvl) (hA.ne_b (by simp) (by simp [fp]))
      obtain ⟨rest, N3, sepb, sepv, hsub⟩ := split2 N2 hb2 hv2
      clear N2 F N
      k_steps
      exact mid_all1 hA hI hS2 hD2 fD chg hsub (by assumption) (by assumption) (by assumption) (by k_asm) ⟨rfl, rfl, rfl, rfl, rfl, rfl⟩ (by k_asm) rfl
  · k_steps
    · exact absurd (by assumption) e7
    unfold Mine.Halt
    have C := @deed_ok w S0 Sd0 K0 Kd0 D0 B0 es0 ([I, sl, ml, bl, tl, kl, vl] ++ (fp ⟨S0, Sd0, K0, Kd0, D0, B0, es0⟩ ++ fp sa)) b v k tv tkk
    refine' CallR.use ?kB ?kF ?kX ?kN ?kT ?kk C ?kd ?ku ⟨hcI.swap.a, hb, hk0, hk1, hcI.swap.bad_in⟩ ?_
    (case kB => k_asm); (case kF => k_asm); (case kX => k_asm); (case kN => k_asm); (case kT => k_asm)
    (case kk => first | exact rfl | assumption)
    (case kd => ktr_room); (case ku => ktr_units)
    rintro r' h2 tk2 news2 F2 N2 hd2
    clear C
    have hr2 := hd2.1
    subst hr2
    clear F N
    k_steps
    exact mid_deed1 hA hI hd2 (by k_asm) ⟨rfl, rfl, rfl, rfl, rfl, rfl⟩ (by k_asm) rfl
noncomputable def tailStmts (w : World) : List Stmt := (turnBody w).drop 4
def JL (sl ml bl tl kl vl : Addr) (news : Led) : Nat → (Str → Option Value) → Led → Prop := fun _ mm nx => nx = news ∧ Names sl ml bl tl kl vl mm
theorem StoreAt.mono {news news' : Led} {S Sd D : Addr} (h : StoreAt news S Sd D) (hs : ∀ p ∈ news, p ∈ news') : StoreAt news' S Sd D := by
  obtain ⟨hh, tk, a, b⟩ := h
  exact ⟨hh, tk, hs _ a, hs _ b⟩
theorem KeepAt.mono {news news' : Led} {K Kd S : Addr} (h : KeepAt news K Kd S) (hs : ∀ p ∈ news, p ∈ news') : KeepAt news' K Kd S := by
  obtain ⟨a1, a2, a3, a4, a5, a6, a7, a8, a, b⟩ := h
  exact ⟨a1, a2, a3, a4, a5, a6, a7, a8, hs _ a, hs _ b⟩
theorem SideOK.look {w : World} {news news' : Led} {bad : List Addr} {b : Nat} {sd : Side} (h : SideOK w news bad b sd) (hs : ∀ p ∈ news, p ∈ news') :
    StoreAt news' sd.S sd.Sd sd.D ∧ KeepAt news' sd.K sd.Kd sd.S ∧ DictIn w news' sd.D (kD sd.ents) ∧ DictIn w news' sd.Bk (kB sd.ents) ∧ Same w news' (kD sd.ents) (kB sd.ents) :=
  have g := h.grow hs (Nat.le_refl _)
  ⟨g.st, g.kp, g.dd, g.db, g.same⟩
theorem SideOK.mirror {w : World} {news news' : Led} {bad : List Addr} {b : Nat} {sd : Side} (h : SideOK w news bad b sd) (hb : b < 64) (hs : ∀ p ∈ news, p ∈ news') :
    DictIn w news' sd.D (kD sd.ents) ∧ DictIn w news' sd.Bk (kB sd.ents) ∧ (kB sd.ents).map (·.1) = (kD sd.ents).map (·.1) ∧ (kD sd.ents).length < 64 ∧ (kB sd.ents).length < 64 ∧ Same w news' (kD sd.ents) (kB sd.ents) :=
  have g := h.grow hs (Nat.le_refl _)
  ⟨g.dd, g.db, by rw [kD_keys, kB_keys], by rw [kD_len]; exact Nat.lt_of_le_of_lt h.len hb, by rw [kB_len]; exact Nat.lt_of_le_of_lt h.len hb, g.same⟩
set_option maxRecDepth 100000 in
set_option maxHeartbeats 4000000 in
theorem tail_ok {w : World} {fa cx L : Addr} {h₀ : Heap} {mean : ExcName → Option Value} {mg mb : Str → Option Value} {news : Led} {ws : List Value} {sl ml bl tl kl vl : Addr} {b : Nat} {sa sb : Side} {lv0 lv1 : Bool} {M0 M1 I : Addr} {oI : Obj} {m : Str → Option Value} {s₁ : Shared} {hp : Heap} {tp : Nat} {Qp : Flow → Shared → Prop} {J : (Str → Option Value) → Led → Prop}
    (KX : (Mine.hd.heap_39 w.params).In h₀) (T : Top Mine.hd.view_39 (looseW Mine.hd.view_39 [Str.ofString "FileChangedChecker", Str.ofString "MD5Checker"]) mean mg mb h₀) (K1 : Below callerA h₀ [] h₀)
    (hA : LawAt w news ws sl ml bl tl kl vl b sa sb lv0 lv1 M0 M1) (hI : ∀ p ∈ news, p.1 ≠ I) (hn : Names sl ml bl tl kl vl m) (hb : b ≤ 40)
    (hJ : ∀ mm, Names sl ml bl tl kl vl mm → J mm news)
    (F : Fr h₀ L hp m) (N : News h₀ L hp ((I, oI) :: news)) :
    wpAny (model Challenge.rw_aa6015_01.row.prog w) (callerA.deeper (lawEnv w L fa (.ref cx))) (execs (tailStmts w) (lawEnv w L fa (.ref cx))) (TurnPost h₀ L I oI [] J Qp s₁) (fun _ _ => False) { s₁ with heap := hp, toks := tp } := by
  revert KX
  w_top off
  k_fill
  intro KX
  have hI' : (tailStmts w) = (tailStmts w) := rfl
  conv at hI' =>
    enter [2]
    whnf
  have hS' : (lawScope w) = (lawScope w) := rfl
  conv at hS' =>
    enter [2]
    whnf
  rw [hI']
  dsimp only [lawEnv]
  rw [hS']
  clear hI' hS'
  rw [map_sixE hn] at F
  have hfm := hA.fm
  have hfb := hA.fb
  have hft := hA.ft
  have hfk := hA.fk
  have hfv := hA.fv
  k_steps
  unfold Halt
  rename Fr _ _ _ _ => lF
  with_unfolding_all refine' For_invVF lF ?fk1 ?fk2 ?_ ?fk3 PassesOwn.never
  (case fk1 => exact rfl); (case fk2 => exact rfl); (case fk3 => intro _; rfl)
  k_steps
  unfold Halt
  rename Fr _ _ _ _ => lF
  rename News _ _ _ _ => lN
  rename IsRange _ _ _ _ _ _ _ _ => hrg
  refine iter_range (n := 2) rfl hrg (by decide) (by decide) lF lN (JL sl ml bl tl kl vl _) ⟨rfl, rfl, rfl, rfl, rfl, rfl, rfl⟩ ?_ ?_
  · rintro i t m₁ news₁ I₂ oI₂ h2 tk2 hi hI2 ⟨rfl, hn1⟩ F₁ N₁
    clear lF lN hrg
    rw [map_six hn1] at F₁
    have hi2 : i = 0 ∨ i = 1 := by omega
    rcases hi2 with rfl | rfl
    · have e0 : (0 : Int) + ((0 : Nat) : Int) = 0 := rfl
      rw [e0] at F₁
      clear e0
      k_steps
      unfold Halt
      have C := @look_ok w sa.K sa.Kd sa.S sa.Sd sa.D sa.Bk (kD sa.ents) (kB sa.ents)
      refine' CallR.use ?kB ?kF ?kX ?kN ?kT ?kk C ?kd ?ku ?pre ?_
      (case kB => k_asm); (case kF => k_asm); (case kX => k_asm); (case kN => k_asm); (case kT => k_asm)
      (case pre => exact hA.core.a.look fun p hp => List.mem_cons_of_mem _ (List.mem_cons_of_mem _ hp))
      (case kk => first | exact rfl | assumption)
      (case kd => ktr_room); (case ku => ktr_units)
      rintro r' h3 tk3 news3 F3 N3 ⟨rfl, rfl⟩
      clear C F₁ N₁
      cases lv0
      · k_steps
        refine' turn_ro ?f ?n ?h ?i ?c ?j
        case f => k_asm
        case n => k_asm
        case h => (intro p hp; repeat (first | exact hp | apply List.mem_cons_of_mem))
        case i => exact hI2
        case c => exact fun p hp => absurd hp List.not_mem_nil
        case j => exact ⟨rfl, rfl, rfl, rfl, rfl, rfl, rfl⟩
      · k_steps
        unfold Halt
        have C := @mirror_ok w M0 sa.Bk (kD sa.ents) (kB sa.ents)
        refine' CallR.use ?kB ?kF ?kX ?kN ?kT ?kk C ?kd ?ku ?pre ?_
        (case kB => k_asm); (case kF => k_asm); (case kX => k_asm); (case kN => k_asm); (case kT => k_asm)
        (case pre => rw [hA.m0 rfl]; exact hA.core.a.mirror (by omega) fun p hp => List.mem_cons_of_mem _ (List.mem_cons_of_mem _ hp))
        (case kk => first | exact rfl | assumption)
        (case kd => ktr_room); (case ku => ktr_units)
        rintro r' h4 tk4 news4 F4 N4 ⟨rfl, rfl⟩
        clear C F3 N3
        k_steps
        refine' turn_ro ?f ?n ?h ?i ?c ?j
        case f => k_asm
        case n => k_asm
        case h => (intro p hp; repeat (first | exact hp | apply List.mem_cons_of_mem))
        case i => exact hI2
        case c => exact fun p hp => absurd hp List.not_mem_nil
        case j => exact ⟨rfl, rfl, rfl, rfl, rfl, rfl, rfl⟩
    · have e0 : (0 : Int) + ((1 : Nat) : Int) = 1 := rfl
      rw [e0] at F₁
      clear e0
      k_steps
      unfold Halt
      have C := @look_ok w sb.K sb.Kd sb.S sb.Sd sb.D sb.Bk (kD sb.ents) (kB sb.ents)
      refine' CallR.use ?kB ?kF ?kX ?kN ?kT ?kk C ?kd ?ku ?pre ?_
      (case kB => k_asm); (case kF => k_asm); (case kX => k_asm); (case kN => k_asm); (case kT => k_asm)
      (case pre => exact hA.core.b.look fun p hp => List.mem_cons_of_mem _ (List.mem_cons_of_mem _ hp))
      (case kk => first | exact rfl | assumption)
      (case kd => ktr_room); (case ku => ktr_units)
      rintro r' h3 tk3 news3 F3 N3 ⟨rfl, rfl⟩
      clear C F₁ N₁
      cases lv1
      · k_steps
        refine' turn_ro ?f ?n ?h ?i ?c ?j
        case f => k_asm
        case n => k_asm
        case h => (intro p hp; repeat (first | exact hp | apply List.mem_cons_of_mem))
        case i => exact hI2
        case c => exact fun p hp => absurd hp List.not_mem_nil
        case j => exact ⟨rfl, rfl, rfl, rfl, rfl, rfl, rfl⟩
      · k_steps
        unfold Halt
        have C := @mirror_ok w M1 sb.Bk (kD sb.ents) (kB sb.ents)
        refine' CallR.use ?kB ?kF ?kX ?kN ?kT ?kk C ?kd ?ku ?pre ?_
        (case kB => k_asm); (case kF => k_asm); (case kX => k_asm); (case kN => k_asm); (case kT => k_asm)
        (case pre => rw [hA.m1 rfl]; exact hA.core.b.mirror (by omega) fun p hp => List.mem_cons_of_mem _ (List.mem_cons_of_mem _ hp))
        (case kk => first | exact rfl | assumption)
        (case kd => ktr_room); (case ku => ktr_units)
        rintro r' h4 tk4 news4 F4 N4 ⟨rfl, rfl⟩
        clear C F3 N3
        k_steps
        refine' turn_ro ?f ?n ?h ?i ?c ?j
        case f => k_asm
        case n => k_asm
        case h => (intro p hp; repeat (first | exact hp | apply List.mem_cons_of_mem))
        case i => exact hI2
        case c => exact fun p hp => absurd hp List.not_mem_nil
        case j => exact ⟨rfl, rfl, rfl, rfl, rfl, rfl, rfl⟩
  · rintro m₁ news₁ h2 tk2 ⟨rfl, hn1⟩ F₁ N₁
    clear lF lN hrg
    k_steps
    exact turn_ro F₁ N₁ (fun p hp => hp) hI (fun p hp => absurd hp List.not_mem_nil) (hJ _ hn1)
local macro_rules | `(tactic| walk_at "exec If") => `(tactic| (k_here; refine Mine.halt ?_))
set_option maxRecDepth 100000 in
set_option maxHeartbeats 4000000 in
theorem turn_ok {w : World} {fa cx L : Addr} {h₀ : Heap} {mean : ExcName → Option Value} {mg mb : Str → Option Value} {news : Led} {ws : List Value} {ns : List Int} {sl ml bl tl kl vl : Addr} {i : Nat} {t : Tok} {I : Addr} {oI : Obj} {m₁ : Str → Option Value} {h : Heap} {g : Array GenState} {d : Drawn} {tk : Nat} {o : OsState} {Qp : Flow → Shared → Prop}
    (KX : (Mine.hd.heap_39 w.params).In h₀) (T : Top Mine.hd.view_39 (looseW Mine.hd.view_39 [Str.ofString "FileChangedChecker", Str.ofString "MD5Checker"]) mean mg mb h₀) (K1 : Below callerA h₀ [] h₀)
    (hws : IntsAre ws ns) (hlen : ns.length < 64) (hi : i < 24) (hI : ∀ p ∈ news, p.1 ≠ I) (hJ : LawJ w ws sl ml bl tl kl vl i m₁ news)
    (F : Fr h₀ L h (fun y => if y = Str.ofString "k" then some (.int (0 + (i : Int)) t) else m₁ y)) (N : News h₀ L h ((I, oI) :: news)) :
    wpAny (model Challenge.rw_aa6015_01.row.prog w) (callerA.deeper (lawEnv w L fa (.ref cx))) (execs (turnBody w) (lawEnv w L fa (.ref cx))) (TurnPost h₀ L I oI [] (LawJ w ws sl ml bl tl kl vl (i + 1)) Qp (Shared.mk h g d tk o)) (fun _ _ => False) (Shared.mk h g d tk o) := by
  revert KX
  w_top off
  k_fill
  intro KX
  have hI' : (turnBody w) = (turnBody w) := rfl
  conv at hI' =>
    enter [2]
    whnf
  have hS' : (lawScope w) = (lawScope w) := rfl
  conv at hS' =>
    enter [2]
    whnf
  rw [hI']
  dsimp only [lawEnv]
  rw [hS']
  clear hI' hS'
  obtain ⟨hn, sa, sb, lv0, lv1, M0, M1, hA⟩ := hJ
  rw [Mine.map_six hn] at F
  have hfs := hA.fs
  have hfb := hA.fb
  have hft := hA.ft
  have hfk := hA.fk
  k_steps
  unfold Mine.Halt
  have C := @num_ok w sl ws ns 0 (0 + (i : Int)) t
  refine' CallR.use ?kB ?kF ?kX ?kN ?kT ?kk C ?kd ?ku ⟨List.mem_cons_of_mem _ hfs, hws, ?kc1, ?kc2, hlen⟩ ?_
  (case kB => k_asm); (case kF => k_asm); (case kX => k_asm); (case kN => k_asm); (case kT => k_asm)
  (case kk => first | exact rfl | assumption)
  (case kc1 => omega); (case kc2 => omega)
  (case kd => ktr_room); (case ku => ktr_units)
  rintro r' h2 tk2 news2 F2 N2 ⟨⟨v, tv, rfl, hv0, hv1⟩, rfl⟩
  clear C F N
  have q2 : v.fmod 2 = 0 ∨ v.fmod 2 = 1 := by
    have h0 := Mine.fmod_lo v (b := 2) (by decide)
    have h1 := Mine.fmod_hi v (b := 2) (by decide)
    omega
  rcases q2 with q2 | q2
  · k_steps
    unfold Mine.Halt
    rename Fr _ _ _ _ => lF
    rename News _ _ _ _ => lN
    obtain ⟨S0, Sd0, K0, Kd0, D0, B0, es0⟩ := sa
    refine exec_mid _ (mid0_ok KX T K1 hA hI ⟨rfl, rfl, rfl, rfl, rfl, rfl⟩ (by omega) (by omega) (by omega) rfl rfl rfl rfl rfl rfl lF (subN lN (by intro p hp; repeat (first | exact hp | apply List.mem_cons_of_mem)))) ?_
    rintro s' ⟨h3, tk3, m3, news3, rfl, F3, N3, hI3, hn3, sa3, sb3, lw0, lw1, L0, L1, hA3⟩
    exact tail_ok KX T K1 hA3 hI3 hn3 (by omega) (fun mm hn' => ⟨hn', sa3, sb3, lw0, lw1, L0, L1, hA3⟩) F3 N3
  · k_steps
    unfold Mine.Halt
    rename Fr _ _ _ _ => lF
    rename News _ _ _ _ => lN
    obtain ⟨S0, Sd0, K0, Kd0, D0, B0, es0⟩ := sb
    refine exec_mid _ (mid1_ok KX T K1 hA hI ⟨rfl, rfl, rfl, rfl, rfl, rfl⟩ (by omega) (by omega) (by omega) rfl rfl rfl rfl rfl rfl lF (subN lN (by intro p hp; repeat (first | exact hp | apply List.mem_cons_of_mem)))) ?_
    rintro s' ⟨h3, tk3, m3, news3, rfl, F3, N3, hI3, hn3, sa3, sb3, lw0, lw1, L0, L1, hA3⟩
    exact tail_ok KX T K1 hA3 hI3 hn3 (by omega) (fun mm hn' => ⟨hn', sa3, sb3, lw0, lw1, L0, L1, hA3⟩) F3 N3
theorem lt_tr {a m b : Nat} (q : m < b) (p : a < m) : a ≠ b := Nat.ne_of_lt (Nat.lt_trans p q)
theorem gt_tr {a m b : Nat} (q : m < a) (p : b < m) : a ≠ b := Nat.ne_of_gt (Nat.lt_trans p q)
theorem turn_use {M : Model} {A : Around} {t : Sem Flow} {E : Value → Shared → Prop} {s : Shared} {h₀ h : Heap} {L I : Addr} {oI : Obj} {cs : Led} {J : (Str → Option Value) → Led → Prop} {Q : Flow → Shared → Prop} {tk : Nat}
    (H : wpAny M A t (TurnPost h₀ L I oI cs J Q (Shared.mk h s.gens s.drawn tk s.os)) (fun _ _ => False) (Shared.mk h s.gens s.drawn tk s.os)) :
    wpAny M A t (TurnPost h₀ L I oI cs J Q { s with heap := h, toks := tk }) E { s with heap := h, toks := tk } := wpAny_mono H (fun _ _ x => x) (fun _ _ x => x.elim)
local macro_rules | `(tactic| walk_at "eval Dict") => `(tactic| (k_here; (rename Fr _ _ _ _ => lF'); (rename News _ _ _ _ => lN'); (with_reducible refine kdn_str (by with_unfolding_all rfl) lF' lN' (Top.nolimit (by assumption)) (by with_unfolding_all rfl) (by with_unfolding_all rfl) (List.cons_ne_nil _ _) (by with_unfolding_all decide) ?_); intro d' h' o' F' N' l1 lo' hd'; (try k_lt l1)))
local macro_rules | `(tactic| walk_at "eval Dict nil nil") => `(tactic| (k_here; (rename Fr _ _ _ _ => lF'); (rename News _ _ _ _ => lN'); (with_reducible refine newDict_K lF' lN' (Top.nolimit (by assumption)) ?_); intro d' h' o' F' N' l1 lo' hs' fs' hi' fi'; (try k_lt l1)))
local macro_rules | `(tactic| walk_at "evalPairs") => `(tactic| (k_here; with_reducible refine pairTrees_nil_walk ?_))
local macro_rules | `(tactic| walk_at "evalPairs") => `(tactic| (k_here; with_reducible refine pairTrees_cons_walk ?_))
local macro_rules | `(tactic| walk_at "subscriptTail Name Constant ref int") => `(tactic| (k_here; (with_reducible show wpAny _ _ (subscriptTail _ _ (Value.ref _) (Value.int _ _)) _ _ _); (rename News _ _ _ _ => lN'); (with_reducible refine' Mine.item_l lN' ?zb ?zc ?zd ?ze ?_ ?zf); k_dflt ((case zb => k_mem); (case zc => decide); (case zd => decide); (case ze => rfl); (case zf => with_unfolding_all rfl); k_whole)))
local macro_rules | `(tactic| walk_at "call ref") => `(tactic| (k_here; k_fold; walk_at "call ref"))
local macro_rules | `(tactic| walk_at "call ref") => `(tactic| (k_here; (with_reducible show wpAny _ _ (call (Value.ref 157) _) _ _ _); k_fold; (with_reducible refine' call_cls ?zk1 ?zk2 ?zk3 ?zk4 ?zk5 ?zk6 ?_); (case zk1 => k_asm); (case zk2 => k_asm); (case zk3 => k_asm); k_dflt ((case zk4 => k_is); (case zk5 => k_is); (case zk6 => k_is); k_whole; intro x' d' h' F' N' l1 l2; (try k_lt l1); (try k_lt2 l2); (try k_sweep); k_enter)))
local macro_rules | `(tactic| walk_at "call ref") => `(tactic| (k_here; (with_reducible show wpAny _ _ (call (Value.ref 276) _) _ _ _); k_fold; (with_reducible refine' call_cls ?zk1 ?zk2 ?zk3 ?zk4 ?zk5 ?zk6 ?_); (case zk1 => k_asm); (case zk2 => k_asm); (case zk3 => k_asm); k_dflt ((case zk4 => k_is); (case zk5 => k_is); (case zk6 => k_is); k_whole; intro x' d' h' F' N' l1 l2; (try k_lt l1); (try k_lt2 l2); (try k_sweep); k_enter)))
local macro_rules | `(tactic| walk_at "call ref") => `(tactic| (k_here; (with_reducible show wpAny _ _ (call (Value.ref 80) _) _ _ _); k_fold; (with_reducible refine' call_cls ?zk1 ?zk2 ?zk3 ?zk4 ?zk5 ?zk6 ?_); (case zk1 => k_asm); (case zk2 => k_asm); (case zk3 => k_asm); k_dflt ((case zk4 => k_is); (case zk5 => k_is); (case zk6 => k_is); k_whole; intro x' d' h' F' N' l1 l2; (try k_lt l1); (try k_lt2 l2); (try k_sweep); k_enter)))
set_option maxRecDepth 100000 in
set_option maxHeartbeats 4000000 in
theorem that : PySem.Challenge.rw_aa6015_01.Holds := Mine.hd (by
  k_go0
  rename_i w s₀ s₁ mg mb G Y fa o pm doc kV ho hg KX X V GL T B TE TW bx by_ M cx cd hcd ns hs hlay0 hLay hr hl2 as1 as2 l vs as3 hL ra w1 r0 hI hr2 hc1 hc2 K0 hD h₁ F N0
  have END : ∀ (h' : Heap) (tk : Nat) (m' : Str → Option Value), Fr s₁.heap s₁.heap.objs.size h' m' → GoodW PySem.Challenge.rw_aa6015_01.row.claim (classAt s₀.heap) (ExcName.means s₀.heap) [ofPy (PyData.list (List.map PyData.int ns))] s₁ (Except.ok (Flow.ret (.bool true))) { s₁ with heap := h', toks := tk } := by
    intro h' tk m' F'
    wrow_close
  have K1 : Below callerA s₁.heap [] s₁.heap := K0
  clear K0 hD r0 w1 ra hLay hs hr hr2 hl2 hlay0 hcd M TW TE B GL V X ho hg hc2
  clear Y
  clear G
  obtain ⟨h₀, gens₀, drawn₀, toks₀, os₀⟩ := s₁
  dsimp only at *
  generalize hLL : h₀.objs.size = L at *
  show wpAny _ _ _ _ _ _
  k_fold
  k_steps
  unfold Mine.Halt
  rename Fr _ _ _ _ => lF
  with_unfolding_all refine' For_invVF lF ?fk1 ?fk2 ?_
  (case fk1 => exact rfl); (case fk2 => exact rfl)
  k_steps
  unfold Mine.Halt
  rename Fr _ _ _ _ => lF
  rename News _ _ _ _ => lN
  rename IsRange _ _ _ _ _ _ _ _ => hrg
  rename IntsAre _ (List.take 24 _) => hws
  obtain ⟨sl, ml, bl, tl, kl, vl, hJ⟩ := Mine.law_start (w := w) (ws := _) lF lN ⟨rfl, rfl, rfl, rfl, rfl, rfl⟩ (by
    refine' Mine.law_init ?ia1 ?ia2 ?ia3 ?ia4 ?ia5 ?ia6 ?ib1 ?ib2 ?ib3 ?ib4 ?ic1 ?ic2 ?ic3 ?ic4 ?id1 ?id2 ?id3 ?ie1 ?ie2 ?ie3 ?if1 ?if2 ?if3 ?ig1 ?ig2 ?ig3 ?ii1 ?ii2 ?ii3 ?ij1 ?ij2 ?ij3 ?ind
    case ia1 => k_mem
    case ia2 => k_mem
    case ia3 => k_mem
    case ia4 => k_mem
    case ia5 => k_mem
    case ia6 => k_mem
    case ib1 => k_mem
    case ib2 => k_mem
    case ib3 => k_mem
    case ib4 => k_mem
    case ic1 => k_mem
    case ic2 => k_mem
    case ic3 => k_mem
    case ic4 => k_mem
    case id1 => k_mem
    case id2 => assumption
    case id3 => assumption
    case ie1 => k_mem
    case ie2 => assumption
    case ie3 => assumption
    case if1 => k_mem
    case if2 => assumption
    case if3 => assumption
    case ig1 => k_mem
    case ig2 => assumption
    case ig3 => assumption
    case ii1 => k_mem
    case ii2 => assumption
    case ii3 => assumption
    case ij1 => k_mem
    case ij2 => assumption
    case ij3 => assumption
    case ind =>
      simp only [List.nodup_cons, List.mem_cons, List.not_mem_nil, or_false, not_or, List.nodup_nil, and_true, not_false_eq_true]
      repeat' (rename @LT.lt Nat _ _ _ ∧ _ => hc; obtain ⟨_, _⟩ := hc)
      repeat' apply And.intro
      all_goals first
        | exact Nat.ne_of_lt (by assumption)
        | exact Nat.ne_of_gt (by assumption)
        | exact lt_tr (by assumption) (by assumption)
        | exact gt_tr (by assumption) (by assumption))
  refine Mine.iter_range (n := 24) rfl hrg (by decide) (by decide) lF lN (Mine.LawJ w _ sl ml bl tl kl vl) hJ ?_ ?_
  · rintro i t m₁ news₁ I oI h tk' hi hI hJ' F₁ N₁
    have hlenS : (List.take 24 ns).length < 64 := by rw [List.length_take]; omega
    exact Mine.turn_use (Mine.turn_ok KX T K1 hws hlenS hi hI hJ' F₁ N₁)
  · clear lF lN hJ
    rintro m₁ news₁ h tk' ⟨hn, hA⟩ F₁ N₁
    k_steps
    show GoodW _ _ _ _ _ _ _
    exact END _ _ _ F₁)
end Mine
theorem PySem.Challenge.cw_aa6015_01_holds : PySem.Challenge.rw_aa6015_01.Holds := by
  exact Mine.that
