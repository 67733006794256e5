import PyProof.Rows.All
import Wide.All
import OpenK.AllK
import Wide.FinOn
import PySem.Challenge.RW_fe0065_01
open PySem PySem.W PyProof.Rows
set_option Elab.async false
set_option maxRecDepth 100000
set_option maxHeartbeats 8000000
set_option linter.unusedVariables false
namespace Mine
open_top hd for PySem.Challenge.rw_fe0065_01
end Mine
local macro_rules | `(tactic| k_room) => `(tactic| ktr_room)
local macro_rules | `(tactic| k_all) => `(tactic| assumption)
local macro_rules | `(tactic| k_mem) => `(tactic| (repeat (first | exact List.Mem.head _ | assumption | refine List.Mem.tail _ ?_)); done)
local macro_rules | `(tactic| walk_at "noteFrame ref") => `(tactic| (k_here; (rename RaisedS _ _ _ _ _ _ _ _ _ => rsX); kts_caught))
local macro_rules | `(tactic| walk_at "noteFrame ref") => `(tactic| (k_here; (rename RaisedSN _ _ _ _ _ _ _ => rsX); kts_caughtN))
theorem Mine.calmPre : True := by
  w_top off
  trivial
namespace Mine
noncomputable abbrev LL : List PySem.Str := looseW hd.view_39 [] ++ List.map (fun x => x.name) (recsOf hd.view_39) ++
        List.map (fun x => x.fst) (litsOf hd.view_39) ++
      List.map (fun x => x.name) (clssOf hd.view_39 (looseW hd.view_39 []))
abbrev atTop (dp un : Nat) (gd : Option (List Code)) (cn : Str) (ns : List (Str × NameKind)) (ig ic : Bool) (mo : List (Str × Const)) (L a : Addr) (ccd : Value) (cl : List (Str × Addr)) (outer : List Env) : Around := { handled := none, depth := dp, frames := some (envX cn ⟨.function, ns, ig, ic, mo⟩ L a ccd cl :: outer), guards := gd, units := un }
abbrev Led := List (Addr × Obj)
def lamAt (i : Nat) : Arguments × PySem.Expr × Scope := match PySem.Challenge.pw_fe0065_01.main.body.drop i with
  | .FunctionDef _ _ [.Return (some (.Lambda ps b sc _)) _] _ _ _ _ _ _ _ :: _ => (ps, b, sc)
  | _ => default
def CodeIn (news : Led) (c' : Addr) (qual : Str) : Prop := ∃ oc vs t, (c', oc) ∈ news ∧ oc.data = .fields vs ∧ vs[1]? = some (.str qual t)
def LamF (news : Led) (i : Nat) (qual : Str) (clo : List (Str × Addr)) (f : Addr) : Prop := ∃ pm c' ctv, (f, kla_obj (Str.ofString "<lambda>") qual (lamAt i).1 (lamAt i).2.1 (lamAt i).2.2 clo pm c' ctv) ∈ news ∧ CodeIn news c' qual
def CellIn (news : Led) (c : Addr) (v : Value) : Prop := ∃ o, (c, o) ∈ news ∧ o.data = .cell (some v)
abbrev qualOf (f : String) : Str := (Str.ofString f ++ Str.ofString ".<locals>.") ++ Str.ofString "<lambda>"
def PredIn (news : Led) (v : Value) (way : Int) : Prop := ∃ f c tk, v = .ref f ∧ LamF news 5 (qualOf "_law_predicate") [(Str.ofString "way", c)] f ∧ CellIn news c (.int way tk)
def yesR (way n : Int) : Option Bool := if way = 0 then some (n.fmod 2 == 0) else if way = 1 then some (n.fmod 3 == 0) else if way = 2 then some (decide (3 < n)) else if way = 3 then some true else if way = 4 then some false else if way = 5 then (if n = 2 then none else some (decide (n < 5))) else none
end Mine
namespace Mine
theorem mem_frames {env : Env} {L b : Addr} {outer : List Env} (hf : env.frame = some L) (hm : b ∈ (env :: outer).filterMap (·.frame)) : b = L ∨ b ∈ outer.filterMap (·.frame) := by
  obtain ⟨env', he, hf'⟩ := List.mem_filterMap.mp hm
  rcases List.mem_cons.mp he with rfl | he
  · exact .inl (Option.some.inj (hf'.symm.trans hf))
  · exact .inr (List.mem_filterMap.mpr ⟨env', he, hf'⟩)
theorem leave_onX {M : Model} {A : Around} {E : Value → Shared → Prop} {s' : Shared} {base g g₂ : Heap} {outer : List Env} {L e t : Addr} {m : Str → Option Value} {env : Env} {Q : Unit → Shared → Prop} {news : Led}
    {cls : Value} {vs : List Value} (K : Below A base outer g) (hf : env.frame = some L) (F : Fr g L g₂ m) (R : RaisedS base g₂ (env :: outer) e cls t vs news s'.heap) (hsm : g₂.UpToSlots s'.heap)
    (hQ : ∀ h', RaisedS base g outer e cls t vs news h' → g.UpToSlots h' → Q () { s' with heap := h' }) :
    wpAny M (A.deeper env) (leaving env (.ref e)) Q E s' := by
  obtain ⟨⟨B, hB, hBG, hl, hfl, hnew⟩, htup⟩ := R
  exact wpAny_leaves_onW (Around.frames_deeper K.stack) hf hfl fun h' x1 x2 =>
    have R : RaisedS base g outer e cls t vs news h' := ⟨⟨B, hB, fun b o q nm => hBG b o (F.keep b o q) (fun hm => by
      rcases mem_frames hf hm with z | z
      · rw [z, kts_self F] at q
        cases q
      · exact nm z), fun q hq => ⟨(hl q hq).1, kts_none F.keep (hl q hq).2.1, (hl q hq).2.2⟩, x1, hnew⟩, htup.of_slots x2⟩
    hQ h' R ((Heap.UpToSlots.of_keeps F.keep).trans (hsm.trans x2))
end Mine
namespace Mine
inductive Mark where
  | first
  | num (i : Int)
def MarkV (v : Value) : Mark → Prop
  | .first => ∃ t, v = .str (Str.ofString "first") t
  | .num i => ∃ t, v = .int i t
structure Row where
  way : Int
  sort : Int
  mark : Mark
abbrev tupO (vs : List Value) (n : Nat) : Obj := { cls := .type "tuple", data := .seq vs.toArray n }
inductive HandIn (news : Led) : Value → Int → Mark → Value → Value → Prop
  | plain {t : Addr} {mv : Value} {mk : Mark} {tk : Tok} {n : Nat} : (t, tupO [.str (Str.ofString "plain") tk, mv] n) ∈ news → MarkV mv mk → HandIn news (.ref t) 0 mk (.bool false) (.bool false)
  | fac {f c : Addr} {mv : Value} {mk : Mark} : LamF news 6 (qualOf "_law_factory") [(Str.ofString "mark", c)] f → CellIn news c mv → MarkV mv mk → HandIn news (.ref f) 1 mk (.bool true) (.bool false)
  | ext {f c : Addr} {mv : Value} {mk : Mark} {tk : Tok} : LamF news 8 (qualOf "_law_extended") [(Str.ofString "mark", c)] f → CellIn news c mv → MarkV mv mk → HandIn news (.ref f) 2 mk (.str (Str.ofString "extended") tk) (.bool true)
  | fall {mk : Mark} : HandIn news (.ref 165) 3 mk (.bool true) (.bool false)
def PairIn (news : Led) (v : Value) (r : Row) : Prop := ∃ t pv hv gv tv n, v = .ref t ∧ (t, tupO [pv, hv, gv, tv] n) ∈ news ∧ PredIn news pv r.way ∧ HandIn news hv r.sort r.mark gv tv ∧ 0 ≤ r.way ∧ r.way < 7
inductive All2 {α β : Type} (R : α → β → Prop) : List α → List β → Prop
  | nil : All2 R [] []
  | cons {a b l m} : R a b → All2 R l m → All2 R (a :: l) (b :: m)
theorem All2.length {α β : Type} {R : α → β → Prop} {l : List α} {m : List β} (h : All2 R l m) : l.length = m.length := by
  induction h with
  | nil => rfl
  | cons _ _ ih => simp [ih]
theorem All2.get {α β : Type} {R : α → β → Prop} {l : List α} {m : List β} (h : All2 R l m) : ∀ (i : Nat) (a : α), l[i]? = some a → ∃ b, m[i]? = some b ∧ R a b := by
  induction h with
  | nil => intro i a e; simp at e
  | cons r _ ih =>
    intro i a e
    cases i with
    | zero => simp at e; subst e; exact ⟨_, by simp, r⟩
    | succ i => simp at e; obtain ⟨b, h1, h2⟩ := ih i a e; exact ⟨b, by simpa using h1, h2⟩
theorem All2.mono {α β : Type} {R R' : α → β → Prop} {l : List α} {m : List β} (h : All2 R l m) (k : ∀ a b, R a b → R' a b) : All2 R' l m := by
  induction h with
  | nil => exact .nil
  | cons r _ ih => exact .cons (k _ _ r) ih
theorem All2.append {α β : Type} {R : α → β → Prop} {l l' : List α} {m m' : List β} (h : All2 R l m) (h' : All2 R l' m') : All2 R (l ++ l') (m ++ m') := by
  induction h with
  | nil => exact h'
  | cons r _ ih => exact .cons r ih
theorem All2.take {α β : Type} {R : α → β → Prop} {l : List α} {m : List β} (h : All2 R l m) : ∀ k, All2 R (l.take k) (m.take k) := by
  induction h with
  | nil => intro k; simp; exact .nil
  | cons r _ ih => intro k; cases k with
    | zero => exact .nil
    | succ k => exact .cons r (ih k)
end Mine
namespace Mine
def SubL (a b : Led) : Prop := ∀ p ∈ a, p ∈ b
theorem CodeIn.mono {a b : Led} {c : Addr} {q : Str} (h : CodeIn a c q) (k : SubL a b) : CodeIn b c q := let ⟨oc, vs, t, h1, r⟩ := h; ⟨oc, vs, t, k _ h1, r⟩
theorem LamF.mono {a b : Led} {i : Nat} {q : Str} {cl : List (Str × Addr)} {f : Addr} (h : LamF a i q cl f) (k : SubL a b) : LamF b i q cl f := let ⟨pm, c', ctv, h1, h2⟩ := h; ⟨pm, c', ctv, k _ h1, h2.mono k⟩
theorem CellIn.mono {a b : Led} {c : Addr} {v : Value} (h : CellIn a c v) (k : SubL a b) : CellIn b c v := let ⟨o, h1, r⟩ := h; ⟨o, k _ h1, r⟩
theorem PredIn.mono {a b : Led} {v : Value} {way : Int} (h : PredIn a v way) (k : SubL a b) : PredIn b v way := let ⟨f, c, tk, e, h1, h2⟩ := h; ⟨f, c, tk, e, h1.mono k, h2.mono k⟩
theorem HandIn.mono {a b : Led} {v : Value} {so : Int} {mk : Mark} {gv tv : Value} (h : HandIn a v so mk gv tv) (k : SubL a b) : HandIn b v so mk gv tv := by
  cases h with
  | plain h1 h2 => exact .plain (k _ h1) h2
  | fac h1 h2 h3 => exact .fac (h1.mono k) (h2.mono k) h3
  | ext h1 h2 h3 => exact .ext (h1.mono k) (h2.mono k) h3
  | fall => exact .fall
theorem PairIn.mono {a b : Led} {v : Value} {r : Row} (h : PairIn a v r) (k : SubL a b) : PairIn b v r := let ⟨t, pv, hv, gv, tv, n, e, h1, h2, h3, r⟩ := h; ⟨t, pv, hv, gv, tv, n, e, k _ h1, h2.mono k, h3.mono k, r⟩
theorem SubL.cons {a b : Led} {p : Addr × Obj} (k : SubL a b) : SubL a (p :: b) := fun q hq => List.mem_cons_of_mem _ (k q hq)
theorem SubL.rfl {a : Led} : SubL a a := fun _ h => h
end Mine
namespace Mine
theorem allLt_all {d : Addr} : ∀ {l : Led}, AllLt d l → ∀ p ∈ l, p.1 < d
  | [], _, p, hp => nomatch hp
  | q :: r, h, p, hp => by
    rcases List.mem_cons.mp hp with rfl | hp
    · exact h.1
    · exact allLt_all h.2 p hp
end Mine
namespace Mine
theorem turn_back {A₀ : Around} {base g g' h₀ g₀ : Heap} {outer : List Env} {env : Env} {L : Addr} {m : Str → Option Value} (B : Below A₀ base outer h₀) (FG : Fr h₀ L g m) (hf : env.frame = some L)
    (Tn : KtsTurn ((env :: outer).filterMap (·.frame)) g g') (T0 : KtsTurn (outer.filterMap (·.frame)) g₀ h₀) :
    ∃ h₀', KtsTurn (outer.filterMap (·.frame)) g₀ h₀' ∧ Fr h₀' L g' m ∧ Below A₀ base outer h₀' := by
  have nL : h₀.get? L = none := kts_self FG
  obtain ⟨T₁, S₁⟩ := kts_turn_at (h := g') (fs := outer.filterMap (·.frame)) (g := h₀)
    (fun b hb => by
      obtain ⟨_, o, ho', _⟩ := B.frames.mem hb
      exact ⟨o, ho'⟩)
    (fun b o e nmem => Tn.other b o (FG.keep b o e) (fun q => by
      rcases mem_frames hf q with z | z
      · rw [z, nL] at e
        cases e
      · exact nmem z))
    (fun b o e hm => Tn.up (FG.keep b o e))
  have hup : g.UpToSlots g' := fun b o e _ => Tn.up e
  refine ⟨_, T0.trans T₁, ⟨hup.ns FG.ns, S₁, by rw [T₁.size]; exact FG.above⟩, ⟨B.stack, fun b o e => T₁.other b o (B.stays b o e) (fun hm => by
    rw [(B.frames.mem hm).1] at e
    cases e), B.frames.of_keeps fun b o e _ => ?_⟩⟩
  obtain ⟨sl', hs'⟩ := T₁.up e
  exact ⟨_, hs', rfl⟩
inductive Ans where
  | plain (mk : Mark)
  | made (mk : Mark) (n : Int)
  | madeC (mk : Mark) (n side : Int)
  | fall (side n : Int)
  | direct (mk : Mark)
def convS (side : Int) : Str := if side = 0 then Str.ofString "converter 0" else Str.ofString "converter 1"
def AnsV : Ans → List Value → Prop
  | .plain mk, vs => ∃ t mv, vs = [.str (Str.ofString "plain") t, mv] ∧ MarkV mv mk
  | .made mk n, vs => ∃ t mv tn, vs = [.str (Str.ofString "made") t, mv, .int n tn] ∧ MarkV mv mk
  | .madeC mk n side, vs => ∃ t mv tn tc, vs = [.str (Str.ofString "made") t, mv, .int n tn, .str (convS side) tc] ∧ MarkV mv mk
  | .fall side n, vs => ∃ t ts tn, vs = [.str (Str.ofString "fallback") t, .int side ts, .int n tn]
  | .direct mk, vs => ∃ t mv, vs = [.str (Str.ofString "direct") t, mv] ∧ MarkV mv mk
def AnsIn (news : Led) (v : Value) (a : Ans) : Prop := ∃ t vs k, v = .ref t ∧ (t, tupO vs k) ∈ news ∧ AnsV a vs
def firstYes (rows : List Row) (n : Int) : Option Row := rows.find? fun r => yesR r.way n == some true
def rowAns (r : Row) (n side : Int) : Ans := if r.sort = 0 then .plain r.mark else if r.sort = 1 then .made r.mark n else .madeC r.mark n side
theorem firstYes_none {rows : List Row} {n : Int} (h : ∀ r ∈ rows.take rows.length, yesR r.way n ≠ some true) : firstYes rows n = none := by
  unfold firstYes
  rw [List.find?_eq_none]
  intro r hr
  have := h r (by rw [List.take_length]; exact hr)
  simpa using this
theorem firstYes_some {rows : List Row} {n : Int} {i : Nat} {r : Row} (h : ∀ r ∈ rows.take i, yesR r.way n ≠ some true) (hi : rows[i]? = some r) (hy : yesR r.way n = some true) : firstYes rows n = some r := by
  unfold firstYes
  rw [List.find?_eq_some_iff_getElem]
  obtain ⟨hl, he⟩ := List.getElem?_eq_some_iff.mp hi
  refine ⟨by simp [hy], i, hl, he, fun j hj => ?_⟩
  have := h rows[j] (by rw [List.mem_take_iff_getElem]; exact ⟨j, by omega, rfl⟩)
  simpa using this
theorem take_succ_ok {rows : List Row} {n : Int} {i : Nat} {r : Row} (h : ∀ r ∈ rows.take i, yesR r.way n ≠ some true) (hi : rows[i]? = some r) (hy : yesR r.way n ≠ some true) : ∀ r ∈ rows.take (i + 1), yesR r.way n ≠ some true := by
  intro q hq
  rw [List.take_add_one, hi] at hq
  rcases List.mem_append.mp hq with hq | hq
  · exact h q hq
  · simp at hq; subst hq; exact hy
end Mine
namespace Mine
theorem raisedSN_sub {base G : Heap} {l : List Env} {e : Addr} {cls : Value} {news news' : Led} {h : Heap} (R : RaisedSN base G l e cls news h) (k : SubL news' news) : RaisedSN base G l e cls news' h :=
  let ⟨B, a0, hB, hG, hl, hf⟩ := R; ⟨B, a0, hB, hG, fun q hq => hl q (k q hq), hf⟩
theorem mem_skip {x y p : Addr × Obj} {l : Led} (h : p ∈ [x] ++ l) : p ∈ x :: y :: l := by
  rcases List.mem_append.mp h with h | h
  · rw [List.mem_singleton.mp h]; exact List.mem_cons_self ..
  · exact List.mem_cons_of_mem _ (List.mem_cons_of_mem _ h)
theorem news_sub {h₀ h : Heap} {L : Addr} {a b : Led} (N : News h₀ L h a) (k : SubL b a) : News h₀ L h b := fun p hp => N p (k p hp)
end Mine
namespace Mine
noncomputable abbrev PG := PySem.Challenge.rw_fe0065_01.row.prog
def DirIn (w : World) (news : Led) (D : Addr) (dir : List (Int × Mark)) : Prop := ∃ o kvs, (D, o) ∈ news ∧ (D == sysModules) = false ∧ o.IsDictOf (PySem.intKind PySem.Challenge.rw_fe0065_01.row.prog w) kvs ∧ All2 (fun (kv : Int × Value) (km : Int × Mark) => kv.1 = km.1 ∧ AnsIn news kv.2 (.direct km.2)) kvs dir
def dirAt (dir : List (Int × Mark)) (n : Int) : Option Mark := (dir.find? fun km => km.1 = n).map (·.2)
theorem dir_some {news : Led} {kvs : List (Int × Value)} {dir : List (Int × Mark)} (h : All2 (fun (kv : Int × Value) (km : Int × Mark) => kv.1 = km.1 ∧ AnsIn news kv.2 (.direct km.2)) kvs dir) (n : Int) :
    (valueAt kvs n = none ∧ dirAt dir n = none) ∨ ∃ v mk, valueAt kvs n = some v ∧ dirAt dir n = some mk ∧ AnsIn news v (.direct mk) := by
  induction h with
  | nil => exact .inl ⟨rfl, rfl⟩
  | @cons a b l m r _ ih =>
    obtain ⟨e, hv⟩ := r
    by_cases hn : a.1 = n
    · refine .inr ⟨a.2, b.2, ?_, ?_, hv⟩
      · simp [valueAt, hn]
      · simp [dirAt, ← e, hn]
    · have hb : ¬ b.1 = n := by rw [← e]; exact hn
      rcases ih with ⟨h1, h2⟩ | ⟨v, mk, h1, h2, h3⟩
      · refine .inl ⟨?_, ?_⟩
        · simpa [valueAt, hn] using h1
        · simpa [dirAt, hb] using h2
      · refine .inr ⟨v, mk, ?_, ?_, h3⟩
        · simpa [valueAt, hn] using h1
        · simpa [dirAt, hb] using h2
def SideIn (w : World) (news : Led) (M Fa Fd P D : Addr) (side : Int) (rows : List Row) (dir : List (Int × Mark)) : Prop :=
  ∃ (Md bm fbk c : Addr) (h1 h2 h3 h4 : Int) (t1 t2 t3 t4 : Tok) (k : Nat) (h5 h6 : Int) (t5 t6 tc : Tok) (k2 : Nat) (its : List Value) (np : Nat) (ts : Tok),
    (M, instObj 133 Md) ∈ news ∧ (Md, dictOf [⟨h1, .str (Str.ofString "_fallback_factory") t1, .ref fbk⟩, ⟨h2, .str (Str.ofString "_direct_dispatch") t2, .ref D⟩, ⟨h3, .str (Str.ofString "_function_dispatch") t3, .ref Fa⟩, ⟨h4, .str (Str.ofString "dispatch") t4, .ref bm⟩] k) ∈ news ∧
    (bm, methodObj (.ref 86) (.ref M)) ∈ news ∧ LamF news 9 (qualOf "_law_fallback") [(Str.ofString "mark", c)] fbk ∧ CellIn news c (.int side ts) ∧
    (Fa, instObj 61 Fd) ∈ news ∧ (Fd, dictOf [⟨h5, .str (Str.ofString "_converter") t5, .str (convS side) tc⟩, ⟨h6, .str (Str.ofString "_handler_pairs") t6, .ref P⟩] k2) ∈ news ∧
    (P, listOf its.toArray np) ∈ news ∧ All2 (PairIn news) its rows ∧ DirIn w news D dir
def tellR (rows : List Row) (dir : List (Int × Mark)) (side n : Int) : Option Ans := match dirAt dir n with
  | some mk => some (.direct mk)
  | none => match firstYes rows n with
    | none => some (.fall side n)
    | some r => if r.sort = 3 then none else some (rowAns r n side)
end Mine
local macro_rules | `(tactic| walk_at "leaving ref") => `(tactic| (k_here; (refine' Mine.leave_onX ?k1 ?kf ?k2 ?k3 ?k4 ?_; (case k3 => assumption); (case kf => exact rfl); (case k1 => assumption); (case k4 => assumption); (case k2 => assumption); k_whole; intro h' R' U'; (try dsimp only at R' U' ⊢))))
theorem Mine.calmLoop : True := by
  w_top off
  trivial
namespace Mine
section
variable {prog : Program} {w : World} {A : Around} {E : Value → Shared → Prop} {s : Shared} {env : Env} {h₀ : Heap} {target : PySem.Expr} {body : List Stmt} {Q : Flow → Shared → Prop}
/-- what a turn of a loop over a list must leave -/
def TurnL (h₀ : Heap) (L : Addr) (I : Addr) (oI : Obj) (l : Addr) (lo : Obj) (J : (Str → Option Value) → Led → Prop) (s : Shared) (Q : Flow → Shared → Prop) (f : Flow) (s' : Shared) : Prop :=
  match f with
  | .ret v => Q (.ret v) s'
  | .brk => Q .next s'
  | _ => ∃ h' tk m' news', s' = { s with heap := h', toks := tk } ∧ Fr h₀ L h' m' ∧ News h₀ L h' ((I, oI) :: (l, lo) :: news') ∧ (∀ p ∈ news', p.1 ≠ I) ∧ J m' news'
theorem walksKeep {I ax : Addr} {n : Nat} {P : Nat → Value → Prop} {St : Nat → Heap → Prop} {lo : Obj} (hne : ax ≠ I) (W : Walks prog w A I [I, ax] [I] n P St) :
    Walks prog w A I [I, ax] [I] n P (fun i h => St i h ∧ h.get? ax = some lo) where
  sub := W.sub
  frame := fun i h h' st hk => ⟨W.frame i h h' st.1 hk, hk ax (by simp) lo st.2⟩
  item := fun i s Q E hi st hQ => W.item i s Q E hi st.1 fun v h' tk hP st' hk => hQ v h' tk hP ⟨st', hk ax lo (by simp [hne]) st.2⟩ hk
  done := fun s Q E st hQ => W.done s Q E st.1 hQ
  self := fun i s Q E st hQ => W.self i s Q E st.1 hQ
theorem loopL {l : Addr} {its : List Value} {n : Nat} {m₀ : Str → Option Value} {news : Led} (J : Nat → (Str → Option Value) → Led → Prop)
    (hh : A.handled = none) (F : Fr h₀ env.locals s.heap m₀) (N : News h₀ env.locals s.heap news) (hm : (l, listOf its.toArray n) ∈ news) (h0 : J 0 m₀ news)
    (turn : ∀ i v m₁ news₁ h tk I oI, its[i]? = some v → J i m₁ news₁ → (∀ p ∈ news₁, p.1 ≠ I) → (∀ p ∈ news, p.1 < I) → Fr h₀ env.locals h m₁ → News h₀ env.locals h ((I, oI) :: (l, listOf its.toArray n) :: news₁) →
      wpAny (model prog w) A (assign target env v) (fun _ s₂ => wpAny (model prog w) A (execs body env)
        (TurnL h₀ env.locals I oI l (listOf its.toArray n) (J (i + 1)) { s with heap := h, toks := tk } Q) E s₂) E { s with heap := h, toks := tk })
    (done : ∀ h tk m₁ news₁, J its.length m₁ news₁ → Fr h₀ env.locals h m₁ → News h₀ env.locals h news₁ → Q .next { s with heap := h, toks := tk }) :
    wpAny (model prog w) A (pyIter (.ref l)) (fun it s₂ => TurnsAt prog w A h₀ env target body Q E it s₂) E s := by
  have hax := N _ hm
  have hl : s.heap.IsList l its.toArray := ⟨_, hax.1, rfl, n, rfl⟩
  have hlt : l < s.heap.objs.size := Heap.lt_size hax.1
  have hne : l ≠ s.heap.objs.size := Nat.ne_of_lt hlt
  refine wpAny_pyIter_list hl ?_
  have W := KTurns.ofWalks (target := target) (walksKeep (lo := listOf its.toArray n) hne (Walks.list (prog := prog) (w := w) hh s.heap.objs.size l hne its.toArray)) fun i v s Q E st q => letGo_listiter st.1.1 q
  refine ⟨s.heap.objs.size, _, _, _, _, _, _, m₀, news, J, rfl, W, ?_, ?_, ?_, ⟨⟨⟨_, Heap.get?_push_size _ rfl, rfl, rfl⟩, hl.at fun o e => Heap.get?_push_of_some _ e⟩, Heap.get?_push_of_some _ hax.1⟩, F.push _, (fun p hp => ⟨Heap.get?_push_of_some _ (N p hp).1, (N p hp).2⟩), h0, ?_, ?_⟩
  · intro hI
    rcases List.mem_cons.mp hI with e | hI
    · exact absurd F.ns.lt (e ▸ Nat.lt_irrefl _)
    · exact hax.2.1 (List.mem_singleton.mp hI).symm
  · intro b hb
    rw [List.mem_singleton.mp hb]
    exact next_is_new F
  · intro p hp hI
    exact absurd (Heap.lt_size (N p hp).1) ((List.mem_singleton.mp hI) ▸ Nat.lt_irrefl _)
  · intro i v m₁ news₁ h₁ tk₁ own hi hv hJ hoff hown hget hall st F₁ N₁
    obtain ⟨oI, hoI, _⟩ := st.1.1
    have hI : (s.heap.objs.size, oI) ∈ own := hall _ (List.mem_cons_self ..) (next_is_new F) oI hoI
    have hown' : ∀ p ∈ own, p = (s.heap.objs.size, oI) ∨ p.1 = l := fun p hp => by
      rcases List.mem_cons.mp (hown p hp) with e | e
      · left
        have := hget p hp
        rw [e, hoI] at this
        exact Prod.ext e (Option.some.inj this).symm
      · exact .inr (List.mem_singleton.mp e)
    have hl₁ : h₁.get? l = some (listOf its.toArray n) := st.2
    have N₂ : News h₀ env.locals h₁ ((s.heap.objs.size, oI) :: (l, listOf its.toArray n) :: news₁) := fun p hp => by
      rcases List.mem_cons.mp hp with rfl | hp
      · exact N₁ _ (List.mem_append_left _ hI)
      · rcases List.mem_cons.mp hp with rfl | hp
        · exact ⟨hl₁, hax.2⟩
        · exact N₁ _ (List.mem_append_right _ hp)
    refine wpAny_mono (turn i v m₁ news₁ h₁ tk₁ _ oI (by simpa using hv) hJ (fun p hp q => hoff p hp (List.mem_singleton.mpr q)) (fun p hp => Heap.lt_size (N p hp).1) F₁ N₂) (fun _ s₂ h₂ => wpAny_mono h₂ (fun f s₃ h₃ => ?_) fun _ _ e => e) fun _ _ e => e
    have fin : (∃ h' tk m' news', s₃ = { s with heap := h', toks := tk } ∧ Fr h₀ env.locals h' m' ∧ News h₀ env.locals h' ((s.heap.objs.size, oI) :: (l, listOf its.toArray n) :: news') ∧ (∀ p ∈ news', p.1 ≠ s.heap.objs.size) ∧ J (i + 1) m' news') →
        LoopStepU h₀ env.locals [s.heap.objs.size] own (J (i + 1)) { s with heap := h₁, toks := tk₁ } .next s₃ := by
      rintro ⟨h', tk, m', news', e, F', N', hn, hj⟩
      refine ⟨rfl, h', tk, m', news', e, F', fun p hp => ?_, fun p hp hq => hn p hp (List.mem_singleton.mp hq), hj⟩
      rcases List.mem_append.mp hp with hp | hp
      · rcases hown' p hp with rfl | e2
        · exact N' _ (List.mem_cons_self ..)
        · have e3 : p = (l, listOf its.toArray n) := by
            have := hget p hp
            rw [e2] at this
            have h4 : h₁.get? l = some p.2 := this
            rw [hl₁] at h4
            exact Prod.ext e2 (Option.some.inj h4).symm
          rw [e3]
          exact N' _ (List.mem_cons_of_mem _ (List.mem_cons_self ..))
      · exact N' _ (List.mem_cons_of_mem _ (List.mem_cons_of_mem _ hp))
    cases f with
    | ret v => exact .ret h₃
    | brk => exact .brk h₃
    | next => exact .next (fin h₃)
    | cont => exact .cont (fin h₃)
  · intro h' tk m' news' F' N' _ hJ
    rw [List.size_toArray] at hJ
    exact done h' tk m' news' hJ F' N'
end
end Mine
namespace Mine
section
variable {prog : Program} {w : World} {A : Around} {E : Value → Shared → Prop} {s : Shared} {env : Env} {h₀ : Heap} {target : PySem.Expr} {body : List Stmt} {Q : Flow → Shared → Prop}
def TurnEndS (h₀ : Heap) (L : Addr) (I : Addr) (oI : Obj) (l : Addr) (lo : Obj) (stored : List Str) (m₀ : Str → Option Value) (J : Led → Prop) (s s' : Shared) : Prop :=
  ∃ h' tk m' news', s' = { s with heap := h', toks := tk } ∧ Fr h₀ L h' m' ∧ News h₀ L h' ((I, oI) :: (l, lo) :: news') ∧ (∀ p ∈ news', p.1 ≠ I) ∧ (∀ y, stored.contains y = false → m' y = m₀ y) ∧ J news'
def TurnS (h₀ : Heap) (L : Addr) (I : Addr) (oI : Obj) (l : Addr) (lo : Obj) (stored : List Str) (m₀ : Str → Option Value) (J : Led → Prop) (s : Shared) (Q : Flow → Shared → Prop) (f : Flow) (s' : Shared) : Prop :=
  match f with
  | .ret v => Q (.ret v) s'
  | .brk => Q .next s'
  | _ => TurnEndS h₀ L I oI l lo stored m₀ J s s'
theorem stored_form {stored : List Str} {m₀ m' : Str → Option Value} (h : ∀ y, stored.contains y = false → m' y = m₀ y) : (fun y => if stored.contains y then m' y else m₀ y) = m' := by
  funext y
  cases hc : stored.contains y with
  | true => simp
  | false => simp [h y hc]
theorem loopS {l : Addr} {its : List Value} {n : Nat} {m₀ : Str → Option Value} {news : Led} (stored : List Str) (J : Nat → Led → Prop)
    (hh : A.handled = none) (F : Fr h₀ env.locals s.heap m₀) (N : News h₀ env.locals s.heap news) (hm : (l, listOf its.toArray n) ∈ news) (h0 : J 0 news)
    (turn : ∀ i v (u : Str → Option Value) news₁ h tk I oI, its[i]? = some v → J i news₁ → (∀ p ∈ news₁, p.1 ≠ I) → (∀ p ∈ news, p.1 < I) → Fr h₀ env.locals h (fun y => if stored.contains y then u y else m₀ y) → News h₀ env.locals h ((I, oI) :: (l, listOf its.toArray n) :: news₁) →
      wpAny (model prog w) A (assign target env v) (fun _ s₂ => wpAny (model prog w) A (execs body env)
        (TurnS h₀ env.locals I oI l (listOf its.toArray n) stored m₀ (J (i + 1)) { s with heap := h, toks := tk } Q) E s₂) E { s with heap := h, toks := tk })
    (done : ∀ h tk (u : Str → Option Value) news₁, J its.length news₁ → Fr h₀ env.locals h (fun y => if stored.contains y then u y else m₀ y) → News h₀ env.locals h news₁ → Q .next { s with heap := h, toks := tk }) :
    wpAny (model prog w) A (pyIter (.ref l)) (fun it s₂ => TurnsAt prog w A h₀ env target body Q E it s₂) E s := by
  refine loopL (fun i m₁ news₁ => (∀ y, stored.contains y = false → m₁ y = m₀ y) ∧ J i news₁) hh F N hm ⟨fun _ _ => rfl, h0⟩ ?_ ?_
  · rintro i v m₁ news₁ h tk I oI hv ⟨hs, hj⟩ hI hlt F₁ N₁
    rw [← stored_form hs] at F₁
    refine wpAny_mono (turn i v m₁ news₁ h tk I oI hv hj hI hlt F₁ N₁) (fun _ s₂ h₂ => wpAny_mono h₂ (fun f s₃ h₃ => ?_) fun _ _ e => e) fun _ _ e => e
    cases f with
    | ret v => exact h₃
    | brk => exact h₃
    | next => obtain ⟨h', tk, m', news', e, F', N', hn, hs', hj'⟩ := h₃; exact ⟨h', tk, m', news', e, F', N', hn, hs', hj'⟩
    | cont => obtain ⟨h', tk, m', news', e, F', N', hn, hs', hj'⟩ := h₃; exact ⟨h', tk, m', news', e, F', N', hn, hs', hj'⟩
  · rintro h tk m₁ news₁ ⟨hs, hj⟩ F₁ N₁
    rw [← stored_form hs] at F₁
    exact done h tk m₁ news₁ hj F₁ N₁
end
end Mine
namespace Mine
structure TS (A₀ : Around) (base : Heap) (outer : List Env) (KF : Frag) (p : Program) (loose : List Str) (mean : ExcName → Option Value) (mg mb : Str → Option Value) (g₀ : Heap) (L : Addr) (g h : Heap) (m : Str → Option Value) : Prop where
  turn : KtsTurn (outer.filterMap (·.frame)) g₀ g
  F : Fr g L h m
  B : Below A₀ base outer g
  X : KF.In g
  T : Top p loose mean mg mb g
  D : KtsDicts (outer.filterMap (·.frame)) g
section
variable {prog : Program} {w : World} {A A₀ : Around} {E : Value → Shared → Prop} {s : Shared} {env : Env} {target : PySem.Expr} {body : List Stmt} {Q : Flow → Shared → Prop}
  {base g₀ : Heap} {outer : List Env} {KF : Frag} {p : Program} {loose : List Str} {mean : ExcName → Option Value} {mg mb : Str → Option Value}
def TurnEndT (A₀ : Around) (base : Heap) (outer : List Env) (KF : Frag) (p : Program) (loose : List Str) (mean : ExcName → Option Value) (mg mb : Str → Option Value) (g₀ : Heap) (L : Addr) (I : Addr) (oI : Obj) (news : Led) (stored : List Str) (m₀ : Str → Option Value) (J : Prop) (s s' : Shared) : Prop :=
  ∃ g' h' tk' m', s' = { s with heap := h', toks := tk' } ∧ TS A₀ base outer KF p loose mean mg mb g₀ L g' h' m' ∧ (∀ y, stored.contains y = false → m' y = m₀ y) ∧ News g' L h' ((I, oI) :: news) ∧ J
def TurnT (A₀ : Around) (base : Heap) (outer : List Env) (KF : Frag) (p : Program) (loose : List Str) (mean : ExcName → Option Value) (mg mb : Str → Option Value) (g₀ : Heap) (L : Addr) (I : Addr) (oI : Obj) (news : Led) (stored : List Str) (m₀ : Str → Option Value) (J : Prop) (s : Shared) (Q : Flow → Shared → Prop) (f : Flow) (s' : Shared) : Prop :=
  match f with
  | .ret v => Q (.ret v) s'
  | .brk => Q .next s'
  | _ => TurnEndT A₀ base outer KF p loose mean mg mb g₀ L I oI news stored m₀ J s s'
theorem loopT {l : Addr} {its : List Value} {n : Nat} {m₀ : Str → Option Value} {news : Led} {g₁ : Heap} (stored : List Str) (J : Nat → Prop)
    (hh : A.handled = none) (S : TS A₀ base outer KF p loose mean mg mb g₀ env.locals g₁ s.heap m₀) (N : News g₁ env.locals s.heap news) (hm : (l, listOf its.toArray n) ∈ news) (h0 : J 0)
    (turn : ∀ i v (u : Str → Option Value) g h tk I oI, its[i]? = some v → J i → (∀ q ∈ news, q.1 ≠ I) → TS A₀ base outer KF p loose mean mg mb g₀ env.locals g h (fun y => if stored.contains y then u y else m₀ y) → News g env.locals h ((I, oI) :: news) →
      wpAny (model prog w) A (assign target env v) (fun _ s₂ => wpAny (model prog w) A (execs body env)
        (TurnT A₀ base outer KF p loose mean mg mb g₀ env.locals I oI news stored m₀ (J (i + 1)) { s with heap := h, toks := tk } Q) E s₂) E { s with heap := h, toks := tk })
    (done : ∀ g h tk (u : Str → Option Value), J its.length → TS A₀ base outer KF p loose mean mg mb g₀ env.locals g h (fun y => if stored.contains y then u y else m₀ y) → News g env.locals h news → Q .next { s with heap := h, toks := tk })
    (hE : PassesOwn (model prog w) A env E) :
    wpAny (model prog w) A (pyIter (.ref l)) (fun it s₂ => codeAny (model prog w) A (.forLoop target it body [] env) (fun r s' => match r with | .ok f => Q f s' | .error e => cameBackBy (model prog w) A env E e s') s₂) E s := by
  have hax := N _ hm
  have hl : s.heap.IsList l its.toArray := ⟨_, hax.1, rfl, n, rfl⟩
  refine wpAny_pyIter_list hl ?_
  have hI0 : ∀ q ∈ news, q.1 ≠ s.heap.objs.size := fun q hq => Nat.ne_of_lt (Heap.lt_size (N q hq).1)
  have sameI : ∀ {g h h' : Heap} {m' : Str → Option Value} {I : Addr}, I ≠ env.locals → g.get? I = none → (∀ b o, b ≠ I → h.get? b = some o → h'.get? b = some o) → Fr g env.locals h m' → Fr g env.locals h' m' := fun {g h h' m' I} hne hn hk F =>
    ⟨F.ns.at' fun o e => hk _ o (Ne.symm hne) e, fun b o e => hk b o (fun q => by rw [q, hn] at e; cases e) (F.keep b o e), F.above⟩
  refine codeAny_forLoop_any
    (fun k s' => ∃ i g h' tk m' , s' = { s with heap := h', toks := tk } ∧ TS A₀ base outer KF p loose mean mg mb g₀ env.locals g h' m' ∧ (∀ y, stored.contains y = false → m' y = m₀ y) ∧ News g env.locals h' news ∧ g.get? s.heap.objs.size = none ∧ h'.IsListIter s.heap.objs.size l i ∧ J i ∧ i ≤ its.length ∧ k = its.length + 1 - i) ?_ (its.length + 1)
    ⟨0, g₁, _, s.toks, m₀, rfl, ⟨S.turn, S.F.push _, S.B, S.X, S.T, S.D⟩, fun _ _ => rfl, (fun q hq => ⟨Heap.get?_push_of_some _ (N q hq).1, (N q hq).2⟩), next_is_new S.F, ⟨_, Heap.get?_push_size _ rfl, rfl, rfl⟩, h0, Nat.zero_le _, rfl⟩
  rintro k s' ⟨i, g, h', tk, m', rfl, S', hs', N', hgI, hit, hJ, hi, rfl⟩
  have hIL : s.heap.objs.size ≠ env.locals := fun q => absurd S.F.ns.lt (by rw [← q]; exact Nat.lt_irrefl _)
  have hl' : h'.IsList l its.toArray := ⟨_, (N' _ hm).1, rfl, n, rfl⟩
  by_cases hlt : i < its.length
  · refine wpAny_pyNext_list_item hit hl' (x := its[i]) (by simp [hlt]) fun h₁ hit₁ hsb => ?_
    have hk : ∀ b o, b ≠ s.heap.objs.size → h'.get? b = some o → h₁.get? b = some o := fun b o hb e => (hsb.2 b hb).trans e
    have F₁ := sameI hIL hgI hk S'.F
    have N₁ : News g env.locals h₁ news := fun q hq => ⟨hk _ _ (hI0 q hq) (N' q hq).1, (N' q hq).2⟩
    obtain ⟨oI, hoI, hcI, hdI⟩ := hit₁
    rw [← stored_form hs'] at F₁
    have N₂ : News g env.locals h₁ ((s.heap.objs.size, oI) :: news) := fun q hq => by
      rcases List.mem_cons.mp hq with rfl | hq
      · exact ⟨hoI, hIL, hgI⟩
      · exact N₁ q hq
    refine letGo_listiter (i := i + 1) (t := l) ⟨oI, hoI, hcI, hdI⟩ ?_
    refine wpAny_mono (turn i its[i] m' g h₁ tk _ oI (by simp [hlt]) hJ hI0 ⟨S'.turn, F₁, S'.B, S'.X, S'.T, S'.D⟩ N₂) (fun _ s₂ h₂ => wpAny_mono (wpAny_passesOwn hE h₂) (fun f s₃ h₃ => ?_) fun _ _ e => e) hE
    have fin : TurnEndT A₀ base outer KF p loose mean mg mb g₀ env.locals s.heap.objs.size oI news stored m₀ (J (i + 1)) { s with heap := h₁, toks := tk } s₃ → ∃ m, m < its.length + 1 - i ∧ ∃ i g h' tk m' , s₃ = { s with heap := h', toks := tk } ∧ TS A₀ base outer KF p loose mean mg mb g₀ env.locals g h' m' ∧ (∀ y, stored.contains y = false → m' y = m₀ y) ∧ News g env.locals h' news ∧ g.get? s.heap.objs.size = none ∧ h'.IsListIter s.heap.objs.size l i ∧ J i ∧ i ≤ its.length ∧ m = its.length + 1 - i := by
      rintro ⟨g', h₃', tk', m₃, e, S₃, hs₃, N₃, hj⟩
      have hI3 := N₃ _ (List.mem_cons_self ..)
      exact ⟨its.length + 1 - (i + 1), by omega, i + 1, g', h₃', tk', m₃, e, S₃, hs₃, (fun q hq => N₃ q (List.mem_cons_of_mem _ hq)), hI3.2.2, ⟨oI, hI3.1, hcI, hdI⟩, hj, hlt, rfl⟩
    cases f with
    | ret v => exact h₃
    | brk => exact h₃
    | next => exact fin h₃
    | cont => exact fin h₃
  · have hin : i = its.length := by omega
    subst hin
    refine wpAny_pyNext_list_end hh hit hl' (by simp) fun h₁ he => wpAny_execs_nil ?_
    have F₁ := sameI hIL hgI he S'.F
    rw [← stored_form hs'] at F₁
    exact done g h₁ tk m' hJ ⟨S'.turn, F₁, S'.B, S'.X, S'.T, S'.D⟩ fun q hq => ⟨he _ _ (hI0 q hq) (N' q hq).1, (N' q hq).2⟩
end
end Mine
theorem Mine.calmPC : True := by
  w_top off
  trivial
namespace Mine
theorem pc {w : World} {mean mg mb} {dp un gd cn ns ig ic mo a ccd cl outer A₀ base h₀ L m s} {news : Led} {v : Value} {way n : Int} {tn : Tok} {Q E : Value → Shared → Prop} (B : Below A₀ base outer h₀) (F : Fr h₀ L s.heap m) (N : News h₀ L s.heap news) (T : Top topProg LL mean mg mb h₀) (hdp : dp + 5 < recursionLimit) (hu : un + 40 < cLine) (C : CodeHd base 150 146) (D : KtsDicts (outer.filterMap (·.frame)) h₀) (X : (hd.heap_39 w.params).In h₀)
 (hp : PredIn news v way) (hw0 : 0 ≤ way) (hw7 : way < 7)
 (ret : ∀ b h' tk', yesR way n = some b → Fr h₀ L h' m → News h₀ L h' news → Q (.bool b) { s with heap := h', toks := tk' })
 (rai : ∀ X e t vs g' h' tk', yesR way n = none → (X = "ValueError" ∨ X = "TypeError") → Fr h₀ L g' m → RaisedS base g' (envX cn ⟨.function, ns, ig, ic, mo⟩ L a ccd cl :: outer) e (.type X) t vs news h' → g'.UpToSlots h' → E (.ref e) { s with heap := h', toks := tk' }) :
 wpAny (model PySem.Challenge.rw_fe0065_01.row.prog w) (atTop dp un gd cn ns ig ic mo L a ccd cl outer) (call v [.int n tn]) Q E s := by
  revert X; k_fill; intro X
  obtain ⟨f, c, tk, rfl, ⟨pm, c', ctv, hf, oc, vs, t, hc, hd1, hd2⟩, oce, he, hce⟩ := hp
  rcases h5 : lamAt 5 with ⟨ps5, b5, sc5⟩
  rw [h5] at hf
  conv at h5 => lhs; whnf
  cases h5
  dsimp only at hf
  have hcs : way = 0 ∨ way = 1 ∨ way = 2 ∨ way = 3 ∨ way = 4 ∨ way = 5 ∨ way = 6 := by omega
  clear hw0 hw7
  rcases hcs with rfl | rfl | rfl | rfl | rfl | rfl | rfl
  all_goals k_steps
  all_goals first
    | (refine' ret _ _ _ ?c1 ?c2 ?c3; (case c2 => assumption); (case c3 => assumption); (case c1 => first | (simp [yesR]; done) | (simp_all [yesR]; done)))
    | (refine' rai _ _ _ _ _ _ _ ?c1 ?c2 ?c3 ?c4 ?c5; (case c4 => assumption); (case c5 => assumption); (case c3 => assumption); (case c2 => first | exact .inl rfl | exact .inr rfl); (case c1 => first | (simp [yesR]; done) | (simp_all [yesR]; done)))
    | skip
end Mine
theorem Mine.calmHC : True := by
  w_top off
  trivial
namespace Mine
theorem fc {w : World} {mean mg mb} {dp un gd cn ns ig ic mo a ccd cl outer A₀ base h₀ L m s} {news : Led} {Q E : Value → Shared → Prop} (B : Below A₀ base outer h₀) (F : Fr h₀ L s.heap m) (N : News h₀ L s.heap news) (T : Top topProg LL mean mg mb h₀) (hdp : dp + 5 < recursionLimit) (hu : un + 40 < cLine) (C : CodeHd base 150 146) (D : KtsDicts (outer.filterMap (·.frame)) h₀) (X : (hd.heap_39 w.params).In h₀) {f c : Addr} {mv : Value} {n : Int} {tn : Tok}
 (hl : LamF news 6 (qualOf "_law_factory") [(Str.ofString "mark", c)] f) (hce : CellIn news c mv)
 (ret : ∀ t tk k h' tk', Fr h₀ L h' m → News h₀ L h' ((t, tupO [.str (Str.ofString "made") tk, mv, .int n tn] k) :: news) → (∀ p ∈ news, p.1 < t) → Q (.ref t) { s with heap := h', toks := tk' }) :
 wpAny (model PySem.Challenge.rw_fe0065_01.row.prog w) (atTop dp un gd cn ns ig ic mo L a ccd cl outer) (call (.ref f) [.int n tn]) Q E s := by
  revert X; k_fill; intro X
  obtain ⟨pm, c', ctv, hf, oc, vs, t, hc, hd1, hd2⟩ := hl
  obtain ⟨oce, he, hce⟩ := hce
  rcases h5 : lamAt 6 with ⟨ps5, b5, sc5⟩
  rw [h5] at hf
  conv at h5 => lhs; whnf
  cases h5
  dsimp only at hf
  k_steps
  refine' ret _ _ _ _ _ ?c1 ?c2 ?c3
  (case c2 => assumption)
  (case c1 => assumption)
  (case c3 => first | assumption | (apply allLt_all; assumption))
theorem ec {w : World} {mean mg mb} {dp un gd cn ns ig ic mo a ccd cl outer A₀ base h₀ L m s} {news : Led} {Q E : Value → Shared → Prop} (B : Below A₀ base outer h₀) (F : Fr h₀ L s.heap m) (N : News h₀ L s.heap news) (T : Top topProg LL mean mg mb h₀) (hdp : dp + 5 < recursionLimit) (hu : un + 40 < cLine) (C : CodeHd base 150 146) (D : KtsDicts (outer.filterMap (·.frame)) h₀) (X : (hd.heap_39 w.params).In h₀) {f c : Addr} {mv cvv : Value} {n : Int} {tn : Tok}
 (hl : LamF news 8 (qualOf "_law_extended") [(Str.ofString "mark", c)] f) (hce : CellIn news c mv)
 (ret : ∀ t tk k h' tk', Fr h₀ L h' m → News h₀ L h' ((t, tupO [.str (Str.ofString "made") tk, mv, .int n tn, cvv] k) :: news) → (∀ p ∈ news, p.1 < t) → Q (.ref t) { s with heap := h', toks := tk' }) :
 wpAny (model PySem.Challenge.rw_fe0065_01.row.prog w) (atTop dp un gd cn ns ig ic mo L a ccd cl outer) (call (.ref f) [.int n tn, cvv]) Q E s := by
  revert X; k_fill; intro X
  obtain ⟨pm, c', ctv, hf, oc, vs, t, hc, hd1, hd2⟩ := hl
  obtain ⟨oce, he, hce⟩ := hce
  rcases h5 : lamAt 8 with ⟨ps5, b5, sc5⟩
  rw [h5] at hf
  conv at h5 => lhs; whnf
  cases h5
  dsimp only at hf
  k_steps
  refine' ret _ _ _ _ _ ?c1 ?c2 ?c3
  (case c2 => assumption)
  (case c1 => assumption)
  (case c3 => first | assumption | (apply allLt_all; assumption))
theorem fb {w : World} {mean mg mb} {dp un gd cn ns ig ic mo a ccd cl outer A₀ base h₀ L m s} {news : Led} {Q E : Value → Shared → Prop} (B : Below A₀ base outer h₀) (F : Fr h₀ L s.heap m) (N : News h₀ L s.heap news) (T : Top topProg LL mean mg mb h₀) (hdp : dp + 5 < recursionLimit) (hu : un + 40 < cLine) (C : CodeHd base 150 146) (D : KtsDicts (outer.filterMap (·.frame)) h₀) (X : (hd.heap_39 w.params).In h₀) {f c : Addr} {mv : Value} {n : Int} {tn : Tok}
 (hl : LamF news 9 (qualOf "_law_fallback") [(Str.ofString "mark", c)] f) (hce : CellIn news c mv)
 (ret : ∀ t tk k h' tk', Fr h₀ L h' m → News h₀ L h' ((t, tupO [.str (Str.ofString "fallback") tk, mv, .int n tn] k) :: news) → (∀ p ∈ news, p.1 < t) → Q (.ref t) { s with heap := h', toks := tk' }) :
 wpAny (model PySem.Challenge.rw_fe0065_01.row.prog w) (atTop dp un gd cn ns ig ic mo L a ccd cl outer) (call (.ref f) [.int n tn]) Q E s := by
  revert X; k_fill; intro X
  obtain ⟨pm, c', ctv, hf, oc, vs, t, hc, hd1, hd2⟩ := hl
  obtain ⟨oce, he, hce⟩ := hce
  rcases h5 : lamAt 9 with ⟨ps5, b5, sc5⟩
  rw [h5] at hf
  conv at h5 => lhs; whnf
  cases h5
  dsimp only at hf
  k_steps
  refine' ret _ _ _ _ _ ?c1 ?c2 ?c3
  (case c2 => assumption)
  (case c1 => assumption)
  (case c3 => first | assumption | (apply allLt_all; assumption))
theorem fallc {w : World} {mean mg mb} {dp un gd cn ns ig ic mo a ccd cl outer A₀ base h₀ L m s} {news : Led} {Q E : Value → Shared → Prop} (B : Below A₀ base outer h₀) (F : Fr h₀ L s.heap m) (N : News h₀ L s.heap news) (T : Top topProg LL mean mg mb h₀) (hdp : dp + 5 < recursionLimit) (hu : un + 40 < cLine) (C : CodeHd base 150 146) (D : KtsDicts (outer.filterMap (·.frame)) h₀) (X : (hd.heap_39 w.params).In h₀) {v : Value}
 (rai : ∀ e g' h' tk', Fr h₀ L g' m → RaisedSN base g' (envX cn ⟨.function, ns, ig, ic, mo⟩ L a ccd cl :: outer) e (.type "KeyError") news h' → g'.UpToSlots h' → E (.ref e) { s with heap := h', toks := tk' }) :
 wpAny (model PySem.Challenge.rw_fe0065_01.row.prog w) (atTop dp un gd cn ns ig ic mo L a ccd cl outer) (call (.ref 165) [v]) Q E s := by
  revert X; k_fill; intro X
  k_steps
  refine' rai _ _ _ _ ?c3 ?c4 ?c5
  (case c4 => assumption)
  (case c5 => assumption)
  (case c3 => assumption)
end Mine
theorem Mine.calmLR : True := by
  w_top off
  trivial
namespace Mine
section
variable {prog : Program} {w : World} {A : Around} {E : Value → Shared → Prop} {s : Shared} {env : Env} {h₀ : Heap} {x : Str} {body : List Stmt} {Q : Flow → Shared → Prop}
/-- what a turn of a range loop leaves -/
def RgEnd (h₀ : Heap) (L : Addr) (I : Addr) (oI : Obj) (stored : List Str) (m₀ : Str → Option Value) (J : Led → Prop) (s s' : Shared) : Prop :=
  ∃ h' tk m' news', s' = { s with heap := h', toks := tk } ∧ Fr h₀ L h' m' ∧ News h₀ L h' ((I, oI) :: news') ∧ (∀ p ∈ news', p.1 ≠ I) ∧ (∀ y, stored.contains y = false → m' y = m₀ y) ∧ J news'
def RgPost (h₀ : Heap) (L : Addr) (I : Addr) (oI : Obj) (stored : List Str) (m₀ : Str → Option Value) (J : Led → Prop) (s : Shared) (Q : Flow → Shared → Prop) (f : Flow) (s' : Shared) : Prop :=
  match f with
  | .ret v => Q (.ret v) s'
  | .brk => Q .next s'
  | _ => RgEnd h₀ L I oI stored m₀ J s s'
theorem rg_ret {L I : Addr} {oI : Obj} {stored : List Str} {m₀ : Str → Option Value} {J : Led → Prop} {s s' : Shared} {v : Value} (h : Q (.ret v) s') : RgPost h₀ L I oI stored m₀ J s Q (.ret v) s' := h
theorem rg_next {L I : Addr} {oI : Obj} {stored : List Str} {m₀ : Str → Option Value} {J : Led → Prop} {s s' : Shared} (h : RgEnd h₀ L I oI stored m₀ J s s') : RgPost h₀ L I oI stored m₀ J s Q .next s' := h
theorem rg_cont {L I : Addr} {oI : Obj} {stored : List Str} {m₀ : Str → Option Value} {J : Led → Prop} {s s' : Shared} (h : RgEnd h₀ L I oI stored m₀ J s s') : RgPost h₀ L I oI stored m₀ J s Q .cont s' := h
theorem loopRg {r : Addr} {a₀ b₀ c : Int} {t₀ u₀ v₀ : Tok} {n : Nat} {m₀ : Str → Option Value} {news : Led} (stored : List Str) (J : Nat → Led → Prop)
    (hh : A.handled = none) (hr : IsRange s.heap r a₀ b₀ c t₀ u₀ v₀) (hsmall : Builtin.Range.small a₀ b₀ c = true) (hn : Builtin.Range.rangeSize a₀ b₀ c = (n : Int)) (F : Fr h₀ env.locals s.heap m₀) (N : News h₀ env.locals s.heap news)
    (hx : stored.contains x = true) (h0 : J 0 news)
    (turn : ∀ (i : Nat) (u : Str → Option Value) news₁ t h tk I oI, i < n → J i news₁ → (∀ p ∈ news₁, p.1 ≠ I) → (∀ p ∈ news, p.1 < I) → Fr h₀ env.locals h (fun y => if y = x then some (.int (a₀ + (i : Int) * c) t) else if stored.contains y then u y else m₀ y) → News h₀ env.locals h ((I, oI) :: news₁) →
      wpAny (model prog w) A (execs body env) (RgPost h₀ env.locals I oI stored m₀ (J (i + 1)) { s with heap := h, toks := tk } Q) E { s with heap := h, toks := tk })
    (done : ∀ h tk (u : Str → Option Value) news₁, J n news₁ → Fr h₀ env.locals h (fun y => if stored.contains y then u y else m₀ y) → News h₀ env.locals h news₁ → Q .next { s with heap := h, toks := tk }) :
    wpAny (model prog w) A (pyIter (.ref r)) (fun it s₂ => LoopAtV prog w A h₀ env x body Q E it s₂) E s := by
  refine krs_iter hh hr hsmall hn F N fun I hI => ?_
  suffices H : ∀ (k i : Nat) (m₁ : Str → Option Value) (news₁ : Led), k + i = n → (∀ y, stored.contains y = false → m₁ y = m₀ y) → J i news₁ → (∀ p ∈ news₁, p.1 ≠ I) → KrsRest prog w A E h₀ env x body Q s I a₀ c n k i m₁ news₁ from
    H n 0 m₀ news (by omega) (fun _ _ => rfl) h0 fun p hp => Nat.ne_of_lt (hI p hp)
  intro k
  induction k with
  | zero =>
    intro i m₁ news₁ hk hm hj _ h tk F₁ N₁
    have hin : i = n := by omega
    subst hin
    rw [← stored_form hm] at F₁
    exact done h tk m₁ news₁ hj F₁ N₁
  | succ k ih =>
    intro i m₁ news₁ hk hm hj hof t h tk F₁ N₁
    have e : (fun y => if y = x then some (Value.int (a₀ + (i : Int) * c) t) else m₁ y) = fun y => if y = x then some (Value.int (a₀ + (i : Int) * c) t) else if stored.contains y then m₁ y else m₀ y := by
      funext y
      have hq : (if stored.contains y then m₁ y else m₀ y) = m₁ y := congrFun (stored_form hm) y
      rw [hq]
    rw [e] at F₁
    refine wpAny_mono (turn i m₁ news₁ t h tk I _ (by omega) hj hof hI F₁ N₁) (fun f s₂ p => ?_) fun _ _ e => e
    have fin : RgEnd h₀ env.locals I (krsIt (a₀ + ((i + 1 : Nat) : Int) * c) ((n : Int) - ((i + 1 : Nat) : Int)) c) stored m₀ (J (i + 1)) { s with heap := h, toks := tk } s₂ → UnrEnd h₀ env.locals { s with heap := h, toks := tk } I (krsIt (a₀ + ((i + 1 : Nat) : Int) * c) ((n : Int) - ((i + 1 : Nat) : Int)) c) (KrsRest prog w A E h₀ env x body Q s I a₀ c n k (i + 1)) s₂ := by
      rintro ⟨h', tk', m', news', e', F', N', ho, hm', hj'⟩
      exact ⟨h', tk', m', news', e', F', N', ho, ih (i + 1) m' news' (by omega) hm' hj' ho⟩
    cases f with
    | ret v => exact p
    | brk => exact p
    | next => exact fin p
    | cont => exact fin p
end
end Mine
local macro_rules | `(tactic| walk_at "call ref") => `(tactic| (k_here; (with_reducible show wpAny _ _ (call (Value.ref _) [_]) _ _ _); k_dflt (refine' Mine.pc ?pcB ?pcF ?pcN ?pcT ?pcdp ?pcun ?pcC ?pcD ?pcX (Mine.PredIn.mono ?pchp ?pchs) ?pcw0 ?pcw7 ?_ ?_; (case pcF => k_asm); (case pcN => k_asm); (case pchp => with_reducible assumption); (case pchs => (repeat (first | exact Mine.SubL.rfl | assumption | refine Mine.SubL.cons ?_)); done); (case pcw0 => assumption); (case pcw7 => assumption); (case pcB => k_asm); (case pcT => k_asm); (case pcX => k_asm); (case pcC => assumption); (case pcD => assumption); (case pcdp => ktr_room); (case pcun => ktr_units); rotate_left; intro X' e' t' vs' g' h' tk' hy' hX' FG' R' U'; (try dsimp only); ((rcases hX' with hE' | hE') <;> subst hE'); rotate_right; intro b' h' tk' hy' F' N'; (try dsimp only); (try k_sweep))))
local macro_rules | `(tactic| walk_at "call ref") => `(tactic| (k_here; (with_reducible show wpAny _ _ (call (Value.ref _) [_]) _ _ _); k_dflt (refine' Mine.fc ?fcB ?fcF ?fcN ?fcT ?fcdp ?fcun ?fcC ?fcD ?fcX (Mine.LamF.mono ?fchl ?fchs) (Mine.CellIn.mono ?fchc ?fchs2) ?_; (case fcF => k_asm); (case fcN => k_asm); (case fchl => with_reducible assumption); (case fchc => with_reducible assumption); (case fchs => (repeat (first | exact Mine.SubL.rfl | assumption | refine Mine.SubL.cons ?_)); done); (case fchs2 => (repeat (first | exact Mine.SubL.rfl | assumption | refine Mine.SubL.cons ?_)); done); (case fcB => k_asm); (case fcT => k_asm); (case fcX => k_asm); (case fcC => assumption); (case fcD => assumption); (case fcdp => ktr_room); (case fcun => ktr_units); intro t' tk' k' h' tk2' F' N' l1; (try dsimp only); (try k_lt l1); (try k_sweep))))
local macro_rules | `(tactic| walk_at "call ref") => `(tactic| (k_here; (with_reducible show wpAny _ _ (call (Value.ref _) [_, _]) _ _ _); k_dflt (refine' Mine.ec ?ecB ?ecF ?ecN ?ecT ?ecdp ?ecun ?ecC ?ecD ?ecX (Mine.LamF.mono ?echl ?echs) (Mine.CellIn.mono ?echc ?echs2) ?_; (case ecF => k_asm); (case ecN => k_asm); (case echl => with_reducible assumption); (case echc => with_reducible assumption); (case echs => (repeat (first | exact Mine.SubL.rfl | assumption | refine Mine.SubL.cons ?_)); done); (case echs2 => (repeat (first | exact Mine.SubL.rfl | assumption | refine Mine.SubL.cons ?_)); done); (case ecB => k_asm); (case ecT => k_asm); (case ecX => k_asm); (case ecC => assumption); (case ecD => assumption); (case ecdp => ktr_room); (case ecun => ktr_units); intro t' tk' k' h' tk2' F' N' l1; (try dsimp only); (try k_lt l1); (try k_sweep))))
local macro_rules | `(tactic| walk_at "call ref") => `(tactic| (k_here; (with_reducible show wpAny _ _ (call (Value.ref _) [_]) _ _ _); k_dflt (refine' Mine.fb ?fbB ?fbF ?fbN ?fbT ?fbdp ?fbun ?fbC ?fbD ?fbX (Mine.LamF.mono ?fbhl ?fbhs) (Mine.CellIn.mono ?fbhc ?fbhs2) ?_; (case fbF => k_asm); (case fbN => k_asm); (case fbhl => with_reducible assumption); (case fbhc => with_reducible assumption); (case fbhs => (repeat (first | exact Mine.SubL.rfl | assumption | refine Mine.SubL.cons ?_)); done); (case fbhs2 => (repeat (first | exact Mine.SubL.rfl | assumption | refine Mine.SubL.cons ?_)); done); (case fbB => k_asm); (case fbT => k_asm); (case fbX => k_asm); (case fbC => assumption); (case fbD => assumption); (case fbdp => ktr_room); (case fbun => ktr_units); intro t' tk' k' h' tk2' F' N' l1; (try dsimp only); (try k_lt l1); (try k_sweep))))
local macro_rules | `(tactic| walk_at "call ref") => `(tactic| (k_here; (with_reducible show wpAny _ _ (call (Value.ref 165) [_]) _ _ _); k_dflt (refine' Mine.fallc ?flB ?flF ?flN ?flT ?fldp ?flun ?flC ?flD ?flX ?_; (case flF => k_asm); (case flN => k_asm); (case flB => k_asm); (case flT => k_asm); (case flX => k_asm); (case flC => assumption); (case flD => assumption); (case fldp => ktr_room); (case flun => ktr_units); intro e' g' h' tk' FG' R' U'; (try dsimp only))))
theorem Mine.calmD1 : True := by
  w_top off
  trivial
namespace Mine
theorem disp {w : World} {mean mg mb} {dp un gd cn ns ig ic mo a ccd outer A₀ base g₀ h₀ L m s} {news : Led} {Q E : Value → Shared → Prop} (B : Below A₀ base outer h₀) (F : Fr h₀ L s.heap m) (N : News h₀ L s.heap news) (T : Top topProg LL mean mg mb h₀) (C : CodeHd base 150 146) (XB : (hd.heap_39 w.params).In base) (TB : Top topProg LL mean mg mb base) (D : KtsDicts (outer.filterMap (·.frame)) h₀) (T0 : KtsTurn (outer.filterMap (·.frame)) g₀ h₀) (X : (hd.heap_39 w.params).In h₀) (hdp : dp + 10 < recursionLimit) (hu : un + 80 < cLine)
  {Fa Fd P : Addr} {h1 h2 : Int} {t1 t2 tcv : Tok} {side : Int} {k np : Nat} {its : List Value} {rows : List Row} {n : Int} {tn : Tok}
  (hF : (Fa, instObj 61 Fd) ∈ news) (hFd : (Fd, dictOf [⟨h1, .str (Str.ofString "_converter") t1, .str (convS side) tcv⟩, ⟨h2, .str (Str.ofString "_handler_pairs") t2, .ref P⟩] k) ∈ news) (hP : (P, listOf its.toArray np) ∈ news) (hpr : All2 (PairIn news) its rows)
  (retN : ∀ h₀' h' tk', firstYes rows n = none → TS A₀ base outer (hd.heap_39 w.params) topProg LL mean mg mb g₀ L h₀' h' m → News h₀' L h' news → Q .none { s with heap := h', toks := tk' })
  (retV : ∀ r v tl h₀' h' tk', firstYes rows n = some r → r.sort ≠ 3 → TS A₀ base outer (hd.heap_39 w.params) topProg LL mean mg mb g₀ L h₀' h' m → News h₀' L h' (tl ++ news) → (∀ p ∈ tl, ∀ q ∈ news, q.1 < p.1) → AnsIn (tl ++ news) v (rowAns r n side) → Q v { s with heap := h', toks := tk' })
  (rai : ∀ r e h₀' G h' tk', firstYes rows n = some r → r.sort = 3 → KtsTurn (outer.filterMap (·.frame)) g₀ h₀' → Fr h₀' L G m → Below A₀ base outer h₀' → RaisedSN base G (envX cn ⟨.function, ns, ig, ic, mo⟩ L a ccd [] :: outer) e (.type "KeyError") news h' → G.UpToSlots h' → E (.ref e) { s with heap := h', toks := tk' }) :
 wpAny (model PySem.Challenge.rw_fe0065_01.row.prog w) (atTop dp un gd cn ns ig ic mo L a ccd [] outer) (call (.ref 43) [.ref Fa, .int n tn]) Q E s := by
  revert X; k_fill; intro X
  refine wpAny_call ?_
  kts_go
  walk1
  walk1
  with_unfolding_all refine wpAny_For ?_ (by intro _; rfl)
  walk1
  walk1
  walk1
  refine loopT ["can_handle", "handler", "is_generator", "takes_converter", "ch"] (fun i => ∀ r ∈ rows.take i, yesR r.way n ≠ some true) rfl ⟨KtsTurn.refl, by assumption, by assumption, by assumption, by assumption, by assumption⟩ (by assumption) hP (by simp) ?_ ?_ (by passes_own)
  · intro i v u g h tk I oI hv hno hI S1 N1
    obtain ⟨kT1, F1, B1, X1, T1, D1⟩ := S1
    obtain ⟨r, hr, t, pv, hdv, gv, tv, nn, rfl, htp, hpi, hha, hw0, hw7⟩ := hpr.get i v hv
    have hpi' := hpi
    obtain ⟨f, c, tkk, rfl, ⟨pm, c', ctv, hf, hci⟩, hce⟩ := hpi'
    rcases r with ⟨way, sort, mark⟩
    dsimp only at *
    try k_fold
    k_steps
    all_goals try dsimp only [TurnT, TurnEndT]
    all_goals try (refine' ⟨_, _, _, _, rfl, ⟨?c1, ?c2, ?c3, ?c4, ?c5, ?c6⟩, ?c8, ?c7, ?c9⟩; (case c7 => assumption); (case c2 => assumption); (case c3 => assumption); (case c4 => assumption); (case c5 => assumption); (case c6 => assumption); (case c1 => assumption); (case c8 => (intro y hy; have hy' := hy; simp only [List.contains_cons, List.contains_nil, Bool.or_eq_false_iff, beq_eq_false_iff_ne] at hy'; obtain ⟨a1, a2, a3, a4, a5, _⟩ := hy'; simp only [a1, a2, a3, a4, a5, if_false]; simp only [hy]; rfl)); (case c9 => (refine take_succ_ok hno hr ?_; rename yesR _ _ = _ => hyy; intro e; rw [hyy] at e; first | cases e | exact absurd (Option.some.inj e) (by assumption))))
    rotate_left
    · refine' ⟨_, _, _, _, rfl, ⟨?c1, ?c2, ?c3, ?c4, ?c5, ?c6⟩, ?c8, ?c7, ?c9⟩
      (case c7 => assumption)
      (case c2 => assumption)
      (case c3 => assumption)
      (case c4 => assumption)
      (case c5 => assumption)
      (case c6 => assumption)
      (case c1 => assumption)
      (case c8 =>
         intro y hy; have hy' := hy
         simp only [List.contains_cons, List.contains_nil, Bool.or_eq_false_iff, beq_eq_false_iff_ne] at hy'
         obtain ⟨a1, a2, a3, a4, a5, _⟩ := hy'
         simp only [a1, a2, a3, a4, a5, if_false]
         simp only [hy]
         rfl)
      (case c9 =>
         refine take_succ_ok hno hr ?_
         rename yesR _ _ = _ => hyy
         intro e; rw [hyy] at e
         injection e with e
         simp_all)
    rename yesR _ _ = _ => hyy
    have hby : yesR way n = some true := by simp_all
    have hfy := firstYes_some hno hr hby
    cases hha with
    | plain hm1 hm2 =>
      k_steps
      refine' retV _ _ [] _ _ _ hfy (by show (0:Int) ≠ 3; decide) ⟨?c1, ?c2, ?c3, ?c4, ?c5, ?c6⟩ ?c7 (fun _ h => nomatch h) ⟨_, _, _, rfl, hm1, _, _, rfl, hm2⟩
      (case c2 => assumption)
      (case c7 => exact news_sub (by assumption) fun p hp => List.mem_cons_of_mem _ hp)
      (case c3 => assumption)
      (case c4 => assumption)
      (case c5 => assumption)
      (case c6 => assumption)
      (case c1 => assumption)
    | fac hl6 hc6 hm6 =>
      obtain ⟨pm2, c2', ctv2, hf2, hci2⟩ := id hl6
      k_steps
      refine' retV _ _ [_] _ _ _ hfy (by show (1:Int) ≠ 3; decide) ⟨?c1, ?c2, ?c3, ?c4, ?c5, ?c6⟩ ?c7 ?c8 ⟨_, _, _, rfl, List.mem_append_left _ (List.mem_singleton.mpr rfl), _, _, _, rfl, hm6⟩
      (case c2 => assumption)
      (case c7 => exact news_sub (by assumption) fun p hp => mem_skip hp)
      (case c8 => intro p hp q hq; rw [List.mem_singleton.mp hp]; exact allLt_all (And.right ‹_ ∧ AllLt _ news›) q hq)
      (case c3 => assumption)
      (case c4 => assumption)
      (case c5 => assumption)
      (case c6 => assumption)
      (case c1 => assumption)
    | ext hl6 hc6 hm6 =>
      obtain ⟨pm2, c2', ctv2, hf2, hci2⟩ := id hl6
      k_steps
      refine' retV _ _ [_] _ _ _ hfy (by show (2:Int) ≠ 3; decide) ⟨?c1, ?c2, ?c3, ?c4, ?c5, ?c6⟩ ?c7 ?c8 ⟨_, _, _, rfl, List.mem_append_left _ (List.mem_singleton.mpr rfl), _, _, _, _, rfl, hm6⟩
      (case c2 => assumption)
      (case c7 => exact news_sub (by assumption) fun p hp => mem_skip hp)
      (case c8 => intro p hp q hq; rw [List.mem_singleton.mp hp]; exact allLt_all (And.right ‹_ ∧ AllLt _ news›) q hq)
      (case c3 => assumption)
      (case c4 => assumption)
      (case c5 => assumption)
      (case c6 => assumption)
      (case c1 => assumption)
    | fall =>
      k_steps
      obtain ⟨h₀', q1, q2, q3⟩ := turn_back B (by assumption) rfl kT1 T0
      refine' rai _ _ _ _ _ _ hfy rfl q1 q2 q3 ?c1 ?c2
      (case c1 => exact raisedSN_sub (by assumption) fun p hp => List.mem_cons_of_mem _ hp)
      (case c2 => assumption)
  · intro g h tk u hno S1 N1
    obtain ⟨kT1, F1, B1, X1, T1, D1⟩ := S1
    have hfy := firstYes_none (by rw [hpr.length] at hno; exact hno)
    k_steps
    refine' retN _ _ _ hfy ⟨?c1, ?c2, ?c3, ?c4, ?c5, ?c6⟩ ?c7
    (case c7 => assumption)
    (case c2 => assumption)
    (case c1 => assumption)
    (case c3 => assumption)
    (case c4 => assumption)
    (case c5 => assumption)
    (case c6 => assumption)
end Mine
local macro_rules | `(tactic| walk_at "getMethod ref") => `(tactic| (k_here; (with_reducible show wpAny _ _ (getMethod (Value.ref _) (Str.ofString "get") _) _ _ _); k_dflt (refine' kdg_method (knd := PySem.intKind _ _) ?gmN ?gmp ?gmd ?_); (case gmN => k_asm); (case gmp => k_mem); (case gmd => assumption)))
local macro_rules | `(tactic| walk_at "call builtin:dict.get") => `(tactic| (k_here; k_dflt (refine' kdg_get1 (knd := PySem.intKind _ _) ?ggN ?ggp ?ggd ?ggl (intKind_is _ _ _ _) (some _) ?ggv ?_); (case ggN => k_asm); (case ggp => k_mem); (case ggd => assumption); (case ggl => assumption); (case ggv => assumption); (try dsimp only [Option.getD])))
local macro_rules | `(tactic| walk_at "call builtin:dict.get") => `(tactic| (k_here; k_dflt (refine' kdg_get1 (knd := PySem.intKind _ _) ?gnN ?gnp ?gnd ?gnl (intKind_is _ _ _ _) none ?gnv ?_); (case gnN => k_asm); (case gnp => k_mem); (case gnd => assumption); (case gnl => assumption); (case gnv => assumption); (try dsimp only [Option.getD])))
local macro_rules | `(tactic| walk_at "call ref") => `(tactic| (k_here; (with_reducible show wpAny _ _ (call (Value.ref 43) [_, _]) _ _ _); k_dflt (refine' Mine.disp ?diB ?diF ?diN ?diT ?diC ?diXB ?diTB ?diD ?diT0 ?diX ?didp ?diun ?dihF ?dihFd ?dihP ?dihpr ?_ ?_ ?_; (case diF => k_asm); (case diN => k_asm); (case diB => k_asm); (case diT => k_asm); (case diC => assumption); (case diXB => assumption); (case diTB => assumption); (case diD => assumption); (case diT0 => first | assumption | exact KtsTurn.refl); (case diX => k_asm); (case didp => ktr_room); (case diun => ktr_units); (case dihF => k_mem); (case dihFd => k_mem); (case dihP => k_mem); (case dihpr => assumption); rotate_left; (intro r' v' tl' g' h' tk' hfy' hso' S' N' ltl' ha'; obtain ⟨kT', F', B', X', T', D'⟩ := S'; (have ha2' := ha'); obtain ⟨t1', vs1', k1', e1', hm1', hv1'⟩ := ha2'; subst e1'; (try dsimp only)); rotate_left; (intro r' e' g' G' h' tk' hfy' hso' kT' FG' B' R' U'; (try dsimp only)); rotate_left; (intro g' h' tk' hfy' S' N'; obtain ⟨kT', F', B', X', T', D'⟩ := S'; (try dsimp only)))))
theorem Mine.calmDW : True := by
  w_top off
  trivial
namespace Mine
theorem dwcC {w : World} {mean mg mb} {dp un gd cn ns ig ic mo a ccd outer A₀ base g₀ h₀ L m s} {news : Led} {Q E : Value → Shared → Prop} (B : Below A₀ base outer h₀) (F : Fr h₀ L s.heap m) (N : News h₀ L s.heap news) (T : Top topProg LL mean mg mb h₀) (C : CodeHd base 150 146) (XB : (hd.heap_39 w.params).In base) (TB : Top topProg LL mean mg mb base) (D : KtsDicts (outer.filterMap (·.frame)) h₀) (T0 : KtsTurn (outer.filterMap (·.frame)) g₀ h₀) (X : (hd.heap_39 w.params).In h₀) (hdp : dp + 20 < recursionLimit) (hu : un + 160 < cLine)
  {M Fa Fd P Da : Addr} {side : Int} {rows : List Row} {dir : List (Int × Mark)} {n : Int} {tn : Tok} (hS : SideIn w news M Fa Fd P Da side rows dir)
  (retV : ∀ v a tl h₀' h' tk', tellR rows dir side n = some a → TS A₀ base outer (hd.heap_39 w.params) topProg LL mean mg mb g₀ L h₀' h' m → News h₀' L h' (tl ++ news) → (∀ p ∈ tl, ∀ q ∈ news, q.1 < p.1) → AnsIn (tl ++ news) v a → Q v { s with heap := h', toks := tk' })
  (rai : ∀ e h₀' G h' tk', tellR rows dir side n = none → KtsTurn (outer.filterMap (·.frame)) g₀ h₀' → Fr h₀' L G m → Below A₀ base outer h₀' → RaisedSN base G (envX cn ⟨.function, ns, ig, ic, mo⟩ L a ccd [] :: outer) e (.type "KeyError") news h' → G.UpToSlots h' → E (.ref e) { s with heap := h', toks := tk' }) :
 codeAny (model PySem.Challenge.rw_fe0065_01.row.prog w) (atTop dp un gd cn ns ig ic mo L a ccd [] outer) (.call (.ref 86) ⟨[.ref M, .int n tn], []⟩) (fun r s' => match r with | .ok (.ret v) => Q v s' | .ok _ => False | .error e => E e s') s := by
  revert X; k_fill; intro X
  obtain ⟨Md, bm, fbk, c, h1, h2, h3, h4, t1, t2, t3, t4, k, h5, h6, t5, t6, tc, k2, its, np, ts, hM, hMd, hbm, hfb, hcf, hFa, hFd, hP, hpr, oD, kvs, hD, hlo, hkv, hdir⟩ := hS
  kts_go
  rcases dir_some hdir n with ⟨hv, hd0⟩ | ⟨v, mk, hv, hd0, t, vs, kk, rfl, hat, hav⟩
  · obtain ⟨pm2, c2', ctv2, hf2, hci2⟩ := id hfb
    k_steps
    · rename firstYes _ _ = none => hfy
      refine' retV _ (.fall side n) [_] _ _ _ (by simp [tellR, hd0, hfy]) ⟨?c1, ?c2, ?c3, ?c4, ?c5, ?c6⟩ ?c7 ?c8 ⟨_, _, _, rfl, List.mem_append_left _ (List.mem_singleton.mpr rfl), _, _, _, rfl⟩
      (case c2 => assumption)
      (case c7 => assumption)
      (case c8 => intro p hp q hq; rw [List.mem_singleton.mp hp]; first | exact allLt_all ‹AllLt _ news› q hq | exact (‹∀ p ∈ news, p.1 < _›) q hq)
      (case c3 => assumption)
      (case c4 => assumption)
      (case c5 => assumption)
      (case c6 => assumption)
      (case c1 => assumption)
    · rename firstYes _ _ = some _ => hfy
      rename AnsIn _ _ _ => hans
      refine' retV _ _ _ _ _ _ (by simp only [tellR, hd0, hfy]; exact if_neg (by assumption)) ⟨?c1, ?c2, ?c3, ?c4, ?c5, ?c6⟩ ?c7 ?c8 hans
      (case c2 => assumption)
      (case c7 => assumption)
      (case c8 => assumption)
      (case c3 => assumption)
      (case c4 => assumption)
      (case c5 => assumption)
      (case c6 => assumption)
      (case c1 => assumption)
    · rename firstYes _ _ = some _ => hfy
      obtain ⟨h₀', q1, q2, q3⟩ := turn_back B (by assumption) rfl ‹KtsTurn (List.filterMap _ (_ :: _)) _ _› T0
      refine' rai _ _ _ _ _ (by simp only [tellR, hd0, hfy]; exact if_pos (by assumption)) q1 q2 q3 ?c1 ?c2
      (case c1 => assumption)
      (case c2 => assumption)
  · k_steps
    refine' retV _ (.direct mk) [] _ _ _ (by simp [tellR, hd0]) ⟨?c1, ?c2, ?c3, ?c4, ?c5, ?c6⟩ ?c7 (fun _ h => nomatch h) ⟨_, _, _, rfl, hat, hav⟩
    (case c2 => assumption)
    (case c7 => assumption)
    (case c3 => assumption)
    (case c4 => assumption)
    (case c5 => assumption)
    (case c6 => assumption)
    (case c1 => assumption)
theorem dwc {w : World} {mean mg mb} {dp un gd cn ns ig ic mo a ccd outer A₀ base g₀ h₀ L m s} {news : Led} {Q E : Value → Shared → Prop} (B : Below A₀ base outer h₀) (F : Fr h₀ L s.heap m) (N : News h₀ L s.heap news) (T : Top topProg LL mean mg mb h₀) (C : CodeHd base 150 146) (XB : (hd.heap_39 w.params).In base) (TB : Top topProg LL mean mg mb base) (D : KtsDicts (outer.filterMap (·.frame)) h₀) (T0 : KtsTurn (outer.filterMap (·.frame)) g₀ h₀) (X : (hd.heap_39 w.params).In h₀) (hdp : dp + 20 < recursionLimit) (hu : un + 160 < cLine)
  {M Fa Fd P Da : Addr} {side : Int} {rows : List Row} {dir : List (Int × Mark)} {n : Int} {tn : Tok} (hS : SideIn w news M Fa Fd P Da side rows dir)
  (retV : ∀ v a tl h₀' h' tk', tellR rows dir side n = some a → TS A₀ base outer (hd.heap_39 w.params) topProg LL mean mg mb g₀ L h₀' h' m → News h₀' L h' (tl ++ news) → (∀ p ∈ tl, ∀ q ∈ news, q.1 < p.1) → AnsIn (tl ++ news) v a → Q v { s with heap := h', toks := tk' })
  (rai : ∀ e h₀' G h' tk', tellR rows dir side n = none → KtsTurn (outer.filterMap (·.frame)) g₀ h₀' → Fr h₀' L G m → Below A₀ base outer h₀' → RaisedSN base G (envX cn ⟨.function, ns, ig, ic, mo⟩ L a ccd [] :: outer) e (.type "KeyError") news h' → G.UpToSlots h' → E (.ref e) { s with heap := h', toks := tk' }) :
 wpAny (model PySem.Challenge.rw_fe0065_01.row.prog w) (atTop dp un gd cn ns ig ic mo L a ccd [] outer) (call (.ref 86) [.ref M, .int n tn]) Q E s :=
  wpAny_call (dwcC B F N T C XB TB D T0 X hdp hu hS retV rai)
theorem dwcM {w : World} {mean mg mb} {dp un gd cn ns ig ic mo a ccd outer A₀ base g₀ h₀ L m s} {news : Led} {Q E : Value → Shared → Prop} (B : Below A₀ base outer h₀) (F : Fr h₀ L s.heap m) (N : News h₀ L s.heap news) (T : Top topProg LL mean mg mb h₀) (C : CodeHd base 150 146) (XB : (hd.heap_39 w.params).In base) (TB : Top topProg LL mean mg mb base) (D : KtsDicts (outer.filterMap (·.frame)) h₀) (T0 : KtsTurn (outer.filterMap (·.frame)) g₀ h₀) (X : (hd.heap_39 w.params).In h₀) (hdp : dp + 20 < recursionLimit) (hu : un + 160 < cLine)
  {M Fa Fd P Da : Addr} {side : Int} {rows : List Row} {dir : List (Int × Mark)} {n : Int} {tn : Tok} {bm : Addr} (hbm : (bm, methodObj (.ref 86) (.ref M)) ∈ news) (hS : SideIn w news M Fa Fd P Da side rows dir)
  (retV : ∀ v a tl h₀' h' tk', tellR rows dir side n = some a → TS A₀ base outer (hd.heap_39 w.params) topProg LL mean mg mb g₀ L h₀' h' m → News h₀' L h' (tl ++ news) → (∀ p ∈ tl, ∀ q ∈ news, q.1 < p.1) → AnsIn (tl ++ news) v a → Q v { s with heap := h', toks := tk' })
  (rai : ∀ e h₀' G h' tk', tellR rows dir side n = none → KtsTurn (outer.filterMap (·.frame)) g₀ h₀' → Fr h₀' L G m → Below A₀ base outer h₀' → RaisedSN base G (envX cn ⟨.function, ns, ig, ic, mo⟩ L a ccd [] :: outer) e (.type "KeyError") news h' → G.UpToSlots h' → E (.ref e) { s with heap := h', toks := tk' }) :
 wpAny (model PySem.Challenge.rw_fe0065_01.row.prog w) (atTop dp un gd cn ns ig ic mo L a ccd [] outer) (call (.ref bm) [.int n tn]) Q E s :=
  wpAny_call (method_call (N _ hbm).1 (dwcC B F N T C XB TB D T0 X hdp hu hS retV rai))
end Mine
local macro_rules | `(tactic| walk_at "call ref") => `(tactic| (k_here; (with_reducible show wpAny _ _ (call (Value.ref 86) [_, _]) _ _ _); k_dflt (refine' Mine.dwc ?dwB ?dwF ?dwN ?dwT ?dwC ?dwXB ?dwTB ?dwD ?dwT0 ?dwX ?dwdp ?dwun ?dwS ?_ ?_; (case dwF => k_asm); (case dwN => k_asm); (case dwS => assumption); (case dwB => k_asm); (case dwT => k_asm); (case dwC => assumption); (case dwXB => assumption); (case dwTB => assumption); (case dwD => assumption); (case dwT0 => first | assumption | exact KtsTurn.refl); (case dwX => k_asm); (case dwdp => ktr_room); (case dwun => ktr_units); rotate_left; (intro e' g' G' h' tk' hfy' kT' FG' B' R' U'; (have D2' := KtsDicts.turn ‹KtsDicts _ _› kT'); (try dsimp only)); rotate_left; (intro v' a' tl' g' h' tk' hfy' S' N' ltl' ha'; obtain ⟨kT', F', B', X', T', D'⟩ := S'; (have ha2' := ha'); obtain ⟨t1', vs1', k1', e1', hm1', hv1'⟩ := ha2'; subst e1'; (try dsimp only)))))
local macro_rules | `(tactic| walk_at "call ref") => `(tactic| (k_here; (with_reducible show wpAny _ _ (call (Value.ref _) [_]) _ _ _); k_dflt (refine' Mine.dwcM ?dmB ?dmF ?dmN ?dmT ?dmC ?dmXB ?dmTB ?dmD ?dmT0 ?dmX ?dmdp ?dmun ?dmBM ?dmS ?_ ?_; (case dmF => k_asm); (case dmN => k_asm); (case dmBM => assumption); (case dmS => assumption); (case dmB => k_asm); (case dmT => k_asm); (case dmC => assumption); (case dmXB => assumption); (case dmTB => assumption); (case dmD => assumption); (case dmT0 => first | assumption | exact KtsTurn.refl); (case dmX => k_asm); (case dmdp => ktr_room); (case dmun => ktr_units); rotate_left; (intro e' g' G' h' tk' hfy' kT' FG' B' R' U'; (have D2' := KtsDicts.turn ‹KtsDicts _ _› kT'); (try dsimp only)); rotate_left; (intro v' a' tl' g' h' tk' hfy' S' N' ltl' ha'; obtain ⟨kT', F', B', X', T', D'⟩ := S'; (have ha2' := ha'); obtain ⟨t1', vs1', k1', e1', hm1', hv1'⟩ := ha2'; subst e1'; (try dsimp only)))))
theorem Mine.calmTO : True := by
  w_top off
  trivial
namespace Mine
theorem AnsIn.mono {a b : Led} {v : Value} {x : Ans} (h : AnsIn a v x) (k : SubL a b) : AnsIn b v x := let ⟨t, vs, q, e, h1, r⟩ := h; ⟨t, vs, q, e, k _ h1, r⟩
theorem lt_cons {x : Addr × Obj} {tl news : Led} (h : ∀ p ∈ tl ++ news, p.1 < x.1) (k : ∀ p ∈ tl, ∀ q ∈ news, q.1 < p.1) : ∀ p ∈ x :: tl, ∀ q ∈ news, q.1 < p.1 := fun p hp q hq => by
  rcases List.mem_cons.mp hp with rfl | hp
  · exact h q (List.mem_append_right _ hq)
  · exact k p hp q hq
def ToldIn (news : Led) (v : Value) : Option Ans → Prop
  | some a => ∃ l k tt tv, v = .ref l ∧ (l, listOf #[.str (Str.ofString "told") tt, tv] k) ∈ news ∧ AnsIn news tv a
  | none => ∃ l k tt, v = .ref l ∧ (l, listOf #[.str (Str.ofString "raised") tt, .none] k) ∈ news
theorem told {w : World} {mean mg mb} {dp un gd cn ns ig ic mo a ccd outer A₀ base g₀ h₀ L m s} {news : Led} {Q E : Value → Shared → Prop} (B : Below A₀ base outer h₀) (F : Fr h₀ L s.heap m) (N : News h₀ L s.heap news) (T : Top topProg LL mean mg mb h₀) (C : CodeHd base 150 146) (XB : (hd.heap_39 w.params).In base) (TB : Top topProg LL mean mg mb base) (D : KtsDicts (outer.filterMap (·.frame)) h₀) (T0 : KtsTurn (outer.filterMap (·.frame)) g₀ h₀) (X : (hd.heap_39 w.params).In h₀) (hdp : dp + 30 < recursionLimit) (hu : un + 240 < cLine)
  {M Fa Fd P Da : Addr} {side : Int} {rows : List Row} {dir : List (Int × Mark)} {n : Int} {tn : Tok} {bl : Bool} (hS : SideIn w news M Fa Fd P Da side rows dir)
  (ret : ∀ v tl h₀' h' tk', TS A₀ base outer (hd.heap_39 w.params) topProg LL mean mg mb g₀ L h₀' h' m → News h₀' L h' (tl ++ news) → (∀ p ∈ tl, ∀ q ∈ news, q.1 < p.1) → ToldIn (tl ++ news) v (tellR rows dir side n) → Q v { s with heap := h', toks := tk' }) :
 wpAny (model PySem.Challenge.rw_fe0065_01.row.prog w) (atTop dp un gd cn ns ig ic mo L a ccd [] outer) (call (.ref 193) [.ref M, .int n tn, .bool bl]) Q E s := by
  revert X; k_fill; intro X
  have hS' := hS
  obtain ⟨Md, bm, fbk, c, h1, h2, h3, h4, t1, t2, t3, t4, k, h5, h6, t5, t6, tc, k2, its, np, ts, hM, hMd, hbm, hfb, hcf, hFa, hFd, hP, hpr, oD, kvs, hD, hlo, hkv, hdir⟩ := hS'
  refine wpAny_call ?_
  kts_go
  k_steps
  · rename tellR _ _ _ _ = some _ => hfy
    refine' ret _ (_ :: _) _ _ _ ⟨?c1, ?c2, ?c3, ?c4, ?c5, ?c6⟩ ?c7 ?c8 ?c9
    (case c2 => assumption)
    (case c7 => exact ‹News _ L _ _›)
    (case c8 => exact lt_cons (by assumption) (by assumption))
    (case c9 => rw [hfy]; exact ⟨_, _, _, _, rfl, List.mem_cons_self .., AnsIn.mono (by assumption) (SubL.cons SubL.rfl)⟩)
    (case c1 => assumption)
    (case c3 => assumption)
    (case c4 => assumption)
    (case c5 => assumption)
    (case c6 => assumption)
  · rename tellR _ _ _ _ = none => hfy
    refine' ret _ [_] _ _ _ ⟨?c1, ?c2, ?c3, ?c4, ?c5, ?c6⟩ ?c7 ?c8 ?c9
    (case c2 => assumption)
    (case c7 => exact ‹News _ L _ _›)
    (case c8 => exact lt_cons (tl := []) (by assumption) (fun _ h => nomatch h))
    (case c9 => rw [hfy]; exact ⟨_, _, _, rfl, List.mem_cons_self ..⟩)
    (case c1 => assumption)
    (case c3 => assumption)
    (case c4 => assumption)
    (case c5 => assumption)
    (case c6 => assumption)
  · rename tellR _ _ _ _ = some _ => hfy
    refine' ret _ (_ :: _) _ _ _ ⟨?c1, ?c2, ?c3, ?c4, ?c5, ?c6⟩ ?c7 ?c8 ?c9
    (case c2 => assumption)
    (case c7 => exact ‹News _ L _ _›)
    (case c8 => exact lt_cons (by assumption) (by assumption))
    (case c9 => rw [hfy]; exact ⟨_, _, _, _, rfl, List.mem_cons_self .., AnsIn.mono (by assumption) (SubL.cons SubL.rfl)⟩)
    (case c1 => assumption)
    (case c3 => assumption)
    (case c4 => assumption)
    (case c5 => assumption)
    (case c6 => assumption)
  · rename tellR _ _ _ _ = none => hfy
    refine' ret _ [_] _ _ _ ⟨?c1, ?c2, ?c3, ?c4, ?c5, ?c6⟩ ?c7 ?c8 ?c9
    (case c2 => assumption)
    (case c7 => exact ‹News _ L _ _›)
    (case c8 => exact lt_cons (tl := []) (by assumption) (fun _ h => nomatch h))
    (case c9 => rw [hfy]; exact ⟨_, _, _, rfl, List.mem_cons_self ..⟩)
    (case c1 => assumption)
    (case c3 => assumption)
    (case c4 => assumption)
    (case c5 => assumption)
    (case c6 => assumption)
end Mine
theorem Mine.calmYES : True := by
  w_top off
  trivial
namespace Mine
theorem yes {w : World} {mean mg mb} {dp un gd cn ns ig ic mo a ccd cl outer A₀ base h₀ L m s} {news : Led} {way n : Int} {tw tn : Tok} {Q E : Value → Shared → Prop} (B : Below A₀ base outer h₀) (F : Fr h₀ L s.heap m) (N : News h₀ L s.heap news) (T : Top topProg LL mean mg mb h₀) (hdp : dp + 5 < recursionLimit) (hu : un + 40 < cLine) (X : (hd.heap_39 w.params).In h₀)
 (hw0 : 0 ≤ way) (hw6 : way < 6) (h5 : way = 5 → n ≠ 2)
 (ret : ∀ b h' tk', yesR way n = some b → Fr h₀ L h' m → News h₀ L h' news → Q (.bool b) { s with heap := h', toks := tk' }) :
 wpAny (model PySem.Challenge.rw_fe0065_01.row.prog w) (atTop dp un gd cn ns ig ic mo L a ccd cl outer) (call (.ref 144) [.int way tw, .int n tn]) Q E s := by
  revert X; k_fill; intro X
  have hcs : way = 0 ∨ way = 1 ∨ way = 2 ∨ way = 3 ∨ way = 4 ∨ way = 5 := by omega
  clear hw0 hw6
  rcases hcs with rfl | rfl | rfl | rfl | rfl | rfl
  all_goals k_steps
  all_goals first
    | (refine' ret _ _ _ ?c1 ?c2 ?c3; (case c2 => assumption); (case c3 => assumption); (case c1 => first | (simp [yesR]; done) | (simp_all [yesR]; done)))
    | (exfalso; simp_all; done)
    | skip
def RowIn (news : Led) (v : Value) (r : Row) : Prop := ∃ t k tw ts mv, v = .ref t ∧ (t, tupO [.int r.way tw, .int r.sort ts, mv] k) ∈ news ∧ MarkV mv r.mark ∧ 0 ≤ r.way ∧ r.way < 7 ∧ 0 ≤ r.sort ∧ r.sort < 4
theorem isSome_yes {o : Option Value} {v : Value} (h : o = some v) : o.isSome = true := by rw [h]; rfl
theorem isSome_no {o : Option Value} (h : o = none) : o.isSome = false := by rw [h]; rfl
end Mine
local macro_rules | `(tactic| walk_at "call ref") => `(tactic| (k_here; (with_reducible show wpAny _ _ (call (Value.ref 144) [_, _]) _ _ _); k_dflt (refine' Mine.yes ?yeB ?yeF ?yeN ?yeT ?yedp ?yeun ?yeX ?yew0 ?yew6 ?yew5 ?_; (case yeF => k_asm); (case yeN => k_asm); (case yeB => k_asm); (case yeT => k_asm); (case yedp => ktr_room); (case yeun => ktr_units); (case yeX => k_asm); (case yew0 => first | assumption | omega); (case yew6 => first | assumption | omega); (case yew5 => (intro e5; first | assumption | omega)); (intro b' h' tk' hy' F' N'; (try dsimp only); (try k_sweep)))))
local macro_rules | `(tactic| walk_at "compareOp In int ref") => `(tactic| (k_here; k_dflt (refine' kda_in (knd := PySem.intKind _ _) ?ciN ?cip ?cid ?cil (intKind_is _ _ _ _) true ?cih ?_; (case ciN => k_asm); (case cip => k_mem); (case cid => assumption); (case cil => assumption); (case cih => (apply Mine.isSome_yes; assumption)))))
local macro_rules | `(tactic| walk_at "compareOp In int ref") => `(tactic| (k_here; k_dflt (refine' kda_in (knd := PySem.intKind _ _) ?cjN ?cjp ?cjd ?cjl (intKind_is _ _ _ _) false ?cjh ?_; (case cjN => k_asm); (case cjp => k_mem); (case cjd => assumption); (case cjl => assumption); (case cjh => (apply Mine.isSome_no; assumption)))))
local macro_rules | `(tactic| walk_at "subscriptTail") => `(tactic| (k_here; (with_reducible show wpAny _ _ (subscriptTail _ _ (Value.ref _) (Value.int _ _)) _ _ _); k_dflt (refine' kda_item (knd := PySem.intKind _ _) ?stN ?stp ?std (intKind_is _ _ _ _) ?sth ?_; (case stN => k_asm); (case stp => k_mem); (case std => assumption); (case sth => assumption))))
theorem Mine.calmAN : True := by
  w_top off
  trivial
namespace Mine
theorem tell_row {rows : List Row} {dir : List (Int × Mark)} {n side : Int} {i : Nat} {r : Row} (hd : dirAt dir n = none) (h : ∀ r ∈ rows.take i, yesR r.way n ≠ some true) (hi : rows[i]? = some r) {b : Bool} (hy : yesR r.way n = some b) (hb : b = true) : tellR rows dir side n = if r.sort = 3 then none else some (rowAns r n side) := by
  subst hb
  simp only [tellR, hd, firstYes_some h hi hy]
theorem tell_plain {rows : List Row} {dir : List (Int × Mark)} {n side : Int} {i : Nat} {way sort : Int} {mark : Mark} (hd : dirAt dir n = none) (h : ∀ r ∈ rows.take i, yesR r.way n ≠ some true) (hi : rows[i]? = some ⟨way, sort, mark⟩) {b : Bool} (hy : yesR way n = some b) (hb : b = true) (hs : sort = 0) : tellR rows dir side n = some (.plain mark) := by
  rw [tell_row (side := side) hd h hi hy hb]; subst hs; rfl
theorem tell_fall {rows : List Row} {dir : List (Int × Mark)} {n side : Int} {i : Nat} {way sort : Int} {mark : Mark} (hd : dirAt dir n = none) (h : ∀ r ∈ rows.take i, yesR r.way n ≠ some true) (hi : rows[i]? = some ⟨way, sort, mark⟩) {b : Bool} (hy : yesR way n = some b) (hb : b = true) (hs : sort = 3) : tellR rows dir side n = none := by
  rw [tell_row (side := side) hd h hi hy hb]; subst hs; rfl
theorem tell_made {rows : List Row} {dir : List (Int × Mark)} {n side : Int} {i : Nat} {way sort : Int} {mark : Mark} (hd : dirAt dir n = none) (h : ∀ r ∈ rows.take i, yesR r.way n ≠ some true) (hi : rows[i]? = some ⟨way, sort, mark⟩) {b : Bool} (hy : yesR way n = some b) (hb : b = true) (hs : sort = 1) : tellR rows dir side n = some (.made mark n) := by
  rw [tell_row (side := side) hd h hi hy hb]; subst hs; rfl
theorem tell_madeC {rows : List Row} {dir : List (Int × Mark)} {n side : Int} {i : Nat} {way sort : Int} {mark : Mark} (hd : dirAt dir n = none) (h : ∀ r ∈ rows.take i, yesR r.way n ≠ some true) (hi : rows[i]? = some ⟨way, sort, mark⟩) {b : Bool} (hy : yesR way n = some b) (hb : b = true) (h0 : sort ≠ 0) (h1 : sort ≠ 1) (h3 : sort ≠ 3) : tellR rows dir side n = some (.madeC mark n side) := by
  rw [tell_row (side := side) hd h hi hy hb, if_neg h3]; simp only [rowAns, if_neg h0, if_neg h1]
theorem yes_skip {way n : Int} (h : ¬ way < 5) (k : way = 5 → n = 2) : yesR way n ≠ some true := by
  unfold yesR
  rw [if_neg (by omega), if_neg (by omega), if_neg (by omega), if_neg (by omega), if_neg (by omega)]
  by_cases h5 : way = 5
  · rw [if_pos h5, if_pos (k h5)]; simp
  · rw [if_neg h5]; simp
theorem yes_false {way n : Int} {b : Bool} (h : yesR way n = some b) (hb : b = false) : yesR way n ≠ some true := by subst hb; rw [h]; simp
theorem conv_str {side : Int} (h : side = 0 ∨ side = 1) : convS side = Str.ofString "converter " ++ Str.ofString (toString side) := by
  rcases h with rfl | rfl
  · decide +kernel
  · decide +kernel
theorem skip1 {x y z p : Addr × Obj} {l : Led} (h : p ∈ [x] ++ l) : p ∈ x :: y :: z :: l := by
  rcases List.mem_append.mp h with h | h
  · rw [List.mem_singleton.mp h]; exact List.mem_cons_self ..
  · exact List.mem_cons_of_mem _ (List.mem_cons_of_mem _ (List.mem_cons_of_mem _ h))
theorem skip2 {x x' y z p : Addr × Obj} {l : Led} (h : p ∈ [x, x'] ++ l) : p ∈ x :: x' :: y :: z :: l := by
  rcases List.mem_cons.mp h with rfl | h
  · exact List.mem_cons_self ..
  · exact List.mem_cons_of_mem _ (skip1 h)
theorem lt1 {x : Addr × Obj} {l : Led} (h : AllLt x.1 l) : ∀ p ∈ [x], ∀ q ∈ l, q.1 < p.1 := fun p hp q hq => by
  rw [List.mem_singleton.mp hp]; exact allLt_all h q hq
theorem lt2 {x y : Addr × Obj} {l : Led} (h : AllLt x.1 l) (k : AllLt y.1 l) : ∀ p ∈ [x, y], ∀ q ∈ l, q.1 < p.1 := fun p hp q hq => by
  rcases List.mem_cons.mp hp with rfl | hp
  · exact allLt_all h q hq
  · rw [List.mem_singleton.mp hp]; exact allLt_all k q hq
theorem turnS_ret {h₀ : Heap} {L I : Addr} {oI : Obj} {l : Addr} {lo : Obj} {stored : List Str} {m₀ : Str → Option Value} {J : Led → Prop} {s s' : Shared} {Q : Flow → Shared → Prop} {v : Value} (h : Q (.ret v) s') : TurnS h₀ L I oI l lo stored m₀ J s Q (.ret v) s' := h
theorem turnS_next {h₀ : Heap} {L I : Addr} {oI : Obj} {l : Addr} {lo : Obj} {stored : List Str} {m₀ : Str → Option Value} {J : Led → Prop} {s s' : Shared} {Q : Flow → Shared → Prop} (h : TurnEndS h₀ L I oI l lo stored m₀ J s s') : TurnS h₀ L I oI l lo stored m₀ J s Q .next s' := h
theorem answ {w : World} {mean mg mb} {dp un gd cn ns ig ic mo a ccd cl outer A₀ base h₀ L m s} {news : Led} {Q E : Value → Shared → Prop} (B : Below A₀ base outer h₀) (F : Fr h₀ L s.heap m) (N : News h₀ L s.heap news) (T : Top topProg LL mean mg mb h₀) (hdp : dp + 15 < recursionLimit) (hu : un + 120 < cLine) (X : (hd.heap_39 w.params).In h₀)
  {R D : Addr} {np : Nat} {its : List Value} {side : Int} {rows : List Row} {dir : List (Int × Mark)} {n : Int} {tn ts : Tok} (hR : (R, listOf its.toArray np) ∈ news) (hrows : All2 (RowIn news) its rows) (hdr : DirIn w news D dir) (hside : side = 0 ∨ side = 1)
  (ret : ∀ v tl h' tk', Fr h₀ L h' m → News h₀ L h' (tl ++ news) → (∀ p ∈ tl, ∀ q ∈ news, q.1 < p.1) → ToldIn (tl ++ news) v (tellR rows dir side n) → Q v { s with heap := h', toks := tk' }) :
 wpAny (model PySem.Challenge.rw_fe0065_01.row.prog w) (atTop dp un gd cn ns ig ic mo L a ccd cl outer) (call (.ref 186) [.ref R, .ref D, .int side ts, .int n tn]) Q E s := by
  revert X; k_fill; intro X
  obtain ⟨oD, kvs, hD, hlo, hkv, hdir⟩ := hdr
  rcases dir_some hdir n with ⟨hv, hd0⟩ | ⟨v, mk, hv, hd0, hav⟩
  · k_steps
    refine' For_turns ?F ?_ ?hs ?hE
    (case F => k_asm)
    (case hs => intro _; rfl)
    (case hE => passes_own)
    walk1
    refine loopS ["way", "sort", "mark"] (fun i news₁ => news₁ = news ∧ ∀ r ∈ rows.take i, yesR r.way n ≠ some true) rfl (by assumption) (by assumption) hR ⟨rfl, by simp⟩ ?_ ?_
    · rintro i v u news₁ h tk I oI hvi ⟨rfl, hno⟩ hI hlt F₁ N₁
      obtain ⟨r, hr, t, k, tw, tso, mv, rfl, htp, hmk, hw0, hw7, hs0, hs4⟩ := hrows.get i v hvi
      rcases r with ⟨way, sort, mark⟩
      dsimp only at *
      k_steps
      all_goals first
        | (refine turnS_ret ?_; k_steps)
        | (refine turnS_next ?_; refine' ⟨_, _, _, _, rfl, ?c1, ?c2, ?c3, ?c4, rfl, ?c5⟩; (case c1 => assumption); (case c2 => assumption); (case c3 => assumption); (case c4 => (intro y hy; have hy' := hy; simp only [List.contains_cons, List.contains_nil, Bool.or_eq_false_iff, beq_eq_false_iff_ne] at hy'; obtain ⟨a1, a2, a3, _⟩ := hy'; simp only [a1, a2, a3, if_false]; simp only [hy]; rfl)); (case c5 => (refine take_succ_ok hno hr ?_; dsimp only; first | (refine' yes_false ?z1 ?z2; (case z1 => assumption); (case z2 => assumption)) | (refine' yes_skip ?z1 ?z2; (case z1 => assumption); (case z2 => (intro e5; first | omega | (exfalso; omega) | skip))))))
      all_goals rename yesR _ _ = some _ => hyy
      all_goals rename _ = true => hbt
      all_goals first
        | (rename sort = 0 => hs
           have e := tell_plain (side := side) hd0 hno hr hyy hbt hs
           refine' ret _ [_, _] _ _ ?c1 ?c2 ?c3 ?c4
           (case c1 => assumption)
           (case c2 => refine' news_sub ?_ fun p hp => skip2 hp; assumption)
           (case c3 => exact lt2 (‹_ ∧ _ ∧ _ ∧ AllLt _ _›.2.2.2) (‹_ ∧ _ ∧ AllLt _ _›.2.2))
           (case c4 => rw [e]; exact ⟨_, _, _, _, rfl, List.mem_cons_self .., _, _, _, rfl, List.mem_cons_of_mem _ (List.mem_cons_self ..), _, _, rfl, hmk⟩))
        | (rename sort = 1 => hs
           have e := tell_made (side := side) hd0 hno hr hyy hbt hs
           refine' ret _ [_, _] _ _ ?c1 ?c2 ?c3 ?c4
           (case c1 => assumption)
           (case c2 => refine' news_sub ?_ fun p hp => skip2 hp; assumption)
           (case c3 => exact lt2 (‹_ ∧ _ ∧ _ ∧ AllLt _ _›.2.2.2) (‹_ ∧ _ ∧ AllLt _ _›.2.2))
           (case c4 => rw [e]; exact ⟨_, _, _, _, rfl, List.mem_cons_self .., _, _, _, rfl, List.mem_cons_of_mem _ (List.mem_cons_self ..), _, _, _, rfl, hmk⟩))
        | (rename sort = 3 => hs
           have e := tell_fall (side := side) hd0 hno hr hyy hbt hs
           refine' ret _ [_] _ _ ?c1 ?c2 ?c3 ?c4
           (case c1 => assumption)
           (case c2 => refine' news_sub ?_ fun p hp => skip1 hp; assumption)
           (case c3 => exact lt1 (‹_ ∧ _ ∧ AllLt _ _›.2.2))
           (case c4 => rw [e]; exact ⟨_, _, _, rfl, List.mem_cons_self ..⟩))
        | (rename sort ≠ 0 => hs0
           rename sort ≠ 1 => hs1
           rename sort ≠ 3 => hs3
           have e := tell_madeC (side := side) hd0 hno hr hyy hbt hs0 hs1 hs3
           refine' ret _ [_, _] _ _ ?c1 ?c2 ?c3 ?c4
           (case c1 => assumption)
           (case c2 => refine' news_sub ?_ fun p hp => skip2 hp; assumption)
           (case c3 => exact lt2 (‹_ ∧ _ ∧ _ ∧ AllLt _ _›.2.2.2) (‹_ ∧ _ ∧ AllLt _ _›.2.2))
           (case c4 => rw [e]; exact ⟨_, _, _, _, rfl, List.mem_cons_self .., _, _, _, rfl, List.mem_cons_of_mem _ (List.mem_cons_self ..), _, _, _, _, congrArg (fun x => [_, _, _, Value.str x _]) (conv_str hside).symm, hmk⟩))
    · rintro h tk u news₁ ⟨rfl, hno⟩ F₁ N₁
      k_steps
      refine' ret _ [_, _] _ _ ?c1 ?c2 ?c3 ?c4
      (case c1 => assumption)
      (case c2 => assumption)
      (case c3 => exact lt2 (‹_ ∧ AllLt _ _›.2) (allLt_of ‹∀ p ∈ news₁, p.1 < _›))
      (case c4 =>
        have hfy := firstYes_none (n := n) (by rw [hrows.length] at hno; exact hno)
        have : tellR rows dir side n = some (.fall side n) := by simp [tellR, hd0, hfy]
        rw [this]
        exact ⟨_, _, _, _, rfl, List.mem_cons_self .., _, _, _, rfl, List.mem_cons_of_mem _ (List.mem_cons_self ..), _, _, _, rfl⟩)
  · k_steps
    refine' ret _ [_] _ _ ?c1 ?c2 ?c3 ?c4
    (case c1 => assumption)
    (case c2 => assumption)
    (case c3 => exact lt1 (allLt_of ‹∀ p ∈ news, p.1 < _›))
    (case c4 =>
      have : tellR rows dir side n = some (.direct mk) := by simp [tellR, hd0]
      rw [this]
      exact ⟨_, _, _, _, rfl, List.mem_cons_self .., hav.mono (SubL.cons SubL.rfl)⟩)
end Mine
theorem Mine.calmUP : True := by
  w_top off
  trivial
namespace Mine
def Imm (o : Obj) : Prop := match o.data with
  | .seq _ _ => o.cls = .type "tuple"
  | .fields vs => (∃ q t, vs[1]? = some (.str q t)) ∨ o.cls = .type "method"
  | .cell _ => True
  | .func _ => True
  | .plain => True
  | _ => False
def SubI (a b : Led) : Prop := ∀ p ∈ a, Imm p.2 → p ∈ b
def Kp (ms : List Addr) (a b : Led) : Prop := ∀ p ∈ a, p.1 ∉ ms → p ∈ b
structure Step (ms : List Addr) (a b : Led) : Prop where
  imm : SubI a b
  kp : Kp ms a b
theorem Step.refl {a : Led} : Step [] a a := ⟨fun _ h _ => h, fun _ h _ => h⟩
theorem Step.of_sub {a b : Led} (h : SubL a b) : Step [] a b := ⟨fun p hp _ => h p hp, fun p hp _ => h p hp⟩
theorem Step.trans {ms ms' : List Addr} {a b c : Led} (x : Step ms a b) (y : Step ms' b c) : Step (ms ++ ms') a c :=
  ⟨fun p hp hi => y.imm p (x.imm p hp hi) hi, fun p hp hn => y.kp p (x.kp p hp fun h => hn (List.mem_append_left _ h)) fun h => hn (List.mem_append_right _ h)⟩
theorem Step.more {ms ms' : List Addr} {a b : Led} (x : Step ms a b) (h : ∀ d ∈ ms, d ∈ ms') : Step ms' a b := ⟨x.imm, fun p hp hn => x.kp p hp fun q => hn (h _ q)⟩
theorem Step.mem {ms : List Addr} {a b : Led} (x : Step ms a b) {p : Addr × Obj} (h : p ∈ a) (hn : p.1 ∉ ms) : p ∈ b := x.kp p h hn
theorem imm_tup {vs : List Value} {n : Nat} : Imm (tupO vs n) := rfl
theorem imm_lam {a b : Str} {c d e f g h i} : Imm (kla_obj a b c d e f g h i) := True.intro
theorem imm_inst {C d : Addr} : Imm (instObj C d) := True.intro
theorem imm_meth {f x : Value} : Imm (methodObj f x) := .inr rfl
theorem imm_code {o : Obj} {vs : Array Value} {q : Str} {t : Tok} (k : o.data = .fields vs) (h : vs[1]? = some (.str q t)) : Imm o := by unfold Imm; rw [k]; exact .inl ⟨q, t, h⟩
theorem imm_cell {o : Obj} {v : Option Value} (k : o.data = .cell v) : Imm o := by unfold Imm; rw [k]; trivial
theorem CodeIn.step {ms : List Addr} {a b : Led} {c : Addr} {q : Str} (h : CodeIn a c q) (k : Step ms a b) : CodeIn b c q := let ⟨oc, vs, t, h1, h2, h3⟩ := h; ⟨oc, vs, t, k.imm _ h1 (imm_code h2 h3), h2, h3⟩
theorem LamF.step {ms : List Addr} {a b : Led} {i : Nat} {q : Str} {cl : List (Str × Addr)} {f : Addr} (h : LamF a i q cl f) (k : Step ms a b) : LamF b i q cl f := let ⟨pm, c', ctv, h1, h2⟩ := h; ⟨pm, c', ctv, k.imm _ h1 imm_lam, h2.step k⟩
theorem CellIn.step {ms : List Addr} {a b : Led} {c : Addr} {v : Value} (h : CellIn a c v) (k : Step ms a b) : CellIn b c v := let ⟨o, h1, r⟩ := h; ⟨o, k.imm _ h1 (imm_cell r), r⟩
theorem PredIn.step {ms : List Addr} {a b : Led} {v : Value} {way : Int} (h : PredIn a v way) (k : Step ms a b) : PredIn b v way := let ⟨f, c, tk, e, h1, h2⟩ := h; ⟨f, c, tk, e, h1.step k, h2.step k⟩
theorem HandIn.step {ms : List Addr} {a b : Led} {v : Value} {so : Int} {mk : Mark} {gv tv : Value} (h : HandIn a v so mk gv tv) (k : Step ms a b) : HandIn b v so mk gv tv := by
  cases h with
  | plain h1 h2 => exact .plain (k.imm _ h1 imm_tup) h2
  | fac h1 h2 h3 => exact .fac (h1.step k) (h2.step k) h3
  | ext h1 h2 h3 => exact .ext (h1.step k) (h2.step k) h3
  | fall => exact .fall
theorem PairIn.step {ms : List Addr} {a b : Led} {v : Value} {r : Row} (h : PairIn a v r) (k : Step ms a b) : PairIn b v r := let ⟨t, pv, hv, gv, tv, n, e, h1, h2, h3, r⟩ := h; ⟨t, pv, hv, gv, tv, n, e, k.imm _ h1 imm_tup, h2.step k, h3.step k, r⟩
theorem RowIn.step {ms : List Addr} {a b : Led} {v : Value} {r : Row} (h : RowIn a v r) (k : Step ms a b) : RowIn b v r := let ⟨t, n, tw, ts, mv, e, h1, r⟩ := h; ⟨t, n, tw, ts, mv, e, k.imm _ h1 imm_tup, r⟩
theorem AnsIn.step {ms : List Addr} {a b : Led} {v : Value} {x : Ans} (h : AnsIn a v x) (k : Step ms a b) : AnsIn b v x := let ⟨t, vs, q, e, h1, r⟩ := h; ⟨t, vs, q, e, k.imm _ h1 imm_tup, r⟩
theorem DirIn.step {w : World} {ms : List Addr} {a b : Led} {D : Addr} {dir : List (Int × Mark)} (h : DirIn w a D dir) (k : Step ms a b) (hn : D ∉ ms) : DirIn w b D dir := let ⟨o, kvs, h1, h2, h3, h4⟩ := h; ⟨o, kvs, k.mem h1 hn, h2, h3, h4.mono fun _ _ q => ⟨q.1, q.2.step k⟩⟩
/-- the ledger after the object at d was changed -/
def upd (news : Led) (d : Addr) (o : Obj) : Led := (d, o) :: news.filter (fun p => p.1 ≠ d)
theorem upd_self {news : Led} {d : Addr} {o : Obj} : (d, o) ∈ upd news d o := List.mem_cons_self ..
theorem upd_keep {news : Led} {d : Addr} {o : Obj} {p : Addr × Obj} (h : p ∈ news) (hn : p.1 ≠ d) : p ∈ upd news d o := List.mem_cons_of_mem _ (List.mem_filter.mpr ⟨h, by simp [hn]⟩)
theorem upd_rest {news : Led} {d : Addr} : ∀ p ∈ news.filter (fun p => p.1 ≠ d), p.1 ≠ d := fun p hp => by simpa using (List.mem_filter.mp hp).2
theorem news_uniq {h₀ h : Heap} {L : Addr} {news : Led} (N : News h₀ L h news) {a : Addr} {o o' : Obj} (x : (a, o) ∈ news) (y : (a, o') ∈ news) : o = o' := Option.some.inj ((N _ x).1.symm.trans (N _ y).1)
theorem upd_step {h₀ h : Heap} {L : Addr} {news : Led} (N : News h₀ L h news) {d : Addr} {o o' : Obj} (hm : (d, o) ∈ news) (hi : ¬ Imm o) : Step [d] news (upd news d o') :=
  ⟨fun p hp q => upd_keep hp fun e => hi (by have := news_uniq N hm (show (d, p.2) ∈ news from e ▸ hp); rw [this]; exact q), fun p hp hn => upd_keep hp fun e => hn (List.mem_singleton.mpr e)⟩
theorem refocus {h₀ h : Heap} {L : Addr} {news : Led} (N : News h₀ L h news) {d : Addr} {o : Obj} (hm : (d, o) ∈ news) : News h₀ L h ((d, o) :: news.filter (fun p => p.1 ≠ d)) := fun p hp => by
  rcases List.mem_cons.mp hp with rfl | hp
  · exact N _ hm
  · exact N _ (List.mem_filter.mp hp).1
theorem not_imm_list {its : Array Value} {n : Nat} : ¬ Imm (listOf its n) := fun h => by have : Value.type "list" = Value.type "tuple" := h; simp at this
theorem not_imm_dict {w : World} {K : Type} [DecidableEq K] {knd : PySem.KeyKind PG w K} {o : Obj} {kvs : List (K × Value)} (h : o.IsDictOf knd kvs) : ¬ Imm o := fun q => by
  obtain ⟨es, ep, _, e, _⟩ := h
  unfold Imm at q
  rw [e] at q
  exact q
theorem not_imm_tab {ps : Array Value} (h : ∀ q t, ps[1]? ≠ some (.str q t)) : ¬ Imm (tabObj ps) := fun k => by
  rcases (show (∃ q t, ps[1]? = some (.str q t)) ∨ Value.none = .type "method" from k) with ⟨q, t, e⟩ | e
  · exact h q t e
  · cases e
theorem not_imm_dictOf {es : List DictEntry} {n : Nat} : ¬ Imm (dictOf es n) := fun h => h
section
variable {w : World} {A : Around} {E : Value → Shared → Prop} {s : Shared} {h₀ : Heap} {L D : Addr} {m : Str → Option Value} {news : Led} {its : List Value} {n : Nat}
theorem ins_abs {u : Tok} {y : Value} {Q : Value → Shared → Prop} (F : Fr h₀ L s.heap m) (N : News h₀ L s.heap news) (hm : (D, listOf its.toArray n) ∈ news) (hz : its.length ≤ sizeLine)
    (h : ∀ h', Fr h₀ L h' m → News h₀ L h' (upd news D (listOf (y :: its).toArray (n + 1))) → Step [D] news (upd news D (listOf (y :: its).toArray (n + 1))) → Q .none { s with heap := h' }) :
    wpAny (model PG w) A (call (.builtin "list.insert") [.ref D, .int 0 u, y]) Q E s :=
  kl_insert (its := its.toArray) (l := y :: its) F (refocus N hm) (by decide +kernel) (by simp [kl_ins]) (.head upd_rest) (by simpa using hz) fun h' F' N' => h h' F' N' (upd_step N hm not_imm_list)
theorem clr_abs {kvs : List (Int × Value)} {o : Obj} {Q : Value → Shared → Prop} (F : Fr h₀ L s.heap m) (N : News h₀ L s.heap news) (hm : (D, o) ∈ news) (hd : o.IsDictOf (PySem.intKind PG w) kvs) (hz : kvs.length ≤ sizeLine)
    (h : ∀ h' o', Fr h₀ L h' m → News h₀ L h' (upd news D o') → o'.IsDictOf (PySem.intKind PG w) [] → Step [D] news (upd news D o') → Q .none { s with heap := h' }) :
    wpAny (model PG w) A (call (.builtin "dict.clear") [.ref D]) Q E s :=
  call_clear_madeIn (enc := PyData.int) (own := []) F (refocus N hm) (fun _ h => nomatch h) upd_rest hd (fun h' o' F' N' hd' _ => h h' o' F' N' hd' (upd_step N hm (not_imm_dict hd))) hz
theorem clr_method {kvs : List (Int × Value)} {o : Obj} {pl : Sem Bool} {Q : Value × List Value → Shared → Prop} (N : News h₀ L s.heap news) (hm : (D, o) ∈ news) (hd : o.IsDictOf (PySem.intKind PG w) kvs) (h : Q (.builtin "dict.clear", [.ref D]) s) : wpAny (model PG w) A (getMethod (.ref D) "clear" pl) Q E s :=
  have hD := kda_dict N hm hd
  getMethod_builtin hD.typeIs PySem.F.plainAttrs_dict PySem.F.slot_dict_clear PySem.F.type_dict_clear hD.mapOf.noDict h
theorem setd_abs {kvs : List (Int × Value)} {o : Obj} {k : Int} {t : Tok} {v : Value} {Q : Unit → Shared → Prop} (F : Fr h₀ L s.heap m) (N : News h₀ L s.heap news) (hm : (D, o) ∈ news) (hd : o.IsDictOf (PySem.intKind PG w) kvs) (hz : kvs.length ≤ sizeLine)
    (h : ∀ h' o', Fr h₀ L h' m → News h₀ L h' (upd news D o') → o'.IsDictOf (PySem.intKind PG w) (PySem.stored kvs k v) → Step [D] news (upd news D o') → Q () { s with heap := h', toks := s.toks + 1 }) :
    wpAny (model PG w) A (setItem (.ref D) (.int k t) v) Q E s :=
  kda_set (knd := PySem.intKind _ _) F (refocus N hm) (.head upd_rest) hd (intKind_is _ _ _ _) hz fun h' o' F' N' hd' => h h' o' F' N' hd' (upd_step N hm (not_imm_dict hd))
def Pair2 (news : Led) (l : Addr) (f : Int → Addr) : Prop := ∃ n, (l, listOf #[.ref (f 0), .ref (f 1)] n) ∈ news
theorem set2_abs {f : Int → Addr} {j : Int} {t : Tok} {v : Addr} {Q : Unit → Shared → Prop} (F : Fr h₀ L s.heap m) (N : News h₀ L s.heap news) (hm : Pair2 news D f) (hj : j = 0 ∨ j = 1)
    (h : ∀ h' news', Fr h₀ L h' m → News h₀ L h' news' → Pair2 news' D (fun i => if i = j then v else f i) → Step [D] news news' → Q () { s with heap := h' }) :
    wpAny (model PG w) A (setItem (.ref D) (.int j t) (.ref v)) Q E s := by
  obtain ⟨n, hm⟩ := hm
  rcases hj with rfl | rfl
  · exact ki_set (its := #[_, _]) (q := [.ref v, .ref (f 1)]) F (refocus N hm) (by decide) (by decide) rfl (.head upd_rest) fun h' F' N' => h h' _ F' N' ⟨n, upd_self⟩ (upd_step N hm not_imm_list)
  · exact ki_set (its := #[_, _]) (q := [.ref (f 0), .ref v]) F (refocus N hm) (by decide) (by decide) rfl (.head upd_rest) fun h' F' N' => h h' _ F' N' ⟨n, upd_self⟩ (upd_step N hm not_imm_list)
theorem get2 {f : Int → Addr} {j : Int} {t : Tok} {value slice : PySem.Expr} {Q : Value → Shared → Prop} (N : News h₀ L s.heap news) (hm : Pair2 news D f) (hj : j = 0 ∨ j = 1) (h : Q (.ref (f j)) s)
    (hs : subscripted slice false (.ref D) (.int j t) = operate [.ref D, .int j t] (getItem (.ref D) (.int j t)) := by with_unfolding_all rfl) :
    wpAny (model PG w) A (subscriptTail value slice (.ref D) (.int j t)) Q E s := by
  obtain ⟨n, hm⟩ := hm
  have hl : s.heap.IsList D #[.ref (f 0), .ref (f 1)] := PySem.IsL.isList (n := n) (N _ hm).1
  refine tail_any hl.typeIs slot_list_getitem.lookup (wpAny_getItem_list (x := .ref (f j)) hl (by omega) (by omega) ?_ h) hs
  rcases hj with rfl | rfl <;> rfl
end
end Mine
theorem Mine.calmRG : True := by
  w_top off
  trivial
namespace Mine
abbrev fdO (h1 h2 : Int) (t1 t2 tcv : Tok) (side : Int) (P : Addr) (k : Nat) : Obj := dictOf [⟨h1, .str (Str.ofString "_converter") t1, .str (convS side) tcv⟩, ⟨h2, .str (Str.ofString "_handler_pairs") t2, .ref P⟩] k
theorem reg {w : World} {mean mg mb} {dp un gd cn ns ig ic mo a ccd cl outer A₀ base h₀ L m s} {news : Led} {Q E : Value → Shared → Prop} (B : Below A₀ base outer h₀) (F : Fr h₀ L s.heap m) (N : News h₀ L s.heap news) (T : Top topProg LL mean mg mb h₀) (hdp : dp + 5 < recursionLimit) (hu : un + 40 < cLine) (X : (hd.heap_39 w.params).In h₀)
  {Fa Fd P : Addr} {h1 h2 : Int} {t1 t2 tcv : Tok} {side : Int} {k np : Nat} {its : List Value} {pv hv gv tv : Value} {kw : List (Str × Value)}
  (hF : (Fa, instObj 61 Fd) ∈ news) (hFd : (Fd, fdO h1 h2 t1 t2 tcv side P k) ∈ news) (hP : (P, listOf its.toArray np) ∈ news) (hz : its.length ≤ sizeLine)
  (hkw : (kw = [] ∧ gv = .bool false ∧ tv = .bool false) ∨ (kw = [(Str.ofString "is_generator", gv)] ∧ tv = .bool false) ∨ kw = [(Str.ofString "is_generator", gv), (Str.ofString "takes_converter", tv)])
  (ret : ∀ t q h' tk', Fr h₀ L h' m → News h₀ L h' (upd ((t, tupO [pv, hv, gv, tv] q) :: news) P (listOf (.ref t :: its).toArray (np + 1))) → (∀ p ∈ news, p.1 < t) → Q .none { s with heap := h', toks := tk' }) :
 wpAny (model PySem.Challenge.rw_fe0065_01.row.prog w) (atTop dp un gd cn ns ig ic mo L a ccd cl outer) (call (.ref 36) [.ref Fa, pv, hv] kw) Q E s := by
  revert X; k_fill; intro X
  rcases hkw with ⟨rfl, rfl, rfl⟩ | ⟨rfl, rfl⟩ | rfl
  all_goals k_steps
  all_goals (refine' ins_abs ?iF ?iN ?im ?iz ?_; (case iF => k_asm); (case iN => k_asm); (case im => k_mem); (case iz => assumption); intro h' F' N' S'; (try dsimp only))
  all_goals k_steps
  all_goals (refine' ret _ _ _ _ ?c1 ?c2 ?c3; (case c1 => assumption); (case c2 => assumption); (case c3 => assumption))
end Mine
theorem Mine.calmMK : True := by
  w_top off
  trivial
namespace Mine
abbrev tab1 (l c : Int) (c' : Addr) : Obj := tabObj #[rawInt l, rawInt c, .ref c']
theorem mkP {w : World} {mean mg mb} {dp un gd cn ns ig ic mo a ccd cl outer A₀ base h₀ L m s} {news : Led} {Q E : Value → Shared → Prop} (B : Below A₀ base outer h₀) (F : Fr h₀ L s.heap m) (N : News h₀ L s.heap news) (T : Top topProg LL mean mg mb h₀) (hdp : dp + 5 < recursionLimit) (hu : un + 40 < cLine) (X : (hd.heap_39 w.params).In h₀) (C : CodeHd base 150 146) {mv : Value} {c' : Addr}
  (hT : (146, tab1 93 11 c') ∈ news) (hc : CodeIn news c' (qualOf "_law_predicate"))
  (ret : ∀ f c tl h' tk', Fr h₀ L h' m → News h₀ L h' (tl ++ news) → (∀ p ∈ tl, ∀ q ∈ news, q.1 < p.1) → LamF (tl ++ news) 5 (qualOf "_law_predicate") [(Str.ofString "way", c)] f → CellIn (tl ++ news) c mv → Q (.ref f) { s with heap := h', toks := tk' }) :
 wpAny (model PySem.Challenge.rw_fe0065_01.row.prog w) (atTop dp un gd cn ns ig ic mo L a ccd cl outer) (call (.ref 151) [mv]) Q E s := by
  revert X; k_fill; intro X
  k_steps
  have kN := ‹News h₀ L _ _›
  have hcell := ‹_ = Data.cell _›
  refine ret _ _ [_, _] _ _ (by assumption) kN (lt2 (‹_ ∧ AllLt _ news›.2) (allLt_of fun p hp => Nat.lt_succ_of_lt (‹∀ p ∈ news, p.1 < _› p hp))) ?_ ⟨_, List.mem_cons_of_mem _ (List.mem_cons_self ..), hcell⟩
  · unfold LamF
    rcases h5 : lamAt 5 with ⟨p5, b5, s5⟩
    conv at h5 => lhs; whnf
    cases h5
    dsimp only
    exact ⟨_, c', _, List.mem_cons_self .., hc.mono (SubL.cons (SubL.cons SubL.rfl))⟩
theorem mkF {w : World} {mean mg mb} {dp un gd cn ns ig ic mo a ccd cl outer A₀ base h₀ L m s} {news : Led} {Q E : Value → Shared → Prop} (B : Below A₀ base outer h₀) (F : Fr h₀ L s.heap m) (N : News h₀ L s.heap news) (T : Top topProg LL mean mg mb h₀) (hdp : dp + 5 < recursionLimit) (hu : un + 40 < cLine) (X : (hd.heap_39 w.params).In h₀) (C : CodeHd base 157 153) {mv : Value} {c' : Addr}
  (hT : (153, tab1 95 11 c') ∈ news) (hc : CodeIn news c' (qualOf "_law_factory"))
  (ret : ∀ f c tl h' tk', Fr h₀ L h' m → News h₀ L h' (tl ++ news) → (∀ p ∈ tl, ∀ q ∈ news, q.1 < p.1) → LamF (tl ++ news) 6 (qualOf "_law_factory") [(Str.ofString "mark", c)] f → CellIn (tl ++ news) c mv → Q (.ref f) { s with heap := h', toks := tk' }) :
 wpAny (model PySem.Challenge.rw_fe0065_01.row.prog w) (atTop dp un gd cn ns ig ic mo L a ccd cl outer) (call (.ref 158) [mv]) Q E s := by
  revert X; k_fill; intro X
  k_steps
  have kN := ‹News h₀ L _ _›
  have hcell := ‹_ = Data.cell _›
  refine ret _ _ [_, _] _ _ (by assumption) kN (lt2 (‹_ ∧ AllLt _ news›.2) (allLt_of fun p hp => Nat.lt_succ_of_lt (‹∀ p ∈ news, p.1 < _› p hp))) ?_ ⟨_, List.mem_cons_of_mem _ (List.mem_cons_self ..), hcell⟩
  · unfold LamF
    rcases h5 : lamAt 6 with ⟨p5, b5, s5⟩
    conv at h5 => lhs; whnf
    cases h5
    dsimp only
    exact ⟨_, c', _, List.mem_cons_self .., hc.mono (SubL.cons (SubL.cons SubL.rfl))⟩
theorem mkE {w : World} {mean mg mb} {dp un gd cn ns ig ic mo a ccd cl outer A₀ base h₀ L m s} {news : Led} {Q E : Value → Shared → Prop} (B : Below A₀ base outer h₀) (F : Fr h₀ L s.heap m) (N : News h₀ L s.heap news) (T : Top topProg LL mean mg mb h₀) (hdp : dp + 5 < recursionLimit) (hu : un + 40 < cLine) (X : (hd.heap_39 w.params).In h₀) (C : CodeHd base 171 167) {mv : Value} {c' : Addr}
  (hT : (167, tab1 99 11 c') ∈ news) (hc : CodeIn news c' (qualOf "_law_extended"))
  (ret : ∀ f c tl h' tk', Fr h₀ L h' m → News h₀ L h' (tl ++ news) → (∀ p ∈ tl, ∀ q ∈ news, q.1 < p.1) → LamF (tl ++ news) 8 (qualOf "_law_extended") [(Str.ofString "mark", c)] f → CellIn (tl ++ news) c mv → Q (.ref f) { s with heap := h', toks := tk' }) :
 wpAny (model PySem.Challenge.rw_fe0065_01.row.prog w) (atTop dp un gd cn ns ig ic mo L a ccd cl outer) (call (.ref 172) [mv]) Q E s := by
  revert X; k_fill; intro X
  k_steps
  have kN := ‹News h₀ L _ _›
  have hcell := ‹_ = Data.cell _›
  refine ret _ _ [_, _] _ _ (by assumption) kN (lt2 (‹_ ∧ AllLt _ news›.2) (allLt_of fun p hp => Nat.lt_succ_of_lt (‹∀ p ∈ news, p.1 < _› p hp))) ?_ ⟨_, List.mem_cons_of_mem _ (List.mem_cons_self ..), hcell⟩
  · unfold LamF
    rcases h5 : lamAt 8 with ⟨p5, b5, s5⟩
    conv at h5 => lhs; whnf
    cases h5
    dsimp only
    exact ⟨_, c', _, List.mem_cons_self .., hc.mono (SubL.cons (SubL.cons SubL.rfl))⟩
theorem filt_lt {news : Led} {t d : Addr} (h : t < d) (k : AllLt d (news.filter (fun p => p.1 ≠ t))) : ∀ p ∈ news, p.1 < d := fun p hp => by
  by_cases e : p.1 = t
  · rw [e]; exact h
  · exact allLt_all k p (List.mem_filter.mpr ⟨hp, by simp [e]⟩)
theorem mkB {w : World} {mean mg mb} {dp un gd cn ns ig ic mo a ccd cl outer A₀ base h₀ L m s} {news : Led} {Q E : Value → Shared → Prop} (B : Below A₀ base outer h₀) (F : Fr h₀ L s.heap m) (N : News h₀ L s.heap news) (T : Top topProg LL mean mg mb h₀) (hdp : dp + 5 < recursionLimit) (hu : un + 40 < cLine) (X : (hd.heap_39 w.params).In h₀) (C : CodeHd base 178 174) {mv : Value} {c' : Addr} {news0 : Led}
  (hT : (174, tab1 101 11 c') ∈ news) (hc : CodeIn news0 c' (qualOf "_law_fallback"))
  (ret : ∀ f c tl h' tk', Fr h₀ L h' m → News h₀ L h' (tl ++ news) → (∀ p ∈ tl, ∀ q ∈ news, q.1 < p.1) → LamF (tl ++ news0) 9 (qualOf "_law_fallback") [(Str.ofString "mark", c)] f → CellIn (tl ++ news0) c mv → Q (.ref f) { s with heap := h', toks := tk' }) :
 wpAny (model PySem.Challenge.rw_fe0065_01.row.prog w) (atTop dp un gd cn ns ig ic mo L a ccd cl outer) (call (.ref 179) [mv]) Q E s := by
  revert X; k_fill; intro X
  k_steps
  have kN := ‹News h₀ L _ _›
  have hcell := ‹_ = Data.cell _›
  refine ret _ _ [_, _] _ _ (by assumption) kN (lt2 (‹_ ∧ AllLt _ news›.2) (allLt_of fun p hp => Nat.lt_succ_of_lt (‹∀ p ∈ news, p.1 < _› p hp))) ?_ ⟨_, List.mem_cons_of_mem _ (List.mem_cons_self ..), hcell⟩
  · unfold LamF
    rcases h5 : lamAt 9 with ⟨p5, b5, s5⟩
    conv at h5 => lhs; whnf
    cases h5
    dsimp only
    exact ⟨_, c', _, List.mem_cons_self .., hc.mono (SubL.cons (SubL.cons SubL.rfl))⟩
theorem mkE0 {w : World} {mean mg mb} {dp un gd cn ns ig ic mo a ccd cl outer A₀ base h₀ L m s} {news : Led} {Q E : Value → Shared → Prop} (B : Below A₀ base outer h₀) (F : Fr h₀ L s.heap m) (N : News h₀ L s.heap news) (T : Top topProg LL mean mg mb h₀) (hdp : dp + 5 < recursionLimit) (hu : un + 40 < cLine) (X : (hd.heap_39 w.params).In h₀) (C : CodeHd base 171 167) {mv : Value}
  (hT : (167, tabObj #[]) ∈ news)
  (ret : ∀ f c c' tl h' tk', Fr h₀ L h' m → News h₀ L h' (tl ++ upd news 167 (tab1 99 11 c')) → (∀ p ∈ tl, ∀ q ∈ news, q.1 < p.1) → CodeIn (tl ++ upd news 167 (tab1 99 11 c')) c' (qualOf "_law_extended") → LamF (tl ++ upd news 167 (tab1 99 11 c')) 8 (qualOf "_law_extended") [(Str.ofString "mark", c)] f → CellIn (tl ++ upd news 167 (tab1 99 11 c')) c mv → Q (.ref f) { s with heap := h', toks := tk' }) :
 wpAny (model PySem.Challenge.rw_fe0065_01.row.prog w) (atTop dp un gd cn ns ig ic mo L a ccd cl outer) (call (.ref 172) [mv]) Q E s := by
  revert X; k_fill; intro X
  have N₂ := refocus N hT
  have hr : ∀ p ∈ news.filter (fun p => p.1 ≠ 167), p.1 ≠ 167 := upd_rest
  clear N
  k_steps
  have kN := ‹News h₀ L _ _›
  have hcell := ‹_ = Data.cell _›
  have hl0 := ‹_ ∧ _ ∧ AllLt _ _›
  have hlf := ‹_ < _›
  have hL := ‹167 < _ ∧ AllLt _ (List.filter _ _)›
  have k1 := filt_lt hl0.2.1 hl0.2.2
  have k2 := filt_lt hL.1 hL.2
  refine ret _ _ _ [_, _, _] _ _ (by assumption) kN ?_ ?_ ?_ ⟨_, List.mem_cons_of_mem _ (List.mem_cons_of_mem _ (List.mem_cons_self ..)), hcell⟩
  · intro p hp q hq
    rcases List.mem_cons.mp hp with rfl | hp
    · exact Nat.lt_trans (k1 q hq) hlf
    · rcases List.mem_cons.mp hp with rfl | hp
      · exact k1 q hq
      · rw [List.mem_singleton.mp hp]; exact Nat.lt_succ_of_lt (k2 q hq)
  · exact ⟨_, _, _, List.mem_cons_of_mem _ (List.mem_cons_self ..), by assumption, by assumption⟩
  · unfold LamF
    rcases h5 : lamAt 8 with ⟨p5, b5, s5⟩
    conv at h5 => lhs; whnf
    cases h5
    dsimp only
    exact ⟨_, _, _, List.mem_cons_self .., _, _, _, List.mem_cons_of_mem _ (List.mem_cons_self ..), by assumption, by assumption⟩
theorem mkP0 {w : World} {mean mg mb} {dp un gd cn ns ig ic mo a ccd cl outer A₀ base h₀ L m s} {news : Led} {Q E : Value → Shared → Prop} (B : Below A₀ base outer h₀) (F : Fr h₀ L s.heap m) (N : News h₀ L s.heap news) (T : Top topProg LL mean mg mb h₀) (hdp : dp + 5 < recursionLimit) (hu : un + 40 < cLine) (X : (hd.heap_39 w.params).In h₀) (C : CodeHd base 150 146) {mv : Value}
  (hT : (146, tabObj #[]) ∈ news)
  (ret : ∀ f c c' tl h' tk', Fr h₀ L h' m → News h₀ L h' (tl ++ upd news 146 (tab1 93 11 c')) → (∀ p ∈ tl, ∀ q ∈ news, q.1 < p.1) → CodeIn (tl ++ upd news 146 (tab1 93 11 c')) c' (qualOf "_law_predicate") → LamF (tl ++ upd news 146 (tab1 93 11 c')) 5 (qualOf "_law_predicate") [(Str.ofString "way", c)] f → CellIn (tl ++ upd news 146 (tab1 93 11 c')) c mv → Q (.ref f) { s with heap := h', toks := tk' }) :
 wpAny (model PySem.Challenge.rw_fe0065_01.row.prog w) (atTop dp un gd cn ns ig ic mo L a ccd cl outer) (call (.ref 151) [mv]) Q E s := by
  revert X; k_fill; intro X
  have N₂ := refocus N hT
  have hr : ∀ p ∈ news.filter (fun p => p.1 ≠ 146), p.1 ≠ 146 := upd_rest
  clear N
  k_steps
  have kN := ‹News h₀ L _ _›
  have hcell := ‹_ = Data.cell _›
  have hl0 := ‹_ ∧ _ ∧ AllLt _ _›
  have hlf := ‹_ < _›
  have hL := ‹146 < _ ∧ AllLt _ (List.filter _ _)›
  have k1 := filt_lt hl0.2.1 hl0.2.2
  have k2 := filt_lt hL.1 hL.2
  refine ret _ _ _ [_, _, _] _ _ (by assumption) kN ?_ ?_ ?_ ⟨_, List.mem_cons_of_mem _ (List.mem_cons_of_mem _ (List.mem_cons_self ..)), hcell⟩
  · intro p hp q hq
    rcases List.mem_cons.mp hp with rfl | hp
    · exact Nat.lt_trans (k1 q hq) hlf
    · rcases List.mem_cons.mp hp with rfl | hp
      · exact k1 q hq
      · rw [List.mem_singleton.mp hp]; exact Nat.lt_succ_of_lt (k2 q hq)
  · exact ⟨_, _, _, List.mem_cons_of_mem _ (List.mem_cons_self ..), by assumption, by assumption⟩
  · unfold LamF
    rcases h5 : lamAt 5 with ⟨p5, b5, s5⟩
    conv at h5 => lhs; whnf
    cases h5
    dsimp only
    exact ⟨_, _, _, List.mem_cons_self .., _, _, _, List.mem_cons_of_mem _ (List.mem_cons_self ..), by assumption, by assumption⟩
theorem mkF0 {w : World} {mean mg mb} {dp un gd cn ns ig ic mo a ccd cl outer A₀ base h₀ L m s} {news : Led} {Q E : Value → Shared → Prop} (B : Below A₀ base outer h₀) (F : Fr h₀ L s.heap m) (N : News h₀ L s.heap news) (T : Top topProg LL mean mg mb h₀) (hdp : dp + 5 < recursionLimit) (hu : un + 40 < cLine) (X : (hd.heap_39 w.params).In h₀) (C : CodeHd base 157 153) {mv : Value}
  (hT : (153, tabObj #[]) ∈ news)
  (ret : ∀ f c c' tl h' tk', Fr h₀ L h' m → News h₀ L h' (tl ++ upd news 153 (tab1 95 11 c')) → (∀ p ∈ tl, ∀ q ∈ news, q.1 < p.1) → CodeIn (tl ++ upd news 153 (tab1 95 11 c')) c' (qualOf "_law_factory") → LamF (tl ++ upd news 153 (tab1 95 11 c')) 6 (qualOf "_law_factory") [(Str.ofString "mark", c)] f → CellIn (tl ++ upd news 153 (tab1 95 11 c')) c mv → Q (.ref f) { s with heap := h', toks := tk' }) :
 wpAny (model PySem.Challenge.rw_fe0065_01.row.prog w) (atTop dp un gd cn ns ig ic mo L a ccd cl outer) (call (.ref 158) [mv]) Q E s := by
  revert X; k_fill; intro X
  have N₂ := refocus N hT
  have hr : ∀ p ∈ news.filter (fun p => p.1 ≠ 153), p.1 ≠ 153 := upd_rest
  clear N
  k_steps
  have kN := ‹News h₀ L _ _›
  have hcell := ‹_ = Data.cell _›
  have hl0 := ‹_ ∧ _ ∧ AllLt _ _›
  have hlf := ‹_ < _›
  have hL := ‹153 < _ ∧ AllLt _ (List.filter _ _)›
  have k1 := filt_lt hl0.2.1 hl0.2.2
  have k2 := filt_lt hL.1 hL.2
  refine ret _ _ _ [_, _, _] _ _ (by assumption) kN ?_ ?_ ?_ ⟨_, List.mem_cons_of_mem _ (List.mem_cons_of_mem _ (List.mem_cons_self ..)), hcell⟩
  · intro p hp q hq
    rcases List.mem_cons.mp hp with rfl | hp
    · exact Nat.lt_trans (k1 q hq) hlf
    · rcases List.mem_cons.mp hp with rfl | hp
      · exact k1 q hq
      · rw [List.mem_singleton.mp hp]; exact Nat.lt_succ_of_lt (k2 q hq)
  · exact ⟨_, _, _, List.mem_cons_of_mem _ (List.mem_cons_self ..), by assumption, by assumption⟩
  · unfold LamF
    rcases h5 : lamAt 6 with ⟨p5, b5, s5⟩
    conv at h5 => lhs; whnf
    cases h5
    dsimp only
    exact ⟨_, _, _, List.mem_cons_self .., _, _, _, List.mem_cons_of_mem _ (List.mem_cons_self ..), by assumption, by assumption⟩
theorem mkB0 {w : World} {mean mg mb} {dp un gd cn ns ig ic mo a ccd cl outer A₀ base h₀ L m s} {news : Led} {Q E : Value → Shared → Prop} (B : Below A₀ base outer h₀) (F : Fr h₀ L s.heap m) (N : News h₀ L s.heap news) (T : Top topProg LL mean mg mb h₀) (hdp : dp + 5 < recursionLimit) (hu : un + 40 < cLine) (X : (hd.heap_39 w.params).In h₀) (C : CodeHd base 178 174) {mv : Value}
  (hT : (174, tabObj #[]) ∈ news)
  (ret : ∀ f c c' tl h' tk', Fr h₀ L h' m → News h₀ L h' (tl ++ upd news 174 (tab1 101 11 c')) → (∀ p ∈ tl, ∀ q ∈ news, q.1 < p.1) → CodeIn tl c' (qualOf "_law_fallback") → LamF tl 9 (qualOf "_law_fallback") [(Str.ofString "mark", c)] f → CellIn tl c mv → Q (.ref f) { s with heap := h', toks := tk' }) :
 wpAny (model PySem.Challenge.rw_fe0065_01.row.prog w) (atTop dp un gd cn ns ig ic mo L a ccd cl outer) (call (.ref 179) [mv]) Q E s := by
  revert X; k_fill; intro X
  have N₂ := refocus N hT
  have hr : ∀ p ∈ news.filter (fun p => p.1 ≠ 174), p.1 ≠ 174 := upd_rest
  clear N
  k_steps
  have kN := ‹News h₀ L _ _›
  have hcell := ‹_ = Data.cell _›
  have hl0 := ‹_ ∧ _ ∧ AllLt _ _›
  have hlf := ‹_ < _›
  have hL := ‹174 < _ ∧ AllLt _ (List.filter _ _)›
  have k1 := filt_lt hl0.2.1 hl0.2.2
  have k2 := filt_lt hL.1 hL.2
  refine ret _ _ _ [_, _, _] _ _ (by assumption) kN ?_ ?_ ?_ ⟨_, List.mem_cons_of_mem _ (List.mem_cons_of_mem _ (List.mem_cons_self ..)), hcell⟩
  · intro p hp q hq
    rcases List.mem_cons.mp hp with rfl | hp
    · exact Nat.lt_trans (k1 q hq) hlf
    · rcases List.mem_cons.mp hp with rfl | hp
      · exact k1 q hq
      · rw [List.mem_singleton.mp hp]; exact Nat.lt_succ_of_lt (k2 q hq)
  · exact ⟨_, _, _, List.mem_cons_of_mem _ (List.mem_cons_self ..), by assumption, by assumption⟩
  · unfold LamF
    rcases h5 : lamAt 9 with ⟨p5, b5, s5⟩
    conv at h5 => lhs; whnf
    cases h5
    dsimp only
    exact ⟨_, _, _, List.mem_cons_self .., _, _, _, List.mem_cons_of_mem _ (List.mem_cons_self ..), by assumption, by assumption⟩
end Mine
theorem Mine.calmCM : True := by
  w_top off
  trivial
namespace Mine
def datM : Mark → Dat
  | .first => .str (Str.ofString "first")
  | .num i => .int i
def datA : Ans → Dat
  | .plain mk => .tuple [.str (Str.ofString "plain"), datM mk]
  | .made mk n => .tuple [.str (Str.ofString "made"), datM mk, .int n]
  | .madeC mk n side => .tuple [.str (Str.ofString "made"), datM mk, .int n, .str (convS side)]
  | .fall side n => .tuple [.str (Str.ofString "fallback"), .int side, .int n]
  | .direct mk => .tuple [.str (Str.ofString "direct"), datM mk]
def datT : Option Ans → List Dat
  | some a => [.str (Str.ofString "told"), datA a]
  | none => [.str (Str.ofString "raised"), .none]
theorem mark_dat {news : Led} {v : Value} {mk : Mark} (h : MarkV v mk) : DatIn news v (datM mk) := by
  cases mk with
  | first => obtain ⟨t, rfl⟩ := h; exact .str _ _
  | num i => obtain ⟨t, rfl⟩ := h; exact .int _ _
theorem ans_dat {news : Led} {v : Value} {a : Ans} (h : AnsIn news v a) : DatIn news v (datA a) := by
  obtain ⟨t, vs, k, rfl, hm, hv⟩ := h
  cases a with
  | plain mk => obtain ⟨_, _, rfl, h1⟩ := hv; exact .tuple hm (.cons (.str _ _) (.cons (mark_dat h1) .nil))
  | made mk n => obtain ⟨_, _, _, rfl, h1⟩ := hv; exact .tuple hm (.cons (.str _ _) (.cons (mark_dat h1) (.cons (.int _ _) .nil)))
  | madeC mk n side => obtain ⟨_, _, _, _, rfl, h1⟩ := hv; exact .tuple hm (.cons (.str _ _) (.cons (mark_dat h1) (.cons (.int _ _) (.cons (.str _ _) .nil))))
  | fall side n => obtain ⟨_, _, _, rfl⟩ := hv; exact .tuple hm (.cons (.str _ _) (.cons (.int _ _) (.cons (.int _ _) .nil)))
  | direct mk => obtain ⟨_, _, rfl, h1⟩ := hv; exact .tuple hm (.cons (.str _ _) (.cons (mark_dat h1) .nil))
theorem told_dat {news : Led} {v : Value} {x : Option Ans} (h : ToldIn news v x) : ∃ l its k, v = .ref l ∧ (l, listOf (List.toArray its) k) ∈ news ∧ DatAll news its (datT x) := by
  cases x with
  | none => obtain ⟨l, k, tt, rfl, hm⟩ := h; exact ⟨l, [_, _], k, rfl, hm, .cons (.str _ _) (.cons .none .nil)⟩
  | some a => obtain ⟨l, k, tt, tv, rfl, hm, ha⟩ := h; exact ⟨l, [_, _], k, rfl, hm, .cons (.str _ _) (.cons (ans_dat ha) .nil)⟩
theorem ok_str {n : Nat} {x : Str} (h : PyData.strOk x = true) : kqdOk n (.str x) = true := by cases n <;> exact h
theorem ok_int {n : Nat} {i : Int} : kqdOk n (.int i) = true := by cases n <;> rfl
theorem ok_mark {n : Nat} {mk : Mark} : kqdOk n (datM mk) = true := by
  cases mk with
  | first => exact ok_str (by decide +kernel)
  | num i => exact ok_int
theorem ok_conv {side : Int} : PyData.strOk (convS side) = true := by unfold convS; split <;> decide +kernel
theorem ok_all {n : Nat} {ds : List Dat} (h : ∀ d ∈ ds, kqdOk n d = true) : kqdOk (n + 1) (.tuple ds) = true := by
  show ds.all (kqdOk n) = true
  exact List.all_eq_true.mpr h
theorem ok_told {x : Option Ans} : ∀ d ∈ datT x, kqdOk 8 d = true := by
  cases x with
  | none =>
    intro d hd
    rcases List.mem_cons.mp hd with rfl | hd
    · exact ok_str (by decide +kernel)
    · rw [List.mem_singleton.mp hd]; rfl
  | some a =>
    intro d hd
    rcases List.mem_cons.mp hd with rfl | hd
    · exact ok_str (by decide +kernel)
    · rw [List.mem_singleton.mp hd]
      cases a with
      | plain mk => exact ok_all (List.forall_mem_cons.mpr ⟨ok_str (by decide +kernel), List.forall_mem_cons.mpr ⟨ok_mark, fun _ h => nomatch h⟩⟩)
      | made mk n => exact ok_all (List.forall_mem_cons.mpr ⟨ok_str (by decide +kernel), List.forall_mem_cons.mpr ⟨ok_mark, List.forall_mem_cons.mpr ⟨ok_int, fun _ h => nomatch h⟩⟩⟩)
      | madeC mk n side => exact ok_all (List.forall_mem_cons.mpr ⟨ok_str (by decide +kernel), List.forall_mem_cons.mpr ⟨ok_mark, List.forall_mem_cons.mpr ⟨ok_int, List.forall_mem_cons.mpr ⟨ok_str ok_conv, fun _ h => nomatch h⟩⟩⟩⟩)
      | fall side n => exact ok_all (List.forall_mem_cons.mpr ⟨ok_str (by decide +kernel), List.forall_mem_cons.mpr ⟨ok_int, List.forall_mem_cons.mpr ⟨ok_int, fun _ h => nomatch h⟩⟩⟩)
      | direct mk => exact ok_all (List.forall_mem_cons.mpr ⟨ok_str (by decide +kernel), List.forall_mem_cons.mpr ⟨ok_mark, fun _ h => nomatch h⟩⟩)
theorem cmpN {w : World} {A : Around} {E : Value → Shared → Prop} {s : Shared} {h₀ : Heap} {L : Addr} {news : Led} {v1 v2 : Value} {x : Option Ans} {Q : Value → Shared → Prop} (N : News h₀ L s.heap news) (h1 : ToldIn news v1 x) (h2 : ToldIn news v2 x) (hu : A.units + 64 < cLine) (h : Q (.bool false) s) : wpAny (model PG w) A (compareOp .NotEq v1 v2) Q E s := by
  obtain ⟨l1, i1, k1, rfl, m1, d1⟩ := told_dat h1
  obtain ⟨l2, i2, k2, rfl, m2, d2⟩ := told_dat h2
  refine kqd_ne N m1 rfl rfl d1 (fun _ h => h) m2 rfl rfl d2 (fun _ h => h) ok_told ok_told hu (by simpa using h)
end Mine
local macro_rules | `(tactic| walk_at "call ref") => `(tactic| (k_here; (with_reducible show wpAny _ _ (call (Value.ref 36) [_, _, _] _) _ _ _); k_dflt (refine' Mine.reg ?rgB ?rgF ?rgN ?rgT ?rgdp ?rgun ?rgX ?rghF ?rghFd ?rghP ?rgz ?rgkw ?_; (case rgF => k_asm); (case rgN => k_asm); (case rgB => k_asm); (case rgT => k_asm); (case rgdp => ktr_room); (case rgun => ktr_units); (case rgX => k_asm); (case rghF => k_mem); (case rghFd => k_mem); (case rghP => k_mem); (case rgz => assumption); (case rgkw => first | exact Or.inl ⟨rfl, rfl, rfl⟩ | exact Or.inr (Or.inl ⟨rfl, rfl⟩) | exact Or.inr (Or.inr rfl)); (intro t' q' h' tk' F' N' l1'; (try dsimp only)))))
local macro_rules | `(tactic| walk_at "getMethod ref") => `(tactic| (k_here; (with_reducible show wpAny _ _ (getMethod (Value.ref _) (Str.ofString "clear") _) _ _ _); k_dflt (refine' Mine.clr_method ?cmN ?cmp ?cmd ?_; (case cmN => k_asm); (case cmp => k_mem); (case cmd => assumption))))
local macro_rules | `(tactic| walk_at "call builtin:dict.clear") => `(tactic| (k_here; k_dflt (refine' Mine.clr_abs ?cxF ?cxN ?cxp ?cxd ?cxz ?_; (case cxF => k_asm); (case cxN => k_asm); (case cxp => k_mem); (case cxd => assumption); (case cxz => assumption); (intro h' o' F' N' hd' S'; (try dsimp only)))))
theorem Mine.calmRL : True := by
  w_top off
  trivial
namespace Mine
abbrev mdO (h1 h2 h3 h4 : Int) (t1 t2 t3 t4 : Tok) (fbk D Fa bm : Addr) (k : Nat) : Obj := dictOf [⟨h1, .str (Str.ofString "_fallback_factory") t1, .ref fbk⟩, ⟨h2, .str (Str.ofString "_direct_dispatch") t2, .ref D⟩, ⟨h3, .str (Str.ofString "_function_dispatch") t3, .ref Fa⟩, ⟨h4, .str (Str.ofString "dispatch") t4, .ref bm⟩] k
def EntIn (news : Led) (v : Value) (r : Row) : Prop := ∃ t pv hv gv tv n, v = .ref t ∧ (((t, tupO [pv, hv] n) ∈ news ∧ gv = .bool false ∧ tv = .bool false) ∨ ((t, tupO [pv, hv, gv] n) ∈ news ∧ (∃ b, gv = .bool b) ∧ tv = .bool false) ∨ ((t, tupO [pv, hv, gv] n) ∈ news ∧ (∃ tk, gv = .str (Str.ofString "extended") tk) ∧ tv = .bool true)) ∧ PredIn news pv r.way ∧ HandIn news hv r.sort r.mark gv tv ∧ 0 ≤ r.way ∧ r.way < 7
theorem EntIn.step {ms : List Addr} {a b : Led} {v : Value} {r : Row} (h : EntIn a v r) (k : Step ms a b) : EntIn b v r := by
  obtain ⟨t, pv, hv, gv, tv, n, e, h1, h2, h3, h4⟩ := h
  refine ⟨t, pv, hv, gv, tv, n, e, ?_, h2.step k, h3.step k, h4⟩
  rcases h1 with ⟨h1, q⟩ | ⟨h1, q⟩ | ⟨h1, q⟩
  · exact .inl ⟨k.imm _ h1 imm_tup, q⟩
  · exact .inr (.inl ⟨k.imm _ h1 imm_tup, q⟩)
  · exact .inr (.inr ⟨k.imm _ h1 imm_tup, q⟩)
theorem upd_step' {news : Led} {d : Addr} {o o' : Obj} (hm : ∀ o', (d, o') ∈ news → o' = o) (hi : ¬ Imm o) : Step [d] news (upd news d o') :=
  ⟨fun p hp q => upd_keep hp fun e => hi (by have := hm p.2 (e ▸ hp); rw [← this]; exact q), fun p hp hn => upd_keep hp fun e => hn (List.mem_singleton.mpr e)⟩
theorem ents_take {ents : List Row} {rows : List Row} {i : Nat} {r : Row} (h : ents[i]? = some r) : (ents.take (i + 1)).reverse ++ rows = r :: ((ents.take i).reverse ++ rows) := by
  rw [List.take_add_one, h]; simp
theorem reg_turn {h₀ h : Heap} {L : Addr} {news news₁ : Led} {P t I l : Addr} {oI lo tup : Obj} {x : Value} {its : List Value} {n np : Nat} (St : Step [P] news news₁) (hP : (P, listOf its.toArray np) ∈ news₁) (hI : ∀ p ∈ news₁, p.1 ≠ I) (hlP : l ≠ P)
    (N' : News h₀ L h (upd ((t, tup) :: (I, oI) :: (l, lo) :: news₁) P (listOf (x :: its).toArray n))) (N₁ : ∃ h, News h₀ L h ((I, oI) :: (l, lo) :: news₁)) (hlt : ∀ p ∈ ((I, oI) :: (l, lo) :: news₁ : Led), p.1 < t) :
    News h₀ L h ((I, oI) :: (l, lo) :: upd ((t, tup) :: news₁) P (listOf (x :: its).toArray n)) ∧ (∀ p ∈ upd ((t, tup) :: news₁) P (listOf (x :: its).toArray n), p.1 ≠ I) ∧ Step [P] news (upd ((t, tup) :: news₁) P (listOf (x :: its).toArray n)) ∧ Step [P] news₁ (upd ((t, tup) :: news₁) P (listOf (x :: its).toArray n)) ∧ (t, tup) ∈ upd ((t, tup) :: news₁) P (listOf (x :: its).toArray n) := by
  have hPI : P ≠ I := hI _ hP
  have htP : t ≠ P := fun e => Nat.lt_irrefl _ (e ▸ hlt _ (List.mem_cons_of_mem _ (List.mem_cons_of_mem _ hP)))
  obtain ⟨hh, N₁⟩ := N₁
  have st := upd_step' (news := (t, tup) :: news₁) (o' := listOf (x :: its).toArray n) (d := P) (o := listOf its.toArray np) (fun o' q => by
    rcases List.mem_cons.mp q with e | q
    · exact absurd (congrArg Prod.fst e).symm htP
    · exact news_uniq N₁ (List.mem_cons_of_mem _ (List.mem_cons_of_mem _ q)) (List.mem_cons_of_mem _ (List.mem_cons_of_mem _ hP))) not_imm_list
  have st2 : Step [P] news₁ (upd ((t, tup) :: news₁) P (listOf (x :: its).toArray n)) := ((Step.of_sub (SubL.cons SubL.rfl)).trans st).more fun d hd => by simpa using hd
  refine ⟨fun p hp => N' p ?_, fun p hp => ?_, (St.trans st2).more fun d hd => by simpa using hd, st2, upd_keep (List.mem_cons_self ..) htP⟩
  · rcases List.mem_cons.mp hp with rfl | hp
    · exact upd_keep (by simp) (Ne.symm hPI)
    · rcases List.mem_cons.mp hp with rfl | hp
      · exact upd_keep (by simp) hlP
      · rcases List.mem_cons.mp hp with rfl | hp
        · exact upd_self
        · have h1 := (List.mem_filter.mp hp).1
          refine upd_keep ?_ (upd_rest p hp)
          rcases List.mem_cons.mp h1 with rfl | h1
          · exact List.mem_cons_self ..
          · exact List.mem_cons_of_mem _ (List.mem_cons_of_mem _ (List.mem_cons_of_mem _ h1))
  · rcases List.mem_cons.mp hp with rfl | hp
    · exact hPI
    · rcases List.mem_cons.mp (List.mem_filter.mp hp).1 with rfl | h1
      · exact fun e => Nat.lt_irrefl _ (e ▸ hlt _ (List.mem_cons_self ..))
      · exact hI p h1
theorem regl {w : World} {mean mg mb} {dp un gd cn ns ig ic mo a ccd cl outer A₀ base h₀ L m s} {news : Led} {Q E : Value → Shared → Prop} (B : Below A₀ base outer h₀) (F : Fr h₀ L s.heap m) (N : News h₀ L s.heap news) (T : Top topProg LL mean mg mb h₀) (hdp : dp + 10 < recursionLimit) (hu : un + 80 < cLine) (X : (hd.heap_39 w.params).In h₀)
  {M Md bm fbk Fa Fd P D l : Addr} {h1 h2 h3 h4 h5 h6 : Int} {t1 t2 t3 t4 t5 t6 tc : Tok} {side : Int} {k k2 np nl : Nat} {its vs : List Value} {rows ents : List Row} {dir : List (Int × Mark)}
  (hM : (M, instObj 133 Md) ∈ news) (hMd : (Md, mdO h1 h2 h3 h4 t1 t2 t3 t4 fbk D Fa bm k) ∈ news) (hF : (Fa, instObj 61 Fd) ∈ news) (hFd : (Fd, fdO h5 h6 t5 t6 tc side P k2) ∈ news) (hP : (P, listOf its.toArray np) ∈ news) (hpr : All2 (PairIn news) its rows) (hD : DirIn w news D dir) (hl : (l, listOf vs.toArray nl) ∈ news) (hen : All2 (EntIn news) vs ents)
  (hz : rows.length + ents.length ≤ sizeLine) (hdz : dir.length ≤ sizeLine) (n1 : Md ≠ P) (n2 : Fd ≠ P) (n3 : D ≠ P) (n4 : l ≠ P)
  (ret : ∀ news' h' tk', Fr h₀ L h' m → News h₀ L h' news' → Step [P, D] news news' → (∃ its' n', (P, listOf its'.toArray n') ∈ news' ∧ All2 (PairIn news') its' (ents.reverse ++ rows)) → DirIn w news' D [] → Q .none { s with heap := h', toks := tk' }) :
 wpAny (model PySem.Challenge.rw_fe0065_01.row.prog w) (atTop dp un gd cn ns ig ic mo L a ccd cl outer) (call (.ref 101) [.ref M, .ref l]) Q E s := by
  revert X; k_fill; intro X
  k_steps
  refine' For_turns ?F ?_ ?hs ?hE
  (case F => k_asm)
  (case hs => intro _; rfl)
  (case hE => passes_own)
  walk1
  refine loopS ["tup", "func", "handler", "is_gen"] (fun i news₁ => Step [P] news news₁ ∧ ∃ its' n', (P, listOf its'.toArray n') ∈ news₁ ∧ All2 (PairIn news₁) its' ((ents.take i).reverse ++ rows)) rfl (by assumption) (by assumption) hl ⟨Step.refl.more (fun _ h => nomatch h), its, np, hP, by simpa using hpr⟩ ?_ ?_
  · rintro i v u news₁ h tk I oI hvi ⟨St, its₁, n₁, hP₁, hpr₁⟩ hI hlt F₁ N₁
    obtain ⟨r, hr, en⟩ := hen.get i v hvi
    have en₁ := en.step St
    obtain ⟨t, pv, hv, gv, tv, nn, rfl, hk, hpi, hha, hw0, hw7⟩ := en₁
    have hF₁ := St.imm _ hF imm_inst
    have hFd₁ := St.kp _ hFd (by simpa using n2)
    have hM₁ := St.imm _ hM imm_inst
    have hMd₁ := St.kp _ hMd (by simpa using n1)
    have hzz : its₁.length ≤ sizeLine := by
      rw [hpr₁.length, List.length_append, List.length_reverse, List.length_take]; omega
    clear hF hFd hM hMd hP
    rcases hk with ⟨htp, rfl, rfl⟩ | ⟨htp, ⟨b, rfl⟩, rfl⟩ | ⟨htp, ⟨tk9, rfl⟩, rfl⟩
    all_goals k_steps
    all_goals refine turnS_next ?_
    all_goals obtain ⟨q1, q2, q3, q4, q5⟩ := reg_turn St hP₁ hI n4 ‹News _ _ _ (upd _ _ _)› ⟨_, N₁⟩ (by assumption)
    all_goals (refine' ⟨_, _, _, _, rfl, ?c1, q1, q2, ?c4, q3, _, _, upd_self, ?c5⟩; (case c1 => assumption); (case c4 => (intro y hy; have hy' := hy; simp only [List.contains_cons, List.contains_nil, Bool.or_eq_false_iff, beq_eq_false_iff_ne] at hy'; obtain ⟨a1, a2, a3, a4, _⟩ := hy'; simp only [a1, a2, a3, a4, if_false]; simp only [hy]; rfl)); (case c5 => (rw [ents_take hr]; exact .cons ⟨_, _, _, _, _, _, rfl, q5, hpi.step q4, hha.step q4, hw0, hw7⟩ (hpr₁.mono fun _ _ q => q.step q4))))
  · rintro h tk u news₁ ⟨St, its₁, n₁, hP₁, hpr₁⟩ F₁ N₁
    have hM₁ := St.imm _ hM imm_inst
    have hMd₁ := St.kp _ hMd (by simpa using n1)
    obtain ⟨oD, kvs, hD1, hlo, hkv, hdir⟩ := hD.step St (by simpa using n3)
    have hdz₁ : kvs.length ≤ sizeLine := by rw [hdir.length]; exact hdz
    clear hF hFd hM hMd hP
    k_steps
    have S₂ := ‹Step [D] _ _›
    refine' ret _ _ _ ?c1 ?c2 ((St.trans S₂).more fun d hd => by simpa using hd) ⟨_, _, S₂.kp _ hP₁ (by simpa using Ne.symm n3), ?c3⟩ ⟨_, [], upd_self, hlo, ‹Obj.IsDictOf _ _ []›, .nil⟩
    (case c1 => assumption)
    (case c2 => assumption)
    (case c3 =>
      rw [hen.length, List.take_length] at hpr₁
      exact hpr₁.mono fun _ _ q => q.step S₂)
end Mine
theorem Mine.calmIN : True := by
  w_top off
  trivial
namespace Mine
structure SideA where
  M : Addr
  Md : Addr
  Fa : Addr
  Fd : Addr
  P : Addr
  D : Addr
  R : Addr
  E : Addr
  rows : List Row
  dir : List (Int × Mark)
def GA (news : Led) (j : Int) (x : SideA) : Prop := ∃ (bm fbk c : Addr) (h1 h2 h3 h4 : Int) (t1 t2 t3 t4 ts : Tok) (k : Nat), (x.M, instObj 133 x.Md) ∈ news ∧ (x.Md, mdO h1 h2 h3 h4 t1 t2 t3 t4 fbk x.D x.Fa bm k) ∈ news ∧
  (bm, methodObj (.ref 86) (.ref x.M)) ∈ news ∧ LamF news 9 (qualOf "_law_fallback") [(Str.ofString "mark", c)] fbk ∧ CellIn news c (.int j ts) ∧ (x.Fa, instObj 61 x.Fd) ∈ news
def GF (news : Led) (j : Int) (x : SideA) : Prop := ∃ (h5 h6 : Int) (t5 t6 tc : Tok) (k2 : Nat), (x.Fd, fdO h5 h6 t5 t6 tc j x.P k2) ∈ news
def GP (news : Led) (P : Addr) (rows : List Row) : Prop := ∃ its n, (P, listOf (List.toArray its) n) ∈ news ∧ All2 (PairIn news) its rows
def GR (news : Led) (R : Addr) (rows : List Row) : Prop := ∃ its n, (R, listOf (List.toArray its) n) ∈ news ∧ All2 (RowIn news) its rows
structure GT (tag : Addr → Int) (j : Int) (x : SideA) : Prop where
  md : tag x.Md = 10 * j
  fd : tag x.Fd = 10 * j + 1
  p : tag x.P = 10 * j + 2
  d : tag x.D = 10 * j + 3
  r : tag x.R = 10 * j + 4
  e : tag x.E = 10 * j + 5
structure SideG (w : World) (news : Led) (tag : Addr → Int) (j : Int) (x : SideA) : Prop where
  a : GA news j x
  f : GF news j x
  p : GP news x.P x.rows
  d : DirIn w news x.D x.dir
  r : GR news x.R x.rows
  e : DirIn w news x.E x.dir
  t : GT tag j x
theorem SideG.toIn {w : World} {news : Led} {tag : Addr → Int} {j : Int} {x : SideA} (h : SideG w news tag j x) : SideIn w news x.M x.Fa x.Fd x.P x.D j x.rows x.dir := by
  obtain ⟨⟨bm, fbk, c, h1, h2, h3, h4, t1, t2, t3, t4, ts, k, a1, a2, a3, a4, a5, a6⟩, ⟨h5, h6, t5, t6, tc, k2, f1⟩, ⟨its, np, p1, p2⟩, hd, _, _, _⟩ := h
  exact ⟨_, bm, fbk, c, h1, h2, h3, h4, t1, t2, t3, t4, k, h5, h6, t5, t6, tc, k2, its, np, ts, a1, a2, a3, a4, a5, a6, f1, p1, p2, hd⟩
section
variable {w : World} {ms : List Addr} {news news' : Led} {j : Int} {x : SideA} {tag : Addr → Int}
theorem GA.step (h : GA news j x) (S : Step ms news news') (hn : x.Md ∉ ms) : GA news' j x := by
  obtain ⟨bm, fbk, c, h1, h2, h3, h4, t1, t2, t3, t4, ts, k, a1, a2, a3, a4, a5, a6⟩ := h
  exact ⟨bm, fbk, c, h1, h2, h3, h4, t1, t2, t3, t4, ts, k, S.imm _ a1 imm_inst, S.kp _ a2 hn, S.imm _ a3 imm_meth, a4.step S, a5.step S, S.imm _ a6 imm_inst⟩
theorem GF.step (h : GF news j x) (S : Step ms news news') (hn : x.Fd ∉ ms) : GF news' j x := by
  obtain ⟨h5, h6, t5, t6, tc, k2, f1⟩ := h
  exact ⟨h5, h6, t5, t6, tc, k2, S.kp _ f1 hn⟩
theorem GP.step {P : Addr} {rows : List Row} (h : GP news P rows) (S : Step ms news news') (hn : P ∉ ms) : GP news' P rows := by
  obtain ⟨its, n, h1, h2⟩ := h
  exact ⟨its, n, S.kp _ h1 hn, h2.mono fun _ _ q => q.step S⟩
theorem GR.step {R : Addr} {rows : List Row} (h : GR news R rows) (S : Step ms news news') (hn : R ∉ ms) : GR news' R rows := by
  obtain ⟨its, n, h1, h2⟩ := h
  exact ⟨its, n, S.kp _ h1 hn, h2.mono fun _ _ q => q.step S⟩
/-- no address of ms carries the tag k -/
def NoTag (tag : Addr → Int) (ms : List Addr) (k : Int) : Prop := ∀ d ∈ ms, tag d ≠ k
theorem NoTag.not {a : Addr} {k : Int} (h : NoTag tag ms k) (e : tag a = k) : a ∉ ms := fun q => h a q e
theorem SideG.step (h : SideG w news tag j x) (S : Step ms news news') (hn : ∀ k, 10 * j ≤ k → k ≤ 10 * j + 5 → NoTag tag ms k) : SideG w news' tag j x :=
  ⟨h.a.step S ((hn _ (by omega) (by omega)).not h.t.md), h.f.step S ((hn _ (by omega) (by omega)).not h.t.fd), h.p.step S ((hn _ (by omega) (by omega)).not h.t.p), h.d.step S ((hn _ (by omega) (by omega)).not h.t.d), h.r.step S ((hn _ (by omega) (by omega)).not h.t.r), h.e.step S ((hn _ (by omega) (by omega)).not h.t.e), h.t⟩
theorem Pair2.step {l : Addr} {f : Int → Addr} (h : Pair2 news l f) (S : Step ms news news') (hn : l ∉ ms) : Pair2 news' l f := let ⟨n, h1⟩ := h; ⟨n, S.kp _ h1 hn⟩
theorem Pair2.congr {l : Addr} {f g : Int → Addr} (h : Pair2 news l f) (h0 : f 0 = g 0) (h1 : f 1 = g 1) : Pair2 news l g := let ⟨n, q⟩ := h; ⟨n, by rw [← h0, ← h1]; exact q⟩
def TabH (news : Led) (a : Addr) (l : Int) (q : String) : Prop := ∃ c', (a, tab1 l 11 c') ∈ news ∧ CodeIn news c' (qualOf q)
theorem TabH.step {a : Addr} {l : Int} {q : String} (h : TabH news a l q) (S : Step ms news news') (hn : a ∉ ms) : TabH news' a l q := let ⟨c', h1, h2⟩ := h; ⟨c', S.kp _ h1 hn, h2.step S⟩
def TabE (news : Led) : Prop := (167, tabObj #[]) ∈ news ∨ TabH news 167 99 "_law_extended"
theorem TabE.step (h : TabE news) (S : Step ms news news') (hn : 167 ∉ ms) : TabE news' := h.elim (fun h => .inl (S.kp _ h hn)) fun h => .inr (h.step S hn)
structure Inv (w : World) (news : Led) (tag : Addr → Int) (xs : Int → SideA) (Sl Rl El : Addr) (b : Nat) : Prop where
  sl : Pair2 news Sl (fun j => (xs j).M)
  tsl : tag Sl = 30
  rl : Pair2 news Rl (fun j => (xs j).R)
  trl : tag Rl = 31
  el : Pair2 news El (fun j => (xs j).E)
  tel : tag El = 32
  side : ∀ j, j = 0 ∨ j = 1 → SideG w news tag j (xs j)
  tp : TabH news 146 93 "_law_predicate"
  ttp : tag 146 = 40
  tf : TabH news 153 95 "_law_factory"
  ttf : tag 153 = 41
  te : TabE news
  tte : tag 167 = 42
  lr : ∀ j, j = 0 ∨ j = 1 → (xs j).rows.length ≤ b
  ld : ∀ j, j = 0 ∨ j = 1 → (xs j).dir.length ≤ b
theorem Inv.step {xs : Int → SideA} {Sl Rl El : Addr} {b : Nat} (h : Inv w news tag xs Sl Rl El b) (S : Step [] news news') : Inv w news' tag xs Sl Rl El b :=
  have nn : ∀ a : Addr, a ∉ ([] : List Addr) := fun _ h => nomatch h
  ⟨h.sl.step S (nn _), h.tsl, h.rl.step S (nn _), h.trl, h.el.step S (nn _), h.tel, fun j hj => (h.side j hj).step S (fun _ _ _ _ hd => nomatch hd), h.tp.step S (nn _), h.ttp, h.tf.step S (nn _), h.ttf, h.te.step S (nn _), h.tte, h.lr, h.ld⟩
/-- one side replaced -/
def setX (xs : Int → SideA) (side : Int) (x : SideA) : Int → SideA := fun j => if j = side then x else xs j
/-- two new addresses tagged -/
def retag (tag : Addr → Int) (a : Addr) (k : Int) : Addr → Int := fun d => if d = a then k else tag d
theorem retag_old {a d : Addr} {k : Int} (h : d < a) : retag tag a k d = tag d := if_neg (Nat.ne_of_lt h)
theorem retag_new {a : Addr} {k : Int} : retag tag a k a = k := if_pos rfl
end
end Mine
theorem Mine.calmNM : True := by
  w_top off
  trivial
namespace Mine
theorem newM_close {w : World} {news news0 : Led} {h₀ h : Heap} {L q l x d d1 x1 d2 fbk c : Addr} {o : Obj} {h1 h2 h3 h4 h5 h6 j : Int} {t1 t2 t3 t4 t5 t6 tc ts : Tok} {k k2 n : Nat} {G : Prop}
  (N : News h₀ L h ((q, methodObj (.ref 86) (.ref x1)) :: (l, listOf #[] n) :: (x, instObj 61 d) :: (d, fdO h5 h6 t5 t6 tc j l k2) :: (d1, o) :: (x1, instObj 133 d2) :: (d2, mdO h1 h2 h3 h4 t1 t2 t3 t4 fbk d1 x q k) :: news))
  (hlo : (d1 == sysModules) = false) (hi : o.IsDictOf (PySem.intKind PG w) []) (hl : d2 < d1 ∧ d1 < d ∧ d < l ∧ ∀ p ∈ news, p.1 < d2) (hx1 : ∀ p ∈ news, p.1 < x1) (hx : ∀ p ∈ news, p.1 < x) (hq : ∀ p ∈ news, p.1 < q)
  (hfb : LamF news0 9 (qualOf "_law_fallback") [(Str.ofString "mark", c)] fbk) (hce : CellIn news0 c (.int j ts))
  (ret : ∀ (x : SideA) tl, News h₀ L h (tl ++ news) → GA (tl ++ news0) j x → GF (tl ++ news0) j x → GP (tl ++ news0) x.P [] → DirIn w (tl ++ news0) x.D [] → (x.Md < x.D ∧ x.D < x.Fd ∧ x.Fd < x.P ∧ ∀ q ∈ news, q.1 < x.Md) → (∀ p ∈ tl, ∀ q ∈ news, q.1 < p.1) → x.M = x1 → G) : G := by
  have hs : SubL news0 ([(q, methodObj (.ref 86) (.ref x1)), (l, listOf #[] n), (x, instObj 61 d), (d, fdO h5 h6 t5 t6 tc j l k2), (d1, o), (x1, instObj 133 d2), (d2, mdO h1 h2 h3 h4 t1 t2 t3 t4 fbk d1 x q k)] ++ news0) := fun p hp => List.mem_append_right _ hp
  refine ret ⟨x1, d2, x, d, l, d1, 0, 0, [], []⟩ [_, _, _, _, _, _, _] N ?_ ?_ ?_ ?_ hl (fun p hp y hy => by
    have g0 := hl.2.2.2 y hy
    have g1 := Nat.lt_trans g0 hl.1
    have g2 := Nat.lt_trans g1 hl.2.1
    have g3 := Nat.lt_trans g2 hl.2.2.1
    simp only [List.mem_cons, List.not_mem_nil, or_false] at hp
    rcases hp with rfl | rfl | rfl | rfl | rfl | rfl | rfl
    · exact hq y hy
    · exact g3
    · exact hx y hy
    · exact g2
    · exact g1
    · exact hx1 y hy
    · exact g0) rfl
  · refine ⟨q, fbk, c, h1, h2, h3, h4, t1, t2, t3, t4, ts, k, ?_, ?_, ?_, hfb.mono hs, hce.mono hs, ?_⟩
    · k_mem
    · k_mem
    · k_mem
    · k_mem
  · refine ⟨h5, h6, t5, t6, tc, k2, ?_⟩
    k_mem
  · refine ⟨[], n, ?_, .nil⟩
    k_mem
  · refine ⟨o, [], ?_, hlo, hi, .nil⟩
    k_mem
theorem newM {w : World} {mean mg mb} {dp un gd cn ns ig ic mo a ccd cl outer A₀ base h₀ L m s} {news : Led} {Q E : Value → Shared → Prop} (B : Below A₀ base outer h₀) (F : Fr h₀ L s.heap m) (N : News h₀ L s.heap news) (T : Top topProg LL mean mg mb h₀) (hdp : dp + 10 < recursionLimit) (hu : un + 80 < cLine) (X : (hd.heap_39 w.params).In h₀)
  {news0 : Led} {fbk c : Addr} {cv : Str} {tc ts : Tok} {j : Int} (hcv : cv = convS j) (hfb : LamF news0 9 (qualOf "_law_fallback") [(Str.ofString "mark", c)] fbk) (hce : CellIn news0 c (.int j ts))
  (ret : ∀ (x : SideA) tl h' tk', Fr h₀ L h' m → News h₀ L h' (tl ++ news) → GA (tl ++ news0) j x → GF (tl ++ news0) j x → GP (tl ++ news0) x.P [] → DirIn w (tl ++ news0) x.D [] → (x.Md < x.D ∧ x.D < x.Fd ∧ x.Fd < x.P ∧ ∀ q ∈ news, q.1 < x.Md) → (∀ p ∈ tl, ∀ q ∈ news, q.1 < p.1) → Q (.ref x.M) { s with heap := h', toks := tk' }) :
 wpAny (model PySem.Challenge.rw_fe0065_01.row.prog w) (atTop dp un gd cn ns ig ic mo L a ccd cl outer) (call (.ref 133) [.ref fbk, .str cv tc]) Q E s := by
  revert X; k_fill; intro X
  subst hcv
  k_steps
  have kN := ‹News h₀ L _ _›
  have l1 := ‹_ ∧ _ ∧ AllLt _ news›
  have l2 := ‹_ ∧ _ ∧ _ ∧ AllLt _ news›
  have l3 := ‹_ ∧ _ ∧ _ ∧ _ ∧ _ ∧ AllLt _ news›
  have l0 := ‹∀ p ∈ news, p.1 < _›
  refine newM_close kN (by assumption) (by assumption) ⟨l1.2.1, l2.1, l3.2.1, l0⟩ ?_ ?_ ?_ hfb hce fun x tl N1 a1 a2 a3 a4 a5 a6 e => e ▸ ret x tl _ _ (by assumption) N1 a1 a2 a3 a4 a5 a6
  · exact fun p hp => Nat.lt_trans (l0 p hp) (by assumption)
  · exact fun p hp => Nat.lt_trans (allLt_all l2.2.2.2 p hp) (by assumption)
  · exact allLt_all (‹_ ∧ _ ∧ _ ∧ _ ∧ _ ∧ _ ∧ AllLt _ news›.2.2.2.2.2.2)
end Mine
theorem Mine.calmSQ : True := by
  w_top off
  trivial
namespace Mine
section
variable {w : World} {A : Around} {E : Value → Shared → Prop} {s : Shared} {h₀ : Heap} {L D D2 : Addr} {m : Str → Option Value} {news : Led} {its its2 : List Value} {n n2 : Nat}
theorem len_abs {Q : Value → Shared → Prop} (N : News h₀ L s.heap news) (hm : (D, listOf its.toArray n) ∈ news) (hz : its.length ≤ sizeLine) (h : Q (.int its.length (s.toks + 1)) { s with toks := s.toks + 1 + 1 }) :
    wpAny (model PG w) A (call (.builtin "len") [.ref D]) Q E s := by
  have hz' : its.length ≤ 16777216 := hz
  refine PyProof.Rows.len_list (PySem.IsL.isList (n := n) (N _ hm).1) (by rw [List.size_toArray]; omega) ?_
  rw [List.size_toArray]; exact h
theorem cat_abs {Q : Value → Shared → Prop} (F : Fr h₀ L s.heap m) (N : News h₀ L s.heap news) (hm : (D, listOf its.toArray n) ∈ news) (hm2 : (D2, listOf its2.toArray n2) ∈ news) (hz : its.length + its2.length ≤ sizeLine)
    (h : ∀ D' h', Fr h₀ L h' m → News h₀ L h' ((D', listOf (its ++ its2).toArray 0) :: news) → (∀ p ∈ news, p.1 < D') → Q (.ref D') { s with heap := h' }) : wpAny (model PG w) A (binaryOp .Add (.ref D) (.ref D2)) Q E s :=
  kmk_add_lit F N (PySem.IsL.isList (n := n) (N _ hm).1) (PySem.IsL.isList (n := n2) (N _ hm2).1) rfl h hz
theorem pick_neg {k : Int} (hk : 0 < k) : slicePick its.toArray none (some (-k)) none = (its.take (its.length - k.toNat)).toArray := by
  have e : sliceBounds none (some (-k)) none its.toArray.size = (((0 : Nat) : Int), ((its.toArray.size - k.toNat : Nat) : Int), 1) := by
    simp only [sliceBounds, Option.getD_none, show (1 : Int) > 0 by decide, if_true, if_pos (show -k < 0 by omega)]
    congr 1
    congr 1
    omega
  rw [kmk_pick_nat _ e]
  show ((its.drop 0).take (its.toArray.size - k.toNat - 0)).toArray = _
  rw [List.drop_zero, Nat.sub_zero, List.size_toArray]
theorem pick_up {k : Int} (hk : 0 ≤ k) : slicePick its.toArray none (some k) none = (its.take k.toNat).toArray := by
  have e : sliceBounds none (some k) none its.toArray.size = (((0 : Nat) : Int), ((min k.toNat its.toArray.size : Nat) : Int), 1) := by
    simp only [sliceBounds, Option.getD_none, show (1 : Int) > 0 by decide, if_true, if_neg (show ¬ (k < 0) by omega)]
    congr 1
    congr 1
    omega
  rw [kmk_pick_nat _ e]
  show ((its.drop 0).take (min k.toNat its.toArray.size - 0)).toArray = _
  rw [List.drop_zero, Nat.sub_zero, List.size_toArray, kmk_take_min]
theorem cut_neg {value slice : PySem.Expr} {k : Int} {t : Tok} {Q : Value → Shared → Prop} (F : Fr h₀ L s.heap m) (N : News h₀ L s.heap news) (hm : (D, listOf its.toArray n) ∈ news) (hk : 0 < k)
    (h : ∀ D' h', Fr h₀ L h' m → News h₀ L h' ((D', listOf (its.take (its.length - k.toNat)).toArray 0) :: news) → (∀ p ∈ news, p.1 < D') → Q (.ref D') { s with heap := h' })
    (hs : subscripted slice false (.ref D) (.ref s.heap.objs.size) = operate [.ref s.heap.objs.size, .ref D] (getItem (.ref D) (.ref s.heap.objs.size))) (ht : ∀ r, letTemporaryGo value (.ref D) r = pure ()) (hz : its.length ≤ sizeLine) :
    wpAny (model PG w) A (subscriptTail value slice (.ref D) (.ref s.heap.objs.size)) Q E { s with heap := s.heap.push { cls := .type "slice", data := .fields #[.none, .int (-k) t, .none] } } := by
  refine kmk_slice F N (PySem.IsL.isList (n := n) (N _ hm).1) .none (.int _ _) (fun D' h' F' N' l => ?_) hs ht (by simpa using hz)
  rw [pick_neg hk] at N'
  exact h D' h' F' N' l
theorem cut_up {value slice : PySem.Expr} {k : Int} {t : Tok} {Q : Value → Shared → Prop} (F : Fr h₀ L s.heap m) (N : News h₀ L s.heap news) (hm : (D, listOf its.toArray n) ∈ news) (hk : 0 ≤ k)
    (h : ∀ D' h', Fr h₀ L h' m → News h₀ L h' ((D', listOf (its.take k.toNat).toArray 0) :: news) → (∀ p ∈ news, p.1 < D') → Q (.ref D') { s with heap := h' })
    (hs : subscripted slice false (.ref D) (.ref s.heap.objs.size) = operate [.ref s.heap.objs.size, .ref D] (getItem (.ref D) (.ref s.heap.objs.size))) (ht : ∀ r, letTemporaryGo value (.ref D) r = pure ()) (hz : its.length ≤ sizeLine) :
    wpAny (model PG w) A (subscriptTail value slice (.ref D) (.ref s.heap.objs.size)) Q E { s with heap := s.heap.push { cls := .type "slice", data := .fields #[.none, .int k t, .none] } } := by
  refine kmk_slice F N (PySem.IsL.isList (n := n) (N _ hm).1) .none (.int _ _) (fun D' h' F' N' l => ?_) hs ht (by simpa using hz)
  rw [pick_up hk] at N'
  exact h D' h' F' N' l
end
end Mine
local macro_rules | `(tactic| walk_at "setItem ref int") => `(tactic| (k_here; k_dflt (refine' Mine.setd_abs ?sdF ?sdN ?sdp ?sdd ?sdz ?_; (case sdF => k_asm); (case sdN => k_asm); (case sdp => k_mem); (case sdd => assumption); (case sdz => assumption); (intro h' o' F' N' hd' S'; (try dsimp only)))))
local macro_rules | `(tactic| walk_at "call builtin:len") => `(tactic| (k_here; (with_reducible show wpAny _ _ (call (Value.builtin "len") [Value.ref _]) _ _ _); k_dflt (refine' Mine.len_abs ?lnN ?lnp ?lnz ?_; (case lnN => k_asm); (case lnp => k_mem); (case lnz => assumption))))
local macro_rules | `(tactic| walk_at "binaryOp Add ref ref") => `(tactic| (k_here; k_dflt (refine' Mine.cat_abs ?ctF ?ctN ?ctp ?ctq ?ctz ?_; (case ctF => k_asm); (case ctN => k_asm); (case ctp => k_mem); (case ctq => k_mem); (case ctz => first | assumption | omega)); intro D' h' F' N' l1; (try k_lt l1); (try k_sweep)))
local macro_rules | `(tactic| walk_at "subscriptTail Attribute Slice ref ref") => `(tactic| (k_here; (with_reducible show wpAny _ _ (subscriptTail _ (PySem.Expr.Slice none (some _) none _) (Value.ref _) (Value.ref _)) _ _ _); k_dflt (first | (refine' Mine.cut_neg ?slF ?slN ?slm ?slk ?_ ?sls ?slt ?slz; (case slF => k_asm); (case slN => k_asm); (case slm => k_mem); (case slk => first | assumption | omega); (case sls => with_unfolding_all rfl); (case slt => (intro _; with_unfolding_all rfl)); (case slz => assumption)) | (refine' Mine.cut_up ?suF ?suN ?sum ?suk ?_ ?sus ?sut ?suz; (case suF => k_asm); (case suN => k_asm); (case sum => k_mem); (case suk => first | assumption | omega); (case sus => with_unfolding_all rfl); (case sut => (intro _; with_unfolding_all rfl)); (case suz => assumption))); intro D' h' F' N' l1; (try k_lt l1); (try k_sweep)))
local macro_rules | `(tactic| walk_at "subscriptTail Subscript Slice ref ref") => `(tactic| (k_here; (with_reducible show wpAny _ _ (subscriptTail _ (PySem.Expr.Slice none (some _) none _) (Value.ref _) (Value.ref _)) _ _ _); k_dflt (first | (refine' Mine.cut_neg ?slF ?slN ?slm ?slk ?_ ?sls ?slt ?slz; (case slF => k_asm); (case slN => k_asm); (case slm => k_mem); (case slk => first | assumption | omega); (case sls => with_unfolding_all rfl); (case slt => (intro _; with_unfolding_all rfl)); (case slz => assumption)) | (refine' Mine.cut_up ?suF ?suN ?sum ?suk ?_ ?sus ?sut ?suz; (case suF => k_asm); (case suN => k_asm); (case sum => k_mem); (case suk => first | assumption | omega); (case sus => with_unfolding_all rfl); (case sut => (intro _; with_unfolding_all rfl)); (case suz => assumption))); intro D' h' F' N' l1; (try k_lt l1); (try k_sweep)))
local macro_rules | `(tactic| walk_at "subscriptTail Slice ref ref") => `(tactic| (k_here; (with_reducible show wpAny _ _ (subscriptTail _ (PySem.Expr.Slice none (some _) none _) (Value.ref _) (Value.ref _)) _ _ _); k_dflt (first | (refine' Mine.cut_neg ?slF ?slN ?slm ?slk ?_ ?sls ?slt ?slz; (case slF => k_asm); (case slN => k_asm); (case slm => k_mem); (case slk => first | assumption | omega); (case sls => with_unfolding_all rfl); (case slt => (intro _; with_unfolding_all rfl)); (case slz => assumption)) | (refine' Mine.cut_up ?suF ?suN ?sum ?suk ?_ ?sus ?sut ?suz; (case suF => k_asm); (case suN => k_asm); (case sum => k_mem); (case suk => first | assumption | omega); (case sus => with_unfolding_all rfl); (case sut => (intro _; with_unfolding_all rfl)); (case suz => assumption))); intro D' h' F' N' l1; (try k_lt l1); (try k_sweep)))
local macro_rules | `(tactic| walk_at "subscriptTail") => `(tactic| (k_here; (with_reducible show wpAny _ _ (subscriptTail _ (PySem.Expr.Slice none (some _) none _) (Value.ref _) (Value.ref _)) _ _ _); k_dflt (first | (refine' Mine.cut_neg ?slF ?slN ?slm ?slk ?_ ?sls ?slt ?slz; (case slF => k_asm); (case slN => k_asm); (case slm => k_mem); (case slk => first | assumption | omega); (case sls => with_unfolding_all rfl); (case slt => (intro _; with_unfolding_all rfl)); (case slz => assumption)) | (refine' Mine.cut_up ?suF ?suN ?sum ?suk ?_ ?sus ?sut ?suz; (case suF => k_asm); (case suN => k_asm); (case sum => k_mem); (case suk => first | assumption | omega); (case sus => with_unfolding_all rfl); (case sut => (intro _; with_unfolding_all rfl)); (case suz => assumption))); intro D' h' F' N' l1; (try k_lt l1); (try k_sweep)))
theorem Mine.calmMU : True := by
  w_top off
  trivial
namespace Mine
theorem clrd {w : World} {mean mg mb} {dp un gd cn ns ig ic mo a ccd cl outer A₀ base h₀ L m s} {news : Led} {Q E : Value → Shared → Prop} (B : Below A₀ base outer h₀) (F : Fr h₀ L s.heap m) (N : News h₀ L s.heap news) (T : Top topProg LL mean mg mb h₀) (hdp : dp + 10 < recursionLimit) (hu : un + 80 < cLine) (X : (hd.heap_39 w.params).In h₀)
  {M Md bm fbk Fa D : Addr} {h1 h2 h3 h4 : Int} {t1 t2 t3 t4 : Tok} {k : Nat} {dir : List (Int × Mark)}
  (hM : (M, instObj 133 Md) ∈ news) (hMd : (Md, mdO h1 h2 h3 h4 t1 t2 t3 t4 fbk D Fa bm k) ∈ news) (hD : DirIn w news D dir) (hdz : dir.length ≤ sizeLine)
  (ret : ∀ news' h' tk', Fr h₀ L h' m → News h₀ L h' news' → Step [D] news news' → DirIn w news' D [] → Q .none { s with heap := h', toks := tk' }) :
 wpAny (model PySem.Challenge.rw_fe0065_01.row.prog w) (atTop dp un gd cn ns ig ic mo L a ccd cl outer) (call (.ref 108) [.ref M]) Q E s := by
  revert X; k_fill; intro X
  obtain ⟨oD, kvs, hD1, hlo, hkv, hdir⟩ := hD
  have hdz₁ : kvs.length ≤ sizeLine := by rw [hdir.length]; exact hdz
  k_steps
  have S₂ := ‹Step [D] _ _›
  refine' ret _ _ _ ?c1 ?c2 S₂ ⟨_, [], upd_self, hlo, ‹Obj.IsDictOf _ _ []›, .nil⟩
  (case c1 => assumption)
  (case c2 => assumption)
theorem clrc {w : World} {mean mg mb} {dp un gd cn ns ig ic mo a ccd cl outer A₀ base h₀ L m s} {news : Led} {Q E : Value → Shared → Prop} (B : Below A₀ base outer h₀) (F : Fr h₀ L s.heap m) (N : News h₀ L s.heap news) (T : Top topProg LL mean mg mb h₀) (hdp : dp + 10 < recursionLimit) (hu : un + 80 < cLine) (X : (hd.heap_39 w.params).In h₀)
  {M Md bm fbk Fa D : Addr} {h1 h2 h3 h4 : Int} {t1 t2 t3 t4 : Tok} {k : Nat} {dir : List (Int × Mark)}
  (hM : (M, instObj 133 Md) ∈ news) (hMd : (Md, mdO h1 h2 h3 h4 t1 t2 t3 t4 fbk D Fa bm k) ∈ news) (hD : DirIn w news D dir) (hdz : dir.length ≤ sizeLine)
  (ret : ∀ news' h' tk', Fr h₀ L h' m → News h₀ L h' news' → Step [D] news news' → DirIn w news' D [] → Q .none { s with heap := h', toks := tk' }) :
 wpAny (model PySem.Challenge.rw_fe0065_01.row.prog w) (atTop dp un gd cn ns ig ic mo L a ccd cl outer) (call (.ref 115) [.ref M]) Q E s := by
  revert X; k_fill; intro X
  obtain ⟨oD, kvs, hD1, hlo, hkv, hdir⟩ := hD
  have hdz₁ : kvs.length ≤ sizeLine := by rw [hdir.length]; exact hdz
  k_steps
  have S₂ := ‹Step [D] _ _›
  refine' ret _ _ _ ?c1 ?c2 S₂ ⟨_, [], upd_self, hlo, ‹Obj.IsDictOf _ _ []›, .nil⟩
  (case c1 => assumption)
  (case c2 => assumption)
theorem gnf {w : World} {mean mg mb} {dp un gd cn ns ig ic mo a ccd cl outer A₀ base h₀ L m s} {news : Led} {Q E : Value → Shared → Prop} (B : Below A₀ base outer h₀) (F : Fr h₀ L s.heap m) (N : News h₀ L s.heap news) (T : Top topProg LL mean mg mb h₀) (hdp : dp + 10 < recursionLimit) (hu : un + 80 < cLine) (X : (hd.heap_39 w.params).In h₀)
  {M Md bm fbk Fa Fd P D : Addr} {h1 h2 h3 h4 h5 h6 : Int} {t1 t2 t3 t4 t5 t6 tc : Tok} {side : Int} {k k2 np : Nat} {its : List Value}
  (hM : (M, instObj 133 Md) ∈ news) (hMd : (Md, mdO h1 h2 h3 h4 t1 t2 t3 t4 fbk D Fa bm k) ∈ news) (hF : (Fa, instObj 61 Fd) ∈ news) (hFd : (Fd, fdO h5 h6 t5 t6 tc side P k2) ∈ news) (hP : (P, listOf its.toArray np) ∈ news) (hz : its.length ≤ sizeLine)
  (ret : ∀ h' tk' tk, Fr h₀ L h' m → News h₀ L h' news → Q (.int its.length tk) { s with heap := h', toks := tk' }) :
 wpAny (model PySem.Challenge.rw_fe0065_01.row.prog w) (atTop dp un gd cn ns ig ic mo L a ccd cl outer) (call (.ref 122) [.ref M]) Q E s := by
  revert X; k_fill; intro X
  k_steps
  refine' ret _ _ _ ?c1 ?c2
  (case c1 => assumption)
  (case c2 => assumption)
def putD (dir : List (Int × Mark)) (k : Int) (mk : Mark) : List (Int × Mark) := if dir.any (fun km => km.1 = k) then dir.map (fun km => if km.1 = k then (km.1, mk) else km) else dir ++ [(k, mk)]
theorem putD_length {dir : List (Int × Mark)} {k : Int} {mk : Mark} : (putD dir k mk).length ≤ dir.length + 1 := by
  unfold putD; split <;> simp
theorem any_dir {news : Led} {kvs : List (Int × Value)} {dir : List (Int × Mark)} (h : All2 (fun (kv : Int × Value) (km : Int × Mark) => kv.1 = km.1 ∧ AnsIn news kv.2 (.direct km.2)) kvs dir) (k : Int) : kvs.any (fun kv => kv.1 = k) = dir.any (fun km => km.1 = k) := by
  induction h with
  | nil => rfl
  | cons r _ ih => simp only [List.any_cons, ih, r.1]
theorem dir_put {news : Led} {kvs : List (Int × Value)} {dir : List (Int × Mark)} (h : All2 (fun (kv : Int × Value) (km : Int × Mark) => kv.1 = km.1 ∧ AnsIn news kv.2 (.direct km.2)) kvs dir) {k : Int} {v : Value} {mk : Mark} (hv : AnsIn news v (.direct mk)) :
    All2 (fun (kv : Int × Value) (km : Int × Mark) => kv.1 = km.1 ∧ AnsIn news kv.2 (.direct km.2)) (PySem.stored kvs k v) (putD dir k mk) := by
  unfold PySem.stored putD
  rw [any_dir h k]
  split
  · rename_i hh
    clear hh
    induction h with
    | nil => exact .nil
    | @cons a b l m r _ ih =>
      refine .cons ?_ ih
      show (if a.1 = k then (a.1, v) else a).1 = (if b.1 = k then (b.1, mk) else b).1 ∧ AnsIn news (if a.1 = k then (a.1, v) else a).2 (.direct (if b.1 = k then (b.1, mk) else b).2)
      by_cases e : a.1 = k
      · rw [if_pos e, if_pos (by rw [← r.1]; exact e)]; exact ⟨r.1, hv⟩
      · rw [if_neg e, if_neg (by rw [← r.1]; exact e)]; exact r
  · exact h.append (.cons ⟨rfl, hv⟩ .nil)
def ClsIn (news : Led) (v : Value) (c : Int × Mark) : Prop := ∃ t n tk hv, v = .ref t ∧ (t, tupO [.int c.1 tk, hv] n) ∈ news ∧ AnsIn news hv (.direct c.2)
theorem ClsIn.step {ms : List Addr} {a b : Led} {v : Value} {c : Int × Mark} (h : ClsIn a v c) (k : Step ms a b) : ClsIn b v c := let ⟨t, n, tk, hv, e, h1, h2⟩ := h; ⟨t, n, tk, hv, e, k.imm _ h1 imm_tup, h2.step k⟩
def putAll (dir : List (Int × Mark)) (cs : List (Int × Mark)) : List (Int × Mark) := cs.foldl (fun d c => putD d c.1 c.2) dir
theorem putAll_length {cs : List (Int × Mark)} : ∀ {dir : List (Int × Mark)}, (putAll dir cs).length ≤ dir.length + cs.length := by
  induction cs with
  | nil => intro dir; exact Nat.le_refl _
  | cons c cs ih =>
    intro dir
    have h1 := ih (dir := putD dir c.1 c.2)
    have h2 := putD_length (dir := dir) (k := c.1) (mk := c.2)
    show (putAll (putD dir c.1 c.2) cs).length ≤ _
    simp only [List.length_cons]
    omega
theorem putAll_take {dir cs : List (Int × Mark)} {i : Nat} {c : Int × Mark} (h : cs[i]? = some c) : putAll dir (cs.take (i + 1)) = putD (putAll dir (cs.take i)) c.1 c.2 := by
  rw [List.take_add_one, h]; simp [putAll, List.foldl_append]
theorem cls_turn {w : World} {h₀ h : Heap} {L : Addr} {news news₁ : Led} {D I l : Addr} {oI lo o o' : Obj} {kvs : List (Int × Value)} (St : Step [D] news news₁) (hD : (D, o) ∈ news₁) (hdo : o.IsDictOf (PySem.intKind PG w) kvs) (hI : ∀ p ∈ news₁, p.1 ≠ I) (hlD : l ≠ D)
    (N' : News h₀ L h (upd ((I, oI) :: (l, lo) :: news₁) D o')) (N₁ : ∃ h, News h₀ L h ((I, oI) :: (l, lo) :: news₁)) :
    News h₀ L h ((I, oI) :: (l, lo) :: upd news₁ D o') ∧ (∀ p ∈ upd news₁ D o', p.1 ≠ I) ∧ Step [D] news (upd news₁ D o') ∧ Step [D] news₁ (upd news₁ D o') := by
  have hDI : D ≠ I := hI _ hD
  obtain ⟨hh, N₁⟩ := N₁
  have N₂ : News h₀ L hh news₁ := news_sub N₁ fun p hp => List.mem_cons_of_mem _ (List.mem_cons_of_mem _ hp)
  have st := upd_step (o' := o') N₂ hD (not_imm_dict hdo)
  refine ⟨fun p hp => N' p ?_, fun p hp => ?_, (St.trans st).more fun d hd => by simpa using hd, st⟩
  · rcases List.mem_cons.mp hp with rfl | hp
    · exact upd_keep (by simp) (Ne.symm hDI)
    · rcases List.mem_cons.mp hp with rfl | hp
      · exact upd_keep (by simp) hlD
      · rcases List.mem_cons.mp hp with rfl | hp
        · exact upd_self
        · exact upd_keep (List.mem_cons_of_mem _ (List.mem_cons_of_mem _ (List.mem_filter.mp hp).1)) (upd_rest p hp)
  · rcases List.mem_cons.mp hp with rfl | hp
    · exact hDI
    · exact hI p (List.mem_filter.mp hp).1
theorem clsl {w : World} {mean mg mb} {dp un gd cn ns ig ic mo a ccd cl outer A₀ base h₀ L m s} {news : Led} {Q E : Value → Shared → Prop} (B : Below A₀ base outer h₀) (F : Fr h₀ L s.heap m) (N : News h₀ L s.heap news) (T : Top topProg LL mean mg mb h₀) (hdp : dp + 10 < recursionLimit) (hu : un + 80 < cLine) (X : (hd.heap_39 w.params).In h₀)
  {M Md bm fbk Fa D l : Addr} {h1 h2 h3 h4 : Int} {t1 t2 t3 t4 : Tok} {k nl : Nat} {vs : List Value} {dir cs : List (Int × Mark)}
  (hM : (M, instObj 133 Md) ∈ news) (hMd : (Md, mdO h1 h2 h3 h4 t1 t2 t3 t4 fbk D Fa bm k) ∈ news) (hD : DirIn w news D dir) (hl : (l, listOf vs.toArray nl) ∈ news) (hcs : All2 (ClsIn news) vs cs) (hdz : dir.length + cs.length ≤ sizeLine) (n1 : Md ≠ D) (n2 : l ≠ D)
  (ret : ∀ news' h' tk', Fr h₀ L h' m → News h₀ L h' news' → Step [D] news news' → DirIn w news' D (putAll dir cs) → Q .none { s with heap := h', toks := tk' }) :
 wpAny (model PySem.Challenge.rw_fe0065_01.row.prog w) (atTop dp un gd cn ns ig ic mo L a ccd cl outer) (call (.ref 94) [.ref M, .ref l, .bool true]) Q E s := by
  revert X; k_fill; intro X
  k_steps
  refine' For_turns ?F ?_ ?hs ?hE
  (case F => k_asm)
  (case hs => intro _; rfl)
  (case hE => passes_own)
  walk1
  refine loopS ["cls", "handler"] (fun i news₁ => Step [D] news news₁ ∧ DirIn w news₁ D (putAll dir (cs.take i))) rfl (by assumption) (by assumption) hl ⟨Step.refl.more (fun _ h => nomatch h), hD⟩ ?_ ?_
  · rintro i v u news₁ h tk I oI hvi ⟨St, oD, kvs, hD1, hlo, hkv, hdir⟩ hI hlt F₁ N₁
    obtain ⟨⟨ck, cm⟩, hr, en⟩ := hcs.get i v hvi
    obtain ⟨t, n, tk9, hv, rfl, htp, han⟩ := en.step St
    have hM₁ := St.imm _ hM imm_inst
    have hMd₁ := St.kp _ hMd (by simpa using n1)
    have hzz : kvs.length ≤ sizeLine := by
      have h1 := putAll_length (dir := dir) (cs := cs.take i)
      rw [List.length_take] at h1
      rw [hdir.length]; omega
    clear hM hMd hD hl
    dsimp only at htp han
    have N₁c : ∃ h, News _ _ h _ := ⟨_, N₁⟩
    k_steps
    refine turnS_next ?_
    obtain ⟨q1, q2, q3, q4⟩ := cls_turn St hD1 hkv hI n2 ‹News _ _ _ (upd _ _ _)› N₁c
    refine' ⟨_, _, _, _, rfl, ?c1, q1, q2, ?c4, q3, _, _, upd_self, hlo, ‹Obj.IsDictOf _ _ (PySem.stored _ _ _)›, ?c5⟩
    (case c1 => assumption)
    (case c4 => (intro y hy; have hy' := hy; simp only [List.contains_cons, List.contains_nil, Bool.or_eq_false_iff, beq_eq_false_iff_ne] at hy'; obtain ⟨a1, a2, _⟩ := hy'; simp only [a1, a2, if_false]; simp only [hy]; rfl))
    (case c5 => (rw [putAll_take hr]; exact (dir_put hdir han).mono fun _ _ q => ⟨q.1, q.2.step q4⟩))
  · rintro h tk u news₁ ⟨St, hD1⟩ F₁ N₁
    clear hM hMd hD hl
    k_steps
    rw [hcs.length, List.take_length] at hD1
    refine' ret _ _ _ ?c1 ?c2 St hD1
    (case c1 => assumption)
    (case c2 => assumption)
end Mine
theorem Mine.calmCP : True := by
  w_top off
  trivial
namespace Mine
theorem put_hp {h1 h2 hsh : Int} {t1 t2 : Tok} {x y key v : Value} {n : Nat} : (putL (Str.ofString "_handler_pairs") hsh key v [⟨h1, .str (Str.ofString "_converter") t1, x⟩, ⟨h2, .str (Str.ofString "_handler_pairs") t2, y⟩], putN (Str.ofString "_handler_pairs") [⟨h1, .str (Str.ofString "_converter") t1, x⟩, ⟨h2, .str (Str.ofString "_handler_pairs") t2, y⟩] n) =
    ([⟨h1, .str (Str.ofString "_converter") t1, x⟩, ⟨h2, .str (Str.ofString "_handler_pairs") t2, v⟩], n) := by
  have a : (Value.str (Str.ofString "_converter") t1).isStr (Str.ofString "_handler_pairs") = false := by show (Str.ofString "_converter" == Str.ofString "_handler_pairs") = false; decide +kernel
  have b : (Value.str (Str.ofString "_handler_pairs") t2).isStr (Str.ofString "_handler_pairs") = true := by show (Str.ofString "_handler_pairs" == Str.ofString "_handler_pairs") = true; decide +kernel
  simp only [putL, putN, a, b, List.any_cons, List.any_nil, Bool.or_false, Bool.false_or, if_true]
  rfl
theorem copy_upd {h₀ h hx : Heap} {L : Addr} {news : Led} {d : Addr} {o o' : Obj} {x y : Addr × Obj} (N : News h₀ L h news) (hm : (d, o) ∈ news) (hi : ¬ Imm o) (ey : d ≠ y.1) (ex : d ≠ x.1) (N' : News h₀ L hx ((d, o') :: (x :: y :: news).filter (fun p => p.1 ≠ d))) :
    ∃ news', News h₀ L hx news' ∧ Step [d] news news' ∧ (d, o') ∈ news' ∧ x ∈ news' := by
  have st := upd_step' (news := x :: y :: news) (d := d) (o := o) (o' := o') (fun o2 q => by
    rcases List.mem_cons.mp q with e | q
    · exact absurd (congrArg Prod.fst e) ex
    · rcases List.mem_cons.mp q with e | q
      · exact absurd (congrArg Prod.fst e) ey
      · exact news_uniq N q hm) hi
  exact ⟨_, N', ((Step.of_sub (SubL.cons (SubL.cons SubL.rfl))).trans st).more fun d hd => by simpa using hd, upd_self, upd_keep (List.mem_cons_self ..) (Ne.symm ex)⟩
theorem fcopy {w : World} {mean mg mb} {dp un gd cn ns ig ic mo a ccd cl outer A₀ base h₀ L m s} {news : Led} {Q E : Value → Shared → Prop} (B : Below A₀ base outer h₀) (F : Fr h₀ L s.heap m) (N : News h₀ L s.heap news) (T : Top topProg LL mean mg mb h₀) (hdp : dp + 10 < recursionLimit) (hu : un + 80 < cLine) (X : (hd.heap_39 w.params).In h₀)
  {Fa Fd P Fa' Fd' P' : Addr} {h1 h2 h1' h2' : Int} {t1 t2 tcv t1' t2' tcv' tsk : Tok} {side side' skip : Int} {k np k' np' : Nat} {its its' : List Value}
  (hF : (Fa, instObj 61 Fd) ∈ news) (hFd : (Fd, fdO h1 h2 t1 t2 tcv side P k) ∈ news) (hP : (P, listOf its.toArray np) ∈ news)
  (hF' : (Fa', instObj 61 Fd') ∈ news) (hFd' : (Fd', fdO h1' h2' t1' t2' tcv' side' P' k') ∈ news) (hP' : (P', listOf its'.toArray np') ∈ news) (hz : its.length ≤ sizeLine) (hz2 : (its.take (its.length - skip.toNat)).length + its'.length ≤ sizeLine) (hk : 0 < skip)
  (ret : ∀ news' Pn k2 h' tk', Fr h₀ L h' m → News h₀ L h' news' → Step [Fd'] news news' → (Fd', fdO h1' h2' t1' t2' tcv' side' Pn k2) ∈ news' → (Pn, listOf (its.take (its.length - skip.toNat) ++ its').toArray 0) ∈ news' → (∀ p ∈ news, p.1 < Pn) → Q .none { s with heap := h', toks := tk' }) :
 wpAny (model PySem.Challenge.rw_fe0065_01.row.prog w) (atTop dp un gd cn ns ig ic mo L a ccd cl outer) (call (.ref 58) [.ref Fa, .ref Fa'] [(Str.ofString "skip", .int skip tsk)]) Q E s := by
  revert X; k_fill; intro X
  k_steps
  k_dflt (refine' set_dict ?k1 ?k2 (refocus ?k3 ?km) ?k4 ?k5 ?k6 ?k7 ?k8 ?k9 ?k10 ?k11 (.head upd_rest) ?k13 ?_; (case k1 => k_asm); (case k2 => k_asm); (case k3 => k_asm); (case km => exact List.mem_cons_of_mem _ (List.mem_cons_of_mem _ hFd')); (case k4 => k_inst); (case k5 => exact rfl); (case k6 => k_is); (case k7 => k_is); (case k8 => k_is); (case k9 => k_is); (case k10 => k_get); (case k11 => exact put_hp); (case k13 => exact Nat.le_of_ble_eq_true rfl); k_whole)
  intro h' F' N'
  k_steps
  have lD := ‹_ ∧ AllLt _ news›.2
  have l1 := ‹∀ p ∈ news, p.1 < _›
  have lx := allLt_all lD
  have ey := Nat.ne_of_lt (lx _ hFd')
  have ez := Nat.ne_of_lt (l1 _ hFd')
  obtain ⟨news', hN', hst, hfd, hpn⟩ := copy_upd (o' := fdO h1' h2' t1' t2' tcv' side' _ k') N hFd' not_imm_dictOf ez ey ‹News h₀ L _ _›
  refine' ret _ _ _ _ _ ?c1 ?c2 hst hfd hpn lx
  (case c1 => assumption)
  (case c2 => exact hN')
end Mine
local macro_rules | `(tactic| walk_at "call ref") => `(tactic| (k_here; (with_reducible show wpAny _ _ (call (Value.ref 58) [_, _] _) _ _ _); k_dflt (refine' Mine.fcopy ?fyB ?fyF ?fyN ?fyT ?fydp ?fyun ?fyX ?fyhF ?fyhFd ?fyhP ?fyhF2 ?fyhFd2 ?fyhP2 ?fyz ?fyz2 ?fyk ?_; (case fyF => k_asm); (case fyN => k_asm); (case fyB => k_asm); (case fyT => k_asm); (case fydp => ktr_room); (case fyun => ktr_units); (case fyX => k_asm); (case fyhF => k_mem); (case fyhFd => k_mem); (case fyhP => k_mem); (case fyhF2 => k_mem); (case fyhFd2 => k_mem); (case fyhP2 => k_mem); (case fyz => assumption); (case fyz2 => assumption); (case fyk => assumption); (intro news' Pn' k2' h' tk' F' N' S' hfd' hpn' lpn'; (try dsimp only)))))
theorem Mine.calmCQ : True := by
  w_top off
  trivial
namespace Mine
theorem mcopy {w : World} {mean mg mb} {dp un gd cn ns ig ic mo a ccd cl outer A₀ base h₀ L m s} {news : Led} {Q E : Value → Shared → Prop} (B : Below A₀ base outer h₀) (F : Fr h₀ L s.heap m) (N : News h₀ L s.heap news) (T : Top topProg LL mean mg mb h₀) (hdp : dp + 20 < recursionLimit) (hu : un + 160 < cLine) (X : (hd.heap_39 w.params).In h₀)
  {M Md bm fbk D M' Md' bm' fbk' D' Fa Fd P Fa' Fd' P' : Addr} {h1 h2 h1' h2' e1 e2 e3 e4 e1' e2' e3' e4' : Int} {t1 t2 tcv t1' t2' tcv' tsk u1 u2 u3 u4 u1' u2' u3' u4' : Tok} {side side' skip : Int} {k np k' np' kk kk' : Nat} {its its' : List Value} {dir : List (Int × Mark)}
  (hM : (M, instObj 133 Md) ∈ news) (hMd : (Md, mdO e1 e2 e3 e4 u1 u2 u3 u4 fbk D Fa bm kk) ∈ news) (hM' : (M', instObj 133 Md') ∈ news) (hMd' : (Md', mdO e1' e2' e3' e4' u1' u2' u3' u4' fbk' D' Fa' bm' kk') ∈ news)
  (hF : (Fa, instObj 61 Fd) ∈ news) (hFd : (Fd, fdO h1 h2 t1 t2 tcv side P k) ∈ news) (hP : (P, listOf its.toArray np) ∈ news)
  (hF' : (Fa', instObj 61 Fd') ∈ news) (hFd' : (Fd', fdO h1' h2' t1' t2' tcv' side' P' k') ∈ news) (hP' : (P', listOf its'.toArray np') ∈ news) (hz : its.length ≤ sizeLine) (hz2 : (its.take (its.length - skip.toNat)).length + its'.length ≤ sizeLine) (hk : 0 < skip)
  (hD : DirIn w news D' dir) (hdz : dir.length ≤ sizeLine) (n1 : Md' ≠ Fd') (n2 : D' ≠ Fd')
  (ret : ∀ news' Pn k2 h' tk', Fr h₀ L h' m → News h₀ L h' news' → Step [Fd', D'] news news' → (Fd', fdO h1' h2' t1' t2' tcv' side' Pn k2) ∈ news' → (Pn, listOf (its.take (its.length - skip.toNat) ++ its').toArray 0) ∈ news' → (∀ p ∈ news, p.1 < Pn) → DirIn w news' D' [] → Q .none { s with heap := h', toks := tk' }) :
 wpAny (model PySem.Challenge.rw_fe0065_01.row.prog w) (atTop dp un gd cn ns ig ic mo L a ccd cl outer) (call (.ref 130) [.ref M, .ref M', .int skip tsk]) Q E s := by
  revert X; k_fill; intro X
  k_steps
  have St := ‹Step [Fd'] news _›
  have hM1 := St.imm _ hM' imm_inst
  have hMd1 := St.kp _ hMd' (by simpa using n1)
  obtain ⟨oD, kvs, hD1, hlo, hkv, hdir⟩ := hD.step St (by simpa using n2)
  have hdz₁ : kvs.length ≤ sizeLine := by rw [hdir.length]; exact hdz
  have lpn := ‹∀ p ∈ news, p.1 < _›
  k_steps
  have S₂ := ‹Step [D'] _ _›
  obtain ⟨_, _, hDm, _⟩ := hD
  refine' ret _ _ _ _ _ ?c1 ?c2 ((St.trans S₂).more fun d hd => by simpa using hd) (S₂.kp _ (by assumption) (by simpa using Ne.symm n2)) (S₂.kp _ (by assumption) (by simpa using Ne.symm (Nat.ne_of_lt (lpn _ hDm)))) lpn ⟨_, [], upd_self, hlo, ‹Obj.IsDictOf _ _ []›, .nil⟩
  (case c1 => assumption)
  (case c2 => assumption)
end Mine
theorem Mine.calmLX : True := by
  w_top off
  trivial
namespace Mine
theorem SubL.app {a b tl : Led} (k : SubL a b) : SubL a (tl ++ b) := fun q hq => List.mem_append_right _ (k q hq)
theorem ToldIn.mono {a b : Led} {v : Value} {x : Option Ans} (h : ToldIn a v x) (k : SubL a b) : ToldIn b v x := by
  cases x with
  | none => obtain ⟨l, q, tt, e, h1⟩ := h; exact ⟨l, q, tt, e, k _ h1⟩
  | some a => obtain ⟨l, q, tt, tv, e, h1, h2⟩ := h; exact ⟨l, q, tt, tv, e, k _ h1, h2.mono k⟩
theorem Inv.sub {w : World} {news news' : Led} {tag : Addr → Int} {xs : Int → SideA} {Sl Rl El : Addr} {b : Nat} (h : Inv w news tag xs Sl Rl El b) (k : SubL news news') : Inv w news' tag xs Sl Rl El b := h.step (Step.of_sub k)
theorem fr_back {h₀ h₀' h : Heap} {L : Addr} {m : Str → Option Value} (T : KtsTurn [] h₀ h₀') (F : Fr h₀' L h m) : Fr h₀ L h m := ⟨F.ns, fun b o e => F.keep b o (T.other b o e (fun h => nomatch h)), by rw [← T.size]; exact F.above⟩
theorem news_back {h₀ h₀' h : Heap} {L : Addr} {news : Led} (T : KtsTurn [] h₀ h₀') (N : News h₀' L h news) : News h₀ L h news := fun p hp => ⟨(N p hp).1, (N p hp).2.1, by
  cases e : h₀.get? p.1 with
  | none => rfl
  | some o => have := T.other _ _ e (fun h => nomatch h); rw [(N p hp).2.2] at this; cases this⟩
section
variable {w : World} {mean : ExcName → Option Value} {mg mb : Str → Option Value} {dp un : Nat} {gd : Option (List Code)} {cn : Str} {ns : List (Str × NameKind)} {ig ic : Bool} {mo : List (Str × Const)} {a : Addr} {ccd : Value} {A₀ : Around} {h₀ : Heap} {L : Addr} {m : Str → Option Value} {s : Shared} {news : Led} {Q E : Value → Shared → Prop}
  {tag : Addr → Int} {xs : Int → SideA} {Sl Rl El : Addr} {b : Nat} {j : Int}
theorem toldI {n : Int} {tn : Tok} {bl : Bool} (B : Below A₀ h₀ [] h₀) (F : Fr h₀ L s.heap m) (N : News h₀ L s.heap news) (T : Top topProg LL mean mg mb h₀) (C : CodeHd h₀ 150 146) (X : (hd.heap_39 w.params).In h₀) (hdp : dp + 30 < recursionLimit) (hu : un + 240 < cLine) (I : Inv w news tag xs Sl Rl El b) (hj : j = 0 ∨ j = 1)
  (ret : ∀ l tl h' tk', Fr h₀ L h' m → News h₀ L h' (tl ++ news) → ToldIn (tl ++ news) (.ref l) (tellR (xs j).rows (xs j).dir j n) → Inv w (tl ++ news) tag xs Sl Rl El b → Q (.ref l) { s with heap := h', toks := tk' }) :
 wpAny (model PG w) (atTop dp un gd cn ns ig ic mo L a ccd [] []) (call (.ref 193) [.ref (xs j).M, .int n tn, .bool bl]) Q E s :=
  told B F N T C X T ktsDicts_nil KtsTurn.refl X hdp hu (I.side j hj).toIn fun v tl h₀' h' tk' S N' lt ht => by
    obtain ⟨l, _, _, rfl, _⟩ := told_dat ht
    exact ret l tl h' tk' (fr_back S.turn S.F) (news_back S.turn N') ht (I.sub fun p hp => List.mem_append_right _ hp)
theorem answI {n : Int} {tn ts : Tok} (B : Below A₀ h₀ [] h₀) (F : Fr h₀ L s.heap m) (N : News h₀ L s.heap news) (T : Top topProg LL mean mg mb h₀) (X : (hd.heap_39 w.params).In h₀) (hdp : dp + 15 < recursionLimit) (hu : un + 120 < cLine) (I : Inv w news tag xs Sl Rl El b) (hj : j = 0 ∨ j = 1)
  (ret : ∀ l tl h' tk', Fr h₀ L h' m → News h₀ L h' (tl ++ news) → ToldIn (tl ++ news) (.ref l) (tellR (xs j).rows (xs j).dir j n) → Inv w (tl ++ news) tag xs Sl Rl El b → Q (.ref l) { s with heap := h', toks := tk' }) :
 wpAny (model PG w) (atTop dp un gd cn ns ig ic mo L a ccd [] []) (call (.ref 186) [.ref (xs j).R, .ref (xs j).E, .int j ts, .int n tn]) Q E s := by
  obtain ⟨its, nr, hR, hrows⟩ := (I.side j hj).r
  refine answ B F N T hdp hu X hR hrows (I.side j hj).e hj fun v tl h' tk' F' N' lt ht => ?_
  obtain ⟨l, _, _, rfl, _⟩ := told_dat ht
  exact ret l tl h' tk' F' N' ht (I.sub fun p hp => List.mem_append_right _ hp)
theorem gnfI (B : Below A₀ h₀ [] h₀) (F : Fr h₀ L s.heap m) (N : News h₀ L s.heap news) (T : Top topProg LL mean mg mb h₀) (X : (hd.heap_39 w.params).In h₀) (hdp : dp + 10 < recursionLimit) (hu : un + 80 < cLine) (I : Inv w news tag xs Sl Rl El b) (hj : j = 0 ∨ j = 1) (hb : b ≤ sizeLine)
  (ret : ∀ h' tk' tk, Fr h₀ L h' m → News h₀ L h' news → Q (.int (xs j).rows.length tk) { s with heap := h', toks := tk' }) :
 wpAny (model PG w) (atTop dp un gd cn ns ig ic mo L a ccd [] []) (call (.ref 122) [.ref (xs j).M]) Q E s := by
  obtain ⟨⟨bm, fbk, c, h1, h2, h3, h4, t1, t2, t3, t4, ts, k, a1, a2, a3, a4, a5, a6⟩, ⟨h5, h6, t5, t6, tc, k2, f1⟩, ⟨its, np, p1, p2⟩, _, _, _, _⟩ := I.side j hj
  refine gnf B F N T hdp hu X a1 a2 a6 f1 p1 (by rw [p2.length]; exact Nat.le_trans (I.lr j hj) hb) fun h' tk' tk F' N' => ?_
  rw [p2.length]
  exact ret h' tk' tk F' N'
theorem lenI (N : News h₀ L s.heap news) (I : Inv w news tag xs Sl Rl El b) (hj : j = 0 ∨ j = 1) (hb : b ≤ sizeLine) {A : Around} (ret : Q (.int (xs j).rows.length (s.toks + 1)) { s with toks := s.toks + 1 + 1 }) :
 wpAny (model PG w) A (call (.builtin "len") [.ref (xs j).R]) Q E s := by
  obtain ⟨its, nr, hR, hrows⟩ := (I.side j hj).r
  refine len_abs N hR (by rw [hrows.length]; exact Nat.le_trans (I.lr j hj) hb) ?_
  rw [hrows.length]
  exact ret
theorem getM {value slice : PySem.Expr} {t : Tok} {A : Around} (N : News h₀ L s.heap news) (I : Inv w news tag xs Sl Rl El b) (hj : j = 0 ∨ j = 1) (h : Q (.ref (xs j).M) s)
    (hs : subscripted slice false (.ref Sl) (.int j t) = operate [.ref Sl, .int j t] (getItem (.ref Sl) (.int j t))) : wpAny (model PG w) A (subscriptTail value slice (.ref Sl) (.int j t)) Q E s := get2 N I.sl hj h hs
theorem getR {value slice : PySem.Expr} {t : Tok} {A : Around} (N : News h₀ L s.heap news) (I : Inv w news tag xs Sl Rl El b) (hj : j = 0 ∨ j = 1) (h : Q (.ref (xs j).R) s)
    (hs : subscripted slice false (.ref Rl) (.int j t) = operate [.ref Rl, .int j t] (getItem (.ref Rl) (.int j t))) : wpAny (model PG w) A (subscriptTail value slice (.ref Rl) (.int j t)) Q E s := get2 N I.rl hj h hs
theorem getE {value slice : PySem.Expr} {t : Tok} {A : Around} (N : News h₀ L s.heap news) (I : Inv w news tag xs Sl Rl El b) (hj : j = 0 ∨ j = 1) (h : Q (.ref (xs j).E) s)
    (hs : subscripted slice false (.ref El) (.int j t) = operate [.ref El, .int j t] (getItem (.ref El) (.int j t))) : wpAny (model PG w) A (subscriptTail value slice (.ref El) (.int j t)) Q E s := get2 N I.el hj h hs
end
def lawD : List Stmt × Scope := match PySem.Challenge.pw_fe0065_01.main.body.drop 12 with
  | .FunctionDef _ _ b _ _ _ sc _ _ _ :: _ => (b, sc)
  | _ => default
def forAt (l : List Stmt) (k : Nat) : List Stmt := match l.drop k with
  | .For _ _ b _ _ :: _ => b
  | _ => []
end Mine
theorem Mine.calmIV : True := by
  w_top off
  trivial
namespace Mine
section
variable {w : World} {ms : List Addr} {news news' : Led} {j side : Int} {x x' : SideA} {tag tag' : Addr → Int} {xs : Int → SideA} {Sl Rl El : Addr} {b b' : Nat}
/-- the tags of the ledger's addresses are the same -/
def SameT (news : Led) (tag tag' : Addr → Int) : Prop := ∀ p ∈ news, tag' p.1 = tag p.1
theorem SideG.retag (h : SideG w news tag j x) (k : SameT news tag tag') : SideG w news tag' j x := by
  obtain ⟨ha, hf, hp, hd, hr, he, ht⟩ := h
  refine ⟨ha, hf, hp, hd, hr, he, ?_⟩
  obtain ⟨bm, fbk, c, h1, h2, h3, h4, t1, t2, t3, t4, ts, kk, a1, a2, a3, a4, a5, a6⟩ := ha
  obtain ⟨h5, h6, t5, t6, tc, k2, f1⟩ := hf
  obtain ⟨_, _, p1, _⟩ := hp
  obtain ⟨_, _, d1, _⟩ := hd
  obtain ⟨_, _, r1, _⟩ := hr
  obtain ⟨_, _, e1, _⟩ := he
  exact ⟨(k _ a2).trans ht.md, (k _ f1).trans ht.fd, (k _ p1).trans ht.p, (k _ d1).trans ht.d, (k _ r1).trans ht.r, (k _ e1).trans ht.e⟩
theorem TabE.mem (h : TabE news) : ∃ o, (167, o) ∈ news := by
  rcases h with h | ⟨c', h, _⟩
  · exact ⟨_, h⟩
  · exact ⟨_, h⟩
theorem Inv.retag (I : Inv w news tag xs Sl Rl El b) (k : SameT news tag tag') : Inv w news tag' xs Sl Rl El b := by
  obtain ⟨n1, m1⟩ := I.sl
  obtain ⟨n2, m2⟩ := I.rl
  obtain ⟨n3, m3⟩ := I.el
  obtain ⟨c1, q1, _⟩ := I.tp
  obtain ⟨c2, q2, _⟩ := I.tf
  obtain ⟨o3, q3⟩ := I.te.mem
  exact ⟨I.sl, (k _ m1).trans I.tsl, I.rl, (k _ m2).trans I.trl, I.el, (k _ m3).trans I.tel, fun j hj => (I.side j hj).retag k, I.tp, (k _ q1).trans I.ttp, I.tf, (k _ q2).trans I.ttf, I.te, (k _ q3).trans I.tte, I.lr, I.ld⟩
/-- the invariant after one side has changed -/
theorem Inv.change (I : Inv w news tag xs Sl Rl El b) (S : Step ms news news') (hs : side = 0 ∨ side = 1) (k : SameT news tag tag')
    (hms : ∀ d ∈ ms, tag d = 10 * side ∨ tag d = 10 * side + 1 ∨ tag d = 10 * side + 2 ∨ tag d = 10 * side + 3 ∨ tag d = 10 * side + 4 ∨ tag d = 10 * side + 5 ∨ tag d = 31 ∨ tag d = 32 ∨ tag d = 42)
    (hrl : Pair2 news' Rl (fun i => if i = side then x'.R else (xs i).R)) (hel : Pair2 news' El (fun i => if i = side then x'.E else (xs i).E)) (hm : x'.M = (xs side).M) (hx : SideG w news' tag' side x') (te : TabE news')
    (hb : b ≤ b') (hr : x'.rows.length ≤ b') (hd : x'.dir.length ≤ b') : Inv w news' tag' (setX xs side x') Sl Rl El b' := by
  have J := I.retag k
  have nt : ∀ q : Int, (q ≠ 10 * side ∧ q ≠ 10 * side + 1 ∧ q ≠ 10 * side + 2 ∧ q ≠ 10 * side + 3 ∧ q ≠ 10 * side + 4 ∧ q ≠ 10 * side + 5 ∧ q ≠ 31 ∧ q ≠ 32 ∧ q ≠ 42) → NoTag tag ms q := fun q hq d hd e => by
    have := hms d hd
    omega
  obtain ⟨n2, m2⟩ := I.rl
  obtain ⟨n3, m3⟩ := I.el
  have hother : ∀ i, i = 0 ∨ i = 1 → i ≠ side → SideG w news' tag' i (xs i) := fun i hi hne => by
    have h1 := (I.side i hi).step S fun q hq1 hq2 => nt q (by omega)
    have h0 := J.side i hi
    exact ⟨h1.a, h1.f, h1.p, h1.d, h1.r, h1.e, h0.t⟩
  refine ⟨?_, J.tsl, ?_, J.trl, ?_, J.tel, fun i hi => ?_, I.tp.step S ((nt 40 (by omega)).not I.ttp), J.ttp, I.tf.step S ((nt 41 (by omega)).not I.ttf), J.ttf, te, J.tte, fun i hi => ?_, fun i hi => ?_⟩
  · refine (I.sl.step S ((nt 30 (by omega)).not I.tsl)).congr ?_ ?_
    · unfold setX; split
      · rename_i e; rw [hm, e]
      · rfl
    · unfold setX; split
      · rename_i e; rw [hm, e]
      · rfl
  · refine hrl.congr ?_ ?_
    · unfold setX; split <;> rfl
    · unfold setX; split <;> rfl
  · refine hel.congr ?_ ?_
    · unfold setX; split <;> rfl
    · unfold setX; split <;> rfl
  · unfold setX
    by_cases e : i = side
    · rw [if_pos e, e]; exact hx
    · rw [if_neg e]; exact hother i hi e
  · unfold setX
    by_cases e : i = side
    · rw [if_pos e]; exact hr
    · rw [if_neg e]; exact Nat.le_trans (I.lr i hi) hb
  · unfold setX
    by_cases e : i = side
    · rw [if_pos e]; exact hd
    · rw [if_neg e]; exact Nat.le_trans (I.ld i hi) hb
/-- what every branch keeps: the deeds' list and the loop's iterator -/
def Held (news news' : Led) (tag tag' : Addr → Int) : Prop := ∀ p ∈ news, (tag p.1 = 33 ∨ tag p.1 = 34) → p ∈ news' ∧ tag' p.1 = tag p.1
theorem Inv.without {It : Addr} {oI : Obj} {h₀ h : Heap} {L : Addr} (I : Inv w news tag xs Sl Rl El b) (N : News h₀ L h news) (hm : (It, oI) ∈ news) (ht : tag It = 34) (hi : ¬ Imm oI) : Inv w (news.filter (fun p => p.1 ≠ It)) tag xs Sl Rl El b := by
  have S : Step [It] news (news.filter (fun p => p.1 ≠ It)) := ⟨fun p hp q => List.mem_filter.mpr ⟨hp, by
    have : p.1 ≠ It := fun e => hi (by have := news_uniq N hm (show (It, p.2) ∈ news from e ▸ hp); rw [this]; exact q)
    simpa using this⟩, fun p hp hn => List.mem_filter.mpr ⟨hp, by simpa using hn⟩⟩
  have nn : ∀ q : Int, q ≠ 34 → NoTag tag [It] q := fun q hq d hd e => by
    rw [List.mem_singleton.mp hd, ht] at e
    exact hq e.symm
  exact ⟨I.sl.step S ((nn 30 (by decide)).not I.tsl), I.tsl, I.rl.step S ((nn 31 (by decide)).not I.trl), I.trl, I.el.step S ((nn 32 (by decide)).not I.tel), I.tel, fun j hj => (I.side j hj).step S fun q h1 h2 => nn q (by omega), I.tp.step S ((nn 40 (by decide)).not I.ttp), I.ttp, I.tf.step S ((nn 41 (by decide)).not I.ttf), I.ttf, I.te.step S ((nn 42 (by decide)).not I.tte), I.tte, I.lr, I.ld⟩
end
end Mine
theorem Mine.calmLB : True := by
  w_top off
  trivial
namespace Mine
def Stop (p : Prop) : Prop := p
theorem stop_in {p : Prop} (h : Stop p) : p := h
section
variable {w : World} {mean : ExcName → Option Value} {mg mb : Str → Option Value} {dp un : Nat} {gd : Option (List Code)} {cn : Str} {ns : List (Str × NameKind)} {ig ic : Bool} {mo : List (Str × Const)} {a : Addr} {ccd : Value} {A₀ : Around} {h₀ : Heap} {L : Addr} {m : Str → Option Value} {s : Shared} {news : Led} {Q E : Value → Shared → Prop}
  {tag : Addr → Int} {xs : Int → SideA} {Sl Rl El : Addr} {b : Nat} {j : Int}
theorem clrI {f : Addr} (hf : f = 108 ∨ f = 115) (B : Below A₀ h₀ [] h₀) (F : Fr h₀ L s.heap m) (N : News h₀ L s.heap news) (T : Top topProg LL mean mg mb h₀) (X : (hd.heap_39 w.params).In h₀) (hdp : dp + 10 < recursionLimit) (hu : un + 80 < cLine) (I : Inv w news tag xs Sl Rl El b) (hj : j = 0 ∨ j = 1) (hb : b ≤ sizeLine)
  (ret : ∀ news' h' tk', Fr h₀ L h' m → News h₀ L h' news' → Step [(xs j).D] news news' → DirIn w news' (xs j).D [] → Q .none { s with heap := h', toks := tk' }) :
 wpAny (model PG w) (atTop dp un gd cn ns ig ic mo L a ccd [] []) (call (.ref f) [.ref (xs j).M]) Q E s := by
  obtain ⟨⟨bm, fbk, c, h1, h2, h3, h4, t1, t2, t3, t4, ts, k, a1, a2, a3, a4, a5, a6⟩, _, _, hD, _, _, _⟩ := I.side j hj
  rcases hf with rfl | rfl
  · exact clrd B F N T hdp hu X a1 a2 hD (Nat.le_trans (I.ld j hj) hb) ret
  · exact clrc B F N T hdp hu X a1 a2 hD (Nat.le_trans (I.ld j hj) hb) ret
theorem mkPI {way : Int} {t : Tok} (B : Below A₀ h₀ [] h₀) (F : Fr h₀ L s.heap m) (N : News h₀ L s.heap news) (T : Top topProg LL mean mg mb h₀) (C : CodeHd h₀ 150 146) (X : (hd.heap_39 w.params).In h₀) (hdp : dp + 5 < recursionLimit) (hu : un + 40 < cLine) (I : Inv w news tag xs Sl Rl El b)
  (ret : ∀ f tl h' tk', Fr h₀ L h' m → News h₀ L h' (tl ++ news) → PredIn (tl ++ news) (.ref f) way → Inv w (tl ++ news) tag xs Sl Rl El b → Q (.ref f) { s with heap := h', toks := tk' }) :
 wpAny (model PG w) (atTop dp un gd cn ns ig ic mo L a ccd [] []) (call (.ref 151) [.int way t]) Q E s := by
  obtain ⟨c', h1, h2⟩ := I.tp
  exact mkP B F N T hdp hu X C h1 h2 fun f c tl h' tk' F' N' lt hl hc => ret f tl h' tk' F' N' ⟨f, c, t, rfl, hl, hc⟩ (I.sub fun p hp => List.mem_append_right _ hp)
theorem mkFI {mv : Value} (B : Below A₀ h₀ [] h₀) (F : Fr h₀ L s.heap m) (N : News h₀ L s.heap news) (T : Top topProg LL mean mg mb h₀) (C : CodeHd h₀ 157 153) (X : (hd.heap_39 w.params).In h₀) (hdp : dp + 5 < recursionLimit) (hu : un + 40 < cLine) (I : Inv w news tag xs Sl Rl El b)
  (ret : ∀ f tl h' tk', Fr h₀ L h' m → News h₀ L h' (tl ++ news) → (∀ mk, MarkV mv mk → HandIn (tl ++ news) (.ref f) 1 mk (.bool true) (.bool false)) → Inv w (tl ++ news) tag xs Sl Rl El b → Q (.ref f) { s with heap := h', toks := tk' }) :
 wpAny (model PG w) (atTop dp un gd cn ns ig ic mo L a ccd [] []) (call (.ref 158) [mv]) Q E s := by
  obtain ⟨c', h1, h2⟩ := I.tf
  exact mkF B F N T hdp hu X C h1 h2 fun f c tl h' tk' F' N' lt hl hc => ret f tl h' tk' F' N' (fun mk hmk => .fac hl hc hmk) (I.sub fun p hp => List.mem_append_right _ hp)
theorem Inv.step167 {news' : Led} (I : Inv w news tag xs Sl Rl El b) (S : Step [167] news news') (te : TabE news') : Inv w news' tag xs Sl Rl El b := by
  have nn : ∀ q : Int, q ≠ 42 → NoTag tag [167] q := fun q hq d hd e => by
    rw [List.mem_singleton.mp hd, I.tte] at e
    exact hq e.symm
  exact ⟨I.sl.step S ((nn 30 (by decide)).not I.tsl), I.tsl, I.rl.step S ((nn 31 (by decide)).not I.trl), I.trl, I.el.step S ((nn 32 (by decide)).not I.tel), I.tel, fun j hj => (I.side j hj).step S fun q h1 h2 => nn q (by omega), I.tp.step S ((nn 40 (by decide)).not I.ttp), I.ttp, I.tf.step S ((nn 41 (by decide)).not I.ttf), I.ttf, te, I.tte, I.lr, I.ld⟩
theorem mkEI {mv : Value} (B : Below A₀ h₀ [] h₀) (F : Fr h₀ L s.heap m) (N : News h₀ L s.heap news) (T : Top topProg LL mean mg mb h₀) (C : CodeHd h₀ 171 167) (X : (hd.heap_39 w.params).In h₀) (hdp : dp + 5 < recursionLimit) (hu : un + 40 < cLine) (I : Inv w news tag xs Sl Rl El b)
  (ret : ∀ f news' h' tk', Fr h₀ L h' m → News h₀ L h' news' → Step [167] news news' → (∀ mk tk, MarkV mv mk → HandIn news' (.ref f) 2 mk (.str (Str.ofString "extended") tk) (.bool true)) → Inv w news' tag xs Sl Rl El b → Q (.ref f) { s with heap := h', toks := tk' }) :
 wpAny (model PG w) (atTop dp un gd cn ns ig ic mo L a ccd [] []) (call (.ref 172) [mv]) Q E s := by
  rcases I.te with h0 | ⟨c', h1, h2⟩
  · refine mkE0 B F N T hdp hu X C h0 fun f c c' tl h' tk' F' N' lt hci hl hc => ?_
    have S : Step [167] news (tl ++ upd news 167 (tab1 99 11 c')) := ((upd_step N h0 (not_imm_tab fun q t e => by simp at e)).trans (Step.of_sub (fun p hp => List.mem_append_right _ hp))).more fun d hd => by simpa using hd
    have te : TabE (tl ++ upd news 167 (tab1 99 11 c')) := .inr ⟨c', List.mem_append_right _ upd_self, hci⟩
    exact ret f _ h' tk' F' N' S (fun mk tk hmk => .ext hl hc hmk) (I.step167 S te)
  · refine mkE B F N T hdp hu X C h1 h2 fun f c tl h' tk' F' N' lt hl hc => ?_
    have S : Step [167] news (tl ++ news) := (Step.of_sub (fun p hp => List.mem_append_right _ hp)).more fun d hd => nomatch hd
    exact ret f _ h' tk' F' N' S (fun mk tk hmk => .ext hl hc hmk) (I.sub fun p hp => List.mem_append_right _ hp)
end
theorem Pair2.sub {a b : Led} {l : Addr} {f : Int → Addr} (h : Pair2 a l f) (k : SubL a b) : Pair2 b l f := let ⟨n, q⟩ := h; ⟨n, k _ q⟩
end Mine
theorem Mine.calmCL : True := by
  w_top off
  trivial
namespace Mine
section
variable {w : World} {ms : List Addr} {news news' : Led} {j side : Int} {x x' : SideA} {tag tag' : Addr → Int} {xs : Int → SideA} {Sl Rl El : Addr} {b b' : Nat}
/-- tags that a branch over one side may change -/
def MsOk (tag : Addr → Int) (ms : List Addr) (side : Int) : Prop := ∀ d ∈ ms, tag d = 10 * side ∨ tag d = 10 * side + 1 ∨ tag d = 10 * side + 2 ∨ tag d = 10 * side + 3 ∨ tag d = 10 * side + 4 ∨ tag d = 10 * side + 5 ∨ tag d = 31 ∨ tag d = 32 ∨ tag d = 42
theorem held_of (S : Step ms news news') (hs : side = 0 ∨ side = 1) (hms : MsOk tag ms side) (k : SameT news tag tag') : Held news news' tag tag' := fun p hp ht =>
  ⟨S.kp p hp fun q => by have := hms _ q; omega, k p hp⟩
theorem not_ms {a : Addr} (h : ∀ d ∈ ms, tag d ≠ tag a) : a ∉ ms := fun q => h a q rfl
theorem step_lt {d : Addr} (S : Step ms news news') (hm : ∀ a ∈ ms, ∃ o, (a, o) ∈ news') (hl : ∀ p ∈ news', p.1 < d) : ∀ p ∈ news, p.1 < d := fun p hp => by
  by_cases e : p.1 ∈ ms
  · obtain ⟨o, ho⟩ := hm _ e
    exact hl (p.1, o) ho
  · exact hl p (S.kp p hp e)
theorem close5 {news1 : Led} {d : Addr} {o : Obj} {h₀ : Heap} {L : Addr} {m : Str → Option Value} {s : Shared} {Q : Unit → Shared → Prop} {E : Value → Shared → Prop} {A : Around} {tj : Tok}
    (I : Inv w news tag xs Sl Rl El b) (hs : side = 0 ∨ side = 1) (S : Step [(xs side).D] news news1) (hD : DirIn w news1 (xs side).D []) (l1 : ∀ p ∈ news1, p.1 < d) (lo : (d == sysModules) = false) (hi : o.IsDictOf (PySem.intKind PG w) [])
    (F : Fr h₀ L s.heap m) (N : News h₀ L s.heap ((d, o) :: news1))
    (h : ∀ h' news' tag' xs', Fr h₀ L h' m → News h₀ L h' news' → Inv w news' tag' xs' Sl Rl El b → Held news news' tag tag' → Q () { s with heap := h' }) :
    wpAny (model PG w) A (setItem (.ref El) (.int side tj) (.ref d)) Q E s := by
  have G := I.side side hs
  have tel := I.tel
  have hne : El ∉ [(xs side).D] := fun q => by have h1 := G.t.d; rw [← List.mem_singleton.mp q] at h1; omega
  refine set2_abs F N ((I.el.step S hne).sub (SubL.cons SubL.rfl)) hs fun h' news' F' N' P' S' => ?_
  have ST : Step [(xs side).D, El] news news' := ((S.trans (Step.of_sub (SubL.cons SubL.rfl))).trans S').more fun d hd => by simpa using hd
  have hlt : ∀ p ∈ news, p.1 < d := step_lt S (fun a ha => by
    obtain ⟨o, _, h1, _⟩ := hD
    exact ⟨o, List.mem_singleton.mp ha ▸ h1⟩) l1
  have hms : MsOk tag [(xs side).D, El] side := fun q hq => by
    rcases List.mem_cons.mp hq with rfl | hq
    · exact .inr (.inr (.inr (.inl G.t.d)))
    · rw [List.mem_singleton.mp hq]; omega
  have k : SameT news tag (retag tag d (10 * side + 5)) := fun p hp => retag_old (hlt p hp)
  have nn : ∀ a : Addr, (tag a ≠ 10 * side + 3 ∧ tag a ≠ 32) → a ∉ [(xs side).D, El] := fun a ha q => by
    rcases List.mem_cons.mp q with rfl | q
    · exact ha.1 G.t.d
    · rw [List.mem_singleton.mp q] at ha; exact ha.2 tel
  have G' := G.retag k
  have hdEl : d ≠ El := fun e => by
    obtain ⟨n, q⟩ := I.el
    have := hlt _ q
    rw [e] at this
    exact Nat.lt_irrefl _ this
  have t := G.t
  have hDne : (xs side).D ∉ [El] := fun q => by have h1 := t.d; rw [List.mem_singleton.mp q] at h1; omega
  have e1 := t.md; have e2 := t.fd; have e3 := t.p; have e4 := t.r
  have hx : SideG w news' (retag tag d (10 * side + 5)) side { xs side with E := d, dir := [] } :=
    ⟨G.a.step ST (nn _ (by omega)), G.f.step ST (nn _ (by omega)), G.p.step ST (nn _ (by omega)), (hD.step (Step.of_sub (SubL.cons SubL.rfl)) (fun h => nomatch h)).step S' hDne, G.r.step ST (nn _ (by omega)),
      ⟨o, [], S'.kp _ (List.mem_cons_self ..) (fun q => hdEl (List.mem_singleton.mp q)), lo, hi, .nil⟩, ⟨G'.t.md, G'.t.fd, G'.t.p, G'.t.d, G'.t.r, retag_new⟩⟩
  have e5 := I.trl; have e6 := I.tte
  refine h h' news' _ _ F' N' (I.change (x' := { xs side with E := d, dir := [] }) ST hs k hms ?_ P' rfl hx (I.te.step ST (nn _ (by omega))) (Nat.le_refl _) (I.lr side hs) (Nat.zero_le _)) (held_of ST hs hms k)
  refine (I.rl.step ST (nn _ (by omega))).congr ?_ ?_
  · split
    · rename_i e; rw [← e]
    · rfl
  · split
    · rename_i e; rw [← e]
    · rfl
theorem closeG {cur news2 led3 news3 news4 : Led} {ms2 : List Addr} (I : Inv w cur tag xs Sl Rl El b) (hs : side = 0 ∨ side = 1) (S2 : Step ms2 cur news2) (hms2 : ∀ d ∈ ms2, tag d = 10 * side ∨ tag d = 10 * side + 1 ∨ tag d = 10 * side + 2 ∨ tag d = 10 * side + 3 ∨ tag d = 10 * side + 4 ∨ tag d = 10 * side + 5)
    (ha : GA news2 side x') (hf : GF news2 side x') (hp : GP news2 x'.P x'.rows) (hd : DirIn w news2 x'.D []) (hdir : x'.dir = []) (hM : x'.M = (xs side).M) (L3 : SubL news2 led3) (hr : GR led3 x'.R x'.rows) (he : DirIn w led3 x'.E [])
    (k : SameT cur tag tag') (t : GT tag' side x') (S3 : Step [Rl] led3 news3) (P3 : Pair2 news3 Rl (fun i => if i = side then x'.R else (xs i).R)) (S4 : Step [El] news3 news4) (P4 : Pair2 news4 El (fun i => if i = side then x'.E else (xs i).E))
    (hb : b ≤ b') (hrl : x'.rows.length ≤ b') : Inv w news4 tag' (setX xs side x') Sl Rl El b' ∧ Held cur news4 tag tag' := by
  have ST : Step (ms2 ++ ([] ++ ([Rl] ++ [El]))) cur news4 := S2.trans ((Step.of_sub L3).trans (S3.trans S4))
  have e1 := I.trl; have e2 := I.tel; have e3 := I.tte
  have hms : MsOk tag (ms2 ++ ([] ++ ([Rl] ++ [El]))) side := fun d hd => by
    rcases List.mem_append.mp hd with h | h
    · have := hms2 d h; omega
    · simp only [List.nil_append, List.cons_append, List.mem_cons, List.not_mem_nil, or_false] at h
      rcases h with rfl | rfl
      · omega
      · omega
  obtain ⟨_, m2⟩ := I.rl
  obtain ⟨_, m3⟩ := I.el
  have f1 : tag' Rl = 31 := (k _ m2).trans I.trl
  have f2 : tag' El = 32 := (k _ m3).trans I.tel
  have g1 := t.md; have g2 := t.fd; have g3 := t.p; have g4 := t.d; have g5 := t.r; have g6 := t.e
  have nR : ∀ a : Addr, tag' a ≠ 31 → a ∉ [Rl] := fun a h q => by rw [List.mem_singleton.mp q] at h; exact h f1
  have nE : ∀ a : Addr, tag' a ≠ 32 → a ∉ [El] := fun a h q => by rw [List.mem_singleton.mp q] at h; exact h f2
  have L0 := Step.of_sub L3
  have nn : ∀ a : Addr, a ∉ ([] : List Addr) := fun _ h => nomatch h
  have hx : SideG w news4 tag' side x' :=
    ⟨((ha.step L0 (nn _)).step S3 (nR _ (by omega))).step S4 (nE _ (by omega)), ((hf.step L0 (nn _)).step S3 (nR _ (by omega))).step S4 (nE _ (by omega)), ((hp.step L0 (nn _)).step S3 (nR _ (by omega))).step S4 (nE _ (by omega)),
      by rw [hdir]; exact ((hd.step L0 (nn _)).step S3 (nR _ (by omega))).step S4 (nE _ (by omega)), (hr.step S3 (nR _ (by omega))).step S4 (nE _ (by omega)), by rw [hdir]; exact (he.step S3 (nR _ (by omega))).step S4 (nE _ (by omega)), t⟩
  have te : TabE news4 := I.te.step ST (fun q => by
    rcases List.mem_append.mp q with h | h
    · have := hms2 _ h; omega
    · simp only [List.nil_append, List.cons_append, List.mem_cons, List.not_mem_nil, or_false] at h
      rcases h with h | h
      · rw [h] at e3; omega
      · rw [h] at e3; omega)
  refine ⟨I.change ST hs k hms (P3.step S4 (nE _ (by omega))) P4 hM hx te hb hrl (by rw [hdir]; exact Nat.zero_le _), held_of ST hs hms k⟩
end
section
variable {w : World} {mean : ExcName → Option Value} {mg mb : Str → Option Value} {dp un : Nat} {gd : Option (List Code)} {cn : Str} {ns : List (Str × NameKind)} {ig ic : Bool} {mo : List (Str × Const)} {a : Addr} {ccd : Value} {A₀ : Around} {h₀ : Heap} {L : Addr} {m : Str → Option Value} {s : Shared} {news : Led} {Q E : Value → Shared → Prop}
  {tag : Addr → Int} {xs : Int → SideA} {Sl Rl El : Addr} {b : Nat} {j : Int}
theorem Inv.pmem (I : Inv w news tag xs Sl Rl El b) (hj : j = 0 ∨ j = 1) : ∃ o, ((xs j).P, o) ∈ news := let ⟨_, _, h, _⟩ := (I.side j hj).p; ⟨_, h⟩
theorem Inv.dmem (I : Inv w news tag xs Sl Rl El b) (hj : j = 0 ∨ j = 1) : ∃ o, ((xs j).D, o) ∈ news := let ⟨_, _, h, _⟩ := (I.side j hj).d; ⟨_, h⟩
theorem regI {l : Addr} {vs : List Value} {nl : Nat} {ents : List Row} (B : Below A₀ h₀ [] h₀) (F : Fr h₀ L s.heap m) (N : News h₀ L s.heap news) (T : Top topProg LL mean mg mb h₀) (X : (hd.heap_39 w.params).In h₀) (hdp : dp + 10 < recursionLimit) (hu : un + 80 < cLine) (I : Inv w news tag xs Sl Rl El b) (hj : j = 0 ∨ j = 1) (hb : b + ents.length ≤ sizeLine)
  (hl : (l, listOf vs.toArray nl) ∈ news) (hen : All2 (EntIn news) vs ents) (hlP : l ≠ (xs j).P)
  (ret : ∀ news' h' tk', Fr h₀ L h' m → News h₀ L h' news' → Step [(xs j).P, (xs j).D] news news' → GP news' (xs j).P (ents.reverse ++ (xs j).rows) → DirIn w news' (xs j).D [] → Q .none { s with heap := h', toks := tk' }) :
 wpAny (model PG w) (atTop dp un gd cn ns ig ic mo L a ccd [] []) (call (.ref 101) [.ref (xs j).M, .ref l]) Q E s := by
  obtain ⟨⟨bm, fbk, c, h1, h2, h3, h4, t1, t2, t3, t4, ts, k, a1, a2, a3, a4, a5, a6⟩, ⟨h5, h6, t5, t6, tc, k2, f1⟩, ⟨its, np, p1, p2⟩, hD, _, _, t⟩ := I.side j hj
  have e1 := t.md; have e2 := t.fd; have e3 := t.p; have e4 := t.d
  have q1 := I.lr j hj
  have q2 := I.ld j hj
  exact regl B F N T hdp hu X a1 a2 a6 f1 p1 p2 hD hl hen (by omega) (by omega) (fun e => by rw [e] at e1; omega) (fun e => by rw [e] at e2; omega) (fun e => by rw [e] at e4; omega) hlP ret
end
theorem pred_carry {ms : List Addr} {a b c d : Led} {v : Value} {way : Int} (p : PredIn a v way) (k1 : SubL a b) (S : Step ms b c) (k2 : SubL c d) : PredIn d v way := ((p.mono k1).step S).mono k2
theorem hand_carry {ms : List Addr} {a b c d : Led} {v gv tv : Value} {so : Int} {mk : Mark} (p : HandIn a v so mk gv tv) (k1 : SubL a b) (S : Step ms b c) (k2 : SubL c d) : HandIn d v so mk gv tv := ((p.mono k1).step S).mono k2
end Mine
theorem Mine.calmCE : True := by
  w_top off
  trivial
namespace Mine
section
variable {w : World} {cur0 cur news2 led3 news3 news4 : Led} {side : Int} {tag : Addr → Int} {xs : Int → SideA} {Sl Rl El R' E' : Addr} {b b' : Nat} {rows' : List Row}
theorem afterR (I0 : Inv w cur0 tag xs Sl Rl El b) (k0 : SubL cur0 cur) (hs : side = 0 ∨ side = 1) (S2 : Step [(xs side).P, (xs side).D] cur news2) :
    Pair2 news2 Rl (fun j => (xs j).R) ∧ Pair2 news2 El (fun j => (xs j).E) ∧ ∃ itr nr, ((xs side).R, listOf itr.toArray nr) ∈ news2 ∧ All2 (RowIn news2) itr (xs side).rows := by
  have I := I0.sub k0
  have G := I.side side hs
  have t := G.t
  have e1 := I.trl; have e2 := I.tel; have e3 := t.p; have e4 := t.d; have e5 := t.r
  have nn : ∀ a : Addr, (tag a ≠ 10 * side + 2 ∧ tag a ≠ 10 * side + 3) → a ∉ [(xs side).P, (xs side).D] := fun a ha q => by
    rcases List.mem_cons.mp q with rfl | q
    · exact ha.1 e3
    · rw [List.mem_singleton.mp q] at ha; exact ha.2 e4
  refine ⟨I.rl.step S2 (nn _ (by omega)), I.el.step S2 (nn _ (by omega)), ?_⟩
  obtain ⟨its, n, h1, h2⟩ := G.r.step S2 (nn _ (by omega))
  exact ⟨its, n, h1, h2⟩
theorem closeR (I0 : Inv w cur0 tag xs Sl Rl El b) (k0 : SubL cur0 cur) (hs : side = 0 ∨ side = 1) (S2 : Step [(xs side).P, (xs side).D] cur news2) (hp : GP news2 (xs side).P rows') (hd : DirIn w news2 (xs side).D [])
    (L3 : SubL news2 led3) (hr : GR led3 R' rows') (he : DirIn w led3 E' []) (fR : ∀ p ∈ news2, p.1 < R') (fE : R' < E') (S3 : Step [Rl] led3 news3) (P3 : Pair2 news3 Rl (fun i => if i = side then R' else (xs i).R)) (S4 : Step [El] news3 news4) (P4 : Pair2 news4 El (fun i => if i = side then E' else (xs i).E))
    (hb : b ≤ b') (hrl : rows'.length ≤ b') : ∃ tag' xs', Inv w news4 tag' xs' Sl Rl El b' ∧ Held cur0 news4 tag tag' := by
  have I := I0.sub k0
  have G := I.side side hs
  have t := G.t
  have e0 := t.md; have e1 := t.fd; have e3 := t.p; have e4 := t.d; have e5 := t.r
  have nn : ∀ a : Addr, (tag a ≠ 10 * side + 2 ∧ tag a ≠ 10 * side + 3) → a ∉ [(xs side).P, (xs side).D] := fun a ha q => by
    rcases List.mem_cons.mp q with rfl | q
    · exact ha.1 e3
    · rw [List.mem_singleton.mp q] at ha; exact ha.2 e4
  have hm : ∀ a ∈ [(xs side).P, (xs side).D], ∃ o, (a, o) ∈ news2 := fun a ha => by
    rcases List.mem_cons.mp ha with rfl | ha
    · obtain ⟨_, _, h, _⟩ := hp; exact ⟨_, h⟩
    · rw [List.mem_singleton.mp ha]; obtain ⟨_, _, h, _⟩ := hd; exact ⟨_, h⟩
  have lR : ∀ p ∈ cur, p.1 < R' := step_lt S2 hm fR
  have lE : ∀ p ∈ cur, p.1 < E' := fun p hp => Nat.lt_trans (lR p hp) fE
  have k : SameT cur tag (retag (retag tag R' (10 * side + 4)) E' (10 * side + 5)) := fun p hp => (retag_old (lE p hp)).trans (retag_old (lR p hp))
  have G' := G.retag k
  have hRE : retag (retag tag R' (10 * side + 4)) E' (10 * side + 5) R' = 10 * side + 4 := (retag_old fE).trans retag_new
  have R := closeG (x' := { xs side with R := R', E := E', rows := rows', dir := [] }) I hs S2 (fun d hd => by
    rcases List.mem_cons.mp hd with rfl | hd
    · omega
    · rw [List.mem_singleton.mp hd]; omega)
    (G.a.step S2 (nn _ (by omega))) (G.f.step S2 (nn _ (by omega))) hp hd rfl rfl L3 hr he k ⟨G'.t.md, G'.t.fd, G'.t.p, G'.t.d, hRE, retag_new⟩ S3 P3 S4 P4 hb hrl
  exact ⟨_, _, R.1, fun p hp ht => R.2 p (k0 p hp) ht⟩
theorem held167 {news a b' cur0 : Led} (k1 : SubL news a) (S : Step [167] a b') (te : tag 167 = 42) (k2 : SubL b' cur0) : Held news cur0 tag tag := fun p hp ht =>
  ⟨k2 _ (S.kp _ (k1 _ hp) fun q => by rw [List.mem_singleton.mp q, te] at ht; omega), rfl⟩
theorem RowIn.mono' {a b : Led} {v : Value} {r : Row} (h : RowIn a v r) (k : SubL a b) : RowIn b v r := h.step (Step.of_sub k)
theorem Held.of {a b c : Led} {t t' : Addr → Int} (x : Held a b t t') (k : SubL c a) : Held c b t t' := fun p hp ht => x p (k p hp) ht
theorem Held.sub {a b c : Led} {t t' : Addr → Int} (x : Held a b t t') (k : SubL b c) : Held a c t t' := fun p hp ht => have h := x p hp ht; ⟨k _ h.1, h.2⟩
theorem Held.trans {a b c : Led} {t t' t'' : Addr → Int} (x : Held a b t t') (y : Held b c t' t'') : Held a c t t'' := fun p hp ht =>
  have h := x p hp ht
  have g := y p h.1 (by rw [h.2]; exact ht)
  ⟨g.1, g.2.trans h.2⟩
end
end Mine
namespace Mine
section
variable {w : World} {cur0 cur news2 led3 led4 led5 news3 news4 news5 : Led} {side : Int} {tag : Addr → Int} {xs : Int → SideA} {Sl Rl El R' E' Pn : Addr} {b b' : Nat} {rows' : List Row} {dir' : List (Int × Mark)}
theorem afterC (I0 : Inv w cur0 tag xs Sl Rl El b) (k0 : SubL cur0 cur) (hs : side = 0 ∨ side = 1) (S2 : Step [(xs side).D] cur news2) :
    Pair2 news2 El (fun j => (xs j).E) ∧ DirIn w news2 (xs side).E (xs side).dir ∧ El ≠ (xs side).E := by
  have I := I0.sub k0
  have G := I.side side hs
  have t := G.t
  have e2 := I.tel; have e4 := t.d; have e5 := t.e
  have nn : ∀ a : Addr, tag a ≠ 10 * side + 3 → a ∉ [(xs side).D] := fun a ha q => by
    rw [List.mem_singleton.mp q] at ha; exact ha e4
  exact ⟨I.el.step S2 (nn _ (by omega)), G.e.step S2 (nn _ (by omega)), fun e => by rw [← e] at e5; omega⟩
theorem closeC (I0 : Inv w cur0 tag xs Sl Rl El b) (k0 : SubL cur0 cur) (hs : side = 0 ∨ side = 1) (S2 : Step [(xs side).D] cur news2) (hd : DirIn w news2 (xs side).D dir')
    (L3 : SubL news2 led3) (S3 : Step [(xs side).E] led3 led4) (L4 : SubL led4 led5) (S5 : Step [(xs side).E] led5 news5) (he : DirIn w news5 (xs side).E dir')
    (hb : b ≤ b') (hdl : dir'.length ≤ b') : ∃ xs', Inv w news5 tag xs' Sl Rl El b' ∧ Held cur0 news5 tag tag := by
  have I := I0.sub k0
  have G := I.side side hs
  have t := G.t
  have e0 := t.md; have e1 := t.fd; have e2 := t.p; have e3 := t.d; have e4 := t.r; have e5 := t.e
  have q1 := I.trl; have q2 := I.tel; have q3 := I.tte
  have S35 : Step [(xs side).E] news2 news5 := ((Step.of_sub L3).trans (S3.trans ((Step.of_sub L4).trans S5))).more fun d hd => by simpa using hd
  have ST : Step [(xs side).D, (xs side).E] cur news5 := (S2.trans S35).more fun d hd => by simpa using hd
  have nn : ∀ a : Addr, (tag a ≠ 10 * side + 3 ∧ tag a ≠ 10 * side + 5) → a ∉ [(xs side).D, (xs side).E] := fun a ha q => by
    rcases List.mem_cons.mp q with rfl | q
    · exact ha.1 e3
    · rw [List.mem_singleton.mp q] at ha; exact ha.2 e5
  have hms : MsOk tag [(xs side).D, (xs side).E] side := fun q hq => by
    rcases List.mem_cons.mp hq with rfl | hq
    · exact .inr (.inr (.inr (.inl e3)))
    · rw [List.mem_singleton.mp hq]; exact .inr (.inr (.inr (.inr (.inr (.inl e5)))))
  have k : SameT cur tag tag := fun _ _ => rfl
  have hx : SideG w news5 tag side { xs side with dir := dir' } :=
    ⟨G.a.step ST (nn _ (by omega)), G.f.step ST (nn _ (by omega)), G.p.step ST (nn _ (by omega)), hd.step S35 (fun q => by rw [List.mem_singleton.mp q] at e3; omega), G.r.step ST (nn _ (by omega)), he, ⟨e0, e1, e2, e3, e4, e5⟩⟩
  have hh := held_of ST hs hms k
  refine ⟨_, I.change (x' := { xs side with dir := dir' }) ST hs k hms ?_ ?_ rfl hx (I.te.step ST (nn _ (by omega))) hb (Nat.le_trans (I.lr side hs) hb) hdl, fun p hp ht => hh p (k0 p hp) ht⟩
  · refine (I.rl.step ST (nn _ (by omega))).congr ?_ ?_
    · split
      · rename_i e; rw [← e]
      · rfl
    · split
      · rename_i e; rw [← e]
      · rfl
  · refine (I.el.step ST (nn _ (by omega))).congr ?_ ?_
    · split
      · rename_i e; rw [← e]
      · rfl
    · split
      · rename_i e; rw [← e]
      · rfl
theorem afterP {oth : Int} (I0 : Inv w cur0 tag xs Sl Rl El b) (k0 : SubL cur0 cur) (hs : side = 0 ∨ side = 1) (ho : oth = 1 - side) (S2 : Step [(xs oth).Fd, (xs oth).D] cur news2) :
    Pair2 news2 Rl (fun j => (xs j).R) ∧ Pair2 news2 El (fun j => (xs j).E) ∧ (∃ itr nr, ((xs side).R, listOf itr.toArray nr) ∈ news2 ∧ All2 (RowIn news2) itr (xs side).rows) ∧ ∃ itr nr, ((xs oth).R, listOf itr.toArray nr) ∈ news2 ∧ All2 (RowIn news2) itr (xs oth).rows := by
  have I := I0.sub k0
  have G := I.side side hs
  have G2 := I.side oth (by omega)
  have t := G.t
  have t2 := G2.t
  have e1 := I.trl; have e2 := I.tel; have e3 := t2.fd; have e4 := t2.d; have e5 := t.r; have e6 := t2.r
  have nn : ∀ a : Addr, (tag a ≠ 10 * oth + 1 ∧ tag a ≠ 10 * oth + 3) → a ∉ [(xs oth).Fd, (xs oth).D] := fun a ha q => by
    rcases List.mem_cons.mp q with rfl | q
    · exact ha.1 e3
    · rw [List.mem_singleton.mp q] at ha; exact ha.2 e4
  refine ⟨I.rl.step S2 (nn _ (by omega)), I.el.step S2 (nn _ (by omega)), ?_, ?_⟩
  · obtain ⟨its, n, h1, h2⟩ := G.r.step S2 (nn _ (by omega))
    exact ⟨its, n, h1, h2⟩
  · obtain ⟨its, n, h1, h2⟩ := G2.r.step S2 (nn _ (by omega))
    exact ⟨its, n, h1, h2⟩
theorem closeP {h5 h6 : Int} {t5 t6 tc : Tok} {k2 : Nat} (I0 : Inv w cur0 tag xs Sl Rl El b) (k0 : SubL cur0 cur) (hs : side = 0 ∨ side = 1) (S2 : Step [(xs side).Fd, (xs side).D] cur news2) (hf : ((xs side).Fd, fdO h5 h6 t5 t6 tc side Pn k2) ∈ news2) (hp : GP news2 Pn rows') (hd : DirIn w news2 (xs side).D []) (fP : ∀ p ∈ cur, p.1 < Pn)
    (L3 : SubL news2 led3) (hr : GR led3 R' rows') (he : DirIn w led3 E' []) (fR : ∀ p ∈ news2, p.1 < R') (fE : R' < E') (S3 : Step [Rl] led3 news3) (P3 : Pair2 news3 Rl (fun i => if i = side then R' else (xs i).R)) (S4 : Step [El] news3 news4) (P4 : Pair2 news4 El (fun i => if i = side then E' else (xs i).E))
    (hb : b ≤ b') (hrl : rows'.length ≤ b') : ∃ tag' xs', Inv w news4 tag' xs' Sl Rl El b' ∧ Held cur0 news4 tag tag' := by
  have I := I0.sub k0
  have G := I.side side hs
  have t := G.t
  have e0 := t.md; have e1 := t.fd; have e3 := t.p; have e4 := t.d; have e5 := t.r
  have nn : ∀ a : Addr, (tag a ≠ 10 * side + 1 ∧ tag a ≠ 10 * side + 3) → a ∉ [(xs side).Fd, (xs side).D] := fun a ha q => by
    rcases List.mem_cons.mp q with rfl | q
    · exact ha.1 e1
    · rw [List.mem_singleton.mp q] at ha; exact ha.2 e4
  have hm : ∀ a ∈ [(xs side).Fd, (xs side).D], ∃ o, (a, o) ∈ news2 := fun a ha => by
    rcases List.mem_cons.mp ha with rfl | ha
    · exact ⟨_, hf⟩
    · rw [List.mem_singleton.mp ha]; obtain ⟨_, _, h, _⟩ := hd; exact ⟨_, h⟩
  have lR : ∀ p ∈ cur, p.1 < R' := step_lt S2 hm fR
  have lPR : Pn < R' := by obtain ⟨_, _, h, _⟩ := hp; exact fR _ h
  have lE : ∀ p ∈ cur, p.1 < E' := fun p hp => Nat.lt_trans (lR p hp) fE
  have k : SameT cur tag (retag (retag (retag tag Pn (10 * side + 2)) R' (10 * side + 4)) E' (10 * side + 5)) := fun p hp => ((retag_old (lE p hp)).trans (retag_old (lR p hp))).trans (retag_old (fP p hp))
  have G' := G.retag k
  have hRE : retag (retag (retag tag Pn (10 * side + 2)) R' (10 * side + 4)) E' (10 * side + 5) R' = 10 * side + 4 := (retag_old fE).trans retag_new
  have hPE : retag (retag (retag tag Pn (10 * side + 2)) R' (10 * side + 4)) E' (10 * side + 5) Pn = 10 * side + 2 := ((retag_old (Nat.lt_trans lPR fE)).trans (retag_old lPR)).trans retag_new
  have R := closeG (x' := { xs side with P := Pn, R := R', E := E', rows := rows', dir := [] }) I hs S2 (fun d hd => by
    rcases List.mem_cons.mp hd with rfl | hd
    · omega
    · rw [List.mem_singleton.mp hd]; omega)
    (G.a.step S2 (nn _ (by omega))) ⟨_, _, _, _, _, _, hf⟩ hp hd rfl rfl L3 hr he k ⟨G'.t.md, G'.t.fd, hPE, G'.t.d, hRE, retag_new⟩ S3 P3 S4 P4 hb hrl
  exact ⟨_, _, R.1, fun p hp ht => R.2 p (k0 p hp) ht⟩
end
theorem ent2 {news : Led} {t : Addr} {pv hv : Value} {n : Nat} {way so : Int} {mk : Mark} (m : (t, tupO [pv, hv] n) ∈ news) (p : PredIn news pv way) (h : HandIn news hv so mk (.bool false) (.bool false)) (h0 : 0 ≤ way) (h7 : way < 7) : EntIn news (.ref t) ⟨way, so, mk⟩ := ⟨t, pv, hv, _, _, n, rfl, .inl ⟨m, rfl, rfl⟩, p, h, h0, h7⟩
theorem ent3 {news : Led} {t : Addr} {pv hv : Value} {n : Nat} {way so : Int} {mk : Mark} {b : Bool} (m : (t, tupO [pv, hv, .bool b] n) ∈ news) (p : PredIn news pv way) (h : HandIn news hv so mk (.bool b) (.bool false)) (h0 : 0 ≤ way) (h7 : way < 7) : EntIn news (.ref t) ⟨way, so, mk⟩ := ⟨t, pv, hv, _, _, n, rfl, .inr (.inl ⟨m, ⟨b, rfl⟩, rfl⟩), p, h, h0, h7⟩
theorem entX {news : Led} {t : Addr} {pv hv : Value} {n : Nat} {way so : Int} {mk : Mark} {tk : Tok} (m : (t, tupO [pv, hv, .str (Str.ofString "extended") tk] n) ∈ news) (p : PredIn news pv way) (h : HandIn news hv so mk (.str (Str.ofString "extended") tk) (.bool true)) (h0 : 0 ≤ way) (h7 : way < 7) : EntIn news (.ref t) ⟨way, so, mk⟩ := ⟨t, pv, hv, _, _, n, rfl, .inr (.inr ⟨m, ⟨tk, rfl⟩, rfl⟩), p, h, h0, h7⟩
end Mine
local macro_rules | `(tactic| k_mem) => `(tactic| (repeat (first | exact List.Mem.head _ | assumption | refine List.Mem.tail _ ?_ | refine List.mem_append_right _ ?_)); done)
local macro_rules | `(tactic| walk_at "subscriptTail") => `(tactic| (k_here; (with_reducible show wpAny _ _ (subscriptTail _ _ (Value.ref _) (Value.int _ _)) _ _ _); k_dflt (refine' Mine.getM ?gaN (Mine.Inv.sub ?gaI ?gaS) ?gaj ?_ ?gas; (case gaN => k_asm); (case gaI => with_reducible assumption); (case gaS => (repeat (first | exact Mine.SubL.rfl | assumption | refine Mine.SubL.cons ?_ | refine Mine.SubL.app ?_)); done); (case gaj => first | assumption | exact Or.inl rfl | exact Or.inr rfl | omega); (case gas => with_unfolding_all rfl); (try dsimp only))))
local macro_rules | `(tactic| walk_at "subscriptTail") => `(tactic| (k_here; (with_reducible show wpAny _ _ (subscriptTail _ _ (Value.ref _) (Value.int _ _)) _ _ _); k_dflt (refine' Mine.getR ?gbN (Mine.Inv.sub ?gbI ?gbS) ?gbj ?_ ?gbs; (case gbN => k_asm); (case gbI => with_reducible assumption); (case gbS => (repeat (first | exact Mine.SubL.rfl | assumption | refine Mine.SubL.cons ?_ | refine Mine.SubL.app ?_)); done); (case gbj => first | assumption | exact Or.inl rfl | exact Or.inr rfl | omega); (case gbs => with_unfolding_all rfl); (try dsimp only))))
local macro_rules | `(tactic| walk_at "subscriptTail") => `(tactic| (k_here; (with_reducible show wpAny _ _ (subscriptTail _ _ (Value.ref _) (Value.int _ _)) _ _ _); k_dflt (refine' Mine.getE ?gcN (Mine.Inv.sub ?gcI ?gcS) ?gcj ?_ ?gcs; (case gcN => k_asm); (case gcI => with_reducible assumption); (case gcS => (repeat (first | exact Mine.SubL.rfl | assumption | refine Mine.SubL.cons ?_ | refine Mine.SubL.app ?_)); done); (case gcj => first | assumption | exact Or.inl rfl | exact Or.inr rfl | omega); (case gcs => with_unfolding_all rfl); (try dsimp only))))
local macro_rules | `(tactic| walk_at "call ref") => `(tactic| (k_here; (with_reducible show wpAny _ _ (call (Value.ref 193) [_, _, _]) _ _ _); k_dflt (refine' Mine.toldI ?tjB ?tjF ?tjN ?tjT ?tjC ?tjX ?tjdp ?tjun (Mine.Inv.sub ?tjI ?tjS) ?tjj ?_; (case tjF => k_asm); (case tjN => k_asm); (case tjB => k_asm); (case tjT => k_asm); (case tjC => assumption); (case tjX => k_asm); (case tjdp => ktr_room); (case tjun => ktr_units); (case tjI => with_reducible assumption); (case tjS => (repeat (first | exact Mine.SubL.rfl | assumption | refine Mine.SubL.cons ?_ | refine Mine.SubL.app ?_)); done); (case tjj => first | assumption | exact Or.inl rfl | exact Or.inr rfl | omega); (intro l' tl' h' tk' F' N' td' I'); (try dsimp only))))
local macro_rules | `(tactic| walk_at "call ref") => `(tactic| (k_here; (with_reducible show wpAny _ _ (call (Value.ref 186) [_, _, _, _]) _ _ _); k_dflt (refine' Mine.answI ?ajB ?ajF ?ajN ?ajT ?ajX ?ajdp ?ajun (Mine.Inv.sub ?ajI ?ajS) ?ajj ?_; (case ajF => k_asm); (case ajN => k_asm); (case ajB => k_asm); (case ajT => k_asm); (case ajX => k_asm); (case ajdp => ktr_room); (case ajun => ktr_units); (case ajI => with_reducible assumption); (case ajS => (repeat (first | exact Mine.SubL.rfl | assumption | refine Mine.SubL.cons ?_ | refine Mine.SubL.app ?_)); done); (case ajj => first | assumption | exact Or.inl rfl | exact Or.inr rfl | omega); (intro l' tl' h' tk' F' N' td' I'); (try dsimp only))))
local macro_rules | `(tactic| walk_at "call ref") => `(tactic| (k_here; (with_reducible show wpAny _ _ (call (Value.ref 122) _) _ _ _); k_dflt (refine' Mine.gnfI ?gjB ?gjF ?gjN ?gjT ?gjX ?gjdp ?gjun (Mine.Inv.sub ?gjI ?gjS) ?gjj ?gjb ?_; (case gjF => k_asm); (case gjN => k_asm); (case gjB => k_asm); (case gjT => k_asm); (case gjX => k_asm); (case gjdp => ktr_room); (case gjun => ktr_units); (case gjI => with_reducible assumption); (case gjS => (repeat (first | exact Mine.SubL.rfl | assumption | refine Mine.SubL.cons ?_ | refine Mine.SubL.app ?_)); done); (case gjj => first | assumption | exact Or.inl rfl | exact Or.inr rfl | omega); (case gjb => assumption); (intro h' tk' tk F' N'); (try dsimp only))))
local macro_rules | `(tactic| walk_at "call builtin:len") => `(tactic| (k_here; (with_reducible show wpAny _ _ (call (Value.builtin "len") [Value.ref _]) _ _ _); k_dflt (refine' Mine.lenI ?ljN (Mine.Inv.sub ?ljI ?ljS) ?ljj ?ljb ?_; (case ljN => k_asm); (case ljI => with_reducible assumption); (case ljS => (repeat (first | exact Mine.SubL.rfl | assumption | refine Mine.SubL.cons ?_ | refine Mine.SubL.app ?_)); done); (case ljj => first | assumption | exact Or.inl rfl | exact Or.inr rfl | omega); (case ljb => assumption); (try dsimp only))))
local macro_rules | `(tactic| walk_at "compareOp NotEq ref ref") => `(tactic| (k_here; k_dflt (refine' Mine.cmpN ?cnN (Mine.ToldIn.mono ?cna ?cns) (Mine.ToldIn.mono ?cnb ?cnt) ?cnu ?_; (case cnN => k_asm); (case cna => with_reducible assumption); (case cns => (repeat (first | exact Mine.SubL.rfl | assumption | refine Mine.SubL.cons ?_ | refine Mine.SubL.app ?_)); done); (case cnb => with_reducible assumption); (case cnt => (repeat (first | exact Mine.SubL.rfl | assumption | refine Mine.SubL.cons ?_ | refine Mine.SubL.app ?_)); done); (case cnu => ktr_units))))
theorem Mine.calmFI : True := by
  w_top off
  trivial
namespace Mine
noncomputable abbrev lawE (L fa : Addr) (cdv : Value) : Env := envX (Str.ofString "law") lawD.2 L fa cdv []
noncomputable abbrev lawA (dp un : Nat) (gd : Option (List Code)) (L fa : Addr) (cdv : Value) : Around := { handled := none, depth := dp, frames := some [lawE L fa cdv], guards := gd, units := un }
theorem fr_set {h₀ h : Heap} {L : Addr} {m : Str → Option Value} {x : Str} {v : Value} (F : Fr h₀ L h m) (e : m x = some v) : Fr h₀ L h (fun y => if y = x then some v else m y) := by
  have : (fun y => if y = x then some v else m y) = m := by
    funext y
    by_cases h : y = x
    · rw [if_pos h, h, e]
    · rw [if_neg h]
  rw [this]; exact F
theorem fr_set3 {h₀ h : Heap} {L : Addr} {m : Str → Option Value} {x y z : Str} {a b c : Value} (F : Fr h₀ L h m) (e1 : m x = some a) (e2 : m y = some b) (e3 : m z = some c) (h1 : x ≠ y) (h2 : x ≠ z) (h3 : y ≠ z) :
    Fr h₀ L h (fun k => if k = x then some a else if k = y then some b else if k = z then some c else m k) :=
  fr_set (fr_set (fr_set F e3) ((if_neg h3).trans e2)) ((if_neg h1).trans ((if_neg h2).trans e1))
theorem fin {fa : Addr} {cdv : Value} {w : World} {mean : ExcName → Option Value} {mg mb : Str → Option Value} {dp un : Nat} {gd : Option (List Code)} {A₀ : Around} {h₀ : Heap} {L : Addr} {m : Str → Option Value} {s : Shared} {news : Led} {Q : Flow → Shared → Prop} {E : Value → Shared → Prop}
  {tag : Addr → Int} {xs : Int → SideA} {Sl Rl El : Addr} {b : Nat} (B : Below A₀ h₀ [] h₀) (F : Fr h₀ L s.heap m) (N : News h₀ L s.heap news) (T : Top topProg LL mean mg mb h₀) (C : CodeHd h₀ 150 146) (X : (hd.heap_39 w.params).In h₀) (hdp : dp + 40 < recursionLimit) (hu : un + 320 < cLine) (I : Inv w news tag xs Sl Rl El b) (hb : b ≤ sizeLine)
  (e1 : m (Str.ofString "sides") = some (.ref Sl)) (e2 : m (Str.ofString "rows") = some (.ref Rl)) (e3 : m (Str.ofString "direct") = some (.ref El))
  (hE : PassesOwn (model PySem.Challenge.rw_fe0065_01.row.prog w) (lawA dp un gd L fa cdv) (lawE L fa cdv) E)
  (ret : ∀ h' tk' m', Fr h₀ L h' m' → News h₀ L h' news → Q (.ret (.bool true)) { s with heap := h', toks := tk' }) :
 wpAny (model PySem.Challenge.rw_fe0065_01.row.prog w) (lawA dp un gd L fa cdv) (execs (lawD.1.drop 6) (lawE L fa cdv)) Q E s := by
  revert X; k_fill; intro X
  rcases hl : lawD with ⟨bd, sc⟩
  simp only [lawA, lawE, hl] at hE ⊢
  conv at hl => lhs; whnf
  cases hl
  have F1 := fr_set3 F e1 e2 e3 (by decide +kernel) (by decide +kernel) (by decide +kernel)
  clear F
  simp only [List.drop]
  iterate 9 walk1
  refine loopRg (n := 2) ["one", "kind"] (fun _ n1 => n1 = news) rfl ‹IsRange _ _ _ _ _ _ _ _› (by decide) (by decide) (by assumption) (by assumption) (by decide) rfl ?_ ?_
  · rintro i u news₁ t h tk It oI hi rfl hof hlt F₁ N₁
    iterate 9 walk1
    refine loopRg (n := 6) ["kind"] (fun _ n1 => n1 = (It, oI) :: news₁) rfl ‹IsRange _ _ _ _ _ _ _ _› (by decide) (by decide) (by assumption) (by assumption) (by decide) rfl ?_ ?_
    · rintro i2 u2 news₂ t2 h2 tk2 It2 oI2 hi2 rfl hof2 hlt2 F₂ N₂
      k_steps
      refine rg_next ⟨_, _, _, (It, oI) :: news₁, rfl, by assumption, news_sub (by assumption) ?_, hof2, ?_, rfl⟩
      · intro p hp
        rcases List.mem_cons.mp hp with rfl | hp
        · exact List.mem_append_right _ (List.mem_append_right _ (List.mem_cons_self ..))
        · exact List.mem_append_right _ (List.mem_append_right _ (List.mem_cons_of_mem _ hp))
      · intro y hy
        have hy' := hy
        simp only [List.contains_cons, List.contains_nil, Bool.or_eq_false_iff, beq_eq_false_iff_ne] at hy'
        obtain ⟨a1, _⟩ := hy'
        simp only [a1, if_false]
        simp only [hy]
        rfl
    · rintro h2 tk2 u2 news₂ rfl F₂ N₂
      k_steps
      refine rg_next ⟨_, _, _, news₁, rfl, by assumption, by assumption, hof, ?_, rfl⟩
      intro y hy
      have hy' := hy
      simp only [List.contains_cons, List.contains_nil, Bool.or_eq_false_iff, beq_eq_false_iff_ne] at hy'
      obtain ⟨a1, a2, _⟩ := hy'
      simp only [a1, a2, List.contains_cons, List.contains_nil, beq_eq_false_iff_ne.mpr a1, beq_eq_false_iff_ne.mpr a2, Bool.or_false, if_false]
      try (first | rfl | (simp only [hy]; rfl) | (simp [a1, a2]; done))
  · rintro h tk u news₁ rfl F₁ N₁
    k_steps
    exact ret _ _ _ (by assumption) (by assumption)
end Mine
theorem Mine.calmCK : True := by
  w_top off
  trivial
namespace Mine
def setsM (l : List (Str × Value)) (m : Str → Option Value) : Str → Option Value := fun y => match l.lookup y with | some v => some v | none => m y
theorem sets_eq {m : Str → Option Value} (l : List (Str × Value)) (hl : ∀ p ∈ l, m p.1 = some p.2) : (fun y => match l.lookup y with | some v => some v | none => m y) = m := by
  funext y
  cases h : l.lookup y with
  | none => rfl
  | some v =>
    have : (y, v) ∈ l := by
      clear hl
      induction l with
      | nil => simp at h
      | cons p r ih =>
        rw [List.lookup_cons] at h
        by_cases e : (y == p.1) = true
        · rw [e] at h
          have e2 : y = p.1 := by simpa using e
          cases h
          rw [e2]; exact List.mem_cons_self ..
        · simp only [Bool.not_eq_true] at e
          rw [e] at h
          exact List.mem_cons_of_mem _ (ih h)
    exact (hl _ this).symm
theorem chk {fa : Addr} {cdv : Value} {w : World} {mean : ExcName → Option Value} {mg mb : Str → Option Value} {dp un : Nat} {gd : Option (List Code)} {A₀ : Around} {h₀ : Heap} {L : Addr} {m : Str → Option Value} {s : Shared} {news : Led} {Q : Flow → Shared → Prop} {E : Value → Shared → Prop}
  {tag : Addr → Int} {xs : Int → SideA} {Sl Rl El : Addr} {b : Nat} {iv number : Int} {ti tnu : Tok} (B : Below A₀ h₀ [] h₀) (F : Fr h₀ L s.heap m) (N : News h₀ L s.heap news) (T : Top topProg LL mean mg mb h₀) (C : CodeHd h₀ 150 146) (X : (hd.heap_39 w.params).In h₀) (hdp : dp + 40 < recursionLimit) (hu : un + 320 < cLine) (I : Inv w news tag xs Sl Rl El b) (hb : b ≤ sizeLine)
  (e1 : m (Str.ofString "sides") = some (.ref Sl)) (e2 : m (Str.ofString "rows") = some (.ref Rl)) (e3 : m (Str.ofString "direct") = some (.ref El)) (e4 : m (Str.ofString "i") = some (.int iv ti)) (e5 : m (Str.ofString "number") = some (.int number tnu))
  (hE : PassesOwn (model PySem.Challenge.rw_fe0065_01.row.prog w) (lawA dp un gd L fa cdv) (lawE L fa cdv) E)
  (ret : ∀ f h' tk' m', (f = .next ∨ f = .cont) → Fr h₀ L h' m' → News h₀ L h' news → (∀ y : Str, (["one", "kind"] : List Str).contains y = false → m' y = m y) → Q f { s with heap := h', toks := tk' }) :
 wpAny (model PySem.Challenge.rw_fe0065_01.row.prog w) (lawA dp un gd L fa cdv) (execs ((forAt lawD.1 5).drop 3) (lawE L fa cdv)) Q E s := by
  revert X; k_fill; intro X
  rcases hl : lawD with ⟨bd, sc⟩
  simp only [lawA, lawE, hl] at hE ⊢
  conv at hl => lhs; whnf
  cases hl
  have hEq := sets_eq (m := m) [(Str.ofString "sides", .ref Sl), (Str.ofString "rows", .ref Rl), (Str.ofString "direct", .ref El), (Str.ofString "i", .int iv ti), (Str.ofString "number", .int number tnu)] (by
    intro p hp
    simp only [List.mem_cons, List.not_mem_nil, or_false] at hp
    rcases hp with rfl | rfl | rfl | rfl | rfl <;> assumption)
  have F1 := F
  rw [← hEq] at F1
  clear F
  simp only [List.drop, forAt]
  iterate 14 walk1
  · k_steps
    dsimp only
    exact ret .cont _ _ _ (.inr rfl) (by assumption) (by assumption) (fun y hy => congrFun hEq y)
  · iterate 11 walk1
    refine loopRg (n := 2) ["one", "kind"] (fun _ n1 => n1 = news) rfl ‹IsRange _ _ _ _ _ _ _ _› (by decide) (by decide) (by assumption) (by assumption) (by decide) rfl ?_ ?_
    · rintro i u news₁ t h tk It oI hi rfl hof hlt F₁ N₁
      obtain ⟨⟨bm, fbk, c, h1, h2, h3, h4, t1, t2, t3, t4, ts, k, a1, a2, a3, a4, a5, a6⟩, _⟩ := I.side (0 + (i : Int) * 1) (by omega)
      iterate 24 walk1
      · exact absurd rfl (by assumption)
      · iterate 3 walk1
        refine' For_turns ?F ?_ ?hs ?hE
        (case F => k_asm)
        (case hs => intro _; rfl)
        (case hE => passes_own)
        iterate 16 walk1
        have hlt := ‹_ ∧ AllLt _ news₁›
        refine loopS (its := [_, _]) ["kind"] (fun _ n1 => n1 = _) rfl (by assumption) (by assumption) (List.mem_cons_self ..) rfl ?_ ?_
        · rintro i2 v u2 news₂ h2 tk2 It2 oI2 hv rfl hof2 hlt2 F₂ N₂
          obtain ⟨k2, tkk, rfl⟩ : ∃ k2 tkk, v = .int k2 tkk := by
            rcases i2 with _ | _ | i2 <;> simp at hv <;> exact ⟨_, _, hv.symm⟩
          k_steps
          refine turnS_next ⟨_, _, _, _, rfl, by assumption, news_sub (by assumption) (fun p hp => List.mem_append_right _ (List.mem_append_right _ hp)), hof2, ?_, rfl⟩
          intro y hy
          have hy' := hy
          simp only [List.contains_cons, List.contains_nil, Bool.or_eq_false_iff, beq_eq_false_iff_ne] at hy'
          obtain ⟨a1, _⟩ := hy'
          simp only [a1, if_false]
          simp only [hy]
          rfl
        · rintro h2 tk2 u2 news₂ rfl F₂ N₂
          k_steps
          refine rg_next ⟨_, _, _, news₁, rfl, by assumption, news_sub (by assumption) (fun p hp => List.mem_cons_of_mem _ hp), hof, ?_, rfl⟩
          intro y hy
          have hy' := hy
          simp only [List.contains_cons, List.contains_nil, Bool.or_eq_false_iff, beq_eq_false_iff_ne] at hy'
          obtain ⟨a1, a2, _⟩ := hy'
          simp only [a1, a2, List.contains_cons, List.contains_nil, beq_eq_false_iff_ne.mpr a1, beq_eq_false_iff_ne.mpr a2, Bool.or_false, if_false]
          try (first | rfl | (simp only [hy]; rfl) | (simp [a1, a2]; done))
    · rintro h tk u news₁ rfl F₁ N₁
      k_steps
      refine ret .next _ _ _ (.inl rfl) F₁ N₁ fun y hy => ?_
      exact (if_neg (by rw [hy]; exact Bool.false_ne_true)).trans (congrFun hEq y)
end Mine
local macro_rules | `(tactic| walk_at "call ref") => `(tactic| (k_here; (with_reducible show wpAny _ _ (call (Value.ref 94) _) _ _ _); (refine Mine.stop_in ?_)))
local macro_rules | `(tactic| walk_at "call ref") => `(tactic| (k_here; (with_reducible show wpAny _ _ (call (Value.ref 101) _) _ _ _); (refine Mine.stop_in ?_)))
local macro_rules | `(tactic| walk_at "call ref") => `(tactic| (k_here; (with_reducible show wpAny _ _ (call (Value.ref 130) _) _ _ _); (refine Mine.stop_in ?_)))
local macro_rules | `(tactic| walk_at "setItem ref int") => `(tactic| (k_here; (with_reducible show wpAny _ _ (setItem (Value.ref _) (Value.int _ _) _) _ _ _); (refine Mine.stop_in ?_)))
local macro_rules | `(tactic| walk_at "call ref") => `(tactic| (k_here; (with_reducible show wpAny _ _ (call (Value.ref 108) _) _ _ _); k_dflt (refine' Mine.clrI (Or.inl rfl) ?ckB ?ckF ?ckN ?ckT ?ckX ?ckdp ?ckun (Mine.Inv.sub ?ckI ?ckS) ?ckj ?ckb ?_; (case ckF => k_asm); (case ckN => k_asm); (case ckB => k_asm); (case ckT => k_asm); (case ckX => k_asm); (case ckdp => ktr_room); (case ckun => ktr_units); (case ckI => with_reducible assumption); (case ckS => (repeat (first | exact Mine.SubL.rfl | assumption | refine Mine.SubL.cons ?_ | refine Mine.SubL.app ?_)); done); (case ckj => first | assumption | exact Or.inl rfl | exact Or.inr rfl | omega); (case ckb => assumption); (intro news' h' tk' F' N' S' D'); (try dsimp only))))
local macro_rules | `(tactic| walk_at "call ref") => `(tactic| (k_here; (with_reducible show wpAny _ _ (call (Value.ref 115) _) _ _ _); k_dflt (refine' Mine.clrI (Or.inr rfl) ?clB ?clF ?clN ?clT ?clX ?cldp ?clun (Mine.Inv.sub ?clI ?clS) ?clj ?clb ?_; (case clF => k_asm); (case clN => k_asm); (case clB => k_asm); (case clT => k_asm); (case clX => k_asm); (case cldp => ktr_room); (case clun => ktr_units); (case clI => with_reducible assumption); (case clS => (repeat (first | exact Mine.SubL.rfl | assumption | refine Mine.SubL.cons ?_ | refine Mine.SubL.app ?_)); done); (case clj => first | assumption | exact Or.inl rfl | exact Or.inr rfl | omega); (case clb => assumption); (intro news' h' tk' F' N' S' D'); (try dsimp only))))
local macro_rules | `(tactic| walk_at "call ref") => `(tactic| (k_here; (with_reducible show wpAny _ _ (call (Value.ref 151) _) _ _ _); k_dflt (refine' Mine.mkPI ?mpB ?mpF ?mpN ?mpT ?mpC ?mpX ?mpdp ?mpun (Mine.Inv.sub ?mpI ?mpS) ?_; (case mpF => k_asm); (case mpN => k_asm); (case mpB => k_asm); (case mpT => k_asm); (case mpC => assumption); (case mpX => k_asm); (case mpdp => ktr_room); (case mpun => ktr_units); (case mpI => with_reducible assumption); (case mpS => (repeat (first | exact Mine.SubL.rfl | assumption | refine Mine.SubL.cons ?_ | refine Mine.SubL.app ?_)); done); (intro f' tl' h' tk' F' N' P' I'); (try dsimp only))))
local macro_rules | `(tactic| walk_at "call ref") => `(tactic| (k_here; (with_reducible show wpAny _ _ (call (Value.ref 158) _) _ _ _); k_dflt (refine' Mine.mkFI ?mfB ?mfF ?mfN ?mfT ?mfC ?mfX ?mfdp ?mfun (Mine.Inv.sub ?mfI ?mfS) ?_; (case mfF => k_asm); (case mfN => k_asm); (case mfB => k_asm); (case mfT => k_asm); (case mfC => assumption); (case mfX => k_asm); (case mfdp => ktr_room); (case mfun => ktr_units); (case mfI => with_reducible assumption); (case mfS => (repeat (first | exact Mine.SubL.rfl | assumption | refine Mine.SubL.cons ?_ | refine Mine.SubL.app ?_)); done); (intro f' tl' h' tk' F' N' H' I'); (try dsimp only))))
local macro_rules | `(tactic| walk_at "call ref") => `(tactic| (k_here; (with_reducible show wpAny _ _ (call (Value.ref 172) _) _ _ _); k_dflt (refine' Mine.mkEI ?meB ?meF ?meN ?meT ?meC ?meX ?medp ?meun (Mine.Inv.sub ?meI ?meS) ?_; (case meF => k_asm); (case meN => k_asm); (case meB => k_asm); (case meT => k_asm); (case meC => assumption); (case meX => k_asm); (case medp => ktr_room); (case meun => ktr_units); (case meI => with_reducible assumption); (case meS => (repeat (first | exact Mine.SubL.rfl | assumption | refine Mine.SubL.cons ?_ | refine Mine.SubL.app ?_)); done); (intro f' news' h' tk' F' N' S' H' I'); (try dsimp only))))
local macro_rules | `(tactic| walk_at "subscriptTail") => `(tactic| (k_here; (with_reducible show wpAny _ _ (subscriptTail _ _ (Value.ref _) (Value.int _ _)) _ _ _); k_dflt (refine' Mine.get2 ?gpN (Mine.Pair2.sub ?gpI ?gpS) ?gpj ?_ ?gps; (case gpN => k_asm); (case gpI => with_reducible assumption); (case gpS => (repeat (first | exact Mine.SubL.rfl | assumption | refine Mine.SubL.cons ?_ | refine Mine.SubL.app ?_)); done); (case gpj => first | assumption | exact Or.inl rfl | exact Or.inr rfl | omega); (case gps => with_unfolding_all rfl); (try dsimp only))))
theorem Mine.calmBR5 : True := by
  w_top off
  trivial
namespace Mine
def ifAt (l : List Stmt) (k : Nat) : List Stmt × List Stmt := match l.drop k with
  | .If _ b o _ :: _ => (b, o)
  | _ => ([], [])
noncomputable abbrev if0 : List Stmt × List Stmt := ifAt (forAt lawD.1 5) 2
noncomputable abbrev if3 : List Stmt × List Stmt := ifAt if0.2 0
noncomputable abbrev if4 : List Stmt × List Stmt := ifAt if3.2 0
noncomputable abbrev if5 : List Stmt × List Stmt := ifAt if4.2 0
noncomputable abbrev if6 : List Stmt × List Stmt := ifAt if5.2 0
theorem br5 {fa : Addr} {cdv : Value} {w : World} {mean : ExcName → Option Value} {mg mb : Str → Option Value} {dp un : Nat} {gd : Option (List Code)} {A₀ : Around} {h₀ : Heap} {L : Addr} {m : Str → Option Value} {s : Shared} {news : Led} {Q : Flow → Shared → Prop} {E : Value → Shared → Prop}
  {tag : Addr → Int} {xs : Int → SideA} {Sl Rl El : Addr} {b : Nat} {side second : Int} {tsi tse : Tok} (B : Below A₀ h₀ [] h₀) (F : Fr h₀ L s.heap m) (N : News h₀ L s.heap news) (T : Top topProg LL mean mg mb h₀) (X : (hd.heap_39 w.params).In h₀) (hdp : dp + 40 < recursionLimit) (hu : un + 320 < cLine) (I : Inv w news tag xs Sl Rl El b) (hb : b ≤ sizeLine) (hside : side = 0 ∨ side = 1)
  (e1 : m (Str.ofString "sides") = some (.ref Sl)) (e2 : m (Str.ofString "rows") = some (.ref Rl)) (e3 : m (Str.ofString "direct") = some (.ref El)) (e4 : m (Str.ofString "side") = some (.int side tsi)) (e5 : m (Str.ofString "second") = some (.int second tse))
  (ret : ∀ news' tag' xs' h' tk', Fr h₀ L h' m → News h₀ L h' news' → Inv w news' tag' xs' Sl Rl El b → Held news news' tag tag' → Q .next { s with heap := h', toks := tk' }) :
 wpAny (model PySem.Challenge.rw_fe0065_01.row.prog w) (lawA dp un gd L fa cdv) (execs if5.1 (lawE L fa cdv)) Q E s := by
  revert X; k_fill; intro X
  rcases hl : lawD with ⟨bd, sc⟩
  simp only [lawA, lawE, if5, if4, if3, if0, hl]
  conv at hl => lhs; whnf
  cases hl
  have hEq := sets_eq (m := m) [(Str.ofString "sides", .ref Sl), (Str.ofString "rows", .ref Rl), (Str.ofString "direct", .ref El), (Str.ofString "side", .int side tsi), (Str.ofString "second", .int second tse)] (by
    intro p hp
    simp only [List.mem_cons, List.not_mem_nil, or_false] at hp
    rcases hp with rfl | rfl | rfl | rfl | rfl <;> assumption)
  rw [← hEq] at F
  simp only [List.drop, forAt, ifAt]
  obtain ⟨⟨bm, fbk, c, h1, h2, h3, h4, t1, t2, t3, t4, ts, k, a1, a2, a3, a4, a5, a6⟩, _, _, hD, _, _, _⟩ := I.side side hside
  k_steps
  all_goals unfold Stop
  all_goals refine close5 I hside ‹Step _ news _› ‹DirIn _ _ _ []› (by assumption) (by assumption) (by assumption) (by assumption) (by assumption) fun h' news' tag' xs' F' N' I' H' => ?_
  all_goals k_steps
  all_goals rw [hEq] at F'
  all_goals exact ret _ _ _ _ _ F' N' I' H'
end Mine
theorem Mine.calmGL : True := by
  w_top off
  trivial
namespace Mine
section
variable {w : World} {A : Around} {E : Value → Shared → Prop} {s : Shared} {h₀ : Heap} {L D : Addr} {m : Str → Option Value} {news : Led} {its : List Value} {n : Nat}
theorem getL {x : Value} {j : Int} {t : Tok} {value slice : PySem.Expr} {Q : Value → Shared → Prop} (N : News h₀ L s.heap news) (hm : (D, listOf its.toArray n) ∈ news) (h0 : 0 ≤ j) (hf : j < 2 ^ 63) (hx : its[j.toNat]? = some x) (h : Q x s)
    (hs : subscripted slice false (.ref D) (.int j t) = operate [.ref D, .int j t] (getItem (.ref D) (.int j t))) :
    wpAny (model PG w) A (subscriptTail value slice (.ref D) (.int j t)) Q E s := by
  have hl := PySem.IsL.isList (n := n) (N _ hm).1
  exact tail_any hl.typeIs slot_list_getitem.lookup (wpAny_getItem_list hl h0 hf (by simpa using hx) h) hs
end
end Mine
local macro_rules | `(tactic| walk_at "m sub") => `(tactic| ((repeat (first | exact Mine.SubL.rfl | assumption | refine Mine.SubL.cons ?_ | refine Mine.SubL.app ?_)); done))
local macro_rules | `(tactic| walk_at "m pred") => `(tactic| (first
  | (refine' Mine.PredIn.mono ?mqp ?mqs; (case mqp => with_reducible assumption); (case mqs => (repeat (first | exact Mine.SubL.rfl | assumption | refine Mine.SubL.cons ?_ | refine Mine.SubL.app ?_)); done))
  | (refine' Mine.pred_carry ?mpp ?mpk ?mpS ?mpl; (case mpp => with_reducible assumption); (case mpS => with_reducible assumption); (case mpk => (repeat (first | exact Mine.SubL.rfl | assumption | refine Mine.SubL.cons ?_ | refine Mine.SubL.app ?_)); done); (case mpl => (repeat (first | exact Mine.SubL.rfl | assumption | refine Mine.SubL.cons ?_ | refine Mine.SubL.app ?_)); done))))
theorem Mine.calmBR0 : True := by
  w_top off
  trivial
namespace Mine
theorem br0 {fa : Addr} {cdv : Value} {w : World} {mean : ExcName → Option Value} {mg mb : Str → Option Value} {dp un : Nat} {gd : Option (List Code)} {A₀ : Around} {h₀ : Heap} {L : Addr} {m : Str → Option Value} {s : Shared} {news : Led} {Q : Flow → Shared → Prop} {E : Value → Shared → Prop}
  {tag : Addr → Int} {xs : Int → SideA} {Sl Rl El : Addr} {b : Nat} {side second deed way iv : Int} {tsi tse tde twa tiv : Tok} (B : Below A₀ h₀ [] h₀) (F : Fr h₀ L s.heap m) (N : News h₀ L s.heap news) (T : Top topProg LL mean mg mb h₀) (C1 : CodeHd h₀ 150 146) (C2 : CodeHd h₀ 157 153) (C3 : CodeHd h₀ 171 167) (X : (hd.heap_39 w.params).In h₀) (hdp : dp + 40 < recursionLimit) (hu : un + 320 < cLine) (I : Inv w news tag xs Sl Rl El b) (hb : b + 10 ≤ sizeLine) (hside : side = 0 ∨ side = 1) (hw0 : 0 ≤ way) (hw7 : way < 7) (hd0 : 0 ≤ deed) (hd3 : deed < 3)
  (e1 : m (Str.ofString "sides") = some (.ref Sl)) (e2 : m (Str.ofString "rows") = some (.ref Rl)) (e3 : m (Str.ofString "direct") = some (.ref El)) (e4 : m (Str.ofString "side") = some (.int side tsi)) (e5 : m (Str.ofString "second") = some (.int second tse)) (e6 : m (Str.ofString "deed") = some (.int deed tde)) (e7 : m (Str.ofString "way") = some (.int way twa)) (e8 : m (Str.ofString "i") = some (.int iv tiv))
  (ret : ∀ news' tag' xs' h' tk' m', Fr h₀ L h' m' → News h₀ L h' news' → Inv w news' tag' xs' Sl Rl El (b + 2) → Held news news' tag tag' → (∀ y : Str, (["sort", "entry"] : List Str).contains y = false → m' y = m y) → Q .next { s with heap := h', toks := tk' }) :
 wpAny (model PySem.Challenge.rw_fe0065_01.row.prog w) (lawA dp un gd L fa cdv) (execs if0.1 (lawE L fa cdv)) Q E s := by
  revert X; k_fill; intro X
  rcases hl : lawD with ⟨bd, sc⟩
  simp only [lawA, lawE, if0, hl]
  conv at hl => lhs; whnf
  cases hl
  have hEq := sets_eq (m := m) [(Str.ofString "sides", .ref Sl), (Str.ofString "rows", .ref Rl), (Str.ofString "direct", .ref El), (Str.ofString "side", .int side tsi), (Str.ofString "second", .int second tse), (Str.ofString "deed", .int deed tde), (Str.ofString "way", .int way twa), (Str.ofString "i", .int iv tiv)] (by
    intro p hp
    simp only [List.mem_cons, List.not_mem_nil, or_false] at hp
    rcases hp with rfl | rfl | rfl | rfl | rfl | rfl | rfl | rfl <;> assumption)
  rw [← hEq] at F
  simp only [List.drop, forAt, ifAt]
  clear e1 e2 e3 e4 e5 e6 e7 e8
  have hdc : deed = 0 ∨ deed = 1 ∨ deed = 2 := by omega
  clear hd0 hd3
  rcases hdc with rfl | rfl | rfl
  all_goals k_steps
  all_goals rename Step [167] _ _ => S9
  all_goals have T9 := S9.imm
  all_goals simp only [SubI, List.forall_mem_append, List.forall_mem_cons] at T9
  all_goals obtain ⟨_, q2, _, _, q3, q4, _, _⟩ := T9
  all_goals have r2 := q2 imm_tup
  all_goals have r3 := q3 imm_tup
  all_goals have r4 := q4 imm_tup
  all_goals clear q2 q3 q4
  all_goals try k_steps
  all_goals rename Inv _ _ _ _ _ _ _ _ => I9
  all_goals obtain ⟨⟨bm, fbk, c, h1, h2, h3, h4, t1, t2, t3, t4, ts, k, a1, a2, a3, a4, a5, a6⟩, ⟨h5, h6, t5, t6, tc, k2, f1⟩, ⟨itp, np, p1, p2⟩, hD9, hR9, hE9, hT9⟩ := I9.side side hside
  all_goals k_steps
  · unfold Stop
    refine' regI (ents := [⟨way, 0, .num iv⟩]) B ?rF ?rN T X ?rdp ?run (I9.sub ?rs) hside ?rb ?rm0 (.cons ?re .nil) ?rl ?_
    (case rF => k_asm)
    (case rN => k_asm)
    (case rm0 => exact List.mem_cons_self ..)
    (case re => exact ent3 (b := false) (by k_mem) (by walk_at "m pred") (.plain (by k_mem) ⟨_, rfl⟩) hw0 hw7)
    (case rdp => ktr_room)
    (case run => ktr_units)
    (case rs => walk_at "m sub")
    (case rb => (show b + 1 ≤ sizeLine); omega)
    (case rl =>
      obtain ⟨oP, hP⟩ := I9.pmem hside
      exact Ne.symm (Nat.ne_of_lt (allLt_all ((‹_ ∧ _ ∧ _ ∧ AllLt _ _›).2.2.2) _ hP)))
    intro news2 h2 tk2 F2 N2 S2 GP2 D2
    obtain ⟨hRl2, hEl2, itr, nr, hR2, hRows2⟩ := afterR I9 (by walk_at "m sub") hside S2
    have hsz : 1 + itr.length ≤ sizeLine := by
      have e1 := hRows2.length
      have e2 := I9.lr side hside
      omega
    have H9 : Held news _ tag tag := held167 (by walk_at "m sub") S9 I.tte SubL.rfl
    clear hD9 hR9 hE9 a1 a2 a3 a4 a5 a6 f1 p1 p2 r2 r3 r4
    k_steps
    unfold Stop
    refine' set2_abs ?F ?N (hRl2.sub ?sb) hside ?_
    (case F => k_asm)
    (case N => k_asm)
    (case sb => walk_at "m sub")
    intro h3 news3 F3 N3 P3 S3
    have hEl3 := (hEl2.sub (by walk_at "m sub")).step S3 (fun q => by have q1 := I9.trl; have q2 := I9.tel; rw [List.mem_singleton.mp q, q1] at q2; exact absurd q2 (by decide))
    k_steps
    unfold Stop
    refine' set2_abs ?F ?N hEl3 hside ?_
    (case F => k_asm)
    (case N => k_asm)
    intro h4 news4 F4 N4 P4 S4
    k_steps
    obtain ⟨tag', xs', I', H'⟩ : ∃ tag' xs', Inv w news4 tag' xs' Sl Rl El (b + 2) ∧ Held _ news4 tag tag' := by
      refine' closeR I9 ?k0 hside S2 GP2 D2 ?L3 ?hr ?he ?fR ?fE S3 P3 S4 P4 (by omega) ?hrl
      (case k0 => walk_at "m sub")
      (case hrl => (have e2 := I9.lr side hside; show (xs side).rows.length + 1 ≤ b + 2; omega))
      (case L3 => walk_at "m sub")
      (case hr => exact ⟨_, 0, by k_mem, .cons ⟨_, _, _, _, _, rfl, by k_mem, ⟨_, rfl⟩, hw0, hw7, (show (0 : Int) ≤ 0 by decide), (show (0 : Int) < 4 by decide)⟩ (hRows2.mono fun _ _ q => q.mono' (by walk_at "m sub"))⟩)
      (case he => exact ⟨_, [], by k_mem, by assumption, by assumption, .nil⟩)
      (case fR => exact allLt_all (‹_ ∧ _ ∧ AllLt _ news2›.2.2))
      (case fE => exact (‹_ ∧ _ ∧ _ ∧ AllLt _ news2›.1))
    exact ret _ _ _ _ _ _ F4 N4 I' ((H9.sub (by walk_at "m sub")).trans H') (fun y hy => by
      simp only [List.contains_cons, List.contains_nil, Bool.or_false, Bool.or_eq_false_iff, beq_eq_false_iff_ne] at hy
      simp only [if_neg hy.1, if_neg hy.2]
      exact congrFun hEq y)
  · unfold Stop
    refine' regI (ents := [⟨way, 0, .num iv⟩]) B ?rF ?rN T X ?rdp ?run (I9.sub ?rs) hside ?rb ?rm0 (.cons ?re .nil) ?rl ?_
    (case rF => k_asm)
    (case rN => k_asm)
    (case rm0 => exact List.mem_cons_self ..)
    (case re => exact ent2 (by k_mem) (by walk_at "m pred") (.plain (by k_mem) ⟨_, rfl⟩) hw0 hw7)
    (case rdp => ktr_room)
    (case run => ktr_units)
    (case rs => walk_at "m sub")
    (case rb => (show b + 1 ≤ sizeLine); omega)
    (case rl =>
      obtain ⟨oP, hP⟩ := I9.pmem hside
      exact Ne.symm (Nat.ne_of_lt (allLt_all ((‹_ ∧ _ ∧ AllLt _ _›).2.2) _ hP)))
    intro news2 h2 tk2 F2 N2 S2 GP2 D2
    obtain ⟨hRl2, hEl2, itr, nr, hR2, hRows2⟩ := afterR I9 (by walk_at "m sub") hside S2
    have hsz : 1 + itr.length ≤ sizeLine := by
      have e1 := hRows2.length
      have e2 := I9.lr side hside
      omega
    have H9 : Held news _ tag tag := held167 (by walk_at "m sub") S9 I.tte SubL.rfl
    clear hD9 hR9 hE9 a1 a2 a3 a4 a5 a6 f1 p1 p2 r2 r3 r4
    k_steps
    unfold Stop
    refine' set2_abs ?F ?N (hRl2.sub ?sb) hside ?_
    (case F => k_asm)
    (case N => k_asm)
    (case sb => walk_at "m sub")
    intro h3 news3 F3 N3 P3 S3
    have hEl3 := (hEl2.sub (by walk_at "m sub")).step S3 (fun q => by have q1 := I9.trl; have q2 := I9.tel; rw [List.mem_singleton.mp q, q1] at q2; exact absurd q2 (by decide))
    k_steps
    unfold Stop
    refine' set2_abs ?F ?N hEl3 hside ?_
    (case F => k_asm)
    (case N => k_asm)
    intro h4 news4 F4 N4 P4 S4
    k_steps
    obtain ⟨tag', xs', I', H'⟩ : ∃ tag' xs', Inv w news4 tag' xs' Sl Rl El (b + 2) ∧ Held _ news4 tag tag' := by
      refine' closeR I9 ?k0 hside S2 GP2 D2 ?L3 ?hr ?he ?fR ?fE S3 P3 S4 P4 (by omega) ?hrl
      (case k0 => walk_at "m sub")
      (case hrl => (have e2 := I9.lr side hside; show (xs side).rows.length + 1 ≤ b + 2; omega))
      (case L3 => walk_at "m sub")
      (case hr => exact ⟨_, 0, by k_mem, .cons ⟨_, _, _, _, _, rfl, by k_mem, ⟨_, rfl⟩, hw0, hw7, (show (0 : Int) ≤ 0 by decide), (show (0 : Int) < 4 by decide)⟩ (hRows2.mono fun _ _ q => q.mono' (by walk_at "m sub"))⟩)
      (case he => exact ⟨_, [], by k_mem, by assumption, by assumption, .nil⟩)
      (case fR => exact allLt_all (‹_ ∧ _ ∧ AllLt _ news2›.2.2))
      (case fE => exact (‹_ ∧ _ ∧ _ ∧ AllLt _ news2›.1))
    exact ret _ _ _ _ _ _ F4 N4 I' ((H9.sub (by walk_at "m sub")).trans H') (fun y hy => by
      simp only [List.contains_cons, List.contains_nil, Bool.or_false, Bool.or_eq_false_iff, beq_eq_false_iff_ne] at hy
      simp only [if_neg hy.1, if_neg hy.2]
      exact congrFun hEq y)
  · unfold Stop
    refine' regI (ents := [⟨way, 3, .num iv⟩]) B ?rF ?rN T X ?rdp ?run (I9.sub ?rs) hside ?rb ?rm0 (.cons ?re .nil) ?rl ?_
    (case rF => k_asm)
    (case rN => k_asm)
    (case rm0 => exact List.mem_cons_self ..)
    (case re => exact ent3 (b := true) (by k_mem) (by walk_at "m pred") .fall hw0 hw7)
    (case rdp => ktr_room)
    (case run => ktr_units)
    (case rs => walk_at "m sub")
    (case rb => (show b + 1 ≤ sizeLine); omega)
    (case rl =>
      obtain ⟨oP, hP⟩ := I9.pmem hside
      exact Ne.symm (Nat.ne_of_lt (allLt_all ((‹_ ∧ _ ∧ AllLt _ _›).2.2) _ hP)))
    intro news2 h2 tk2 F2 N2 S2 GP2 D2
    obtain ⟨hRl2, hEl2, itr, nr, hR2, hRows2⟩ := afterR I9 (by walk_at "m sub") hside S2
    have hsz : 1 + itr.length ≤ sizeLine := by
      have e1 := hRows2.length
      have e2 := I9.lr side hside
      omega
    have H9 : Held news _ tag tag := held167 (by walk_at "m sub") S9 I.tte SubL.rfl
    clear hD9 hR9 hE9 a1 a2 a3 a4 a5 a6 f1 p1 p2 r2 r3 r4
    k_steps
    unfold Stop
    refine' set2_abs ?F ?N (hRl2.sub ?sb) hside ?_
    (case F => k_asm)
    (case N => k_asm)
    (case sb => walk_at "m sub")
    intro h3 news3 F3 N3 P3 S3
    have hEl3 := (hEl2.sub (by walk_at "m sub")).step S3 (fun q => by have q1 := I9.trl; have q2 := I9.tel; rw [List.mem_singleton.mp q, q1] at q2; exact absurd q2 (by decide))
    k_steps
    unfold Stop
    refine' set2_abs ?F ?N hEl3 hside ?_
    (case F => k_asm)
    (case N => k_asm)
    intro h4 news4 F4 N4 P4 S4
    k_steps
    obtain ⟨tag', xs', I', H'⟩ : ∃ tag' xs', Inv w news4 tag' xs' Sl Rl El (b + 2) ∧ Held _ news4 tag tag' := by
      refine' closeR I9 ?k0 hside S2 GP2 D2 ?L3 ?hr ?he ?fR ?fE S3 P3 S4 P4 (by omega) ?hrl
      (case k0 => walk_at "m sub")
      (case hrl => (have e2 := I9.lr side hside; show (xs side).rows.length + 1 ≤ b + 2; omega))
      (case L3 => walk_at "m sub")
      (case hr => exact ⟨_, 0, by k_mem, .cons ⟨_, _, _, _, _, rfl, by k_mem, ⟨_, rfl⟩, hw0, hw7, (show (0 : Int) ≤ 3 by decide), (show (3 : Int) < 4 by decide)⟩ (hRows2.mono fun _ _ q => q.mono' (by walk_at "m sub"))⟩)
      (case he => exact ⟨_, [], by k_mem, by assumption, by assumption, .nil⟩)
      (case fR => exact allLt_all (‹_ ∧ _ ∧ AllLt _ news2›.2.2))
      (case fE => exact (‹_ ∧ _ ∧ _ ∧ AllLt _ news2›.1))
    exact ret _ _ _ _ _ _ F4 N4 I' ((H9.sub (by walk_at "m sub")).trans H') (fun y hy => by
      simp only [List.contains_cons, List.contains_nil, Bool.or_false, Bool.or_eq_false_iff, beq_eq_false_iff_ne] at hy
      simp only [if_neg hy.1, if_neg hy.2]
      exact congrFun hEq y)
  · unfold Stop
    refine' regI (ents := [⟨way, 1, .num iv⟩]) B ?rF ?rN T X ?rdp ?run (I9.sub ?rs) hside ?rb ?rm0 (.cons ?re .nil) ?rl ?_
    (case rF => k_asm)
    (case rN => k_asm)
    (case rm0 => exact List.mem_cons_self ..)
    (case re => exact ent3 (b := true) (by k_mem) (by walk_at "m pred") (HandIn.mono (HandIn.step (HandIn.mono (‹∀ mk, MarkV _ mk → HandIn _ _ 1 mk _ _› (.num iv) ⟨_, rfl⟩) (by walk_at "m sub")) S9) (by walk_at "m sub")) hw0 hw7)
    (case rdp => ktr_room)
    (case run => ktr_units)
    (case rs => walk_at "m sub")
    (case rb => (show b + 1 ≤ sizeLine); omega)
    (case rl =>
      obtain ⟨oP, hP⟩ := I9.pmem hside
      exact Ne.symm (Nat.ne_of_lt (allLt_all ((‹_ ∧ _ ∧ AllLt _ _›).2.2) _ hP)))
    intro news2 h2 tk2 F2 N2 S2 GP2 D2
    obtain ⟨hRl2, hEl2, itr, nr, hR2, hRows2⟩ := afterR I9 (by walk_at "m sub") hside S2
    have hsz : 1 + itr.length ≤ sizeLine := by
      have e1 := hRows2.length
      have e2 := I9.lr side hside
      omega
    have H9 : Held news _ tag tag := held167 (by walk_at "m sub") S9 I.tte SubL.rfl
    clear hD9 hR9 hE9 a1 a2 a3 a4 a5 a6 f1 p1 p2 r2 r3 r4
    k_steps
    unfold Stop
    refine' set2_abs ?F ?N (hRl2.sub ?sb) hside ?_
    (case F => k_asm)
    (case N => k_asm)
    (case sb => walk_at "m sub")
    intro h3 news3 F3 N3 P3 S3
    have hEl3 := (hEl2.sub (by walk_at "m sub")).step S3 (fun q => by have q1 := I9.trl; have q2 := I9.tel; rw [List.mem_singleton.mp q, q1] at q2; exact absurd q2 (by decide))
    k_steps
    unfold Stop
    refine' set2_abs ?F ?N hEl3 hside ?_
    (case F => k_asm)
    (case N => k_asm)
    intro h4 news4 F4 N4 P4 S4
    k_steps
    obtain ⟨tag', xs', I', H'⟩ : ∃ tag' xs', Inv w news4 tag' xs' Sl Rl El (b + 2) ∧ Held _ news4 tag tag' := by
      refine' closeR I9 ?k0 hside S2 GP2 D2 ?L3 ?hr ?he ?fR ?fE S3 P3 S4 P4 (by omega) ?hrl
      (case k0 => walk_at "m sub")
      (case hrl => (have e2 := I9.lr side hside; show (xs side).rows.length + 1 ≤ b + 2; omega))
      (case L3 => walk_at "m sub")
      (case hr => exact ⟨_, 0, by k_mem, .cons ⟨_, _, _, _, _, rfl, by k_mem, ⟨_, rfl⟩, hw0, hw7, (show (0 : Int) ≤ 1 by decide), (show (1 : Int) < 4 by decide)⟩ (hRows2.mono fun _ _ q => q.mono' (by walk_at "m sub"))⟩)
      (case he => exact ⟨_, [], by k_mem, by assumption, by assumption, .nil⟩)
      (case fR => exact allLt_all (‹_ ∧ _ ∧ AllLt _ news2›.2.2))
      (case fE => exact (‹_ ∧ _ ∧ _ ∧ AllLt _ news2›.1))
    exact ret _ _ _ _ _ _ F4 N4 I' ((H9.sub (by walk_at "m sub")).trans H') (fun y hy => by
      simp only [List.contains_cons, List.contains_nil, Bool.or_false, Bool.or_eq_false_iff, beq_eq_false_iff_ne] at hy
      simp only [if_neg hy.1, if_neg hy.2]
      exact congrFun hEq y)
  · unfold Stop
    refine' regI (ents := [⟨way, 2, .num iv⟩]) B ?rF ?rN T X ?rdp ?run (I9.sub ?rs) hside ?rb ?rm0 (.cons ?re .nil) ?rl ?_
    (case rF => k_asm)
    (case rN => k_asm)
    (case rm0 => exact List.mem_cons_self ..)
    (case re => exact entX (by k_mem) (by walk_at "m pred") (HandIn.mono (‹∀ (mk : Mark) (tk : Tok), MarkV (Value.int iv tiv) mk → HandIn _ _ 2 mk (.str (Str.ofString "extended") tk) (.bool true)› (.num iv) _ ⟨_, rfl⟩) (by walk_at "m sub")) hw0 hw7)
    (case rdp => ktr_room)
    (case run => ktr_units)
    (case rs => walk_at "m sub")
    (case rb => (show b + 1 ≤ sizeLine); omega)
    (case rl =>
      obtain ⟨oP, hP⟩ := I9.pmem hside
      exact Ne.symm (Nat.ne_of_lt (allLt_all ((‹_ ∧ _ ∧ AllLt _ _›).2.2) _ hP)))
    intro news2 h2 tk2 F2 N2 S2 GP2 D2
    obtain ⟨hRl2, hEl2, itr, nr, hR2, hRows2⟩ := afterR I9 (by walk_at "m sub") hside S2
    have hsz : 1 + itr.length ≤ sizeLine := by
      have e1 := hRows2.length
      have e2 := I9.lr side hside
      omega
    have H9 : Held news _ tag tag := held167 (by walk_at "m sub") S9 I.tte SubL.rfl
    clear hD9 hR9 hE9 a1 a2 a3 a4 a5 a6 f1 p1 p2 r2 r3 r4
    k_steps
    unfold Stop
    refine' set2_abs ?F ?N (hRl2.sub ?sb) hside ?_
    (case F => k_asm)
    (case N => k_asm)
    (case sb => walk_at "m sub")
    intro h3 news3 F3 N3 P3 S3
    have hEl3 := (hEl2.sub (by walk_at "m sub")).step S3 (fun q => by have q1 := I9.trl; have q2 := I9.tel; rw [List.mem_singleton.mp q, q1] at q2; exact absurd q2 (by decide))
    k_steps
    unfold Stop
    refine' set2_abs ?F ?N hEl3 hside ?_
    (case F => k_asm)
    (case N => k_asm)
    intro h4 news4 F4 N4 P4 S4
    k_steps
    obtain ⟨tag', xs', I', H'⟩ : ∃ tag' xs', Inv w news4 tag' xs' Sl Rl El (b + 2) ∧ Held _ news4 tag tag' := by
      refine' closeR I9 ?k0 hside S2 GP2 D2 ?L3 ?hr ?he ?fR ?fE S3 P3 S4 P4 (by omega) ?hrl
      (case k0 => walk_at "m sub")
      (case hrl => (have e2 := I9.lr side hside; show (xs side).rows.length + 1 ≤ b + 2; omega))
      (case L3 => walk_at "m sub")
      (case hr => exact ⟨_, 0, by k_mem, .cons ⟨_, _, _, _, _, rfl, by k_mem, ⟨_, rfl⟩, hw0, hw7, (show (0 : Int) ≤ 2 by decide), (show (2 : Int) < 4 by decide)⟩ (hRows2.mono fun _ _ q => q.mono' (by walk_at "m sub"))⟩)
      (case he => exact ⟨_, [], by k_mem, by assumption, by assumption, .nil⟩)
      (case fR => exact allLt_all (‹_ ∧ _ ∧ AllLt _ news2›.2.2))
      (case fE => exact (‹_ ∧ _ ∧ _ ∧ AllLt _ news2›.1))
    exact ret _ _ _ _ _ _ F4 N4 I' ((H9.sub (by walk_at "m sub")).trans H') (fun y hy => by
      simp only [List.contains_cons, List.contains_nil, Bool.or_false, Bool.or_eq_false_iff, beq_eq_false_iff_ne] at hy
      simp only [if_neg hy.1, if_neg hy.2]
      exact congrFun hEq y)
end Mine
theorem Mine.calmBR3 : True := by
  w_top off
  trivial
namespace Mine
theorem fmod7 (x : Int) : 0 ≤ Int.fmod x 7 ∧ Int.fmod x 7 < 7 := ⟨Int.fmod_nonneg_of_pos x (by decide), Int.fmod_lt_of_pos x (by decide)⟩
theorem br3 {fa : Addr} {cdv : Value} {w : World} {mean : ExcName → Option Value} {mg mb : Str → Option Value} {dp un : Nat} {gd : Option (List Code)} {A₀ : Around} {h₀ : Heap} {L : Addr} {m : Str → Option Value} {s : Shared} {news : Led} {Q : Flow → Shared → Prop} {E : Value → Shared → Prop}
  {tag : Addr → Int} {xs : Int → SideA} {Sl Rl El : Addr} {b : Nat} {side second way iv : Int} {tsi tse twa tiv : Tok} (B : Below A₀ h₀ [] h₀) (F : Fr h₀ L s.heap m) (N : News h₀ L s.heap news) (T : Top topProg LL mean mg mb h₀) (C1 : CodeHd h₀ 150 146) (C2 : CodeHd h₀ 157 153) (X : (hd.heap_39 w.params).In h₀) (hdp : dp + 40 < recursionLimit) (hu : un + 320 < cLine) (I : Inv w news tag xs Sl Rl El b) (hb : b + 10 ≤ sizeLine) (hside : side = 0 ∨ side = 1) (hw0 : 0 ≤ way) (hw7 : way < 7)
  (e1 : m (Str.ofString "sides") = some (.ref Sl)) (e2 : m (Str.ofString "rows") = some (.ref Rl)) (e3 : m (Str.ofString "direct") = some (.ref El)) (e4 : m (Str.ofString "side") = some (.int side tsi)) (e5 : m (Str.ofString "second") = some (.int second tse)) (e7 : m (Str.ofString "way") = some (.int way twa)) (e8 : m (Str.ofString "i") = some (.int iv tiv))
  (ret : ∀ news' tag' xs' h' tk', Fr h₀ L h' m → News h₀ L h' news' → Inv w news' tag' xs' Sl Rl El (b + 2) → Held news news' tag tag' → Q .next { s with heap := h', toks := tk' }) :
 wpAny (model PySem.Challenge.rw_fe0065_01.row.prog w) (lawA dp un gd L fa cdv) (execs if3.1 (lawE L fa cdv)) Q E s := by
  revert X; k_fill; intro X
  rcases hl : lawD with ⟨bd, sc⟩
  simp only [lawA, lawE, if3, if0, hl]
  conv at hl => lhs; whnf
  cases hl
  have hEq := sets_eq (m := m) [(Str.ofString "sides", .ref Sl), (Str.ofString "rows", .ref Rl), (Str.ofString "direct", .ref El), (Str.ofString "side", .int side tsi), (Str.ofString "second", .int second tse), (Str.ofString "way", .int way twa), (Str.ofString "i", .int iv tiv)] (by
    intro p hp
    simp only [List.mem_cons, List.not_mem_nil, or_false] at hp
    rcases hp with rfl | rfl | rfl | rfl | rfl | rfl | rfl <;> assumption)
  rw [← hEq] at F
  simp only [List.drop, forAt, ifAt]
  clear e1 e2 e3 e4 e5 e7 e8
  have hw2 := fmod7 (second.fdiv 7)
  k_steps
  rename Inv _ _ _ _ _ _ _ _ => I9
  obtain ⟨⟨bm, fbk, c, h1, h2, h3, h4, t1, t2, t3, t4, ts, k, a1, a2, a3, a4, a5, a6⟩, ⟨h5, h6, t5, t6, tc, k2, f1⟩, ⟨itp, np, p1, p2⟩, hD9, hR9, hE9, hT9⟩ := I9.side side hside
  k_steps
  rename Inv _ _ _ _ _ _ _ _ => I8
  unfold Stop
  refine' regI (ents := [⟨way, 0, .num iv⟩, ⟨(second.fdiv 7).fmod 7, 1, .num (iv + 1)⟩]) B ?rF ?rN T X ?rdp ?run (I8.sub ?rs) hside ?rb ?rm0 (.cons ?re (.cons ?re2 .nil)) ?rl ?_
  (case rF => k_asm)
  (case rN => k_asm)
  (case rm0 => exact List.mem_cons_self ..)
  (case re => exact ent2 (by k_mem) (by walk_at "m pred") (.plain (by k_mem) ⟨_, rfl⟩) hw0 hw7)
  (case re2 => exact ent3 (b := true) (by k_mem) (by walk_at "m pred") (HandIn.mono (‹∀ mk, MarkV _ mk → HandIn _ _ 1 mk _ _› (.num (iv + 1)) ⟨_, rfl⟩) (by walk_at "m sub")) hw2.1 hw2.2)
  (case rdp => ktr_room)
  (case run => ktr_units)
  (case rs => walk_at "m sub")
  (case rb => (show b + 2 ≤ sizeLine); omega)
  (case rl =>
    obtain ⟨oP, hP⟩ := I8.pmem hside
    exact Ne.symm (Nat.ne_of_lt (allLt_all ((‹_ ∧ AllLt _ _›).2) _ hP)))
  intro news2 h2 tk2 F2 N2 S2 GP2 D2
  obtain ⟨hRl2, hEl2, itr, nr, hR2, hRows2⟩ := afterR I8 (by walk_at "m sub") hside S2
  have hsz : 2 + itr.length ≤ sizeLine := by
    have e1 := hRows2.length
    have e2 := I8.lr side hside
    omega
  k_steps
  unfold Stop
  refine' set2_abs ?F ?N (hRl2.sub ?sb) hside ?_
  (case F => k_asm)
  (case N => k_asm)
  (case sb => walk_at "m sub")
  intro h3 news3 F3 N3 P3 S3
  have hEl3 := (hEl2.sub (by walk_at "m sub")).step S3 (fun q => by have q1 := I8.trl; have q2 := I8.tel; rw [List.mem_singleton.mp q, q1] at q2; exact absurd q2 (by decide))
  k_steps
  unfold Stop
  refine' set2_abs ?F ?N hEl3 hside ?_
  (case F => k_asm)
  (case N => k_asm)
  intro h4 news4 F4 N4 P4 S4
  k_steps
  obtain ⟨tag', xs', I', H'⟩ : ∃ tag' xs', Inv w news4 tag' xs' Sl Rl El (b + 2) ∧ Held _ news4 tag tag' := by
    refine' closeR I8 ?k0 hside S2 GP2 D2 ?L3 ?hr ?he ?fR ?fE S3 P3 S4 P4 (by omega) ?hrl
    (case k0 => walk_at "m sub")
    (case hrl => (have e2 := I8.lr side hside; show (xs side).rows.length + 2 ≤ b + 2; omega))
    (case L3 => walk_at "m sub")
    (case hr => exact ⟨_, 0, by k_mem, .cons ⟨_, _, _, _, _, rfl, by k_mem, ⟨_, rfl⟩, hw2.1, hw2.2, (show (0 : Int) ≤ 1 by decide), (show (1 : Int) < 4 by decide)⟩ (.cons ⟨_, _, _, _, _, rfl, by k_mem, ⟨_, rfl⟩, hw0, hw7, (show (0 : Int) ≤ 0 by decide), (show (0 : Int) < 4 by decide)⟩ (hRows2.mono fun _ _ q => q.mono' (by walk_at "m sub")))⟩)
    (case he => exact ⟨_, [], by k_mem, by assumption, by assumption, .nil⟩)
    (case fR => exact allLt_all (‹_ ∧ _ ∧ _ ∧ AllLt _ news2›.2.2.2))
    (case fE => exact (‹_ ∧ _ ∧ _ ∧ _ ∧ AllLt _ news2›.1))
  rw [hEq] at F4
  exact ret _ _ _ _ _ F4 N4 I' (Held.of H' (by walk_at "m sub"))
end Mine
theorem Mine.calmBR4 : True := by
  w_top off
  trivial
namespace Mine
theorem dirs_sub {w : World} {a b : Led} {D : Addr} {dir : List (Int × Mark)} (h : DirIn w a D dir) (k : SubL a b) : DirIn w b D dir := h.step (Step.of_sub k) (fun q => nomatch q)
theorem ans_sub {a b : Led} {v : Value} {x : Ans} (h : AnsIn a v x) (k : SubL a b) : AnsIn b v x := h.step (Step.of_sub k)
theorem ans_dir {a : Led} {t : Addr} {tk ti : Tok} {i : Int} {n : Nat} (h : (t, tupO [.str (Str.ofString "direct") tk, .int i ti] n) ∈ a) : AnsIn a (.ref t) (.direct (.num i)) := ⟨t, _, n, rfl, h, _, _, rfl, _, rfl⟩
theorem self_of {h₀ h : Heap} {L d : Addr} {news : Led} {o : Obj} (hN9 : News h₀ L h (upd news d o)) : (d, o) ∈ upd news d o := upd_self
theorem br4 {fa : Addr} {cdv : Value} {w : World} {mean : ExcName → Option Value} {mg mb : Str → Option Value} {dp un : Nat} {gd : Option (List Code)} {A₀ : Around} {h₀ : Heap} {L : Addr} {m : Str → Option Value} {s : Shared} {news : Led} {Q : Flow → Shared → Prop} {E : Value → Shared → Prop}
  {tag : Addr → Int} {xs : Int → SideA} {Sl Rl El : Addr} {b : Nat} {side second iv : Int} {tsi tse tiv : Tok} (B : Below A₀ h₀ [] h₀) (F : Fr h₀ L s.heap m) (N : News h₀ L s.heap news) (T : Top topProg LL mean mg mb h₀) (X : (hd.heap_39 w.params).In h₀) (hdp : dp + 40 < recursionLimit) (hu : un + 320 < cLine) (I : Inv w news tag xs Sl Rl El b) (hb : b + 10 ≤ sizeLine) (hside : side = 0 ∨ side = 1)
  (e1 : m (Str.ofString "sides") = some (.ref Sl)) (e3 : m (Str.ofString "direct") = some (.ref El)) (e4 : m (Str.ofString "side") = some (.int side tsi)) (e5 : m (Str.ofString "second") = some (.int second tse)) (e8 : m (Str.ofString "i") = some (.int iv tiv))
  (ret : ∀ news' xs' h' tk', Fr h₀ L h' m → News h₀ L h' news' → Inv w news' tag xs' Sl Rl El (b + 2) → Held news news' tag tag → Q .next { s with heap := h', toks := tk' }) :
 wpAny (model PySem.Challenge.rw_fe0065_01.row.prog w) (lawA dp un gd L fa cdv) (execs if4.1 (lawE L fa cdv)) Q E s := by
  revert X; k_fill; intro X
  rcases hl : lawD with ⟨bd, sc⟩
  simp only [lawA, lawE, if4, if3, if0, hl]
  conv at hl => lhs; whnf
  cases hl
  have hEq := sets_eq (m := m) [(Str.ofString "sides", .ref Sl), (Str.ofString "direct", .ref El), (Str.ofString "side", .int side tsi), (Str.ofString "second", .int second tse), (Str.ofString "i", .int iv tiv)] (by
    intro p hp
    simp only [List.mem_cons, List.not_mem_nil, or_false] at hp
    rcases hp with rfl | rfl | rfl | rfl | rfl <;> assumption)
  rw [← hEq] at F
  simp only [List.drop, forAt, ifAt]
  clear e1 e3 e4 e5 e8
  obtain ⟨⟨bm, fbk, c, h1, h2, h3, h4, t1, t2, t3, t4, ts, k, a1, a2, a3, a4, a5, a6⟩, ⟨h5, h6, t5, t6, tc, k2, f1⟩, ⟨itp, np, p1, p2⟩, hD9, hR9, hE9, hT9⟩ := I.side side hside
  k_steps
  unfold Stop
  refine' clsl (cs := [(second.fmod 6, .num iv), ((second.fdiv 6).fmod 6, .num (iv + 1))]) B ?F ?N T ?dp ?un X ?hM ?hMd (dirs_sub hD9 ?hD) ?hl (.cons ?c1 (.cons ?c2 .nil)) ?dz ?n1 ?n2 ?_
  (case F => k_asm)
  (case N => k_asm)
  (case dp => ktr_room)
  (case un => ktr_units)
  (case hM => k_mem)
  (case hMd => k_mem)
  (case hD => walk_at "m sub")
  (case hl => exact List.mem_cons_self ..)
  (case c1 => exact ⟨_, _, _, _, rfl, by k_mem, _, _, _, rfl, by k_mem, _, _, rfl, ⟨_, rfl⟩⟩)
  (case c2 => exact ⟨_, _, _, _, rfl, by k_mem, _, _, _, rfl, by k_mem, _, _, rfl, ⟨_, rfl⟩⟩)
  (case dz => (have := I.ld side hside; show (xs side).dir.length + 2 ≤ sizeLine; omega))
  (case n1 => (intro e; have q1 := hT9.md; have q2 := hT9.d; rw [e] at q1; omega))
  (case n2 =>
    obtain ⟨oP, hP⟩ := I.dmem hside
    exact Ne.symm (Nat.ne_of_lt (allLt_all (‹_ ∧ _ ∧ _ ∧ _ ∧ AllLt _ _›.2.2.2.2) _ hP)))
  intro news2 h2 tk2 F2 N2 S2 D2
  obtain ⟨hEl2, ⟨oE, kvs, hEm, hElo, hEkv, hEdir⟩, hne⟩ := afterC I (by walk_at "m sub") hside S2
  have hz4 : kvs.length + 2 ≤ sizeLine := by
    have e1 := hEdir.length
    have e2 := I.ld side hside
    omega
  have hz5 : kvs.length ≤ sizeLine := by omega
  clear hD9 hR9 hE9 a1 a2 a3 a4 a5 a6 f1 p1 p2
  k_steps
  unfold Stop
  refine' setd_abs ?F ?N ?hm hEkv hz5 ?_
  (case F => k_asm)
  (case N => k_asm)
  (case hm => k_mem)
  intro h3 o3 F3 N3 hd3 S3
  have hEl3 := (hEl2.sub (by walk_at "m sub")).step S3 (fun q => hne (List.mem_singleton.mp q))
  have A3 := dir_put (mk := .num iv) (k := second.fmod 6) ((hEdir.mono fun _ _ q => (⟨q.1, ans_sub q.2 (by walk_at "m sub")⟩ : _ ∧ _)).mono fun _ _ q => (⟨q.1, q.2.step S3⟩ : _ ∧ _)) ((ans_dir (List.mem_cons_self ..)).step S3)
  have hz6 : (PySem.stored kvs _ _).length ≤ sizeLine := Nat.le_trans (Nat.le_of_eq A3.length) (Nat.le_trans putD_length (by have e1 := hEdir.length; omega))
  have hEm3 := self_of N3
  k_steps
  unfold Stop
  refine' setd_abs ?F ?N ?hm hd3 hz6 ?_
  (case F => k_asm)
  (case N => k_asm)
  (case hm => k_mem)
  intro h4 o4 F4 N4 hd4 S4
  have A4 := dir_put (mk := .num (iv + 1)) (k := (second.fdiv 6).fmod 6) ((A3.mono fun _ _ q => (⟨q.1, ans_sub q.2 (by walk_at "m sub")⟩ : _ ∧ _)).mono fun _ _ q => (⟨q.1, q.2.step S4⟩ : _ ∧ _)) ((ans_dir (List.mem_cons_self ..)).step S4)
  k_steps
  obtain ⟨xs', I', H'⟩ := closeC (b' := b + 2) I (by walk_at "m sub") hside S2 D2 (by walk_at "m sub") S3 (by walk_at "m sub") S4 ⟨_, _, self_of N4, hElo, hd4, A4⟩ (by omega) (by
    have e2 := I.ld side hside
    exact Nat.le_trans (putAll_length (dir := (xs side).dir) (cs := [(second.fmod 6, .num iv), ((second.fdiv 6).fmod 6, .num (iv + 1))])) (by show (xs side).dir.length + 2 ≤ b + 2; omega))
  rw [hEq] at F4
  exact ret _ _ _ _ F4 N4 I' H'
end Mine
theorem Mine.calmBR6 : True := by
  w_top off
  trivial
namespace Mine
theorem Inv.more {w : World} {news : Led} {tag : Addr → Int} {xs : Int → SideA} {Sl Rl El : Addr} {b k : Nat} (I : Inv w news tag xs Sl Rl El b) : Inv w news tag xs Sl Rl El (b + k) :=
  { I with lr := fun j hj => Nat.le_trans (I.lr j hj) (Nat.le_add_right _ _), ld := fun j hj => Nat.le_trans (I.ld j hj) (Nat.le_add_right _ _) }
theorem br6 {fa : Addr} {cdv : Value} {w : World} {mean : ExcName → Option Value} {mg mb : Str → Option Value} {dp un : Nat} {gd : Option (List Code)} {A₀ : Around} {h₀ : Heap} {L : Addr} {m : Str → Option Value} {s : Shared} {news : Led} {Q : Flow → Shared → Prop} {E : Value → Shared → Prop}
  {tag : Addr → Int} {xs : Int → SideA} {Sl Rl El : Addr} {b : Nat} {side second : Int} {tsi tse : Tok} (B : Below A₀ h₀ [] h₀) (F : Fr h₀ L s.heap m) (N : News h₀ L s.heap news) (T : Top topProg LL mean mg mb h₀) (X : (hd.heap_39 w.params).In h₀) (hdp : dp + 40 < recursionLimit) (hu : un + 320 < cLine) (I : Inv w news tag xs Sl Rl El b) (hb : b + 10 ≤ sizeLine) (hside : side = 0 ∨ side = 1)
  (e1 : m (Str.ofString "sides") = some (.ref Sl)) (e2 : m (Str.ofString "rows") = some (.ref Rl)) (e3 : m (Str.ofString "direct") = some (.ref El)) (e4 : m (Str.ofString "side") = some (.int side tsi)) (e5 : m (Str.ofString "second") = some (.int second tse))
  (ret : ∀ news' tag' xs' h' tk' m', Fr h₀ L h' m' → News h₀ L h' news' → Inv w news' tag' xs' Sl Rl El (b + 8) → Held news news' tag tag' → (∀ y : Str, (["skip"] : List Str).contains y = false → m' y = m y) → Q .next { s with heap := h', toks := tk' }) :
 wpAny (model PySem.Challenge.rw_fe0065_01.row.prog w) (lawA dp un gd L fa cdv) (execs if5.2 (lawE L fa cdv)) Q E s := by
  revert X; k_fill; intro X
  rcases hl : lawD with ⟨bd, sc⟩
  simp only [lawA, lawE, if5, if4, if3, if0, hl]
  conv at hl => lhs; whnf
  cases hl
  have hEq := sets_eq (m := m) [(Str.ofString "sides", .ref Sl), (Str.ofString "rows", .ref Rl), (Str.ofString "direct", .ref El), (Str.ofString "side", .int side tsi), (Str.ofString "second", .int second tse)] (by
    intro p hp
    simp only [List.mem_cons, List.not_mem_nil, or_false] at hp
    rcases hp with rfl | rfl | rfl | rfl | rfl <;> assumption)
  rw [← hEq] at F
  simp only [List.drop, forAt, ifAt]
  clear e1 e2 e3 e4 e5
  have hoth : 1 - side = 0 ∨ 1 - side = 1 := by omega
  have hsk : 0 < 1 + second.fmod 3 := by have := Int.fmod_nonneg_of_pos second (show (0 : Int) < 3 by decide); omega
  have hRl0 := I.rl
  have hSl0 := I.sl
  obtain ⟨⟨bm, fbk, c, h1, h2, h3, h4, t1, t2, t3, t4, ts, k, a1, a2, a3, a4, a5, a6⟩, ⟨h5, h6, t5, t6, tc, k2, f1⟩, ⟨itp, np, p1, p2⟩, hD9, ⟨itr, nr, hR1, hR2⟩, hE9, hT9⟩ := I.side side hside
  obtain ⟨⟨bm', fbk', c', h1', h2', h3', h4', t1', t2', t3', t4', ts', k', a1', a2', a3', a4', a5', a6'⟩, ⟨h5', h6', t5', t6', tc', k2', f1'⟩, ⟨itp', np', p1', p2'⟩, hD9', ⟨itr', nr', hR1', hR2'⟩, hE9', hT9'⟩ := I.side (1 - side) hoth
  have hz1 : itr.length ≤ sizeLine := by rw [hR2.length]; exact Nat.le_trans (I.lr side hside) (by omega)
  have hz1' : itr'.length ≤ sizeLine := by rw [hR2'.length]; exact Nat.le_trans (I.lr _ hoth) (by omega)
  k_steps
  rotate_left
  · exact ret _ _ _ _ _ _ (by assumption) (by assumption) (Inv.more I) (fun p hp _ => ⟨hp, rfl⟩) (fun y _ => congrFun hEq y)
  unfold Stop
  refine' mcopy B ?F ?N T ?dp ?un X a1 a2 a1' a2' a6 f1 p1 a6' f1' p1' ?z ?z2 hsk hD9' ?dz ?n1 ?n2 ?_
  (case F => k_asm)
  (case N => k_asm)
  (case dp => ktr_room)
  (case un => ktr_units)
  (case z => rw [p2.length]; exact Nat.le_trans (I.lr side hside) (by omega))
  (case z2 => (have := hR2.length; have := hR2'.length; rw [List.length_take, p2.length, p2'.length]; omega))
  (case dz => exact Nat.le_trans (I.ld _ hoth) (by omega))
  (case n1 => (intro e; have q1 := hT9'.md; have q2 := hT9'.fd; rw [e] at q1; omega))
  (case n2 => (intro e; have q1 := hT9'.d; have q2 := hT9'.fd; rw [e] at q1; omega))
  intro news2 Pn kn h2 tk2 F2 N2 S2 q1 q2 lP D2
  obtain ⟨hRl2, hEl2, ⟨itr2, nr2, hRa, hr2⟩, itr3, nr3, hR3, hr3⟩ := afterP I SubL.rfl hside rfl S2
  clear hRl0 hSl0 a1 a2 a3 a4 a5 a6 h5 h6 t5 t6 tc k2 f1
  have hy1 : itr2.length ≤ sizeLine := by rw [hr2.length]; exact Nat.le_trans (I.lr side hside) (by omega)
  have hyc : (List.take (if (itr2.length : Int) - (1 + second.fmod 3) > 0 then (itr2.length : Int) - (1 + second.fmod 3) else 0).toNat itr2).length + itr3.length ≤ sizeLine := by
    rw [List.length_take, hr2.length, hr3.length]
    have q5 := hR2.length
    have q6 := hR2'.length
    omega
  have hy3 : itr3.length ≤ sizeLine := by rw [hr3.length]; exact Nat.le_trans (I.lr _ hoth) (by omega)
  k_steps
  unfold Stop
  refine' set2_abs ?F ?N (hRl2.sub ?sb) hoth ?_
  (case F => k_asm)
  (case N => k_asm)
  (case sb => walk_at "m sub")
  intro h3 news3 F3 N3 P3 S3
  have hEl3 := (hEl2.sub (by walk_at "m sub")).step S3 (fun q => by have q1 := I.trl; have q2 := I.tel; rw [List.mem_singleton.mp q, q1] at q2; exact absurd q2 (by decide))
  k_steps
  unfold Stop
  refine' set2_abs ?F ?N hEl3 hoth ?_
  (case F => k_asm)
  (case N => k_asm)
  intro h4 news4 F4 N4 P4 S4
  k_steps
  obtain ⟨tag', xs', I', H'⟩ : ∃ tag' xs', Inv w news4 tag' xs' Sl Rl El (b + 8) ∧ Held _ news4 tag tag' := by
    refine' closeP (rows' := (xs side).rows.take ((xs side).rows.length - (1 + second.fmod 3).toNat) ++ (xs (1 - side)).rows) I SubL.rfl hoth S2 q1 ⟨_, _, q2, ?hp⟩ D2 lP ?L3 ?hr ?he ?fR ?fE S3 P3 S4 P4 (by omega) ?hrl
    (case hp => (have q9 := (p2.take ((xs side).rows.length - (1 + second.fmod 3).toNat)).append p2'; rw [p2.length]; exact q9.mono fun _ _ q => q.step S2))
    (case hrl => (have q5 := hR2.length; have q6 := hR2'.length; rw [List.length_append, List.length_take]; omega))
    (case L3 => walk_at "m sub")
    (case hr => exact ⟨_, 0, by k_mem, by
        have q9 := (hr2.take ((xs side).rows.length - (1 + second.fmod 3).toNat)).append hr3
        have q8 : (if (itr2.length : Int) - (1 + second.fmod 3) > 0 then (itr2.length : Int) - (1 + second.fmod 3) else 0).toNat = (xs side).rows.length - (1 + second.fmod 3).toNat := by
          rw [hr2.length]
          split <;> omega
        rw [q8]
        exact q9.mono fun _ _ q => q.mono' (by walk_at "m sub")⟩)
    (case he => exact ⟨_, [], by k_mem, by assumption, by assumption, .nil⟩)
    (case fR => exact allLt_all (‹_ ∧ AllLt _ news2›.2))
    (case fE => exact (‹_ ∧ _ ∧ AllLt _ news2›.1))
  exact ret _ _ _ _ _ _ F4 N4 I' H' (fun y hy => by
    simp only [List.contains_cons, List.contains_nil, Bool.or_false, beq_eq_false_iff_ne] at hy
    simp only [if_neg hy]
    exact congrFun hEq y)
end Mine
local macro_rules | `(tactic| walk_at "subscriptTail") => `(tactic| (k_here; (with_reducible show wpAny _ _ (subscriptTail _ _ (Value.ref _) (Value.int _ _)) _ _ _); k_dflt (refine' Mine.getL ?glN ?glm ?gl0 ?glf ?glx ?_ ?gls; (case glN => k_asm); (case glm => k_mem); (case glx => assumption); (case gl0 => omega); (case glf => omega); (case gls => with_unfolding_all rfl); (try dsimp only))))
theorem Mine.calmTNs : True := by
  w_top off
  trivial
namespace Mine
def ifTe (l : List Stmt) (k : Nat) : PySem.Expr := match l.drop k with
  | .If t _ _ _ :: _ => t
  | _ => .Name (Str.ofString "") { line := 0, col := 0, endLine := 0, endCol := 0 }
def ifPs (l : List Stmt) (k : Nat) : Pos := match l.drop k with
  | .If _ _ _ p :: _ => p
  | _ => { line := 0, col := 0, endLine := 0, endCol := 0 }
theorem body_split : forAt lawD.1 5 = List.take 2 (forAt lawD.1 5) ++ (Stmt.If (ifTe (forAt lawD.1 5) 2) if0.1 [Stmt.If (ifTe if0.2 0) if3.1 [Stmt.If (ifTe if3.2 0) if4.1 [Stmt.If (ifTe if4.2 0) if5.1 if5.2 (ifPs if4.2 0)] (ifPs if3.2 0)] (ifPs if0.2 0)] (ifPs (forAt lawD.1 5) 2) :: List.drop 3 (forAt lawD.1 5)) := by
  rcases hl : lawD with ⟨bd, sc⟩
  conv at hl => lhs; whnf
  cases hl
  simp only [List.drop, List.take, forAt, ifAt, ifTe, ifPs, List.cons_append, List.nil_append]

  rfl
end Mine
theorem Mine.calmTN : True := by
  w_top off
  trivial
namespace Mine
theorem deedStep {fa : Addr} {cdv : Value} {w : World} {mean : ExcName → Option Value} {mg mb : Str → Option Value} {dp un : Nat} {gd : Option (List Code)} {A₀ : Around} {h₀ : Heap} {L : Addr} {m : Str → Option Value} {s : Shared} {news : Led} {Q : Flow → Shared → Prop} {E : Value → Shared → Prop}
  {tag : Addr → Int} {xs : Int → SideA} {Sl Rl El : Addr} {b : Nat} {iv side second deed way number : Int} {tiv tsi tse tde twa tnu : Tok} (B : Below A₀ h₀ [] h₀) (F : Fr h₀ L s.heap m) (N : News h₀ L s.heap news) (T : Top topProg LL mean mg mb h₀) (C1 : CodeHd h₀ 150 146) (C2 : CodeHd h₀ 157 153) (C3 : CodeHd h₀ 171 167) (X : (hd.heap_39 w.params).In h₀) (hdp : dp + 40 < recursionLimit) (hu : un + 320 < cLine) (I : Inv w news tag xs Sl Rl El b) (hb : b + 10 ≤ sizeLine)
  (hside : side = 0 ∨ side = 1) (hw0 : 0 ≤ way) (hw7 : way < 7) (hd0 : 0 ≤ deed)
  (e1 : m (Str.ofString "sides") = some (.ref Sl)) (e2 : m (Str.ofString "rows") = some (.ref Rl)) (e3 : m (Str.ofString "direct") = some (.ref El)) (e4 : m (Str.ofString "side") = some (.int side tsi)) (e5 : m (Str.ofString "second") = some (.int second tse)) (e6 : m (Str.ofString "deed") = some (.int deed tde)) (e7 : m (Str.ofString "way") = some (.int way twa)) (e8 : m (Str.ofString "i") = some (.int iv tiv)) (e9 : m (Str.ofString "number") = some (.int number tnu))
  (hE : PassesOwn (model PySem.Challenge.rw_fe0065_01.row.prog w) (lawA dp un gd L fa cdv) (lawE L fa cdv) E)
  (ret : ∀ f news' tag' xs' h' tk' m', (f = .next ∨ f = .cont) → Fr h₀ L h' m' → News h₀ L h' news' → Inv w news' tag' xs' Sl Rl El (b + 8) → Held news news' tag tag' → (∀ y : Str, (["sort", "entry", "skip", "one", "kind"] : List Str).contains y = false → m' y = m y) → Q f { s with heap := h', toks := tk' }) :
 wpAny (model PySem.Challenge.rw_fe0065_01.row.prog w) (lawA dp un gd L fa cdv) (execs (List.drop 2 (forAt lawD.1 5)) (lawE L fa cdv)) Q E s := by
  have hsp : List.drop 2 (forAt lawD.1 5) = _ := congrArg (List.drop 2) body_split
  rw [hsp]
  clear hsp
  have K0 := @br0 fa cdv w mean mg mb dp un gd A₀ h₀ L
  have K3 := @br3 fa cdv w mean mg mb dp un gd A₀ h₀ L
  have K4 := @br4 fa cdv w mean mg mb dp un gd A₀ h₀ L
  have K5 := @br5 fa cdv w mean mg mb dp un gd A₀ h₀ L
  have K6 := @br6 fa cdv w mean mg mb dp un gd A₀ h₀ L
  have KC := @chk fa cdv w mean mg mb dp un gd A₀ h₀ L
  generalize if0.1 = B0 at K0 ⊢
  generalize if3.1 = B3 at K3 ⊢
  generalize if4.1 = B4 at K4 ⊢
  generalize if5.1 = B5 at K5 ⊢
  generalize if5.2 = B6 at K6 ⊢
  generalize List.drop 3 (forAt lawD.1 5) = BC at KC ⊢
  have hEq := sets_eq (m := m) [(Str.ofString "deed", .int deed tde)] (by
    intro p hp
    simp only [List.mem_cons, List.not_mem_nil, or_false] at hp
    rcases hp with rfl
    assumption)
  have KD : ∀ {news' : Led} {tag' : Addr → Int} {xs' : Int → SideA} {h' : Heap} {tk' : Nat} {m' : Str → Option Value}, Fr h₀ L h' m' → News h₀ L h' news' → Inv w news' tag' xs' Sl Rl El (b + 8) → Held news news' tag tag' → (∀ y : Str, (["sort", "entry", "skip"] : List Str).contains y = false → m' y = m y) →
      wpAny (model PySem.Challenge.rw_fe0065_01.row.prog w) (lawA dp un gd L fa cdv) (execs BC (lawE L fa cdv)) Q E { s with heap := h', toks := tk' } := by
    intro news' tag' xs' h' tk' m' F' N' I' H' hm'
    refine KC (s := { s with heap := h', toks := tk' }) B F' N' T C1 X hdp hu I' (by omega) ((hm' _ (by decide)).trans e1) ((hm' _ (by decide)).trans e2) ((hm' _ (by decide)).trans e3) ((hm' _ (by decide)).trans e8) ((hm' _ (by decide)).trans e9) hE fun f h2 tk2 m2 hf F2 N2 hm2 => ?_
    refine ret f news' tag' xs' h2 tk2 m2 hf F2 N2 I' H' fun y hy => ?_
    simp only [List.contains_cons, List.contains_nil, Bool.or_false, Bool.or_eq_false_iff] at hy hm2 hm'
    exact (hm2 y ⟨hy.2.2.2.1, hy.2.2.2.2⟩).trans (hm' y ⟨hy.1, hy.2.1, hy.2.2.1⟩)
  clear KC
  revert X; k_fill; intro X
  rcases hl : lawD with ⟨bd, sc⟩
  simp only [lawA, lawE, if4, if3, if0, hl] at hE K0 K3 K4 K5 K6 KD ⊢
  conv at hl => lhs; whnf
  cases hl
  have F1 := F
  rw [← hEq] at F1
  clear F
  simp only [List.take, List.drop, if4, if3, if0, forAt, ifAt, ifTe, ifPs, List.cons_append, List.nil_append]
  k_steps
  · refine' K0 B ?F ?N T C1 C2 C3 X hdp hu I hb hside hw0 hw7 hd0 (by assumption) e1 e2 e3 e4 e5 e6 e7 e8 ?_
    (case F => rw [← hEq]; assumption)
    (case N => assumption)
    intro news' tag' xs' h' tk' m' F' N' I' H' hm'
    k_steps
    exact KD F' N' (I'.more (k := 6)) H' (fun y hy => hm' y (by
      simp only [List.contains_cons, List.contains_nil, Bool.or_false, Bool.or_eq_false_iff] at hy ⊢
      exact ⟨hy.1, hy.2.1⟩))
  · refine' K3 B ?F ?N T C1 C2 X hdp hu I hb hside hw0 hw7 e1 e2 e3 e4 e5 e7 e8 ?_
    (case F => rw [← hEq]; assumption)
    (case N => assumption)
    intro news' tag' xs' h' tk' F' N' I' H'
    k_steps
    exact KD F' N' (I'.more (k := 6)) H' (fun _ _ => rfl)
  · refine' K4 B ?F ?N T X hdp hu I hb hside e1 e3 e4 e5 e8 ?_
    (case F => rw [← hEq]; assumption)
    (case N => assumption)
    intro news' xs' h' tk' F' N' I' H'
    k_steps
    exact KD F' N' (I'.more (k := 6)) H' (fun _ _ => rfl)
  · refine' K5 B ?F ?N T X hdp hu I (by omega) hside e1 e2 e3 e4 e5 ?_
    (case F => rw [← hEq]; assumption)
    (case N => assumption)
    intro news' tag' xs' h' tk' F' N' I' H'
    k_steps
    exact KD F' N' (I'.more (k := 8)) H' (fun _ _ => rfl)
  · refine' K6 B ?F ?N T X hdp hu I hb hside e1 e2 e3 e4 e5 ?_
    (case F => rw [← hEq]; assumption)
    (case N => assumption)
    intro news' tag' xs' h' tk' m' F' N' I' H' hm'
    k_steps
    exact KD F' N' I' H' (fun y hy => hm' y (by
      simp only [List.contains_cons, List.contains_nil, Bool.or_false, Bool.or_eq_false_iff] at hy ⊢
      exact hy.2.2))
theorem fmod2 (x : Int) : Int.fmod x 2 = 0 ∨ Int.fmod x 2 = 1 := by
  have h1 := Int.fmod_nonneg_of_pos x (show (0 : Int) < 2 by decide)
  have h2 := Int.fmod_lt_of_pos x (show (0 : Int) < 2 by decide)
  omega
theorem turn {fa : Addr} {cdv : Value} {w : World} {mean : ExcName → Option Value} {mg mb : Str → Option Value} {dp un : Nat} {gd : Option (List Code)} {A₀ : Around} {h₀ : Heap} {L : Addr} {m : Str → Option Value} {s : Shared} {news : Led} {Q : Flow → Shared → Prop} {E : Value → Shared → Prop}
  {tag : Addr → Int} {xs : Int → SideA} {Sl Rl El Dl : Addr} {b nd : Nat} {its : List Value} {iv : Int} {tiv : Tok} (B : Below A₀ h₀ [] h₀) (F : Fr h₀ L s.heap m) (N : News h₀ L s.heap news) (T : Top topProg LL mean mg mb h₀) (C1 : CodeHd h₀ 150 146) (C2 : CodeHd h₀ 157 153) (C3 : CodeHd h₀ 171 167) (X : (hd.heap_39 w.params).In h₀) (hdp : dp + 40 < recursionLimit) (hu : un + 320 < cLine) (I : Inv w news tag xs Sl Rl El b) (hb : b + 10 ≤ sizeLine)
  (hDl : (Dl, listOf its.toArray nd) ∈ news) (hint : ∀ v ∈ its, ∃ i t, v = Value.int i t) (hi0 : 0 ≤ iv) (hi1 : iv < its.length) (hlen : its.length ≤ 12)
  (e1 : m (Str.ofString "sides") = some (.ref Sl)) (e2 : m (Str.ofString "rows") = some (.ref Rl)) (e3 : m (Str.ofString "direct") = some (.ref El)) (e8 : m (Str.ofString "i") = some (.int iv tiv)) (e9 : m (Str.ofString "deeds") = some (.ref Dl))
  (hE : PassesOwn (model PySem.Challenge.rw_fe0065_01.row.prog w) (lawA dp un gd L fa cdv) (lawE L fa cdv) E)
  (ret : ∀ f news' tag' xs' h' tk' m', (f = .next ∨ f = .cont) → Fr h₀ L h' m' → News h₀ L h' news' → Inv w news' tag' xs' Sl Rl El (b + 8) → Held news news' tag tag' → (∀ y : Str, (["number", "second", "side", "deed", "way", "sort", "entry", "skip", "one", "kind"] : List Str).contains y = false → m' y = m y) → Q f { s with heap := h', toks := tk' }) :
 wpAny (model PySem.Challenge.rw_fe0065_01.row.prog w) (lawA dp un gd L fa cdv) (execs (forAt lawD.1 5) (lawE L fa cdv)) Q E s := by
  have hsp : forAt lawD.1 5 = List.take 2 (forAt lawD.1 5) ++ List.drop 2 (forAt lawD.1 5) := (List.take_append_drop 2 _).symm
  rw [hsp]
  clear hsp
  obtain ⟨number, tnu, hx0⟩ : ∃ i t, its[iv.toNat]? = some (Value.int i t) := by
    obtain ⟨i, t, e⟩ := hint its[iv.toNat] (List.getElem_mem (by omega))
    exact ⟨i, t, by rw [List.getElem?_eq_getElem (by omega), e]⟩
  have hx1 : iv + 1 < its.length → ∃ i t, its[(iv + 1).toNat]? = some (Value.int i t) := fun hlt => by
    obtain ⟨i, t, e⟩ := hint its[(iv + 1).toNat] (List.getElem_mem (by omega))
    exact ⟨i, t, by rw [List.getElem?_eq_getElem (by omega), e]⟩
  have KD := @deedStep fa cdv w mean mg mb dp un gd A₀ h₀ L
  generalize List.drop 2 (forAt lawD.1 5) = BD at KD ⊢
  revert X; k_fill; intro X
  rcases hl : lawD with ⟨bd, sc⟩
  simp only [lawA, lawE, hl] at hE KD ⊢
  conv at hl => lhs; whnf
  cases hl
  have hEq := sets_eq (m := m) [(Str.ofString "sides", .ref Sl), (Str.ofString "rows", .ref Rl), (Str.ofString "direct", .ref El), (Str.ofString "i", .int iv tiv), (Str.ofString "deeds", .ref Dl)] (by
    intro p hp
    simp only [List.mem_cons, List.not_mem_nil, or_false] at hp
    rcases hp with rfl | rfl | rfl | rfl | rfl <;> assumption)
  rw [← hEq] at F
  simp only [List.take, List.drop, forAt, List.take_succ_cons, List.take_zero, List.cons_append, List.nil_append]
  have hz : its.length ≤ sizeLine := Nat.le_trans hlen (by decide)
  rcases Decidable.em (iv + 1 < its.length) with hlt | hlt
  · obtain ⟨second, tse, hx1⟩ := hx1 hlt
    k_steps
    refine' KD (I := I.sub ?sb) B ?F ?N T C1 C2 C3 X hdp hu hb (fmod2 number) (fmod7 _).1 (fmod7 _).2 (fmod7 _).1 ?e1 ?e2 ?e3 ?e4 ?e5 ?e6 ?e7 ?e8 ?e9 hE ?_
    (case F => assumption)
    (case N => assumption)
    (case sb => walk_at "m sub")
    (case e1 => rfl)
    (case e2 => rfl)
    (case e3 => rfl)
    (case e4 => rfl)
    (case e5 => rfl)
    (case e6 => rfl)
    (case e7 => rfl)
    (case e8 => rfl)
    (case e9 => rfl)
    intro f news' tag' xs' h' tk' m' hf F' N' I' H' hm'
    refine ret f news' tag' xs' h' tk' m' hf F' N' I' (Held.of H' (by walk_at "m sub")) fun y hy => ?_
    simp only [List.contains_cons, List.contains_nil, Bool.or_false, Bool.or_eq_false_iff, beq_eq_false_iff_ne] at hy hm'
    obtain ⟨a1, a2, a3, a4, a5, a6⟩ := hy
    rw [hm' y a6]
    simp only [if_neg a1, if_neg a2, if_neg a3, if_neg a4, if_neg a5]
    exact congrFun hEq y
  · clear hx1
    k_steps
    refine' KD (I := I.sub ?sb) B ?F ?N T C1 C2 C3 X hdp hu hb (fmod2 number) (fmod7 _).1 (fmod7 _).2 (fmod7 _).1 ?e1 ?e2 ?e3 ?e4 ?e5 ?e6 ?e7 ?e8 ?e9 hE ?_
    (case F => assumption)
    (case N => assumption)
    (case sb => walk_at "m sub")
    (case e1 => rfl)
    (case e2 => rfl)
    (case e3 => rfl)
    (case e4 => rfl)
    (case e5 => rfl)
    (case e6 => rfl)
    (case e7 => rfl)
    (case e8 => rfl)
    (case e9 => rfl)
    intro f news' tag' xs' h' tk' m' hf F' N' I' H' hm'
    refine ret f news' tag' xs' h' tk' m' hf F' N' I' (Held.of H' (by walk_at "m sub")) fun y hy => ?_
    simp only [List.contains_cons, List.contains_nil, Bool.or_false, Bool.or_eq_false_iff, beq_eq_false_iff_ne] at hy hm'
    obtain ⟨a1, a2, a3, a4, a5, a6⟩ := hy
    rw [hm' y a6]
    simp only [if_neg a1, if_neg a2, if_neg a3, if_neg a4, if_neg a5]
    exact congrFun hEq y
end Mine
theorem Mine.calmLK : True := by
  w_top off
  trivial
namespace Mine
section
variable {prog : Program} {w : World} {A : Around} {E : Value → Shared → Prop} {s : Shared} {env : Env} {h₀ : Heap} {x : Str} {body : List Stmt} {Q : Flow → Shared → Prop}
theorem loopRgK {r : Addr} {a₀ b₀ c : Int} {t₀ u₀ v₀ : Tok} {n : Nat} {m₀ : Str → Option Value} {news : Led} (stored : List Str) (J : Nat → Led → Prop)
    (hh : A.handled = none) (hr : IsRange s.heap r a₀ b₀ c t₀ u₀ v₀) (hsmall : Builtin.Range.small a₀ b₀ c = true) (hn : Builtin.Range.rangeSize a₀ b₀ c = (n : Int)) (F : Fr h₀ env.locals s.heap m₀) (N : News h₀ env.locals s.heap news)
    (hx : stored.contains x = true) (h0 : J 0 news)
    (turn : ∀ (i : Nat) (u : Str → Option Value) news₁ t h tk I oI, i < n → (∃ a b c, oI = krsIt a b c) → J i news₁ → (∀ p ∈ news₁, p.1 ≠ I) → (∀ p ∈ news, p.1 < I) → Fr h₀ env.locals h (fun y => if y = x then some (.int (a₀ + (i : Int) * c) t) else if stored.contains y then u y else m₀ y) → News h₀ env.locals h ((I, oI) :: news₁) →
      wpAny (model prog w) A (execs body env) (RgPost h₀ env.locals I oI stored m₀ (J (i + 1)) { s with heap := h, toks := tk } Q) E { s with heap := h, toks := tk })
    (done : ∀ h tk (u : Str → Option Value) news₁, J n news₁ → Fr h₀ env.locals h (fun y => if stored.contains y then u y else m₀ y) → News h₀ env.locals h news₁ → Q .next { s with heap := h, toks := tk }) :
    wpAny (model prog w) A (pyIter (.ref r)) (fun it s₂ => LoopAtV prog w A h₀ env x body Q E it s₂) E s := by
  refine krs_iter hh hr hsmall hn F N fun I hI => ?_
  suffices H : ∀ (k i : Nat) (m₁ : Str → Option Value) (news₁ : Led), k + i = n → (∀ y, stored.contains y = false → m₁ y = m₀ y) → J i news₁ → (∀ p ∈ news₁, p.1 ≠ I) → KrsRest prog w A E h₀ env x body Q s I a₀ c n k i m₁ news₁ from
    H n 0 m₀ news (by omega) (fun _ _ => rfl) h0 fun p hp => Nat.ne_of_lt (hI p hp)
  intro k
  induction k with
  | zero =>
    intro i m₁ news₁ hk hm hj _ h tk F₁ N₁
    have hin : i = n := by omega
    subst hin
    rw [← stored_form hm] at F₁
    exact done h tk m₁ news₁ hj F₁ N₁
  | succ k ih =>
    intro i m₁ news₁ hk hm hj hof t h tk F₁ N₁
    have e : (fun y => if y = x then some (Value.int (a₀ + (i : Int) * c) t) else m₁ y) = fun y => if y = x then some (Value.int (a₀ + (i : Int) * c) t) else if stored.contains y then m₁ y else m₀ y := by
      funext y
      have hq : (if stored.contains y then m₁ y else m₀ y) = m₁ y := congrFun (stored_form hm) y
      rw [hq]
    rw [e] at F₁
    refine wpAny_mono (turn i m₁ news₁ t h tk I _ (by omega) ⟨_, _, _, rfl⟩ hj hof hI F₁ N₁) (fun f s₂ p => ?_) fun _ _ e => e
    have fin : RgEnd h₀ env.locals I (krsIt (a₀ + ((i + 1 : Nat) : Int) * c) ((n : Int) - ((i + 1 : Nat) : Int)) c) stored m₀ (J (i + 1)) { s with heap := h, toks := tk } s₂ → UnrEnd h₀ env.locals { s with heap := h, toks := tk } I (krsIt (a₀ + ((i + 1 : Nat) : Int) * c) ((n : Int) - ((i + 1 : Nat) : Int)) c) (KrsRest prog w A E h₀ env x body Q s I a₀ c n k (i + 1)) s₂ := by
      rintro ⟨h', tk', m', news', e', F', N', ho, hm', hj'⟩
      exact ⟨h', tk', m', news', e', F', N', ho, ih (i + 1) m' news' (by omega) hm' hj' ho⟩
    cases f with
    | ret v => exact p
    | brk => exact p
    | next => exact fin p
    | cont => exact fin p
end
end Mine
namespace Mine
def forTg (l : List Stmt) (k : Nat) : PySem.Expr := match l.drop k with
  | .For t _ _ _ _ :: _ => t
  | _ => .Name (Str.ofString "") { line := 0, col := 0, endLine := 0, endCol := 0 }
def forIt (l : List Stmt) (k : Nat) : PySem.Expr := match l.drop k with
  | .For _ t _ _ _ :: _ => t
  | _ => .Name (Str.ofString "") { line := 0, col := 0, endLine := 0, endCol := 0 }
def forPs (l : List Stmt) (k : Nat) : Pos := match l.drop k with
  | .For _ _ _ _ p :: _ => p
  | _ => { line := 0, col := 0, endLine := 0, endCol := 0 }
theorem main_split : List.drop 5 lawD.1 = Stmt.For (forTg lawD.1 5) (forIt lawD.1 5) (forAt lawD.1 5) [] (forPs lawD.1 5) :: List.drop 6 lawD.1 := by
  rcases hl : lawD with ⟨bd, sc⟩
  conv at hl => lhs; whnf
  cases hl
  simp only [List.drop, forAt, forTg, forIt, forPs]
theorem krs_not_imm {a b c : Int} : ¬ Imm (krsIt a b c) := fun h => by
  rcases (show (∃ q t, (#[rawInt a, rawInt b, rawInt c] : Array Value)[1]? = some (.str q t)) ∨ Value.type "range_iterator" = .type "method" from h) with ⟨q, t, e⟩ | e
  · simp [rawInt] at e
  · simp at e
theorem rg_small : ∀ k : Nat, k < 13 → Builtin.Range.small 0 (k : Int) 2 = true ∧ Builtin.Range.rangeSize 0 (k : Int) 2 = (((k + 1) / 2 : Nat) : Int) := by decide
end Mine
theorem Mine.calmLP : True := by
  w_top off
  trivial
namespace Mine
theorem mainL {fa : Addr} {cdv : Value} {w : World} {mean : ExcName → Option Value} {mg mb : Str → Option Value} {dp un : Nat} {gd : Option (List Code)} {A₀ : Around} {h₀ : Heap} {L : Addr} {m : Str → Option Value} {s : Shared} {news : Led} {Q : Flow → Shared → Prop} {E : Value → Shared → Prop}
  {tag : Addr → Int} {xs : Int → SideA} {Sl Rl El Dl : Addr} {b nd : Nat} {its : List Value} (B : Below A₀ h₀ [] h₀) (F : Fr h₀ L s.heap m) (N : News h₀ L s.heap news) (T : Top topProg LL mean mg mb h₀) (C1 : CodeHd h₀ 150 146) (C2 : CodeHd h₀ 157 153) (C3 : CodeHd h₀ 171 167) (X : (hd.heap_39 w.params).In h₀) (hdp : dp + 40 < recursionLimit) (hu : un + 320 < cLine) (I : Inv w news tag xs Sl Rl El b) (hb : b + 100 ≤ sizeLine)
  (hDl : (Dl, listOf its.toArray nd) ∈ news) (tDl : tag Dl = 33) {oB : Obj} (hB : (174, oB) ∈ news) (tB : tag 174 = 33) (hint : ∀ v ∈ its, ∃ i t, v = Value.int i t) (hlen : its.length ≤ 12)
  (e1 : m (Str.ofString "sides") = some (.ref Sl)) (e2 : m (Str.ofString "rows") = some (.ref Rl)) (e3 : m (Str.ofString "direct") = some (.ref El)) (e9 : m (Str.ofString "deeds") = some (.ref Dl))
  (hE : PassesOwn (model PySem.Challenge.rw_fe0065_01.row.prog w) (lawA dp un gd L fa cdv) (lawE L fa cdv) E)
  (ret : ∀ h' tk' m' news', Fr h₀ L h' m' → News h₀ L h' news' → (∃ tag xs b, Inv w news' tag xs Sl Rl El b) → (174, oB) ∈ news' → Q (.ret (.bool true)) { s with heap := h', toks := tk' }) :
 wpAny (model PySem.Challenge.rw_fe0065_01.row.prog w) (lawA dp un gd L fa cdv) (execs (List.drop 5 lawD.1) (lawE L fa cdv)) Q E s := by
  rw [main_split]
  have KD := @turn fa cdv w mean mg mb dp un gd A₀ h₀ L
  have KF := @fin fa cdv w mean mg mb dp un gd A₀ h₀ L
  generalize forAt lawD.1 5 = BF at KD ⊢
  generalize List.drop 6 lawD.1 = BE at KF ⊢
  revert X; k_fill; intro X
  rcases hl : lawD with ⟨bd, sc⟩
  simp only [lawA, lawE, hl] at hE KD KF ⊢
  conv at hl => lhs; whnf
  cases hl
  have hEq := sets_eq (m := m) [(Str.ofString "sides", .ref Sl), (Str.ofString "rows", .ref Rl), (Str.ofString "direct", .ref El), (Str.ofString "deeds", .ref Dl)] (by
    intro p hp
    simp only [List.mem_cons, List.not_mem_nil, or_false] at hp
    rcases hp with rfl | rfl | rfl | rfl <;> assumption)
  have F1 := F
  rw [← hEq] at F1
  clear F
  simp only [List.drop, forTg, forIt, forPs]
  have hz : its.length ≤ sizeLine := Nat.le_trans hlen (by decide)
  have hrg := rg_small its.length (by omega)
  walk1
  refine' For_invV h₀ ?hx ?hp ?_ ?hs ?hE
  (case hx => rfl)
  (case hp => rfl)
  (case hs => intro _; rfl)
  (case hE => exact hE)
  k_steps
  refine loopRgK (n := (its.length + 1) / 2) ["i", "number", "second", "side", "deed", "way", "sort", "entry", "skip", "one", "kind"] (fun i n1 => ∃ tag xs, Inv w n1 tag xs Sl Rl El (b + 8 * i) ∧ ((Dl, listOf its.toArray nd) ∈ n1 ∧ tag Dl = 33) ∧ (174, oB) ∈ n1 ∧ tag 174 = 33) rfl ‹IsRange _ _ _ _ _ _ _ _› hrg.1 hrg.2 (by assumption) (by assumption) (by decide) ⟨tag, xs, I, ⟨hDl, tDl⟩, hB, tB⟩ ?_ ?_
  · rintro i u news₁ t h tk It oI hi ⟨ka, kb, kc, rfl⟩ ⟨tag₁, xs₁, I₁, ⟨hD₁, tD₁⟩, hB₁, tB₁⟩ hof hlt F₁ N₁
    have k : SameT news₁ tag₁ (retag tag₁ It 34) := fun p hp => if_neg (hof p hp)
    refine KD (iv := 0 + (i : Int) * 2) (tiv := t) (I := (I₁.retag k).sub (SubL.cons SubL.rfl)) B F₁ N₁ T C1 C2 C3 X hdp hu (by omega) (List.mem_cons_of_mem _ hD₁) hint (by omega) (by omega) hlen ?e1 ?e2 ?e3 ?e8 ?e9 hE ?_
    case e1 => rfl
    case e2 => rfl
    case e3 => rfl
    case e8 => rfl
    case e9 => rfl
    intro f news' tag' xs' h' tk' m' hf F' N' I' H' hm'
    obtain ⟨qI, tI⟩ := H' _ (List.mem_cons_self ..) (.inr retag_new)
    obtain ⟨qD, tD⟩ := H' _ (List.mem_cons_of_mem _ hD₁) (.inl ((k _ hD₁).trans tD₁))
    obtain ⟨qB, tBB⟩ := H' _ (List.mem_cons_of_mem _ hB₁) (.inl ((k _ hB₁).trans tB₁))
    have tB' : tag' 174 = 33 := tBB.trans ((k _ hB₁).trans tB₁)
    have tI' : tag' It = 34 := tI.trans retag_new
    have tD' : tag' Dl = 33 := tD.trans ((k _ hD₁).trans tD₁)
    have hneB : 174 ≠ It := fun e => by rw [e, tI'] at tB'; exact absurd tB' (by decide)
    have hne : Dl ≠ It := fun e => by rw [e, tI'] at tD'; exact absurd tD' (by decide)
    have hmm : ∀ y : Str, (["i", "number", "second", "side", "deed", "way", "sort", "entry", "skip", "one", "kind"] : List Str).contains y = false → m' y = m y := fun y hy => by
      have hy' := hy
      rw [List.contains_cons, Bool.or_eq_false_iff, beq_eq_false_iff_ne] at hy'
      refine (hm' y hy'.2).trans ?_
      rw [if_neg hy'.1, if_neg (by rw [hy]; decide)]
      exact congrFun hEq y
    have hJ : Inv w (news'.filter (fun p => p.1 ≠ It)) tag' xs' Sl Rl El (b + 8 * (i + 1)) := I'.without N' qI tI' krs_not_imm
    rcases hf with rfl | rfl
    · exact rg_next ⟨h', tk', m', _, rfl, F', refocus N' qI, upd_rest, fun y hy => (hmm y hy).trans (congrFun hEq y).symm, tag', xs', hJ, ⟨List.mem_filter.mpr ⟨qD, by simpa using hne⟩, tD'⟩, List.mem_filter.mpr ⟨qB, by simpa using hneB⟩, tB'⟩
    · exact rg_cont ⟨h', tk', m', _, rfl, F', refocus N' qI, upd_rest, fun y hy => (hmm y hy).trans (congrFun hEq y).symm, tag', xs', hJ, ⟨List.mem_filter.mpr ⟨qD, by simpa using hne⟩, tD'⟩, List.mem_filter.mpr ⟨qB, by simpa using hneB⟩, tB'⟩
  · rintro h tk u news₁ ⟨tag₁, xs₁, I₁, ⟨hD₁, tD₁⟩, hB₁, tB₁⟩ F₁ N₁
    dsimp only
    refine KF B F₁ N₁ T C1 X hdp hu I₁ (by omega) ?f1 ?f2 ?f3 hE ?_
    case f1 => rfl
    case f2 => rfl
    case f3 => rfl
    intro h' tk' m' F' N'
    exact ret _ _ _ _ F' N' ⟨_, _, _, I₁⟩ hB₁
end Mine
theorem Mine.calmST : True := by
  w_top off
  trivial
namespace Mine
theorem sub_skip {a b : Addr × Obj} {l : Led} : SubL (a :: l) (a :: b :: l) := fun p hp => by
  rcases List.mem_cons.mp hp with rfl | hp
  · exact List.mem_cons_self ..
  · exact List.mem_cons_of_mem _ (List.mem_cons_of_mem _ hp)
theorem sliceS {fa : Addr} {cdv : Value} {w : World} {mean : ExcName → Option Value} {mg mb : Str → Option Value} {dp un : Nat} {gd : Option (List Code)} {A₀ : Around} {h₀ : Heap} {L Sc : Addr} {m : Str → Option Value} {s : Shared} {news : Led} {vs : List Value} {Q : Flow → Shared → Prop} {E : Value → Shared → Prop}
  (B : Below A₀ h₀ [] h₀) (F : Fr h₀ L s.heap m) (N : News h₀ L s.heap news) (T : Top topProg LL mean mg mb h₀) (X : (hd.heap_39 w.params).In h₀) (hdp : dp + 40 < recursionLimit) (hu : un + 320 < cLine)
  (hS : h₀.IsList Sc vs.toArray) (hint : ∀ v ∈ vs, ∃ i t, v = Value.int i t) (hlen : vs.length ≤ 63)
  (e0 : m (Str.ofString "script") = some (.ref Sc))
  (ret : ∀ (Dl : Addr) (its : List Value) (nd : Nat) h' tk' m', Fr h₀ L h' m' → News h₀ L h' ((Dl, listOf its.toArray nd) :: news) → (∀ p ∈ news, p.1 < Dl) → (∀ v ∈ its, ∃ i t, v = Value.int i t) → its.length ≤ 12 → m' (Str.ofString "deeds") = some (.ref Dl) → Q .next { s with heap := h', toks := tk' }) :
 wpAny (model PySem.Challenge.rw_fe0065_01.row.prog w) (lawA dp un gd L fa cdv) (execs (List.take 1 lawD.1) (lawE L fa cdv)) Q E s := by
  revert X; k_fill; intro X
  rcases hl : lawD with ⟨bd, sc⟩
  simp only [lawA, lawE, hl]
  conv at hl => lhs; whnf
  cases hl
  have hEq := sets_eq (m := m) [(Str.ofString "script", .ref Sc)] (by
    intro p hp
    simp only [List.mem_cons, List.not_mem_nil, or_false] at hp
    rcases hp with rfl
    assumption)
  rw [← hEq] at F
  simp only [List.take]
  have N0 : ∀ p ∈ news, p.1 < s.heap.objs.size := fun p hp => Heap.lt_size (N p hp).1
  rcases vs with _ | ⟨v, vs⟩
  · k_steps
    have kN := ‹News h₀ L _ _›
    have kl := ‹_ ∧ AllLt _ news›
    refine ret _ [_, _, _, _, _, _, _] _ _ _ _ (by assumption) (fun p hp => kN p (sub_skip p hp)) (allLt_all kl.2) ?_ (show 7 ≤ 12 by decide) rfl
    intro v hv
    simp only [List.mem_cons, List.not_mem_nil, or_false] at hv
    rcases hv with rfl | rfl | rfl | rfl | rfl | rfl | rfl <;> exact ⟨_, _, rfl⟩
  · k_steps
    have kN := ‹News h₀ L _ ((_, _) :: _)›
    rw [pick_up (by decide)] at kN
    refine ret _ ((v :: vs).take (12 : Int).toNat) 0 _ _ _ (by assumption) kN (fun p hp => Nat.lt_succ_of_lt (N0 p hp)) (fun y hy => hint y (List.mem_of_mem_take hy)) ?_ rfl
    rw [List.length_take]
    exact Nat.min_le_left _ _
end Mine
theorem Mine.calmS2 : True := by
  w_top off
  trivial
namespace Mine
theorem rowsS {fa : Addr} {cdv : Value} {w : World} {mean : ExcName → Option Value} {mg mb : Str → Option Value} {dp un : Nat} {gd : Option (List Code)} {A₀ : Around} {h₀ : Heap} {L : Addr} {m : Str → Option Value} {s : Shared} {news : Led} {Q : Flow → Shared → Prop} {E : Value → Shared → Prop}
  (B : Below A₀ h₀ [] h₀) (F : Fr h₀ L s.heap m) (N : News h₀ L s.heap news) (T : Top topProg LL mean mg mb h₀) (X : (hd.heap_39 w.params).In h₀) (hdp : dp + 40 < recursionLimit) (hu : un + 320 < cLine)
  (ret : ∀ (R0 R1 Rl E0 E1 El : Addr) (news' : Led) h' tk' m', Fr h₀ L h' m' → News h₀ L h' news' → SubL news news' → GR news' R0 [⟨6, 0, .first⟩] → GR news' R1 [⟨4, 1, .first⟩] → Pair2 news' Rl (fun j => if j = 0 then R0 else R1) →
    DirIn w news' E0 [] → DirIn w news' E1 [] → Pair2 news' El (fun j => if j = 0 then E0 else E1) → ((∀ p ∈ news, p.1 < R0) ∧ R0 < R1 ∧ R1 < Rl ∧ Rl < E0 ∧ E0 < E1 ∧ E1 < El) →
    (∀ y : Str, (["rows", "direct"] : List Str).contains y = false → m' y = m y) → m' (Str.ofString "rows") = some (.ref Rl) → m' (Str.ofString "direct") = some (.ref El) → Q .next { s with heap := h', toks := tk' }) :
 wpAny (model PySem.Challenge.rw_fe0065_01.row.prog w) (lawA dp un gd L fa cdv) (execs (List.take 1 (List.drop 2 lawD.1)) (lawE L fa cdv)) Q E s := by
  revert X; k_fill; intro X
  rcases hl : lawD with ⟨bd, sc⟩
  simp only [lawA, lawE, hl]
  conv at hl => lhs; whnf
  cases hl
  simp only [List.take, List.drop]
  k_steps
  rename_i t0 _ p0 R0 _ p1 t1 _ p2 R1 _ p3 Rl _ p4 E0 _ o0 lo0 _ _ hi0 _ p5 E1 _ o1 lo1 _ _ hi1 _ p6 El _ p7 tt _ p8 _ _ _ kF kN
  refine ret R0 R1 Rl E0 E1 El _ _ _ _ kF kN (by walk_at "m sub") ⟨[.ref t0], 0, by k_mem, .cons ⟨t0, _, _, _, _, rfl, by k_mem, ⟨_, rfl⟩, (show (0 : Int) ≤ 6 by decide), (show (6 : Int) < 7 by decide), (show (0 : Int) ≤ 0 by decide), (show (0 : Int) < 4 by decide)⟩ .nil⟩
    ⟨[.ref t1], 0, by k_mem, .cons ⟨t1, _, _, _, _, rfl, by k_mem, ⟨_, rfl⟩, (show (0 : Int) ≤ 4 by decide), (show (4 : Int) < 7 by decide), (show (0 : Int) ≤ 1 by decide), (show (1 : Int) < 4 by decide)⟩ .nil⟩
    ⟨0, by k_mem⟩ ⟨o0, [], by k_mem, lo0, hi0, .nil⟩ ⟨o1, [], by k_mem, lo1, hi1, .nil⟩ ⟨0, by k_mem⟩ ⟨allLt_all p1.2, Nat.lt_trans p2.1 p3.1, p4.1, p5.1, p6.1, p7.1⟩ (fun y hy => ?_) rfl rfl
  simp only [List.contains_cons, List.contains_nil, Bool.or_false, Bool.or_eq_false_iff, beq_eq_false_iff_ne] at hy
  exact (if_neg hy.1).trans (if_neg hy.2)
end Mine
local macro_rules | `(tactic| walk_at "call ref") => `(tactic| (k_here; (with_reducible show wpAny _ _ (call (Value.ref 179) _) _ _ _); (refine Mine.stop_in ?_)))
local macro_rules | `(tactic| walk_at "call ref") => `(tactic| (k_here; (with_reducible show wpAny _ _ (call (Value.ref 133) _) _ _ _); (refine Mine.stop_in ?_)))
local macro_rules | `(tactic| walk_at "call ref") => `(tactic| (k_here; (with_reducible show wpAny _ _ (call (Value.ref 151) _) _ _ _); (refine Mine.stop_in ?_)))
local macro_rules | `(tactic| walk_at "call ref") => `(tactic| (k_here; (with_reducible show wpAny _ _ (call (Value.ref 158) _) _ _ _); (refine Mine.stop_in ?_)))
theorem Mine.calmS1 : True := by
  w_top off
  trivial
namespace Mine
section
variable {h₀ h : Heap} {L I C D : Addr} {oI oC oD t o : Obj} {tl news : Led}
theorem comp_memN (hN9 : News h₀ L h (tl ++ upd ((I, oI) :: (C, oC) :: (D, oD) :: news) 174 t)) (off : LCg.Off3 I C D news) (h174 : (174, o) ∈ news) :
    (I, oI) ∈ tl ++ upd ((I, oI) :: (C, oC) :: (D, oD) :: news) 174 t ∧ (C, oC) ∈ tl ++ upd ((I, oI) :: (C, oC) :: (D, oD) :: news) 174 t ∧ (D, oD) ∈ tl ++ upd ((I, oI) :: (C, oC) :: (D, oD) :: news) 174 t := by
  obtain ⟨q1, q2, q3⟩ := off.mem _ h174
  exact ⟨List.mem_append_right _ (upd_keep (List.mem_cons_self ..) (Ne.symm q1)), List.mem_append_right _ (upd_keep (List.mem_cons_of_mem _ (List.mem_cons_self ..)) (Ne.symm q2)), List.mem_append_right _ (upd_keep (List.mem_cons_of_mem _ (List.mem_cons_of_mem _ (List.mem_cons_self ..))) (Ne.symm q3))⟩
theorem off1_mem {D : Addr} : ∀ {l : Led}, LCg.Off1 D l → ∀ p ∈ l, p.1 ≠ D
  | [], _, _, h => nomatch h
  | _ :: _, x, p, h => by
    rcases List.mem_cons.mp h with rfl | h
    · exact x.1
    · exact off1_mem x.2 p h
theorem comp_memC (hN9 : News h₀ L h (tl ++ ((I, oI) :: (C, oC) :: (D, oD) :: news))) : (C, oC) ∈ tl ++ ((I, oI) :: (C, oC) :: (D, oD) :: news) := List.mem_append_right _ (List.mem_cons_of_mem _ (List.mem_cons_self ..))
theorem comp_old {X : Addr} (off : LCg.Off3 I C D news) (h174 : (174, o) ∈ news) (k : ∀ q ∈ tl ++ upd ((I, oI) :: (C, oC) :: (D, oD) :: news) 174 t, q.1 < X) : ∀ q ∈ news, q.1 < X := fun q hq => by
  by_cases e : q.1 = 174
  · rw [e]; exact k (174, t) (List.mem_append_right _ upd_self)
  · exact k q (List.mem_append_right _ (upd_keep (List.mem_cons_of_mem _ (List.mem_cons_of_mem _ (List.mem_cons_of_mem _ hq))) e))
theorem comp_P {X P : Addr} {tlb tl0 : Led} (k : ∀ q ∈ tlb ++ ((I, oI) :: (C, oC) :: (D, oD) :: (tl0 ++ (tl ++ news))), q.1 < X) (h : GP (tl0 ++ tl) P []) : P < X := by
  obtain ⟨its, n, q, _⟩ := h
  refine k (P, listOf its.toArray n) (List.mem_append_right _ (List.mem_cons_of_mem _ (List.mem_cons_of_mem _ (List.mem_cons_of_mem _ ?_))))
  · rcases List.mem_append.mp q with q | q
    · exact List.mem_append_left _ q
    · exact List.mem_append_right _ (List.mem_append_left _ q)
theorem nm (a : Addr) : a ∉ ([] : List Addr) := fun h => nomatch h
theorem comp_off {tl0 : Led} (off : LCg.Off3 I C D news) (h174 : (174, o) ∈ news) (lt1 : ∀ p ∈ tl, ∀ q ∈ (I, oI) :: (C, oC) :: (D, oD) :: news, q.1 < p.1)
    (lt0 : ∀ p ∈ tl0, ∀ q ∈ tl ++ upd ((I, oI) :: (C, oC) :: (D, oD) :: news) 174 t, q.1 < p.1) : LCg.Off3 I C D (tl0 ++ (tl ++ upd news 174 t)) := by
  obtain ⟨q1, q2, q3⟩ := off.mem _ h174
  have e1 : (I, oI) ∈ tl ++ upd ((I, oI) :: (C, oC) :: (D, oD) :: news) 174 t := List.mem_append_right _ (upd_keep (List.mem_cons_self ..) (Ne.symm q1))
  have e2 : (C, oC) ∈ tl ++ upd ((I, oI) :: (C, oC) :: (D, oD) :: news) 174 t := List.mem_append_right _ (upd_keep (List.mem_cons_of_mem _ (List.mem_cons_self ..)) (Ne.symm q2))
  have e3 : (D, oD) ∈ tl ++ upd ((I, oI) :: (C, oC) :: (D, oD) :: news) 174 t := List.mem_append_right _ (upd_keep (List.mem_cons_of_mem _ (List.mem_cons_of_mem _ (List.mem_cons_self ..))) (Ne.symm q3))
  refine LCg.Off3.of fun p hp => ?_
  rcases List.mem_append.mp hp with h | h
  · exact ⟨Ne.symm (Nat.ne_of_lt (lt0 p h _ e1)), Ne.symm (Nat.ne_of_lt (lt0 p h _ e2)), Ne.symm (Nat.ne_of_lt (lt0 p h _ e3))⟩
  · rcases List.mem_append.mp h with h | h
    · exact ⟨Ne.symm (Nat.ne_of_lt (lt1 p h _ (List.mem_cons_self ..))), Ne.symm (Nat.ne_of_lt (lt1 p h _ (List.mem_cons_of_mem _ (List.mem_cons_self ..)))), Ne.symm (Nat.ne_of_lt (lt1 p h _ (List.mem_cons_of_mem _ (List.mem_cons_of_mem _ (List.mem_cons_self ..)))))⟩
    · rcases List.mem_cons.mp h with rfl | h
      · exact ⟨q1, q2, q3⟩
      · exact off.mem p (List.mem_filter.mp h).1
theorem comp_sub {tl0 : Led} (off : LCg.Off3 I C D news) (h174 : (174, o) ∈ news) : ∀ p ∈ (I, oI) :: (C, oC) :: (D, oD) :: (tl0 ++ (tl ++ upd news 174 t)), p ∈ tl0 ++ (tl ++ upd ((I, oI) :: (C, oC) :: (D, oD) :: news) 174 t) := by
  obtain ⟨q1, q2, q3⟩ := off.mem _ h174
  intro p hp
  rcases List.mem_cons.mp hp with rfl | hp
  · exact List.mem_append_right _ (List.mem_append_right _ (upd_keep (List.mem_cons_self ..) (Ne.symm q1)))
  rcases List.mem_cons.mp hp with rfl | hp
  · exact List.mem_append_right _ (List.mem_append_right _ (upd_keep (List.mem_cons_of_mem _ (List.mem_cons_self ..)) (Ne.symm q2)))
  rcases List.mem_cons.mp hp with rfl | hp
  · exact List.mem_append_right _ (List.mem_append_right _ (upd_keep (List.mem_cons_of_mem _ (List.mem_cons_of_mem _ (List.mem_cons_self ..))) (Ne.symm q3)))
  rcases List.mem_append.mp hp with h | h
  · exact List.mem_append_left _ h
  rcases List.mem_append.mp h with h | h
  · exact List.mem_append_right _ (List.mem_append_left _ h)
  rcases List.mem_cons.mp h with rfl | h
  · exact List.mem_append_right _ (List.mem_append_right _ upd_self)
  · obtain ⟨h1, h2⟩ := List.mem_filter.mp h
    exact List.mem_append_right _ (List.mem_append_right _ (upd_keep (List.mem_cons_of_mem _ (List.mem_cons_of_mem _ (List.mem_cons_of_mem _ h1))) (by simpa using h2)))
theorem comp_off2 {tl0 : Led} (off : LCg.Off3 I C D news) (lt1 : ∀ p ∈ tl, ∀ q ∈ (I, oI) :: (C, oC) :: (D, oD) :: news, q.1 < p.1)
    (lt0 : ∀ p ∈ tl0, ∀ q ∈ tl ++ ((I, oI) :: (C, oC) :: (D, oD) :: news), q.1 < p.1) : LCg.Off3 I C D (tl0 ++ (tl ++ news)) := by
  refine LCg.Off3.of fun p hp => ?_
  rcases List.mem_append.mp hp with h | h
  · exact ⟨Ne.symm (Nat.ne_of_lt (lt0 p h _ (List.mem_append_right _ (List.mem_cons_self ..)))), Ne.symm (Nat.ne_of_lt (lt0 p h _ (List.mem_append_right _ (List.mem_cons_of_mem _ (List.mem_cons_self ..))))), Ne.symm (Nat.ne_of_lt (lt0 p h _ (List.mem_append_right _ (List.mem_cons_of_mem _ (List.mem_cons_of_mem _ (List.mem_cons_self ..))))))⟩
  · rcases List.mem_append.mp h with h | h
    · exact ⟨Ne.symm (Nat.ne_of_lt (lt1 p h _ (List.mem_cons_self ..))), Ne.symm (Nat.ne_of_lt (lt1 p h _ (List.mem_cons_of_mem _ (List.mem_cons_self ..)))), Ne.symm (Nat.ne_of_lt (lt1 p h _ (List.mem_cons_of_mem _ (List.mem_cons_of_mem _ (List.mem_cons_self ..)))))⟩
    · exact off.mem p h
theorem comp_sub2 {tl0 : Led} : ∀ p ∈ (I, oI) :: (C, oC) :: (D, oD) :: (tl0 ++ (tl ++ news)), p ∈ tl0 ++ (tl ++ ((I, oI) :: (C, oC) :: (D, oD) :: news)) := by
  intro p hp
  rcases List.mem_cons.mp hp with rfl | hp
  · exact List.mem_append_right _ (List.mem_append_right _ (List.mem_cons_self ..))
  rcases List.mem_cons.mp hp with rfl | hp
  · exact List.mem_append_right _ (List.mem_append_right _ (List.mem_cons_of_mem _ (List.mem_cons_self ..)))
  rcases List.mem_cons.mp hp with rfl | hp
  · exact List.mem_append_right _ (List.mem_append_right _ (List.mem_cons_of_mem _ (List.mem_cons_of_mem _ (List.mem_cons_self ..))))
  rcases List.mem_append.mp hp with h | h
  · exact List.mem_append_left _ h
  rcases List.mem_append.mp h with h | h
  · exact List.mem_append_right _ (List.mem_append_left _ h)
  · exact List.mem_append_right _ (List.mem_append_right _ (List.mem_cons_of_mem _ (List.mem_cons_of_mem _ (List.mem_cons_of_mem _ h))))
end
theorem sidesS {fa : Addr} {cdv : Value} {w : World} {mean : ExcName → Option Value} {mg mb : Str → Option Value} {dp un : Nat} {gd : Option (List Code)} {A₀ : Around} {h₀ : Heap} {L : Addr} {m : Str → Option Value} {s : Shared} {news : Led} {Q : Flow → Shared → Prop} {E : Value → Shared → Prop}
  (B : Below A₀ h₀ [] h₀) (F : Fr h₀ L s.heap m) (N : News h₀ L s.heap news) (T : Top topProg LL mean mg mb h₀) (C4 : CodeHd h₀ 178 174) (X : (hd.heap_39 w.params).In h₀) (hdp : dp + 40 < recursionLimit) (hu : un + 320 < cLine)
  (h174 : (174, tabObj #[]) ∈ news)
  (ret : ∀ (x0 x1 : SideA) (Sl : Addr) (n : Nat) (news' : Led) h' tk' m', Fr h₀ L h' m' → News h₀ L h' ((Sl, listOf #[.ref x0.M, .ref x1.M] n) :: news') → (∀ p ∈ news', p.1 ≠ Sl) → Step [174] news news' → (∃ ps, (174, tabObj ps) ∈ news') →
    GA news' 0 x0 → GF news' 0 x0 → GP news' x0.P [] → DirIn w news' x0.D [] → GA news' 1 x1 → GF news' 1 x1 → GP news' x1.P [] → DirIn w news' x1.D [] →
    (x0.Md < x0.D ∧ x0.D < x0.Fd ∧ x0.Fd < x0.P ∧ x0.P < x1.Md ∧ x1.Md < x1.D ∧ x1.D < x1.Fd ∧ x1.Fd < x1.P ∧ ∀ q ∈ news, q.1 < x0.Md) →
    (∀ y : Str, (["sides"] : List Str).contains y = false → m' y = m y) → m' (Str.ofString "sides") = some (.ref Sl) → Q .next { s with heap := h', toks := tk' }) :
 wpAny (model PySem.Challenge.rw_fe0065_01.row.prog w) (lawA dp un gd L fa cdv) (execs (List.take 1 (List.drop 1 lawD.1)) (lawE L fa cdv)) Q E s := by
  revert X; k_fill; intro X
  rcases hl : lawD with ⟨bd, sc⟩
  simp only [lawA, lawE, hl]
  conv at hl => lhs; whnf
  cases hl
  simp only [List.take, List.drop]
  have S0 : ∀ c' : Addr, Step [174] news (upd news 174 (tab1 101 11 c')) := fun c' => upd_step N h174 (not_imm_tab fun q t e => by simp at e)
  have h01 : convS 0 = Str.ofString "converter " ++ Str.ofString (toString (0 : Int)) := conv_str (.inl rfl)
  k_steps
  unfold Stop
  refine' mkB0 B ?F ?N T ?dp ?un X C4 ?hT ?_
  (case F => assumption)
  (case N => assumption)
  (case dp => ktr_room)
  (case un => ktr_units)
  (case hT => k_mem)
  intro fb c c' tl h1 tk1 F1 N1 lt1 hc hfb hce
  rename LCg.Off3 _ _ _ _ => off
  have off0 := off
  obtain ⟨m1, m2, m3⟩ := comp_memN N1 off h174
  k_steps
  unfold Stop
  refine' newM (news0 := tl) (j := 0) B ?F ?N T ?dp ?un X ?hcv hfb hce ?_
  (case F => assumption)
  (case N => assumption)
  (case dp => ktr_room)
  (case un => ktr_units)
  (case hcv => decide +kernel)
  intro x0 tl0 h2 tk2 F2 N2 A0 G0 P0 D0 o0 lt0
  show LCg.CompEnd _ _ _ _ _ _ _ _ _ _ _ _ _ _
  refine LCg.CompEnd.intro F2 N2 (tl0 ++ (tl ++ upd news 174 (tab1 101 11 c'))) (comp_sub off h174) (comp_off off h174 lt1 lt0) True.intro ?_
  have h174b : (174, tab1 101 11 c') ∈ tl0 ++ (tl ++ upd news 174 (tab1 101 11 c')) := List.mem_append_right _ (List.mem_append_right _ upd_self)
  clear off m1 m2 m3
  k_steps
  unfold Stop
  refine' mkB (news0 := tl) B ?F ?N T ?dp ?un X C4 ?hT hc ?_
  (case F => assumption)
  (case N => assumption)
  (case dp => ktr_room)
  (case un => ktr_units)
  (case hT => k_mem)
  intro fb1 c1 tlb h3 tk3 F3 N3 lt3 hfb1 hce1
  have m2 := comp_memC N3
  rename LCg.Off3 _ _ _ _ => off
  k_steps
  unfold Stop
  refine' newM (news0 := tlb ++ tl) (j := 1) B ?F ?N T ?dp ?un X ?hcv hfb1 hce1 ?_
  (case F => assumption)
  (case N => assumption)
  (case dp => ktr_room)
  (case un => ktr_units)
  (case hcv => decide +kernel)
  intro x1 tl1 h4 tk4 F4 N4 A1 G1 P1 D1 o1 lt4
  show LCg.CompEnd _ _ _ _ _ _ _ _ _ _ _ _ _ _
  refine LCg.CompEnd.intro F4 N4 (tl1 ++ (tlb ++ (tl0 ++ (tl ++ upd news 174 (tab1 101 11 c'))))) comp_sub2 (comp_off2 off lt3 lt4) True.intro ?_
  have o10 := comp_P o1.2.2.2 P0
  have o00 : ∀ q ∈ news, q.1 < x0.Md := comp_old off0 h174 o0.2.2.2
  have S2 : Step [174] news (tl1 ++ (tlb ++ (tl0 ++ (tl ++ upd news 174 (tab1 101 11 c'))))) := ((S0 c').trans (Step.of_sub (SubL.app (SubL.app (SubL.app (SubL.app SubL.rfl)))))).more fun d hd => by simpa using hd
  have s0 : SubL (tl0 ++ tl) (tl1 ++ (tlb ++ (tl0 ++ (tl ++ upd news 174 (tab1 101 11 c'))))) := fun p hp => List.mem_append_right _ (List.mem_append_right _ (by rw [← List.append_assoc]; exact List.mem_append_left _ hp))
  have s1 : SubL (tl1 ++ (tlb ++ tl)) (tl1 ++ (tlb ++ (tl0 ++ (tl ++ upd news 174 (tab1 101 11 c'))))) := fun p hp => by
    rcases List.mem_append.mp hp with h | h
    · exact List.mem_append_left _ h
    rcases List.mem_append.mp h with h | h
    · exact List.mem_append_right _ (List.mem_append_left _ h)
    · exact List.mem_append_right _ (List.mem_append_right _ (List.mem_append_right _ (List.mem_append_left _ h)))
  clear off m2
  k_steps
  have z0 := Step.of_sub s0
  have z1 := Step.of_sub s1
  refine ret x0 x1 _ 2 _ _ _ _ (by assumption) (by assumption) (off1_mem (by assumption)) S2 ⟨_, SubL.app (SubL.app (SubL.rfl)) _ h174b⟩ (A0.step z0 (nm _)) (G0.step z0 (nm _)) (P0.step z0 (nm _)) (D0.step z0 (nm _)) (A1.step z1 (nm _)) (G1.step z1 (nm _)) (P1.step z1 (nm _)) (D1.step z1 (nm _)) ⟨o0.1, o0.2.1, o0.2.2.1, o10, o1.1, o1.2.1, o1.2.2.1, o00⟩ (fun y hy => ?_) rfl
  simp only [List.contains_cons, List.contains_nil, Bool.or_false, beq_eq_false_iff_ne] at hy
  exact if_neg hy
end Mine
theorem Mine.calmS3 : True := by
  w_top off
  trivial
namespace Mine
theorem regG {w : World} {mean : ExcName → Option Value} {mg mb : Str → Option Value} {dp un : Nat} {gd : Option (List Code)} {cn : Str} {ns : List (Str × NameKind)} {ig ic : Bool} {mo : List (Str × Const)} {a : Addr} {ccd : Value} {A₀ : Around} {h₀ : Heap} {L : Addr} {m : Str → Option Value} {s : Shared} {news : Led} {Q E : Value → Shared → Prop}
  {x : SideA} {j : Int} {l : Addr} {vs : List Value} {nl : Nat} {ents : List Row} (B : Below A₀ h₀ [] h₀) (F : Fr h₀ L s.heap m) (N : News h₀ L s.heap news) (T : Top topProg LL mean mg mb h₀) (X : (hd.heap_39 w.params).In h₀) (hdp : dp + 10 < recursionLimit) (hu : un + 80 < cLine)
  (ha : GA news j x) (hf : GF news j x) (hp : GP news x.P []) (hd : DirIn w news x.D []) (ho : x.Md < x.D ∧ x.D < x.Fd ∧ x.Fd < x.P) (hb : ents.length ≤ sizeLine)
  (hl : (l, listOf vs.toArray nl) ∈ news) (hen : All2 (EntIn news) vs ents) (hlP : l ≠ x.P)
  (ret : ∀ news' h' tk', Fr h₀ L h' m → News h₀ L h' news' → Step [x.P, x.D] news news' → GP news' x.P (ents.reverse ++ []) → DirIn w news' x.D [] → Q .none { s with heap := h', toks := tk' }) :
 wpAny (model PG w) (atTop dp un gd cn ns ig ic mo L a ccd [] []) (call (.ref 101) [.ref x.M, .ref l]) Q E s := by
  obtain ⟨bm, fbk, c, h1, h2, h3, h4, t1, t2, t3, t4, ts, k, a1, a2, a3, a4, a5, a6⟩ := ha
  obtain ⟨h5, h6, t5, t6, tc, k2, f1⟩ := hf
  obtain ⟨its, np, p1, p2⟩ := hp
  have q1 : x.Md < x.P := Nat.lt_trans ho.1 (Nat.lt_trans ho.2.1 ho.2.2)
  exact regl B F N T hdp hu X a1 a2 a6 f1 p1 p2 hd hl hen (by simpa using hb) (Nat.zero_le _) (Nat.ne_of_lt q1) (Nat.ne_of_lt ho.2.2) (Nat.ne_of_lt (Nat.lt_trans ho.2.1 ho.2.2)) hlP ret
theorem step_to {ms : List Addr} {a b c : Led} {h₀ h : Heap} {L : Addr} (S : Step ms a b) (hN9 : News h₀ L h c) (k : SubL b c) : Step ms a c := ⟨fun p hp q => k _ (S.imm p hp q), fun p hp q => k _ (S.kp p hp q)⟩
theorem firstS {fa : Addr} {cdv : Value} {w : World} {mean : ExcName → Option Value} {mg mb : Str → Option Value} {dp un : Nat} {gd : Option (List Code)} {A₀ : Around} {h₀ : Heap} {L Sl y1 : Addr} {n : Nat} {m : Str → Option Value} {s : Shared} {news : Led} {x : SideA} {Q : Flow → Shared → Prop} {E : Value → Shared → Prop}
  (B : Below A₀ h₀ [] h₀) (F : Fr h₀ L s.heap m) (N : News h₀ L s.heap news) (T : Top topProg LL mean mg mb h₀) (C1 : CodeHd h₀ 150 146) (X : (hd.heap_39 w.params).In h₀) (hdp : dp + 40 < recursionLimit) (hu : un + 320 < cLine)
  (hSl : (Sl, listOf #[.ref x.M, .ref y1] n) ∈ news) (hT : (146, tabObj #[]) ∈ news) (ha : GA news 0 x) (hf : GF news 0 x) (hp : GP news x.P []) (hdi : DirIn w news x.D []) (ho : x.Md < x.D ∧ x.D < x.Fd ∧ x.Fd < x.P) (h146 : 146 < x.Md)
  (e1 : m (Str.ofString "sides") = some (.ref Sl))
  (ret : ∀ (news' : Led) h' tk', Fr h₀ L h' m → News h₀ L h' news' → Step [146, x.P, x.D] news news' → GP news' x.P [⟨6, 0, .first⟩] → DirIn w news' x.D [] → TabH news' 146 93 "_law_predicate" → Q .next { s with heap := h', toks := tk' }) :
 wpAny (model PySem.Challenge.rw_fe0065_01.row.prog w) (lawA dp un gd L fa cdv) (execs (List.take 1 (List.drop 3 lawD.1)) (lawE L fa cdv)) Q E s := by
  revert X; k_fill; intro X
  rcases hl : lawD with ⟨bd, sc⟩
  simp only [lawA, lawE, hl]
  conv at hl => lhs; whnf
  cases hl
  have hEq := sets_eq (m := m) [(Str.ofString "sides", .ref Sl)] (by
    intro p hp
    simp only [List.mem_cons, List.not_mem_nil, or_false] at hp
    rcases hp with rfl
    assumption)
  have F1 := F
  rw [← hEq] at F1
  clear F
  simp only [List.take, List.drop]
  have hx0 : [Value.ref x.M, Value.ref y1][(0 : Int).toNat]? = some (.ref x.M) := rfl
  have S0 : ∀ c' : Addr, Step [146] news (upd news 146 (tab1 93 11 c')) := fun c' => upd_step N hT (not_imm_tab fun q t e => by simp at e)
  obtain ⟨bm, fbk, c, h1, h2, h3, h4, t1, t2, t3, t4, ts, k, a1, a2, a3, a4, a5, a6⟩ := id ha
  k_steps
  unfold Stop
  refine' mkP0 B ?F ?N T ?dp ?un X C1 hT ?_
  (case F => assumption)
  (case N => assumption)
  (case dp => ktr_room)
  (case un => ktr_units)
  intro f c1 c' tl hh1 tk1 F1 N1 lt1 hc hlam hce
  have hPd : PredIn (tl ++ upd news 146 (tab1 93 11 c')) (.ref f) 6 := ⟨f, c1, _, rfl, hlam, hce⟩
  have hm146 : (146, tab1 93 11 c') ∈ tl ++ upd news 146 (tab1 93 11 c') := List.mem_append_right _ upd_self
  have S1 := (S0 c').trans (Step.of_sub (SubL.app (tl := tl) SubL.rfl))
  have hMm := S1.imm _ a1 imm_inst
  have hMd := S1.kp _ a2 (by simp only [List.append_nil, List.mem_singleton]; exact Ne.symm (Nat.ne_of_lt h146))
  k_steps
  unfold Stop
  rename_i pl _ lp en _ le li _ kF kN ll
  have SS := step_to S1 kN (by walk_at "m sub")
  have nP : ∀ a : Addr, x.Md ≤ a → a ∉ [146] ++ [] := fun a h q => by
    simp only [List.append_nil, List.mem_singleton] at q
    exact absurd (Nat.lt_of_lt_of_le h146 h) (by rw [q]; exact Nat.lt_irrefl _)
  have o1 := ho.1
  have o2 := ho.2.1
  have o3 := ho.2.2
  have q1 : x.Md ≤ x.D := Nat.le_of_lt o1
  have q2 : x.Md ≤ x.Fd := Nat.le_trans q1 (Nat.le_of_lt o2)
  have q3 : x.Md ≤ x.P := Nat.le_trans q2 (Nat.le_of_lt o3)
  have hpS := (hp.step S1 (nP _ q3))
  refine' regG (j := 0) (ents := [⟨6, 0, .first⟩]) B kF kN T X ?dp ?un (ha.step SS (nP _ (Nat.le_refl _))) (hf.step SS (nP _ q2)) (hp.step SS (nP _ q3)) (hdi.step SS (nP _ q1)) ho (by decide) (List.mem_cons_self ..) (.cons ?en .nil) ?lP ?_
  (case dp => ktr_room)
  (case un => ktr_units)
  (case en => exact ent2 (by k_mem) (by walk_at "m pred") (.plain (by k_mem) ⟨_, rfl⟩) (by decide) (by decide))
  (case lP =>
    obtain ⟨_, _, hP, _⟩ := hpS
    exact Ne.symm (Nat.ne_of_lt (allLt_all ll.2.2 _ hP)))
  intro news2 h2 tk2 F2 N2 S2 GP2 D2
  k_steps
  rw [hEq] at F2
  have ST := SS.trans S2
  have n146 : 146 ∉ [x.P, x.D] := fun q => by
    rcases List.mem_cons.mp q with q | q
    · rw [← q] at q3; exact absurd (Nat.lt_of_lt_of_le h146 q3) (Nat.lt_irrefl _)
    · rw [← List.mem_singleton.mp q] at q1; exact absurd (Nat.lt_of_lt_of_le h146 q1) (Nat.lt_irrefl _)
  exact ret _ _ _ F2 N2 (ST.more fun d hd => by simpa using hd) GP2 D2 ⟨c', S2.kp _ (by k_mem) n146, (hc.mono (by walk_at "m sub")).step S2⟩
end Mine
theorem Mine.calmS4 : True := by
  w_top off
  trivial
namespace Mine
theorem secondS {fa : Addr} {cdv : Value} {w : World} {mean : ExcName → Option Value} {mg mb : Str → Option Value} {dp un : Nat} {gd : Option (List Code)} {A₀ : Around} {h₀ : Heap} {L Sl y0 : Addr} {n : Nat} {m : Str → Option Value} {s : Shared} {news : Led} {x : SideA} {Q : Flow → Shared → Prop} {E : Value → Shared → Prop}
  (B : Below A₀ h₀ [] h₀) (F : Fr h₀ L s.heap m) (N : News h₀ L s.heap news) (T : Top topProg LL mean mg mb h₀) (C1 : CodeHd h₀ 150 146) (C2 : CodeHd h₀ 157 153) (X : (hd.heap_39 w.params).In h₀) (hdp : dp + 40 < recursionLimit) (hu : un + 320 < cLine)
  (hSl : (Sl, listOf #[.ref y0, .ref x.M] n) ∈ news) (hT : (153, tabObj #[]) ∈ news) (tp : TabH news 146 93 "_law_predicate") (ha : GA news 1 x) (hf : GF news 1 x) (hp : GP news x.P []) (hdi : DirIn w news x.D []) (ho : x.Md < x.D ∧ x.D < x.Fd ∧ x.Fd < x.P) (h153 : 153 < x.Md)
  (e1 : m (Str.ofString "sides") = some (.ref Sl))
  (ret : ∀ (news' : Led) h' tk', Fr h₀ L h' m → News h₀ L h' news' → Step [153, x.P, x.D] news news' → GP news' x.P [⟨4, 1, .first⟩] → DirIn w news' x.D [] → TabH news' 153 95 "_law_factory" → Q .next { s with heap := h', toks := tk' }) :
 wpAny (model PySem.Challenge.rw_fe0065_01.row.prog w) (lawA dp un gd L fa cdv) (execs (List.take 1 (List.drop 4 lawD.1)) (lawE L fa cdv)) Q E s := by
  revert X; k_fill; intro X
  rcases hl : lawD with ⟨bd, sc⟩
  simp only [lawA, lawE, hl]
  conv at hl => lhs; whnf
  cases hl
  have hEq := sets_eq (m := m) [(Str.ofString "sides", .ref Sl)] (by
    intro p hp
    simp only [List.mem_cons, List.not_mem_nil, or_false] at hp
    rcases hp with rfl
    assumption)
  have F1 := F
  rw [← hEq] at F1
  clear F
  simp only [List.take, List.drop]
  have hx0 : [Value.ref y0, Value.ref x.M][(1 : Int).toNat]? = some (.ref x.M) := rfl
  obtain ⟨bm, fbk, c, h1, h2, h3, h4, t1, t2, t3, t4, ts, k, a1, a2, a3, a4, a5, a6⟩ := id ha
  obtain ⟨cp, b1, b2⟩ := tp
  k_steps
  unfold Stop
  refine' mkP B ?F ?N T ?dp ?un X C1 b1 b2 ?_
  (case F => assumption)
  (case N => assumption)
  (case dp => ktr_room)
  (case un => ktr_units)
  intro f0 c0 tl0 hh0 tk0 F0 N0 lt0 hlam0 hce0
  have hPd : PredIn (tl0 ++ news) (.ref f0) 4 := ⟨f0, c0, _, rfl, hlam0, hce0⟩
  k_steps
  unfold Stop
  have hT0 : (153, tabObj #[]) ∈ tl0 ++ news := List.mem_append_right _ hT
  have S0 : ∀ c' : Addr, Step [153] (tl0 ++ news) (upd (tl0 ++ news) 153 (tab1 95 11 c')) := fun c' => upd_step N0 hT0 (not_imm_tab fun q t e => by simp at e)
  refine' mkF0 B ?F ?N T ?dp ?un X C2 hT0 ?_
  (case F => assumption)
  (case N => assumption)
  (case dp => ktr_room)
  (case un => ktr_units)
  intro f c1 c' tl hh1 tk1 F1 N1 lt1 hc hlam hce
  have hHd : HandIn (tl ++ upd (tl0 ++ news) 153 (tab1 95 11 c')) (.ref f) 1 .first (.bool true) (.bool false) := .fac hlam hce ⟨_, rfl⟩
  have hm153 : (153, tab1 95 11 c') ∈ tl ++ upd (tl0 ++ news) 153 (tab1 95 11 c') := List.mem_append_right _ upd_self
  have S1 := ((Step.of_sub (SubL.app (tl := tl0) (SubL.rfl (a := news)))).trans (S0 c')).trans (Step.of_sub (SubL.app (tl := tl) SubL.rfl))
  have hPd1 := (hPd.step (S0 c')).mono (SubL.app (tl := tl) SubL.rfl)
  have hMm := S1.imm _ a1 imm_inst
  have hMd := S1.kp _ a2 (by simp only [List.nil_append, List.append_nil, List.mem_singleton]; exact Ne.symm (Nat.ne_of_lt h153))
  k_steps
  unfold Stop
  rename_i en _ le li _ kF kN ll
  have SS := step_to S1 kN (by walk_at "m sub")
  have nP : ∀ a : Addr, x.Md ≤ a → a ∉ [] ++ [153] ++ [] := fun a h q => by
    simp only [List.nil_append, List.append_nil, List.mem_singleton] at q
    exact absurd (Nat.lt_of_lt_of_le h153 h) (by rw [q]; exact Nat.lt_irrefl _)
  have o1 := ho.1
  have o2 := ho.2.1
  have o3 := ho.2.2
  have q1 : x.Md ≤ x.D := Nat.le_of_lt o1
  have q2 : x.Md ≤ x.Fd := Nat.le_trans q1 (Nat.le_of_lt o2)
  have q3 : x.Md ≤ x.P := Nat.le_trans q2 (Nat.le_of_lt o3)
  have hpS := (hp.step S1 (nP _ q3))
  refine' regG (j := 1) (ents := [⟨4, 1, .first⟩]) B kF kN T X ?dp ?un (ha.step SS (nP _ (Nat.le_refl _))) (hf.step SS (nP _ q2)) (hp.step SS (nP _ q3)) (hdi.step SS (nP _ q1)) ho (by decide) (List.mem_cons_self ..) (.cons ?en .nil) ?lP ?_
  (case dp => ktr_room)
  (case un => ktr_units)
  (case en => exact ent3 (b := true) (by k_mem) (by walk_at "m pred") (HandIn.mono hHd (by walk_at "m sub")) (by decide) (by decide))
  (case lP =>
    obtain ⟨_, _, hP, _⟩ := hpS
    exact Ne.symm (Nat.ne_of_lt (allLt_all ll.2 _ hP)))
  intro news2 h2 tk2 F2 N2 S2 GP2 D2
  k_steps
  rw [hEq] at F2
  have ST := SS.trans S2
  have n153 : 153 ∉ [x.P, x.D] := fun q => by
    rcases List.mem_cons.mp q with q | q
    · rw [← q] at q3; exact absurd (Nat.lt_of_lt_of_le h153 q3) (Nat.lt_irrefl _)
    · rw [← List.mem_singleton.mp q] at q1; exact absurd (Nat.lt_of_lt_of_le h153 q1) (Nat.lt_irrefl _)
  exact ret _ _ _ F2 N2 (ST.more fun d hd => by simpa using hd) GP2 D2 ⟨c', S2.kp _ (by k_mem) n153, (hc.mono (by walk_at "m sub")).step S2⟩
end Mine
theorem Mine.calmFS : True := by
  w_top off
  trivial
namespace Mine
section
variable {M : Model} {A : Around} {E : Value → Shared → Prop} {env : Env} {Q : Flow → Shared → Prop}
theorem execs_app (b : List Stmt) (a : List Stmt) {s : Shared} (h : wpAny M A (execs a env) (fun f s' => match f with | .next => wpAny M A (execs b env) Q E s' | f => Q f s') E s) : wpAny M A (execs (a ++ b) env) Q E s := by
  intro Γ p hΓ
  have h0 := h Γ p hΓ
  clear h
  induction a generalizing p s with
  | nil => exact (show wpAny M A (execs b env) Q E s from h0) Γ p hΓ
  | cons st rest ih =>
    rw [execs_cons, Sem.wp_bind'] at h0
    rw [List.cons_append, execs_cons, Sem.wp_bind']
    refine Sem.wp_mono M Γ _ (fun f p' s' h' => ?_) (fun _ _ _ h' => h') _ _ h0
    cases f with
    | next => exact ih _ h'
    | _ => exact h'
end
def tag0 (Sl Md0 D0 Fd0 P0 Md1 D1 Fd1 P1 R0 R1 Rl E0 E1 El Dl : Nat) (a : Addr) : Int :=
  if a = Sl then 30 else if a = Md0 then 0 else if a = D0 then 3 else if a = Fd0 then 1 else if a = P0 then 2 else if a = Md1 then 10 else if a = D1 then 13 else if a = Fd1 then 11 else if a = P1 then 12 else if a = R0 then 4 else if a = R1 then 14 else if a = Rl then 31 else if a = E0 then 5 else if a = E1 then 15 else if a = El then 32 else if a = Dl then 33 else if a = 146 then 40 else if a = 153 then 41 else if a = 167 then 42 else if a = 174 then 33 else 50
theorem tag0_facts {Sl Md0 D0 Fd0 P0 Md1 D1 Fd1 P1 R0 R1 Rl E0 E1 El Dl : Nat} (h0 : 174 < Dl) (h1 : Dl < Md0) (h2 : Md0 < D0) (h3 : D0 < Fd0) (h4 : Fd0 < P0) (h5 : P0 < Md1) (h6 : Md1 < D1) (h7 : D1 < Fd1) (h8 : Fd1 < P1) (h9 : P1 < R0) (h10 : R0 < R1) (h11 : R1 < Rl) (h12 : Rl < E0) (h13 : E0 < E1) (h14 : E1 < El) (hS : Sl < R0) (n0 : 146 ≠ Sl) (n1 : 153 ≠ Sl) (n2 : 167 ≠ Sl) (n3 : 174 ≠ Sl) (n4 : Dl ≠ Sl) (n5 : Md0 ≠ Sl) (n6 : D0 ≠ Sl) (n7 : Fd0 ≠ Sl) (n8 : P0 ≠ Sl) (n9 : Md1 ≠ Sl) (n10 : D1 ≠ Sl) (n11 : Fd1 ≠ Sl) (n12 : P1 ≠ Sl) : tag0 Sl Md0 D0 Fd0 P0 Md1 D1 Fd1 P1 R0 R1 Rl E0 E1 El Dl Sl = 30 ∧ tag0 Sl Md0 D0 Fd0 P0 Md1 D1 Fd1 P1 R0 R1 Rl E0 E1 El Dl Md0 = 0 ∧ tag0 Sl Md0 D0 Fd0 P0 Md1 D1 Fd1 P1 R0 R1 Rl E0 E1 El Dl D0 = 3 ∧ tag0 Sl Md0 D0 Fd0 P0 Md1 D1 Fd1 P1 R0 R1 Rl E0 E1 El Dl Fd0 = 1 ∧ tag0 Sl Md0 D0 Fd0 P0 Md1 D1 Fd1 P1 R0 R1 Rl E0 E1 El Dl P0 = 2 ∧ tag0 Sl Md0 D0 Fd0 P0 Md1 D1 Fd1 P1 R0 R1 Rl E0 E1 El Dl Md1 = 10 ∧ tag0 Sl Md0 D0 Fd0 P0 Md1 D1 Fd1 P1 R0 R1 Rl E0 E1 El Dl D1 = 13 ∧ tag0 Sl Md0 D0 Fd0 P0 Md1 D1 Fd1 P1 R0 R1 Rl E0 E1 El Dl Fd1 = 11 ∧ tag0 Sl Md0 D0 Fd0 P0 Md1 D1 Fd1 P1 R0 R1 Rl E0 E1 El Dl P1 = 12 ∧ tag0 Sl Md0 D0 Fd0 P0 Md1 D1 Fd1 P1 R0 R1 Rl E0 E1 El Dl R0 = 4 ∧ tag0 Sl Md0 D0 Fd0 P0 Md1 D1 Fd1 P1 R0 R1 Rl E0 E1 El Dl R1 = 14 ∧ tag0 Sl Md0 D0 Fd0 P0 Md1 D1 Fd1 P1 R0 R1 Rl E0 E1 El Dl Rl = 31 ∧ tag0 Sl Md0 D0 Fd0 P0 Md1 D1 Fd1 P1 R0 R1 Rl E0 E1 El Dl E0 = 5 ∧ tag0 Sl Md0 D0 Fd0 P0 Md1 D1 Fd1 P1 R0 R1 Rl E0 E1 El Dl E1 = 15 ∧ tag0 Sl Md0 D0 Fd0 P0 Md1 D1 Fd1 P1 R0 R1 Rl E0 E1 El Dl El = 32 ∧ tag0 Sl Md0 D0 Fd0 P0 Md1 D1 Fd1 P1 R0 R1 Rl E0 E1 El Dl Dl = 33 ∧ tag0 Sl Md0 D0 Fd0 P0 Md1 D1 Fd1 P1 R0 R1 Rl E0 E1 El Dl 146 = 40 ∧ tag0 Sl Md0 D0 Fd0 P0 Md1 D1 Fd1 P1 R0 R1 Rl E0 E1 El Dl 153 = 41 ∧ tag0 Sl Md0 D0 Fd0 P0 Md1 D1 Fd1 P1 R0 R1 Rl E0 E1 El Dl 167 = 42 ∧ tag0 Sl Md0 D0 Fd0 P0 Md1 D1 Fd1 P1 R0 R1 Rl E0 E1 El Dl 174 = 33 := by
  refine ⟨if_pos rfl,
    (if_neg (show ¬ (Md0 : Nat) = Sl by omega)).trans (if_pos rfl),
    (if_neg (show ¬ (D0 : Nat) = Sl by omega)).trans ((if_neg (show ¬ (D0 : Nat) = Md0 by omega)).trans (if_pos rfl)),
    (if_neg (show ¬ (Fd0 : Nat) = Sl by omega)).trans ((if_neg (show ¬ (Fd0 : Nat) = Md0 by omega)).trans ((if_neg (show ¬ (Fd0 : Nat) = D0 by omega)).trans (if_pos rfl))),
    (if_neg (show ¬ (P0 : Nat) = Sl by omega)).trans ((if_neg (show ¬ (P0 : Nat) = Md0 by omega)).trans ((if_neg (show ¬ (P0 : Nat) = D0 by omega)).trans ((if_neg (show ¬ (P0 : Nat) = Fd0 by omega)).trans (if_pos rfl)))),
    (if_neg (show ¬ (Md1 : Nat) = Sl by omega)).trans ((if_neg (show ¬ (Md1 : Nat) = Md0 by omega)).trans ((if_neg (show ¬ (Md1 : Nat) = D0 by omega)).trans ((if_neg (show ¬ (Md1 : Nat) = Fd0 by omega)).trans ((if_neg (show ¬ (Md1 : Nat) = P0 by omega)).trans (if_pos rfl))))),
    (if_neg (show ¬ (D1 : Nat) = Sl by omega)).trans ((if_neg (show ¬ (D1 : Nat) = Md0 by omega)).trans ((if_neg (show ¬ (D1 : Nat) = D0 by omega)).trans ((if_neg (show ¬ (D1 : Nat) = Fd0 by omega)).trans ((if_neg (show ¬ (D1 : Nat) = P0 by omega)).trans ((if_neg (show ¬ (D1 : Nat) = Md1 by omega)).trans (if_pos rfl)))))),
    (if_neg (show ¬ (Fd1 : Nat) = Sl by omega)).trans ((if_neg (show ¬ (Fd1 : Nat) = Md0 by omega)).trans ((if_neg (show ¬ (Fd1 : Nat) = D0 by omega)).trans ((if_neg (show ¬ (Fd1 : Nat) = Fd0 by omega)).trans ((if_neg (show ¬ (Fd1 : Nat) = P0 by omega)).trans ((if_neg (show ¬ (Fd1 : Nat) = Md1 by omega)).trans ((if_neg (show ¬ (Fd1 : Nat) = D1 by omega)).trans (if_pos rfl))))))),
    (if_neg (show ¬ (P1 : Nat) = Sl by omega)).trans ((if_neg (show ¬ (P1 : Nat) = Md0 by omega)).trans ((if_neg (show ¬ (P1 : Nat) = D0 by omega)).trans ((if_neg (show ¬ (P1 : Nat) = Fd0 by omega)).trans ((if_neg (show ¬ (P1 : Nat) = P0 by omega)).trans ((if_neg (show ¬ (P1 : Nat) = Md1 by omega)).trans ((if_neg (show ¬ (P1 : Nat) = D1 by omega)).trans ((if_neg (show ¬ (P1 : Nat) = Fd1 by omega)).trans (if_pos rfl)))))))),
    (if_neg (show ¬ (R0 : Nat) = Sl by omega)).trans ((if_neg (show ¬ (R0 : Nat) = Md0 by omega)).trans ((if_neg (show ¬ (R0 : Nat) = D0 by omega)).trans ((if_neg (show ¬ (R0 : Nat) = Fd0 by omega)).trans ((if_neg (show ¬ (R0 : Nat) = P0 by omega)).trans ((if_neg (show ¬ (R0 : Nat) = Md1 by omega)).trans ((if_neg (show ¬ (R0 : Nat) = D1 by omega)).trans ((if_neg (show ¬ (R0 : Nat) = Fd1 by omega)).trans ((if_neg (show ¬ (R0 : Nat) = P1 by omega)).trans (if_pos rfl))))))))),
    (if_neg (show ¬ (R1 : Nat) = Sl by omega)).trans ((if_neg (show ¬ (R1 : Nat) = Md0 by omega)).trans ((if_neg (show ¬ (R1 : Nat) = D0 by omega)).trans ((if_neg (show ¬ (R1 : Nat) = Fd0 by omega)).trans ((if_neg (show ¬ (R1 : Nat) = P0 by omega)).trans ((if_neg (show ¬ (R1 : Nat) = Md1 by omega)).trans ((if_neg (show ¬ (R1 : Nat) = D1 by omega)).trans ((if_neg (show ¬ (R1 : Nat) = Fd1 by omega)).trans ((if_neg (show ¬ (R1 : Nat) = P1 by omega)).trans ((if_neg (show ¬ (R1 : Nat) = R0 by omega)).trans (if_pos rfl)))))))))),
    (if_neg (show ¬ (Rl : Nat) = Sl by omega)).trans ((if_neg (show ¬ (Rl : Nat) = Md0 by omega)).trans ((if_neg (show ¬ (Rl : Nat) = D0 by omega)).trans ((if_neg (show ¬ (Rl : Nat) = Fd0 by omega)).trans ((if_neg (show ¬ (Rl : Nat) = P0 by omega)).trans ((if_neg (show ¬ (Rl : Nat) = Md1 by omega)).trans ((if_neg (show ¬ (Rl : Nat) = D1 by omega)).trans ((if_neg (show ¬ (Rl : Nat) = Fd1 by omega)).trans ((if_neg (show ¬ (Rl : Nat) = P1 by omega)).trans ((if_neg (show ¬ (Rl : Nat) = R0 by omega)).trans ((if_neg (show ¬ (Rl : Nat) = R1 by omega)).trans (if_pos rfl))))))))))),
    (if_neg (show ¬ (E0 : Nat) = Sl by omega)).trans ((if_neg (show ¬ (E0 : Nat) = Md0 by omega)).trans ((if_neg (show ¬ (E0 : Nat) = D0 by omega)).trans ((if_neg (show ¬ (E0 : Nat) = Fd0 by omega)).trans ((if_neg (show ¬ (E0 : Nat) = P0 by omega)).trans ((if_neg (show ¬ (E0 : Nat) = Md1 by omega)).trans ((if_neg (show ¬ (E0 : Nat) = D1 by omega)).trans ((if_neg (show ¬ (E0 : Nat) = Fd1 by omega)).trans ((if_neg (show ¬ (E0 : Nat) = P1 by omega)).trans ((if_neg (show ¬ (E0 : Nat) = R0 by omega)).trans ((if_neg (show ¬ (E0 : Nat) = R1 by omega)).trans ((if_neg (show ¬ (E0 : Nat) = Rl by omega)).trans (if_pos rfl)))))))))))),
    (if_neg (show ¬ (E1 : Nat) = Sl by omega)).trans ((if_neg (show ¬ (E1 : Nat) = Md0 by omega)).trans ((if_neg (show ¬ (E1 : Nat) = D0 by omega)).trans ((if_neg (show ¬ (E1 : Nat) = Fd0 by omega)).trans ((if_neg (show ¬ (E1 : Nat) = P0 by omega)).trans ((if_neg (show ¬ (E1 : Nat) = Md1 by omega)).trans ((if_neg (show ¬ (E1 : Nat) = D1 by omega)).trans ((if_neg (show ¬ (E1 : Nat) = Fd1 by omega)).trans ((if_neg (show ¬ (E1 : Nat) = P1 by omega)).trans ((if_neg (show ¬ (E1 : Nat) = R0 by omega)).trans ((if_neg (show ¬ (E1 : Nat) = R1 by omega)).trans ((if_neg (show ¬ (E1 : Nat) = Rl by omega)).trans ((if_neg (show ¬ (E1 : Nat) = E0 by omega)).trans (if_pos rfl))))))))))))),
    (if_neg (show ¬ (El : Nat) = Sl by omega)).trans ((if_neg (show ¬ (El : Nat) = Md0 by omega)).trans ((if_neg (show ¬ (El : Nat) = D0 by omega)).trans ((if_neg (show ¬ (El : Nat) = Fd0 by omega)).trans ((if_neg (show ¬ (El : Nat) = P0 by omega)).trans ((if_neg (show ¬ (El : Nat) = Md1 by omega)).trans ((if_neg (show ¬ (El : Nat) = D1 by omega)).trans ((if_neg (show ¬ (El : Nat) = Fd1 by omega)).trans ((if_neg (show ¬ (El : Nat) = P1 by omega)).trans ((if_neg (show ¬ (El : Nat) = R0 by omega)).trans ((if_neg (show ¬ (El : Nat) = R1 by omega)).trans ((if_neg (show ¬ (El : Nat) = Rl by omega)).trans ((if_neg (show ¬ (El : Nat) = E0 by omega)).trans ((if_neg (show ¬ (El : Nat) = E1 by omega)).trans (if_pos rfl)))))))))))))),
    (if_neg (show ¬ (Dl : Nat) = Sl by omega)).trans ((if_neg (show ¬ (Dl : Nat) = Md0 by omega)).trans ((if_neg (show ¬ (Dl : Nat) = D0 by omega)).trans ((if_neg (show ¬ (Dl : Nat) = Fd0 by omega)).trans ((if_neg (show ¬ (Dl : Nat) = P0 by omega)).trans ((if_neg (show ¬ (Dl : Nat) = Md1 by omega)).trans ((if_neg (show ¬ (Dl : Nat) = D1 by omega)).trans ((if_neg (show ¬ (Dl : Nat) = Fd1 by omega)).trans ((if_neg (show ¬ (Dl : Nat) = P1 by omega)).trans ((if_neg (show ¬ (Dl : Nat) = R0 by omega)).trans ((if_neg (show ¬ (Dl : Nat) = R1 by omega)).trans ((if_neg (show ¬ (Dl : Nat) = Rl by omega)).trans ((if_neg (show ¬ (Dl : Nat) = E0 by omega)).trans ((if_neg (show ¬ (Dl : Nat) = E1 by omega)).trans ((if_neg (show ¬ (Dl : Nat) = El by omega)).trans (if_pos rfl))))))))))))))),
    (if_neg (show ¬ (146 : Nat) = Sl by omega)).trans ((if_neg (show ¬ (146 : Nat) = Md0 by omega)).trans ((if_neg (show ¬ (146 : Nat) = D0 by omega)).trans ((if_neg (show ¬ (146 : Nat) = Fd0 by omega)).trans ((if_neg (show ¬ (146 : Nat) = P0 by omega)).trans ((if_neg (show ¬ (146 : Nat) = Md1 by omega)).trans ((if_neg (show ¬ (146 : Nat) = D1 by omega)).trans ((if_neg (show ¬ (146 : Nat) = Fd1 by omega)).trans ((if_neg (show ¬ (146 : Nat) = P1 by omega)).trans ((if_neg (show ¬ (146 : Nat) = R0 by omega)).trans ((if_neg (show ¬ (146 : Nat) = R1 by omega)).trans ((if_neg (show ¬ (146 : Nat) = Rl by omega)).trans ((if_neg (show ¬ (146 : Nat) = E0 by omega)).trans ((if_neg (show ¬ (146 : Nat) = E1 by omega)).trans ((if_neg (show ¬ (146 : Nat) = El by omega)).trans ((if_neg (show ¬ (146 : Nat) = Dl by omega)).trans (if_pos rfl)))))))))))))))),
    (if_neg (show ¬ (153 : Nat) = Sl by omega)).trans ((if_neg (show ¬ (153 : Nat) = Md0 by omega)).trans ((if_neg (show ¬ (153 : Nat) = D0 by omega)).trans ((if_neg (show ¬ (153 : Nat) = Fd0 by omega)).trans ((if_neg (show ¬ (153 : Nat) = P0 by omega)).trans ((if_neg (show ¬ (153 : Nat) = Md1 by omega)).trans ((if_neg (show ¬ (153 : Nat) = D1 by omega)).trans ((if_neg (show ¬ (153 : Nat) = Fd1 by omega)).trans ((if_neg (show ¬ (153 : Nat) = P1 by omega)).trans ((if_neg (show ¬ (153 : Nat) = R0 by omega)).trans ((if_neg (show ¬ (153 : Nat) = R1 by omega)).trans ((if_neg (show ¬ (153 : Nat) = Rl by omega)).trans ((if_neg (show ¬ (153 : Nat) = E0 by omega)).trans ((if_neg (show ¬ (153 : Nat) = E1 by omega)).trans ((if_neg (show ¬ (153 : Nat) = El by omega)).trans ((if_neg (show ¬ (153 : Nat) = Dl by omega)).trans ((if_neg (show ¬ (153 : Nat) = 146 by omega)).trans (if_pos rfl))))))))))))))))),
    (if_neg (show ¬ (167 : Nat) = Sl by omega)).trans ((if_neg (show ¬ (167 : Nat) = Md0 by omega)).trans ((if_neg (show ¬ (167 : Nat) = D0 by omega)).trans ((if_neg (show ¬ (167 : Nat) = Fd0 by omega)).trans ((if_neg (show ¬ (167 : Nat) = P0 by omega)).trans ((if_neg (show ¬ (167 : Nat) = Md1 by omega)).trans ((if_neg (show ¬ (167 : Nat) = D1 by omega)).trans ((if_neg (show ¬ (167 : Nat) = Fd1 by omega)).trans ((if_neg (show ¬ (167 : Nat) = P1 by omega)).trans ((if_neg (show ¬ (167 : Nat) = R0 by omega)).trans ((if_neg (show ¬ (167 : Nat) = R1 by omega)).trans ((if_neg (show ¬ (167 : Nat) = Rl by omega)).trans ((if_neg (show ¬ (167 : Nat) = E0 by omega)).trans ((if_neg (show ¬ (167 : Nat) = E1 by omega)).trans ((if_neg (show ¬ (167 : Nat) = El by omega)).trans ((if_neg (show ¬ (167 : Nat) = Dl by omega)).trans ((if_neg (show ¬ (167 : Nat) = 146 by omega)).trans ((if_neg (show ¬ (167 : Nat) = 153 by omega)).trans (if_pos rfl)))))))))))))))))),
    (if_neg (show ¬ (174 : Nat) = Sl by omega)).trans ((if_neg (show ¬ (174 : Nat) = Md0 by omega)).trans ((if_neg (show ¬ (174 : Nat) = D0 by omega)).trans ((if_neg (show ¬ (174 : Nat) = Fd0 by omega)).trans ((if_neg (show ¬ (174 : Nat) = P0 by omega)).trans ((if_neg (show ¬ (174 : Nat) = Md1 by omega)).trans ((if_neg (show ¬ (174 : Nat) = D1 by omega)).trans ((if_neg (show ¬ (174 : Nat) = Fd1 by omega)).trans ((if_neg (show ¬ (174 : Nat) = P1 by omega)).trans ((if_neg (show ¬ (174 : Nat) = R0 by omega)).trans ((if_neg (show ¬ (174 : Nat) = R1 by omega)).trans ((if_neg (show ¬ (174 : Nat) = Rl by omega)).trans ((if_neg (show ¬ (174 : Nat) = E0 by omega)).trans ((if_neg (show ¬ (174 : Nat) = E1 by omega)).trans ((if_neg (show ¬ (174 : Nat) = El by omega)).trans ((if_neg (show ¬ (174 : Nat) = Dl by omega)).trans ((if_neg (show ¬ (174 : Nat) = 146 by omega)).trans ((if_neg (show ¬ (174 : Nat) = 153 by omega)).trans ((if_neg (show ¬ (174 : Nat) = 167 by omega)).trans (if_pos rfl)))))))))))))))))))⟩
theorem nt {T : Addr → Int} {a b : Addr} {k l : Int} (ha : T a = k) (hb : T b = l) (h : k ≠ l) : a ≠ b := fun e => h (by rw [← ha, e, hb])
theorem nm3 {a b c d : Addr} (h1 : a ≠ b) (h2 : a ≠ c) (h3 : a ≠ d) : a ∉ [b, c, d] := fun q => by
  simp only [List.mem_cons, List.not_mem_nil, or_false] at q
  rcases q with q | q | q
  · exact h1 q
  · exact h2 q
  · exact h3 q
theorem firstI {w : World} {news3 news4 news5 : Led} {x0 x1 : SideA} {Sl Rl El R0 R1 E0 E1 Dl : Addr} {n nd : Nat} {its : List Value}
  (c1 : 174 < Dl) (c2 : Dl < x0.Md) (ord : x0.Md < x0.D ∧ x0.D < x0.Fd ∧ x0.Fd < x0.P ∧ x0.P < x1.Md ∧ x1.Md < x1.D ∧ x1.D < x1.Fd ∧ x1.Fd < x1.P) (c3 : x1.P < R0) (ord3 : R0 < R1 ∧ R1 < Rl ∧ Rl < E0 ∧ E0 < E1 ∧ E1 < El)
  (cS : Sl < R0) (cN : ∀ a ∈ [146, 153, 167, 174, Dl, x0.Md, x0.D, x0.Fd, x0.P, x1.Md, x1.D, x1.Fd, x1.P], a ≠ Sl)
  (hSl : (Sl, listOf #[.ref x0.M, .ref x1.M] n) ∈ news3) (A0 : GA news3 0 x0) (G0 : GF news3 0 x0) (A1 : GA news3 1 x1) (G1 : GF news3 1 x1) (gr0 : GR news3 R0 [⟨6, 0, .first⟩]) (gr1 : GR news3 R1 [⟨4, 1, .first⟩]) (prl : Pair2 news3 Rl (fun j => if j = 0 then R0 else R1)) (de0 : DirIn w news3 E0 []) (de1 : DirIn w news3 E1 []) (pel : Pair2 news3 El (fun j => if j = 0 then E0 else E1))
  (hD : (Dl, listOf its.toArray nd) ∈ news3) (h167 : (167, tabObj #[]) ∈ news3) {oB : Obj} (hB : (174, oB) ∈ news3)
  (S4 : Step [146, x0.P, x0.D] news3 news4) (gp0 : GP news4 x0.P [⟨6, 0, .first⟩]) (dd0 : DirIn w news4 x0.D []) (tp : TabH news4 146 93 "_law_predicate")
  (S5 : Step [153, x1.P, x1.D] news4 news5) (gp1 : GP news5 x1.P [⟨4, 1, .first⟩]) (dd1 : DirIn w news5 x1.D []) (tf : TabH news5 153 95 "_law_factory") :
  ∃ tag xs, Inv w news5 tag xs Sl Rl El 1 ∧ ((Dl, listOf its.toArray nd) ∈ news5 ∧ tag Dl = 33) ∧ (174, oB) ∈ news5 ∧ tag 174 = 33 := by
  have cN' : ∀ {a : Addr}, a ∈ [146, 153, 167, 174, Dl, x0.Md, x0.D, x0.Fd, x0.P, x1.Md, x1.D, x1.Fd, x1.P] → a ≠ Sl := fun h => cN _ h
  have TF := tag0_facts c1 c2 ord.1 ord.2.1 ord.2.2.1 ord.2.2.2.1 ord.2.2.2.2.1 ord.2.2.2.2.2.1 ord.2.2.2.2.2.2 c3 ord3.1 ord3.2.1 ord3.2.2.1 ord3.2.2.2.1 ord3.2.2.2.2 cS (cN' (by simp)) (cN' (by simp)) (cN' (by simp)) (cN' (by simp)) (cN' (by simp)) (cN' (by simp)) (cN' (by simp)) (cN' (by simp)) (cN' (by simp)) (cN' (by simp)) (cN' (by simp)) (cN' (by simp)) (cN' (by simp))
  generalize tag0 Sl x0.Md x0.D x0.Fd x0.P x1.Md x1.D x1.Fd x1.P R0 R1 Rl E0 E1 El Dl = T at TF
  obtain ⟨tSl, tMd0, tD0, tFd0, tP0, tMd1, tD1, tFd1, tP1, tR0, tR1, tRl, tE0, tE1, tEl, tDl, t146, t153, t167, t174⟩ := TF
  have n4 : ∀ {a : Addr} {k : Int}, T a = k → k ≠ 40 → k ≠ 2 → k ≠ 3 → a ∉ [146, x0.P, x0.D] := fun h a1 a2 a3 => nm3 (nt h t146 a1) (nt h tP0 a2) (nt h tD0 a3)
  have n5 : ∀ {a : Addr} {k : Int}, T a = k → k ≠ 41 → k ≠ 12 → k ≠ 13 → a ∉ [153, x1.P, x1.D] := fun h a1 a2 a3 => nm3 (nt h t153 a1) (nt h tP1 a2) (nt h tD1 a3)
  refine ⟨T, fun j => if j = 0 then { x0 with R := R0, E := E0, rows := [⟨6, 0, .first⟩], dir := [] } else { x1 with R := R1, E := E1, rows := [⟨4, 1, .first⟩], dir := [] }, ?_, ⟨S5.kp _ (S4.kp _ hD (n4 tDl (by decide) (by decide) (by decide))) (n5 tDl (by decide) (by decide) (by decide)), tDl⟩, S5.kp _ (S4.kp _ hB (n4 t174 (by decide) (by decide) (by decide))) (n5 t174 (by decide) (by decide) (by decide)), t174⟩
  have s0 : SideG w news5 T 0 { x0 with R := R0, E := E0, rows := [⟨6, 0, .first⟩], dir := [] } :=
    ⟨(A0.step S4 (n4 tMd0 (by decide) (by decide) (by decide))).step S5 (n5 tMd0 (by decide) (by decide) (by decide)), (G0.step S4 (n4 tFd0 (by decide) (by decide) (by decide))).step S5 (n5 tFd0 (by decide) (by decide) (by decide)), gp0.step S5 (n5 tP0 (by decide) (by decide) (by decide)), dd0.step S5 (n5 tD0 (by decide) (by decide) (by decide)),
      (gr0.step S4 (n4 tR0 (by decide) (by decide) (by decide))).step S5 (n5 tR0 (by decide) (by decide) (by decide)), (de0.step S4 (n4 tE0 (by decide) (by decide) (by decide))).step S5 (n5 tE0 (by decide) (by decide) (by decide)), ⟨tMd0, tFd0, tP0, tD0, tR0, tE0⟩⟩
  have s1 : SideG w news5 T 1 { x1 with R := R1, E := E1, rows := [⟨4, 1, .first⟩], dir := [] } :=
    ⟨(A1.step S4 (n4 tMd1 (by decide) (by decide) (by decide))).step S5 (n5 tMd1 (by decide) (by decide) (by decide)), (G1.step S4 (n4 tFd1 (by decide) (by decide) (by decide))).step S5 (n5 tFd1 (by decide) (by decide) (by decide)), gp1, dd1,
      (gr1.step S4 (n4 tR1 (by decide) (by decide) (by decide))).step S5 (n5 tR1 (by decide) (by decide) (by decide)), (de1.step S4 (n4 tE1 (by decide) (by decide) (by decide))).step S5 (n5 tE1 (by decide) (by decide) (by decide)), ⟨tMd1, tFd1, tP1, tD1, tR1, tE1⟩⟩
  refine ⟨⟨n, S5.kp _ (S4.kp _ hSl (n4 tSl (by decide) (by decide) (by decide))) (n5 tSl (by decide) (by decide) (by decide))⟩, tSl, ?_, tRl, ?_, tEl, fun j hj => ?_, tp.step S5 (n5 t146 (by decide) (by decide) (by decide)), t146, tf, t153, .inl (S5.kp _ (S4.kp _ h167 (n4 t167 (by decide) (by decide) (by decide))) (n5 t167 (by decide) (by decide) (by decide))), t167, fun j hj => ?_, fun j hj => ?_⟩
  · exact ((prl.step S4 (n4 tRl (by decide) (by decide) (by decide))).step S5 (n5 tRl (by decide) (by decide) (by decide))).congr rfl rfl
  · exact ((pel.step S4 (n4 tEl (by decide) (by decide) (by decide))).step S5 (n5 tEl (by decide) (by decide) (by decide))).congr rfl rfl
  · rcases hj with rfl | rfl
    · exact s0
    · exact s1
  · rcases hj with rfl | rfl
    · exact Nat.le_refl 1
    · exact Nat.le_refl 1
  · rcases hj with rfl | rfl
    · exact Nat.zero_le 1
    · exact Nat.zero_le 1
end Mine
theorem Mine.calmJN : True := by
  w_top off
  trivial
namespace Mine
theorem ints_int {vs : List Value} {ns : List Int} (h : IntsAre vs ns) : ∀ v ∈ vs, ∃ i t, v = Value.int i t := by
  induction h with
  | nil => intro v hv; exact absurd hv (List.not_mem_nil)
  | cons n t _ ih =>
    intro v hv
    rcases List.mem_cons.mp hv with rfl | hv
    · exact ⟨n, t, rfl⟩
    · exact ih v hv
theorem drop_one {α : Type} (l : List α) (k : Nat) : List.drop k l = List.take 1 (List.drop k l) ++ List.drop (k + 1) l := by
  have h := (List.take_append_drop 1 (List.drop k l)).symm
  rw [List.drop_drop] at h
  exact h
theorem six {α : Type} (l : List α) : l = List.take 1 l ++ (List.take 1 (List.drop 1 l) ++ (List.take 1 (List.drop 2 l) ++ (List.take 1 (List.drop 3 l) ++ (List.take 1 (List.drop 4 l) ++ List.drop 5 l)))) := by
  rw [← drop_one l 4, ← drop_one l 3, ← drop_one l 2, ← drop_one l 1]
  exact (List.take_append_drop 1 l).symm
theorem tabs_of {w : World} {news : Led} {tag : Addr → Int} {xs : Int → SideA} {Sl Rl El : Addr} {b : Nat} {ps : Array Value} (I : Inv w news tag xs Sl Rl El b) (hB : (174, tabObj ps) ∈ news) : ∀ P ∈ [174, 167, 153, 146], ∃ ps, (P, tabObj ps) ∈ news := fun P hP => by
  simp only [List.mem_cons, List.not_mem_nil, or_false] at hP
  rcases hP with rfl | rfl | rfl | rfl
  · exact ⟨_, hB⟩
  · rcases I.te with h | ⟨_, h, _⟩
    · exact ⟨_, h⟩
    · exact ⟨_, h⟩
  · obtain ⟨_, h, _⟩ := I.tf; exact ⟨_, h⟩
  · obtain ⟨_, h, _⟩ := I.tp; exact ⟨_, h⟩
theorem lawAll {fa : Addr} {cdv : Value} {w : World} {mean : ExcName → Option Value} {mg mb : Str → Option Value} {dp un : Nat} {gd : Option (List Code)} {A₀ : Around} {h₀ : Heap} {L Sc : Addr} {m : Str → Option Value} {s : Shared} {vs : List Value} {Q : Flow → Shared → Prop} {E : Value → Shared → Prop}
  (B : Below A₀ h₀ [] h₀) (F : Fr h₀ L s.heap m) (N : News h₀ L s.heap [(174, tabObj #[]), (167, tabObj #[]), (153, tabObj #[]), (146, tabObj #[])]) (T : Top topProg LL mean mg mb h₀) (C1 : CodeHd h₀ 150 146) (C2 : CodeHd h₀ 157 153) (C3 : CodeHd h₀ 171 167) (C4 : CodeHd h₀ 178 174) (X : (hd.heap_39 w.params).In h₀) (hdp : dp + 40 < recursionLimit) (hu : un + 320 < cLine)
  (hS : h₀.IsList Sc vs.toArray) (hint : ∀ v ∈ vs, ∃ i t, v = Value.int i t) (hlen : vs.length ≤ 63)
  (e0 : m (Str.ofString "script") = some (.ref Sc))
  (hE : PassesOwn (model PySem.Challenge.rw_fe0065_01.row.prog w) (lawA dp un gd L fa cdv) (lawE L fa cdv) E)
  (ret : ∀ h' tk' m' news', Fr h₀ L h' m' → News h₀ L h' news' → (∀ P ∈ [174, 167, 153, 146], ∃ ps, (P, tabObj ps) ∈ news') → Q (.ret (.bool true)) { s with heap := h', toks := tk' }) :
 wpAny (model PySem.Challenge.rw_fe0065_01.row.prog w) (lawA dp un gd L fa cdv) (execs lawD.1 (lawE L fa cdv)) Q E s := by
  rw [six lawD.1]
  have K0 := @sliceS fa cdv w mean mg mb dp un gd A₀ h₀ L Sc
  have K1 := @sidesS fa cdv w mean mg mb dp un gd A₀ h₀ L
  have K2 := @rowsS fa cdv w mean mg mb dp un gd A₀ h₀ L
  have K3 := @firstS fa cdv w mean mg mb dp un gd A₀ h₀ L
  have K4 := @secondS fa cdv w mean mg mb dp un gd A₀ h₀ L
  have K5 := @mainL fa cdv w mean mg mb dp un gd A₀ h₀ L
  generalize List.take 1 (List.drop 1 lawD.1) = B1 at K1 ⊢
  generalize List.take 1 (List.drop 2 lawD.1) = B2 at K2 ⊢
  generalize List.take 1 (List.drop 3 lawD.1) = B3 at K3 ⊢
  generalize List.take 1 (List.drop 4 lawD.1) = B4 at K4 ⊢
  generalize List.drop 5 lawD.1 = B5 at K5 ⊢
  generalize List.take 1 lawD.1 = B0 at K0 ⊢
  generalize lawE L fa cdv = en at hE K0 K1 K2 K3 K4 K5 ⊢
  refine execs_app _ _ ?_
  refine K0 B F N T X hdp hu hS hint hlen e0 fun Dl its nd h1 tk1 m1 F1 N1 lD hi hl12 eD => ?_
  show wpAny _ _ _ _ _ _
  refine execs_app _ _ ?_
  refine K1 (s := { s with heap := h1, toks := tk1 }) B F1 N1 T C4 X hdp hu (List.mem_cons_of_mem _ (List.mem_cons_self ..)) fun x0 x1 Sl n news2 h2 tk2 m2 F2 N2 ofS S2 hB2 A0 G0 P0 D0 A1 G1 P1 D1 ord hm2 eS => ?_
  show wpAny _ _ _ _ _ _
  refine execs_app _ _ ?_
  refine K2 (s := { s with heap := h2, toks := tk2 }) B F2 N2 T X hdp hu fun R0 R1 Rl E0 E1 El news3 h3 tk3 m3 F3 N3 k3 gr0 gr1 prl de0 de1 pel ord3 hm3 eR eE => ?_
  show wpAny _ _ _ _ _ _
  have k23 : SubL news2 news3 := fun p hp => k3 p (List.mem_cons_of_mem _ hp)
  have Z := Step.of_sub k23
  have n174 : ∀ {a : Addr}, a ≠ 174 → a ∉ [174] := fun h q => h (List.mem_singleton.mp q)
  have hSl : (Sl, listOf #[.ref x0.M, .ref x1.M] n) ∈ news3 := k3 _ (List.mem_cons_self ..)
  have m167 : (167, tabObj #[]) ∈ news2 := S2.kp (167, tabObj #[]) (by simp) (n174 (by decide))
  have m153 : (153, tabObj #[]) ∈ news2 := S2.kp (153, tabObj #[]) (by simp) (n174 (by decide))
  have m146 : (146, tabObj #[]) ∈ news2 := S2.kp (146, tabObj #[]) (by simp) (n174 (by decide))
  have l174 : 174 < Dl := lD (174, tabObj #[]) (by simp)
  have mDl : (Dl, listOf its.toArray nd) ∈ news2 := S2.kp (Dl, listOf its.toArray nd) (List.mem_cons_self ..) (n174 (Ne.symm (Nat.ne_of_lt l174)))
  obtain ⟨o1, o2, o3, o4, o5, o6, o7, oo⟩ := ord
  obtain ⟨psB, hB2⟩ := hB2
  have c2 : Dl < x0.Md := oo (Dl, listOf its.toArray nd) (List.mem_cons_self ..)
  have c174 : 174 < x0.Md := Nat.lt_trans l174 c2
  have c146 : 146 < x0.Md := Nat.lt_trans (show 146 < 174 by decide) c174
  have c153 : 153 < x1.Md := Nat.lt_trans (Nat.lt_trans (show 153 < 174 by decide) c174) (Nat.lt_trans o1 (Nat.lt_trans o2 (Nat.lt_trans o3 o4)))
  have hm13 : ∀ y : Str, (["rows", "direct"] : List Str).contains y = false → (["sides"] : List Str).contains y = false → m3 y = m1 y := fun y a b => (hm3 y a).trans (hm2 y b)
  have eS3 : m3 (Str.ofString "sides") = some (.ref Sl) := (hm3 _ (by decide)).trans eS
  have eD3 : m3 (Str.ofString "deeds") = some (.ref Dl) := (hm13 _ (by decide) (by decide)).trans eD
  refine execs_app _ _ ?_
  refine K3 (s := { s with heap := h3, toks := tk3 }) B F3 N3 T C1 X hdp hu hSl (k23 _ m146) (A0.step Z (nm _)) (G0.step Z (nm _)) (P0.step Z (nm _)) (D0.step Z (nm _)) ⟨o1, o2, o3⟩ c146 eS3 fun news4 h4 tk4 F4 N4 S4 gp0 dd0 tp => ?_
  show wpAny _ _ _ _ _ _
  have q0 : x0.Md < x0.P := Nat.lt_trans o1 (Nat.lt_trans o2 o3)
  have q1 : x1.Md < x1.P := Nat.lt_trans o5 (Nat.lt_trans o6 o7)
  have nS : ∀ {a : Addr} {o : Obj}, (a, o) ∈ news2 → a ≠ Sl := fun h => ofS _ h
  have mP0 : ∃ o, (x0.P, o) ∈ news2 := let ⟨_, _, h, _⟩ := P0; ⟨_, h⟩
  have mD0 : ∃ o, (x0.D, o) ∈ news2 := let ⟨_, _, h, _⟩ := D0; ⟨_, h⟩
  have mP1 : ∃ o, (x1.P, o) ∈ news2 := let ⟨_, _, h, _⟩ := P1; ⟨_, h⟩
  have mD1 : ∃ o, (x1.D, o) ∈ news2 := let ⟨_, _, h, _⟩ := D1; ⟨_, h⟩
  have mM0 : ∃ o, (x0.Md, o) ∈ news2 := let ⟨_, _, _, _, _, _, _, _, _, _, _, _, _, _, h, _⟩ := A0; ⟨_, h⟩
  have mM1 : ∃ o, (x1.Md, o) ∈ news2 := let ⟨_, _, _, _, _, _, _, _, _, _, _, _, _, _, h, _⟩ := A1; ⟨_, h⟩
  have mF0 : ∃ o, (x0.Fd, o) ∈ news2 := let ⟨_, _, _, _, _, _, h⟩ := G0; ⟨_, h⟩
  have mF1 : ∃ o, (x1.Fd, o) ∈ news2 := let ⟨_, _, _, _, _, _, h⟩ := G1; ⟨_, h⟩
  have n4 : ∀ {a : Addr}, a ≠ 146 → a ≠ x0.P → a ≠ x0.D → a ∉ [146, x0.P, x0.D] := fun a b c => nm3 a b c
  obtain ⟨oP0, mP0⟩ := mP0
  obtain ⟨oD0, mD0⟩ := mD0
  obtain ⟨oP1, mP1⟩ := mP1
  obtain ⟨oD1, mD1⟩ := mD1
  obtain ⟨oM0, mM0⟩ := mM0
  obtain ⟨oM1, mM1⟩ := mM1
  obtain ⟨oF0, mF0⟩ := mF0
  obtain ⟨oF1, mF1⟩ := mF1
  have lt1 : ∀ {a : Addr}, x1.Md ≤ a → a ∉ [146, x0.P, x0.D] := fun h => by
    have g1 := Nat.lt_of_lt_of_le o4 h
    have g2 := Nat.lt_trans (Nat.lt_trans o2 o3) g1
    have g3 := Nat.lt_trans (Nat.lt_trans (show 146 < 153 by decide) c153) (Nat.lt_of_lt_of_le (Nat.lt_succ_self _) (Nat.succ_le_succ h))
    refine nm3 ?_ (Ne.symm (Nat.ne_of_lt g1)) (Ne.symm (Nat.ne_of_lt g2))
    exact Ne.symm (Nat.ne_of_lt (Nat.lt_of_lt_of_le (Nat.lt_trans (show 146 < 153 by decide) c153) h))
  have hT153 : (153, tabObj #[]) ∈ news4 := S4.kp _ (k23 _ m153) (nm3 (by decide) (Nat.ne_of_lt (Nat.lt_trans (Nat.lt_trans (show 153 < 174 by decide) c174) q0)) (Nat.ne_of_lt (Nat.lt_trans (Nat.lt_trans (show 153 < 174 by decide) c174) o1)))
  have hSl4 : (Sl, listOf #[.ref x0.M, .ref x1.M] n) ∈ news4 := S4.kp _ hSl (nm3 (Ne.symm (nS m146)) (Ne.symm (nS mP0)) (Ne.symm (nS mD0)))
  refine execs_app _ _ ?_
  refine K4 (s := { s with heap := h4, toks := tk4 }) B F4 N4 T C1 C2 X hdp hu hSl4 hT153 tp ((A1.step Z (nm _)).step S4 (lt1 (Nat.le_refl _))) ((G1.step Z (nm _)).step S4 (lt1 (Nat.le_of_lt (Nat.lt_trans o5 o6)))) ((P1.step Z (nm _)).step S4 (lt1 (Nat.le_of_lt q1))) ((D1.step Z (nm _)).step S4 (lt1 (Nat.le_of_lt o5))) ⟨o5, o6, o7⟩ c153 eS3 fun news5 h5 tk5 F5 N5 S5 gp1 dd1 tf => ?_
  show wpAny _ _ _ _ _ _
  obtain ⟨tag, xs, I, ⟨hD5, tD5⟩, hB5, tB5⟩ := firstI l174 c2 ⟨o1, o2, o3, o4, o5, o6, o7⟩ (ord3.1 _ (List.mem_cons_of_mem _ mP1)) ord3.2 (ord3.1 _ (List.mem_cons_self ..))
    (fun a ha => by
      simp only [List.mem_cons, List.not_mem_nil, or_false] at ha
      rcases ha with rfl | rfl | rfl | rfl | rfl | rfl | rfl | rfl | rfl | rfl | rfl | rfl | rfl
      · exact nS m146
      · exact nS m153
      · exact nS m167
      · exact nS hB2
      · exact nS mDl
      · exact nS mM0
      · exact nS mD0
      · exact nS mF0
      · exact nS mP0
      · exact nS mM1
      · exact nS mD1
      · exact nS mF1
      · exact nS mP1)
    hSl (A0.step Z (nm _)) (G0.step Z (nm _)) (A1.step Z (nm _)) (G1.step Z (nm _)) gr0 gr1 prl de0 de1 pel (k23 _ mDl) (k23 _ m167) (k23 _ hB2) S4 gp0 dd0 tp S5 gp1 dd1 tf
  exact K5 (s := { s with heap := h5, toks := tk5 }) B F5 N5 T C1 C2 C3 X hdp hu I (by decide) hD5 tD5 hB5 tB5 hi hl12 eS3 eR eE eD3 hE fun h' tk' m' news' F' N' ⟨tag', xs', b', I'⟩ hB' => ret h' tk' m' news' F' N' (tabs_of I' hB')
end Mine
theorem Mine.calmJH : True := by
  w_top off
  trivial
theorem PySem.Challenge.cw_fe0065_01_holds : PySem.Challenge.rw_fe0065_01.Holds := by
  refine Mine.hd ?_
  k_go0
  (all_goals try k_fold)
  rename IntsAre _ _ => hI
  rename Fr _ _ _ _ => kF
  rename News _ _ _ _ => kN
  rename Below _ _ _ _ => kB
  rename Top topProg _ _ _ _ _ => kT
  rename Heap.IsList _ _ _ => kL
  rename CodeHd _ _ _ => c1
  have q1 := And.intro c1 True.intro
  clear c1
  rename CodeHd _ _ _ => c2
  have q2 := And.intro c2 True.intro
  clear c2
  rename CodeHd _ _ _ => c3
  have q3 := And.intro c3 True.intro
  clear c3
  rename CodeHd _ _ _ => c4
  have H := @Mine.lawAll
  rcases hl : Mine.lawD with ⟨bd, sc⟩
  simp only [Mine.lawA, Mine.lawE, hl] at H
  conv at hl => lhs; whnf
  cases hl
  refine' H kB ?F ?N kT ?q1 ?q2 ?q3 ?q4 ?hX ?dp ?un kL ?hint ?hlen ?e0 ?hE ?ret
  (case F => exact kF)
  (case N => exact kN)
  (case q1 => exact q1.1)
  (case q2 => exact q2.1)
  (case q3 => exact q3.1)
  (case q4 => exact c4)
  (case hX => assumption)
  (case dp => decide)
  (case un => decide)
  (case e0 => rfl)
  (case hE => exact PySem.PassesOwn.leaving)
  (case hint => exact Mine.ints_int hI)
  (case hlen =>
    have h := hI.length
    rename ¬ (_ < _) => hc
    omega)
  (case ret =>
    intro h' tk' m' news' F' N' hT
    dsimp only
    refine ⟨?_, ?_⟩
    · refine goodW_bool (by assumption) (by assumption) (raisesW_false ?_) ?_
      · wrow_none_raised
      · wrow_post
    · obtain ⟨p1, g1⟩ := hT 174 (by simp)
      obtain ⟨p2, g2⟩ := hT 167 (by simp)
      obtain ⟨p3, g3⟩ := hT 153 (by simp)
      obtain ⟨p4, g4⟩ := hT 146 (by simp)
      exact ⟨GrownAt.of N' g1, GrownAt.of N' g2, GrownAt.of N' g3, GrownAt.of N' g4, True.intro⟩)
