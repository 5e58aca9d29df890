import PyProof.Rows.All
import Wide.All
import OpenK.AllK
import Wide.FinOn
import Lean
import PySem.Challenge.RW_vy0013_03
open PySem PySem.W PySem.Spec PySem.Calls PyProof.Rows
set_option Elab.async false
set_option maxRecDepth 100000
set_option maxHeartbeats 8000000
open_top hd3 for PySem.Challenge.rw_vy0013_03
namespace Mine

abbrev Led := List (Addr × Obj)
inductive Ex where
  | lit (w : PySem.Str)
  | seq (ks : List Nat)
  | alt (ks : List Nat)
  | look (neg : Bool) (k : Nat)
  | rep (k : Nat) (mn : Nat) (mx : Option Nat)

/-- what is the same throughout one cache's life -/
structure Gram where
  ex : List Ex
  xa : Nat → Addr
  da : Nat → Addr
  nm : Nat → PySem.Str
  text : PySem.Str
  tt : Tok
  c : Addr
  ea : Addr
  ed : Addr
  nth : Nat
  sem : Nat → Nat → Option Nat

/-- seq: what is asked, in order -/
def seqAsks (sem : Nat → Nat → Option Nat) : List Nat → Nat → List (Nat × Nat)
  | [], _ => []
  | k :: r, p => (k, p) :: (match sem k p with | none => [] | some e => seqAsks sem r e)
def seqEnd (sem : Nat → Nat → Option Nat) : List Nat → Nat → Option Nat
  | [], p => some p
  | k :: r, p => match sem k p with | none => none | some e => seqEnd sem r e
def altAsks (sem : Nat → Nat → Option Nat) : List Nat → Nat → List (Nat × Nat)
  | [], _ => []
  | k :: r, p => (k, p) :: (match sem k p with | none => altAsks sem r p | some _ => [])
def altEnd (sem : Nat → Nat → Option Nat) : List Nat → Nat → Option Nat
  | [], _ => none
  | k :: r, p => match sem k p with | none => altEnd sem r p | some e => some e
def altKids (sem : Nat → Nat → Option Nat) : List Nat → Nat → List (Nat × Nat)
  | [], _ => []
  | k :: r, p => match sem k p with | none => altKids sem r p | some _ => [(k, p)]

structure RepOut where
  asks : List (Nat × Nat)
  kids : List (Nat × Nat)
  fin : Nat
  cnt : Nat
def capOk (mx : Option Nat) (n : Nat) : Bool := match mx with | none => true | some x => decide (n < x)
/-- the quantifier's loop; fuel first -/
def repRun (sem : Nat → Nat → Option Nat) (size k mn : Nat) (mx : Option Nat) : Nat → Nat → Nat → RepOut
  | 0, c, p => ⟨[], [], p, c⟩
  | n + 1, c, p =>
    if p < size ∧ capOk mx c = true then
      match sem k p with
      | none => ⟨[(k, p)], [], p, c⟩
      | some e => if mn ≤ c + 1 ∧ e = p then ⟨[(k, p)], [(k, p)], p, c + 1⟩
        else let r := repRun sem size k mn mx n (c + 1) e
          ⟨(k, p) :: r.asks, (k, p) :: r.kids, r.fin, r.cnt⟩
    else ⟨[], [], p, c⟩
def repFuel (size mn : Nat) : Nat := size + mn + 2

def Ex.asks (sem : Nat → Nat → Option Nat) (size : Nat) : Ex → Nat → List (Nat × Nat)
  | .lit _, _ => []
  | .seq ks, p => seqAsks sem ks p
  | .alt ks, p => altAsks sem ks p
  | .look _ k, p => [(k, p)]
  | .rep k mn mx, p => (repRun sem size k mn mx (repFuel size mn) 0 p).asks
def Ex.kids (sem : Nat → Nat → Option Nat) (size : Nat) : Ex → Nat → List (Nat × Nat)
  | .lit _, _ => []
  | .seq ks, p => seqAsks sem ks p
  | .alt ks, p => altKids sem ks p
  | .look _ _, _ => []
  | .rep k mn mx, p => (repRun sem size k mn mx (repFuel size mn) 0 p).kids
def Ex.fin (sem : Nat → Nat → Option Nat) (T : PySem.Str) : Ex → Nat → Option Nat
  | .lit w, p => if Txt.startswith3 T w (p : Int) then some (p + w.length) else none
  | .seq ks, p => seqEnd sem ks p
  | .alt ks, p => altEnd sem ks p
  | .look neg k, p => if (sem k p).isNone = neg then some p else none
  | .rep k mn mx, p => let r := repRun sem T.length k mn mx (repFuel T.length mn) 0 p
      if mn ≤ r.cnt then some r.fin else none
def Ex.below : Ex → Nat → Prop
  | .lit _, _ => True
  | .seq ks, n => ∀ k ∈ ks, k < n
  | .alt ks, n => ∀ k ∈ ks, k < n
  | .look _ k, n => k < n
  | .rep k _ _, n => k < n

abbrev Err := Int × Option Nat
/-- what has been asked so far, and the report -/
structure PS where
  seen : List (Nat × Nat)
  err : Err
def PS.note (g : Gram) (s : PS) (k p : Nat) : PS :=
  match g.sem k p with
  | some _ => s
  | none => if s.err.1 ≤ (p : Int) ∧ (g.nm k ≠ PySem.Str.empty ∨ s.err.2 = none) then ⟨s.seen, ((p : Int), some k)⟩ else s
def run (g : Gram) : Nat → Nat → Nat → PS → PS
  | 0, _, _, s => s
  | n + 1, k, p, s =>
    PS.note g (if (k, p) ∈ s.seen then s else
      match g.ex[k]? with
      | none => s
      | some e => (e.asks g.sem g.text.length p).foldl (fun s q => run g n q.1 q.2 s) ⟨(k, p) :: s.seen, s.err⟩) k p

structure St where
  oids : Nat → List (Int × Addr)
  rows : List (Nat × Addr)
  memo : Nat → Nat → Option Value
  ip : List (Nat × Nat)
  ps : PS

abbrev inProg : Value := .ref 220
abbrev tupO (vs : List Value) : Obj := { cls := .type "tuple", data := .seq vs.toArray }

/-- the expression's own object and what hangs on it (not its dict) -/
def ExIn (g : Gram) (σ : Led) (k : Nat) : Ex → Prop
  | .lit w => ∃ tl idt tn, (g.xa k, (⟨.ref 336, some (g.da k), .plain, #[some (.str w tl), some idt, some (.str (g.nm k) tn)]⟩ : Obj)) ∈ σ
  | .seq ks => ∃ mt idt tn, (g.xa k, (⟨.ref 394, some (g.da k), .plain, #[some (.ref mt), some idt, some (.str (g.nm k) tn)]⟩ : Obj)) ∈ σ ∧ (mt, tupO (ks.map fun j => .ref (g.xa j))) ∈ σ
  | .alt ks => ∃ mt idt tn, (g.xa k, (⟨.ref 420, some (g.da k), .plain, #[some (.ref mt), some idt, some (.str (g.nm k) tn)]⟩ : Obj)) ∈ σ ∧ (mt, tupO (ks.map fun j => .ref (g.xa j))) ∈ σ
  | .look neg j => ∃ mt idt tn, (g.xa k, (⟨.ref 458, some (g.da k), .plain, #[some (.bool neg), some (.ref mt), some idt, some (.str (g.nm k) tn)]⟩ : Obj)) ∈ σ ∧ (mt, tupO [.ref (g.xa j)]) ∈ σ
  | .rep j mn mx => ∃ mt idt tn tm mv, (g.xa k, (⟨.ref 497, some (g.da k), .plain, #[some mv, some (.int mn tm), some (.ref mt), some idt, some (.str (g.nm k) tn)]⟩ : Obj)) ∈ σ ∧ (mt, tupO [.ref (g.xa j)]) ∈ σ ∧
      (match mx with | none => ∃ tf, mv = .float 9218868437227405312 tf | some x => ∃ tx, mv = .int x tx)

/-- the places' tuple of an expression -/
inductive OidsAt (σ : Led) : List Addr → List (Int × Addr) → Prop
  | nil : OidsAt σ [] []
  | cons {pa : Addr} {o : Int} {t : Tok} {r : Addr} {pas : List Addr} {os : List (Int × Addr)} : (pa, tupO [.int o t, .ref r]) ∈ σ → OidsAt σ pas os → OidsAt σ (pa :: pas) ((o, r) :: os)
def DictAt (σ : Led) (d : Addr) (os : List (Int × Addr)) : Prop :=
  (os = [] ∧ (d, dictOf [] 0) ∈ σ) ∨ ∃ h t ot pas n, (d, dictOf [⟨h, .str (PySem.Str.ofString "oids") t, .ref ot⟩] n) ∈ σ ∧ (ot, tupO (pas.map .ref)) ∈ σ ∧ OidsAt σ pas os

def NodeAt (g : Gram) (memo : Nat → Nat → Option Value) (σ : Led) (e : Ex) (k p fin a : Nat) : Prop :=
  ∃ dx od cl ep bs tp te, (a, (⟨.ref 212, some dx, .plain, #[some (.ref cl), some (.int fin te), some (.ref (g.xa k)), some (.str g.text g.tt), some (.int p tp)]⟩ : Obj)) ∈ σ ∧ (dx, od) ∈ σ ∧
    (cl, W.listOf (bs.map Value.ref).toArray ep) ∈ σ ∧ (e.kids g.sem g.text.length p).map (fun q => memo q.1 q.2) = (bs : List Addr).map fun b => some (.ref b)

/-- a told value is what the table says -/
def ValOk (g : Gram) (memo : Nat → Nat → Option Value) (σ : Led) (e : Ex) (k p : Nat) (v : Value) : Prop :=
  match g.sem k p with
  | none => v = .none
  | some f => ∃ a, v = .ref a ∧ NodeAt g memo σ e k p f a

def cacheKvs (rows : List (Nat × Addr)) (n : Nat := 0) : List (Int × Value) := match rows with
  | [] => []
  | q :: r => ((n : Int), .ref q.2) :: cacheKvs r (n + 1)

def errEs (g : Gram) (h1 h2 h3 : Int) (t1 t2 t3 tp : Tok) (er : Err) : List DictEntry :=
  [⟨h1, .str (PySem.Str.ofString "text") t1, .str g.text g.tt⟩, ⟨h2, .str (PySem.Str.ofString "pos") t2, .int er.1 tp⟩,
   ⟨h3, .str (PySem.Str.ofString "expr") t3, match er.2 with | none => .none | some k => .ref (g.xa k)⟩]
def ErrAt (g : Gram) (μ : Led) (er : Err) : Prop :=
  ∃ ar h1 h2 h3 t1 t2 t3 tp n, (g.ea, (⟨.ref 94, some g.ed, .fields #[.ref ar, .none, .none, .none, .bool false, .none], #[]⟩ : Obj)) ∈ μ ∧ (g.ed, dictOf (errEs g h1 h2 h3 t1 t2 t3 tp er) n) ∈ μ

def Sep (a b : Led) : Prop := ∀ x ∈ a, ∀ y ∈ b, x.1 ≠ y.1
def mlist (g : Gram) (st : St) : List Addr := g.c :: g.ea :: g.ed :: (st.rows.map (·.2) ++ (List.range g.ex.length).map g.da)

structure CInv (prog : Program) (w : World) (g : Gram) (st : St) (μ ι : Led) : Prop where
  exprs : ∀ (k : Nat) e, g.ex[k]? = some e → ExIn g ι k e
  dicts : ∀ k, k < g.ex.length → (∃ os, os = st.oids k ∧ ((os = [] ∧ (g.da k, dictOf [] 0) ∈ μ) ∨ ∃ h t ot pas n, (g.da k, dictOf [⟨h, .str (PySem.Str.ofString "oids") t, .ref ot⟩] n) ∈ μ ∧ (ot, tupO (pas.map .ref)) ∈ ι ∧ OidsAt ι pas os))
  cache : ∃ oc, (g.c, oc) ∈ μ ∧ oc.IsDictOf (intKind prog w) (cacheKvs st.rows)
  cacheLo : (g.c == sysModules) = false
  rowAt : ∀ k r, (k, r) ∈ st.rows → ∃ o ents, (r, o) ∈ μ ∧ o.IsDictOf (intKind prog w) ents ∧ (r == sysModules) = false ∧ (∀ p : Nat, valueAt ents (p : Int) = st.memo k p) ∧ (∀ q ∈ ents, ∃ p : Nat, p ≤ g.text.length ∧ q.1 = (p : Int))
  noRow : ∀ k, (∀ r, (k, r) ∉ st.rows) → ∀ p, st.memo k p = none
  rowsLt : ∀ k r, (k, r) ∈ st.rows → k < g.ex.length
  rowsNd : (st.rows.map (·.1)).Nodup
  oidOwn : ∀ (i k : Nat) r, st.rows[i]? = some (k, r) → ((i : Int), r) ∈ st.oids k
  oidOnly : ∀ k o r, k < g.ex.length → (o, r) ∈ st.oids k → ∀ (i k' : Nat), st.rows[i]? = some (k', r) → k' = k ∧ o = (i : Int)
  oidLive : ∀ k o r, k < g.ex.length → (o, r) ∈ st.oids k → r ≠ g.ea ∧ ∃ x, (r, x) ∈ μ ++ ι
  oidFew : ∀ k, k < g.ex.length → (st.oids k).length ≤ g.nth + 1 ∧ ((∀ r, (k, r) ∉ st.rows) → (st.oids k).length ≤ g.nth)
  err : ErrAt g μ st.ps.err
  seen : ∀ k p, (st.memo k p).isSome = true ↔ (k, p) ∈ st.ps.seen
  vals : ∀ k p v e, st.memo k p = some v → g.ex[k]? = some e → if (k, p) ∈ st.ip then v = inProg else ValOk g st.memo ι e k p v
  done : ∀ (k p : Nat) v e, st.memo k p = some v → g.ex[k]? = some e → (k, p) ∉ st.ip → g.sem k p ≠ none → ∀ c ∈ e.kids g.sem g.text.length p, c ∉ st.ip
  errLt : ∀ k, st.ps.err.2 = some k → k < g.ex.length
  nd : (mlist g st).Nodup
  iota : Sep ι μ

/-- the grammar is well laid: parts lie below, the table is the table -/
structure GOk (g : Gram) : Prop where
  below : ∀ (k : Nat) (e : Ex), g.ex[k]? = some e → e.below k
  sem : ∀ (k : Nat) (e : Ex) (p : Nat), g.ex[k]? = some e → p ≤ g.text.length → g.sem k p = e.fin g.sem g.text p
  inText : ∀ k p e, g.sem k p = some e → k < g.ex.length → p ≤ g.text.length → p ≤ e ∧ e ≤ g.text.length
  small : g.text.length ≤ 1000
  few : g.ex.length ≤ 100
  nthLe : g.nth ≤ 100
  nmLen : ∀ k, k < g.ex.length → (g.nm k).length ≤ 100
  kids4 : ∀ (k : Nat) (e : Ex), g.ex[k]? = some e → match e with | .seq ks => ks.length ≤ 100 | .alt ks => ks.length ≤ 100 | .lit w => w.length ≤ 100 | .rep _ mn _ => mn ≤ 100 | _ => True

def MemoLe (a b : Nat → Nat → Option Value) : Prop := ∀ k p v, a k p = some v → b k p = some v
def runK (g : Gram) (k p : Nat) (s : PS) : PS := run g (k + 1) k p s
theorem MemoLe.refl {a : Nat → Nat → Option Value} : MemoLe a a := fun _ _ _ h => h
theorem MemoLe.trans {a b c : Nat → Nat → Option Value} (h : MemoLe a b) (k : MemoLe b c) : MemoLe a c := fun _ _ _ x => k _ _ _ (h _ _ _ x)

structure StLe (a b : St) : Prop where
  memo : MemoLe a.memo b.memo
  rows : ∀ x ∈ a.rows, x ∈ b.rows
theorem StLe.refl {a : St} : StLe a a := ⟨.refl, fun _ h => h⟩
theorem StLe.trans {a b c : St} (h : StLe a b) (k : StLe b c) : StLe a c := ⟨h.memo.trans k.memo, fun _ x => k.rows _ (h.rows _ x)⟩

theorem seqAsks_sub (sem : Nat → Nat → Option Nat) : ∀ (ks : List Nat) (p : Nat), ∀ q ∈ seqAsks sem ks p, q.1 ∈ ks
  | [], _, _, h => (nomatch h)
  | k :: r, p, q, h => by
    rw [seqAsks] at h
    rcases List.mem_cons.mp h with rfl | h
    · exact .head _
    · cases hs : sem k p with
      | none => rw [hs] at h; cases h
      | some e => rw [hs] at h; exact .tail _ (seqAsks_sub sem r e q h)
theorem altAsks_sub (sem : Nat → Nat → Option Nat) : ∀ (ks : List Nat) (p : Nat), ∀ q ∈ altAsks sem ks p, q.1 ∈ ks
  | [], _, _, h => (nomatch h)
  | k :: r, p, q, h => by
    rw [altAsks] at h
    rcases List.mem_cons.mp h with rfl | h
    · exact .head _
    · cases hs : sem k p with
      | none => rw [hs] at h; exact .tail _ (altAsks_sub sem r p q h)
      | some e => rw [hs] at h; cases h
theorem repAsks_sub (sem : Nat → Nat → Option Nat) (size k mn : Nat) (mx : Option Nat) : ∀ (n c p : Nat), ∀ q ∈ (repRun sem size k mn mx n c p).asks, q.1 = k
  | 0, _, _, _, h => (nomatch h)
  | n + 1, c, p, q, h => by
    rw [repRun] at h
    split at h
    · split at h
      · rw [List.mem_singleton.mp h]
      · split at h
        · rw [List.mem_singleton.mp h]
        · rcases List.mem_cons.mp h with rfl | h
          · rfl
          · exact repAsks_sub sem size k mn mx n _ _ q h
    · cases h
theorem asks_below {sem : Nat → Nat → Option Nat} {size : Nat} : ∀ {e : Ex} {k : Nat}, e.below k → ∀ p, ∀ q ∈ e.asks sem size p, q.1 < k
  | .lit _, _, _, _, _, h => (nomatch h)
  | .seq _, _, b, _, _, h => b _ (seqAsks_sub _ _ _ _ h)
  | .alt _, _, b, _, _, h => b _ (altAsks_sub _ _ _ _ h)
  | .look _ _, _, b, _, _, h => by rw [List.mem_singleton.mp h]; exact b
  | .rep _ _ _, _, b, _, _, h => by rw [repAsks_sub _ _ _ _ _ _ _ _ _ h]; exact b

theorem foldl_same {α β : Type} {f g : β → α → β} : ∀ (l : List α) (b : β), (∀ b, ∀ a ∈ l, f b a = g b a) → l.foldl f b = l.foldl g b
  | [], _, _ => rfl
  | a :: r, b, h => by rw [List.foldl_cons, List.foldl_cons, h b a (.head _)]; exact foldl_same r _ fun b a ha => h b a (.tail _ ha)
theorem run_fuel {g : Gram} (G : ∀ (k : Nat) (e : Ex), g.ex[k]? = some e → e.below k) : ∀ (n m k p : Nat) (s : PS), k < n → k < m → run g n k p s = run g m k p s
  | 0, _, _, _, _, h, _ => absurd h (Nat.not_lt_zero _)
  | _ + 1, 0, _, _, _, _, h => absurd h (Nat.not_lt_zero _)
  | n + 1, m + 1, k, p, s, hn, hm => by
    rw [run, run]
    cases he : g.ex[k]? with
    | none => rfl
    | some e =>
      dsimp only
      congr 1
      split
      · rfl
      · refine foldl_same _ _ fun b q hq => ?_
        have := asks_below (G k e he) p q hq
        exact run_fuel G n m q.1 q.2 b (by omega) (by omega)
theorem runK_eq {g : Gram} (G : ∀ (k : Nat) (e : Ex), g.ex[k]? = some e → e.below k) {k p : Nat} {e : Ex} (he : g.ex[k]? = some e) (s : PS) :
    runK g k p s = PS.note g (if (k, p) ∈ s.seen then s else (e.asks g.sem g.text.length p).foldl (fun s q => runK g q.1 q.2 s) ⟨(k, p) :: s.seen, s.err⟩) k p := by
  rw [runK, run, he]
  dsimp only
  congr 1
  split
  · rfl
  · refine foldl_same _ _ fun b q hq => ?_
    have := asks_below (G k e he) p q hq
    exact run_fuel G k (q.1 + 1) q.1 q.2 b (by omega) (by omega)

theorem news_sub {h₀ h : Heap} {L : Addr} {l l' : Led} (N : News h₀ L h l) (k : ∀ x ∈ l', x ∈ l) : News h₀ L h l' := fun p hp => N p (k p hp)
theorem ExIn.mono {g : Gram} {σ σ' : Led} {k : Nat} (hs : ∀ x ∈ σ, x ∈ σ') : ∀ {e : Ex}, ExIn g σ k e → ExIn g σ' k e
  | .lit _, ⟨a, b, c, h⟩ => ⟨a, b, c, hs _ h⟩
  | .seq _, ⟨a, b, c, h, h'⟩ => ⟨a, b, c, hs _ h, hs _ h'⟩
  | .alt _, ⟨a, b, c, h, h'⟩ => ⟨a, b, c, hs _ h, hs _ h'⟩
  | .look _ _, ⟨a, b, c, h, h'⟩ => ⟨a, b, c, hs _ h, hs _ h'⟩
  | .rep _ _ _, ⟨a, b, c, d, f, h, h', h''⟩ => ⟨a, b, c, d, f, hs _ h, hs _ h', h''⟩
theorem OidsAt.mono {σ σ' : Led} (hs : ∀ x ∈ σ, x ∈ σ') : ∀ {pas : List Addr} {os : List (Int × Addr)}, OidsAt σ pas os → OidsAt σ' pas os
  | _, _, .nil => .nil
  | _, _, .cons h r => .cons (hs _ h) (r.mono hs)
theorem map_memo_le {a b : Nat → Nat → Option Value} (h : MemoLe a b) : ∀ (l : List (Nat × Nat)) (bs : List Addr), (l.map fun q => a q.1 q.2) = (bs.map fun x => some (.ref x)) → (l.map fun q => b q.1 q.2) = bs.map fun x => some (.ref x)
  | [], [], _ => rfl
  | [], _ :: _, e => by simp at e
  | _ :: _, [], e => by simp at e
  | q :: l, x :: bs, e => by
    simp only [List.map_cons, List.cons.injEq] at e ⊢
    exact ⟨h _ _ _ e.1, map_memo_le h l bs e.2⟩
theorem NodeAt.mono {g : Gram} {memo memo' : Nat → Nat → Option Value} {σ σ' : Led} {e : Ex} {k p fin a : Nat} (hm : MemoLe memo memo') (hs : ∀ x ∈ σ, x ∈ σ') (n : NodeAt g memo σ e k p fin a) : NodeAt g memo' σ' e k p fin a :=
  let ⟨dx, od, cl, ep, bs, tp, te, h1, h2, h3, h4⟩ := n
  ⟨dx, od, cl, ep, bs, tp, te, hs _ h1, hs _ h2, hs _ h3, map_memo_le hm _ _ h4⟩
theorem ValOk.mono {g : Gram} {memo memo' : Nat → Nat → Option Value} {σ σ' : Led} {e : Ex} {k p : Nat} {v : Value} (hm : MemoLe memo memo') (hs : ∀ x ∈ σ, x ∈ σ') (n : ValOk g memo σ e k p v) : ValOk g memo' σ' e k p v := by
  unfold ValOk at n ⊢
  split at n
  · exact n
  · obtain ⟨a, h1, h2⟩ := n
    exact ⟨a, h1, h2.mono hm hs⟩
theorem Sep.of {a b : Led} (h : ∀ x ∈ a, ∀ y ∈ b, @LT.lt Nat _ x.1 y.1) : Sep a b := fun x hx y hy => Nat.ne_of_lt (h x hx y hy)
theorem Sep.symm {a b : Led} (h : Sep a b) : Sep b a := fun x hx y hy e => h y hy x hx e.symm
theorem Sep.app {a b c : Led} (h : Sep a b) (k : Sep a c) : Sep a (b ++ c) := fun x hx y hy => (List.mem_append.mp hy).elim (h x hx y) (k x hx y)
theorem Sep.left {a b c : Led} (h : Sep a (b ++ c)) : Sep a b := fun x hx y hy => h x hx y (List.mem_append_left _ hy)
theorem Sep.right {a b c : Led} (h : Sep a (b ++ c)) : Sep a c := fun x hx y hy => h x hx y (List.mem_append_right _ hy)
theorem Sep.sub {a b a' b' : Led} (h : Sep a b) (ha : ∀ x ∈ a', x ∈ a) (hb : ∀ x ∈ b', x ∈ b) : Sep a' b' := fun x hx y hy => h x (ha x hx) y (hb y hy)
theorem Sep.nil {a : Led} : Sep a [] := fun _ _ _ h => nomatch h
theorem Sep.cons {a b : Led} {q : Addr × Obj} (h : ∀ x ∈ a, x.1 ≠ q.1) (k : Sep a b) : Sep a (q :: b) := fun x hx y hy => by
  rcases List.mem_cons.mp hy with rfl | hy
  · exact h x hx
  · exact k x hx y hy

section
variable {prog : Program} {w : World} {g : Gram} {st : St} {μ ι : Led}
theorem CInv.grow (C : CInv prog w g st μ ι) {ι' : Led} (hs : ∀ x ∈ ι, x ∈ ι') (hp : Sep ι' μ) : CInv prog w g st μ ι' where
  exprs := fun k e h => (C.exprs k e h).mono hs
  dicts := fun k h => by
    obtain ⟨os, h1, h2⟩ := C.dicts k h
    refine ⟨os, h1, h2.imp id ?_⟩
    rintro ⟨hh, t, ot, pas, n, a, b, c⟩
    exact ⟨hh, t, ot, pas, n, a, hs _ b, c.mono hs⟩
  cache := C.cache
  cacheLo := C.cacheLo
  rowAt := C.rowAt
  noRow := C.noRow
  rowsLt := C.rowsLt
  rowsNd := C.rowsNd
  oidOwn := C.oidOwn
  oidOnly := C.oidOnly
  oidLive := fun k o r h1 h2 => by
    obtain ⟨hne, x, hx⟩ := C.oidLive k o r h1 h2
    exact ⟨hne, x, (List.mem_append.mp hx).elim (fun h => List.mem_append_left _ h) fun h => List.mem_append_right _ (hs _ h)⟩
  oidFew := C.oidFew
  err := C.err
  seen := C.seen
  vals := fun k p v e h1 h2 => by
    have := C.vals k p v e h1 h2
    split
    · rename_i h; rw [if_pos h] at this; exact this
    · rename_i h; rw [if_neg h] at this; exact this.mono .refl hs
  done := C.done
  errLt := C.errLt
  nd := C.nd
  iota := hp
theorem CInv.dictAt (C : CInv prog w g st μ ι) {k : Nat} {e : Ex} (he : g.ex[k]? = some e) : ∃ n des, (g.da k, dictOf des n) ∈ μ := by
  obtain ⟨os, _, h⟩ := C.dicts k (List.getElem?_eq_some_iff.mp he).1
  rcases h with ⟨_, h⟩ | ⟨_, _, _, _, _, h, _⟩
  · exact ⟨_, _, h⟩
  · exact ⟨_, _, h⟩
end

def UPost (prog : Program) (w : World) (g : Gram) (st : St) (ρ ι : Led) (e : Ex) (k q : Nat) (h₀ : Heap) (L : Addr) (m : PySem.Str → Option Value) (s : Shared) (Q : Value → Shared → Prop) : Prop :=
  ∀ r st' μ' ι' h' tk', Fr h₀ L h' m → News h₀ L h' (ρ ++ (μ' ++ ι')) → Sep ρ (μ' ++ ι') → CInv prog w g st' μ' ι' → (∀ x ∈ ι, x ∈ ι') → st'.ip = st.ip → StLe st st' →
    st'.ps = (e.asks g.sem g.text.length q).foldl (fun s q => runK g q.1 q.2 s) st.ps → ValOk g st'.memo ι' e k q r → Q r { s with heap := h', toks := tk' }
theorem lt_ne {a b : Nat} (h : a < b) : a ≠ b := Nat.ne_of_lt h
theorem mem_mid {new ρ μ ι : Led} : ∀ x ∈ ρ ++ (μ ++ (new ++ ι)), x ∈ new ++ (ρ ++ (μ ++ ι)) := fun x hx => by
  simp only [List.mem_append] at hx ⊢
  rcases hx with h | h | h | h
  · exact .inr (.inl h)
  · exact .inr (.inr (.inl h))
  · exact .inl h
  · exact .inr (.inr (.inr h))
theorem upost_node {prog : Program} {w : World} {g : Gram} {st st' : St} {ρ μ ι ι₀ : Led} {e : Ex} {k q f : Nat} {h₀ h' : Heap} {L c x dx : Addr} {m : PySem.Str → Option Value} {s : Shared} {Q : Value → Shared → Prop} {tp te tk : Tok} {vs : List Addr} {ep : Nat} {new : Led}
    (ret : UPost prog w g st ρ ι₀ e k q h₀ L m s Q) (C : CInv prog w g st' μ ι) (hS : Sep ρ (μ ++ ι)) (F : Fr h₀ L h' m) (hsub : ∀ x ∈ ι₀, x ∈ ι) (hip : st'.ip = st.ip) (hml : StLe st st')
    (hps : st'.ps = (e.asks g.sem g.text.length q).foldl (fun s q => runK g q.1 q.2 s) st.ps)
    (N : News h₀ L h' (new ++ (ρ ++ (μ ++ ι)))) (hnew : ∀ y ∈ new, ∀ z ∈ ρ ++ (μ ++ ι), z.1 ≠ y.1)
    (hc : (c, W.listOf (vs.map Value.ref).toArray ep) ∈ new) (hx : (x, (⟨.ref 212, some dx, .plain, #[some (.ref c), some (.int f te), some (.ref (g.xa k)), some (.str g.text g.tt), some (.int q tp)]⟩ : Obj)) ∈ new) (hdx : (dx, dictOf [] 0) ∈ new)
    (hk : (e.kids g.sem g.text.length q).map (fun q => st'.memo q.1 q.2) = vs.map fun b => some (.ref b)) (hf : g.sem k q = some f) : Q (.ref x) { s with heap := h', toks := tk } := by
  have s1 : Sep ρ (μ ++ (new ++ ι)) := by
    intro x hx y hy
    rcases List.mem_append.mp hy with hy | hy
    · exact hS x hx y (List.mem_append_left _ hy)
    · rcases List.mem_append.mp hy with hy | hy
      · exact hnew y hy x (List.mem_append_left _ hx)
      · exact hS x hx y (List.mem_append_right _ hy)
  have s2 : Sep (new ++ ι) μ := by
    intro x hx y hy
    rcases List.mem_append.mp hx with hx | hx
    · exact (hnew x hx y (List.mem_append_right _ (List.mem_append_left _ hy))).symm
    · exact C.iota x hx y hy
  refine ret _ st' μ (new ++ ι) h' tk F (news_sub N mem_mid) s1 (C.grow (fun _ h => List.mem_append_right _ h) s2) (fun _ h => List.mem_append_right _ (hsub _ h)) hip hml hps ?_
  unfold ValOk
  rw [hf]
  exact ⟨x, rfl, dx, dictOf [] 0, c, ep, vs, tp, te, List.mem_append_left _ hx, List.mem_append_left _ hdx, List.mem_append_left _ hc, hk⟩
/-- a node without children, just made -/
theorem upost_node0 {prog : Program} {w : World} {g : Gram} {st st' : St} {ρ μ ι ι₀ : Led} {e : Ex} {k q f : Nat} {h₀ h' : Heap} {L c x dx : Addr} {m : PySem.Str → Option Value} {s : Shared} {Q : Value → Shared → Prop} {tp te tk : Tok}
    (ret : UPost prog w g st ρ ι₀ e k q h₀ L m s Q) (C : CInv prog w g st' μ ι) (hS : Sep ρ (μ ++ ι)) (F : Fr h₀ L h' m) (hsub : ∀ x ∈ ι₀, x ∈ ι) (hip : st'.ip = st.ip) (hml : StLe st st')
    (hps : st'.ps = (e.asks g.sem g.text.length q).foldl (fun s q => runK g q.1 q.2 s) st.ps)
    (N : News h₀ L h' ((c, W.listOf #[] 0) :: (x, (⟨.ref 212, some dx, .plain, #[some (.ref c), some (.int f te), some (.ref (g.xa k)), some (.str g.text g.tt), some (.int q tp)]⟩ : Obj)) :: (dx, dictOf [] 0) :: (ρ ++ (μ ++ ι))))
    (l1 : ∀ y ∈ ρ ++ (μ ++ ι), @LT.lt Nat _ y.1 dx) (l2 : dx < x) (l3 : x < c) (hk : e.kids g.sem g.text.length q = []) (hf : g.sem k q = some f) : Q (.ref x) { s with heap := h', toks := tk } := by
  refine upost_node (new := [(c, W.listOf #[] 0), (x, (⟨.ref 212, some dx, .plain, #[some (.ref c), some (.int f te), some (.ref (g.xa k)), some (.str g.text g.tt), some (.int q tp)]⟩ : Obj)), (dx, dictOf [] 0)]) (vs := []) (ep := 0) ret C hS F hsub hip hml hps N ?_ (.head _) (.tail _ (.head _)) (.tail _ (.tail _ (.head _))) (by rw [hk]; rfl) hf
  intro y hy z hz
  have h1 := l1 z hz
  simp only [List.mem_cons, List.not_mem_nil, or_false] at hy
  rcases hy with rfl | rfl | rfl
  · exact lt_ne (Nat.lt_trans h1 (Nat.lt_trans l2 l3))
  · exact lt_ne (Nat.lt_trans h1 l2)
  · exact lt_ne h1
theorem upost_none {prog : Program} {w : World} {g : Gram} {st st' : St} {ρ μ ι ι₀ : Led} {e : Ex} {k q : Nat} {h₀ h' : Heap} {L : Addr} {m : PySem.Str → Option Value} {s : Shared} {Q : Value → Shared → Prop} {tk : Tok}
    (ret : UPost prog w g st ρ ι₀ e k q h₀ L m s Q) (C : CInv prog w g st' μ ι) (hS : Sep ρ (μ ++ ι)) (F : Fr h₀ L h' m) (hsub : ∀ x ∈ ι₀, x ∈ ι) (hip : st'.ip = st.ip) (hml : StLe st st')
    (hps : st'.ps = (e.asks g.sem g.text.length q).foldl (fun s q => runK g q.1 q.2 s) st.ps)
    (N : News h₀ L h' (ρ ++ (μ ++ ι))) (hf : g.sem k q = none) : Q .none { s with heap := h', toks := tk } := by
  refine ret _ st' μ ι h' tk F N hS C hsub hip hml hps ?_
  unfold ValOk
  rw [hf]
theorem all_ne_of_lt {d x : Addr} {l : List (Addr × Obj)} (h : ∀ p ∈ l, p.1 < d) (h2 : @LE.le Nat _ d x) : ∀ p ∈ l, p.1 ≠ x := fun p hp => Nat.ne_of_lt (Nat.lt_of_lt_of_le (h p hp) h2)
theorem all_lt_of_AllLt {d : Addr} : ∀ {l : List (Addr × Obj)}, AllLt d l → ∀ p ∈ l, p.1 < d
  | [], _, _, hp => (nomatch hp)
  | q :: r, h, p, hp => by
    rcases List.mem_cons.mp hp with rfl | hp
    · exact h.1
    · exact all_lt_of_AllLt h.2 p hp

/-! the cache's steps, on the ledger alone -/
section
variable {K : Type} [DecidableEq K]
theorem valueAt_nil (k : K) : valueAt ([] : List (K × Value)) k = none := rfl
theorem valueAt_cons (x : K × Value) (l : List (K × Value)) (k : K) : valueAt (x :: l) k = if x.1 = k then some x.2 else valueAt l k := by
  unfold valueAt
  rw [List.find?_cons]
  by_cases h : x.1 = k
  · simp [h]
  · simp [h]
theorem valueAt_map (l : List (K × Value)) (k k' : K) (v : Value) (h : k ∈ l.map (·.1)) : valueAt (l.map fun x => if x.1 = k then (x.1, v) else x) k' = if k' = k then some v else valueAt l k' := by
  induction l with
  | nil => cases h
  | cons x l ih =>
    rw [List.map_cons, valueAt_cons]
    by_cases hx : x.1 = k
    · rw [if_pos hx]
      dsimp only
      by_cases hk : k' = k
      · rw [if_pos hk, if_pos (hx.trans hk.symm)]
      · rw [if_neg hk, if_neg (fun e => hk (e.symm.trans hx)), valueAt_cons, if_neg (fun e => hk (e.symm.trans hx))]
        by_cases hm : k ∈ l.map (·.1)
        · rw [ih hm, if_neg hk]
        · congr 1
          conv => rhs; rw [← List.map_id l]
          refine List.map_congr_left fun y hy => ?_
          rw [if_neg]; rfl
          intro e; exact hm (List.mem_map.mpr ⟨y, hy, e⟩)
    · rw [if_neg hx]
      have hm : k ∈ l.map (·.1) := by
        rcases List.mem_cons.mp h with h | h
        · exact absurd h.symm hx
        · exact h
      rw [ih hm, valueAt_cons]
      by_cases hk : k' = k
      · rw [if_pos hk, if_pos hk, if_neg (fun e => hx (e.trans hk))]
      · rw [if_neg hk, if_neg hk]
theorem valueAt_app (l : List (K × Value)) (k k' : K) (v : Value) (h : k ∉ l.map (·.1)) : valueAt (l ++ [(k, v)]) k' = if k' = k then some v else valueAt l k' := by
  induction l with
  | nil =>
    rw [List.nil_append, valueAt_cons]; dsimp only
    by_cases e : k' = k
    · rw [if_pos e, if_pos e.symm]
    · rw [if_neg e, if_neg (Ne.symm e)]
  | cons x l ih =>
    rw [List.map_cons, List.mem_cons, not_or] at h
    rw [List.cons_append, valueAt_cons, valueAt_cons, ih h.2]
    by_cases hx : x.1 = k'
    · rw [if_pos hx, if_pos hx, if_neg]; intro e; exact h.1 (e.symm.trans hx.symm)
    · rw [if_neg hx, if_neg hx]
theorem any_key (l : List (K × Value)) (k : K) : (l.any fun kv => decide (kv.1 = k)) = true ↔ k ∈ l.map (·.1) := by
  rw [List.any_eq_true, List.mem_map]
  exact ⟨fun ⟨x, a, b⟩ => ⟨x, a, of_decide_eq_true b⟩, fun ⟨x, a, b⟩ => ⟨x, a, decide_eq_true b⟩⟩
theorem valueAt_stored (l : List (K × Value)) (k k' : K) (v : Value) : valueAt (stored l k v) k' = if k' = k then some v else valueAt l k' := by
  unfold stored
  by_cases h : k ∈ l.map (·.1)
  · rw [if_pos ((any_key l k).mpr h)]; exact valueAt_map l k k' v h
  · rw [if_neg (fun e => h ((any_key l k).mp e))]; exact valueAt_app l k k' v h
theorem mem_stored {l : List (K × Value)} {k : K} {v : Value} {x : K × Value} (h : x ∈ stored l k v) : x.1 = k ∨ x ∈ l := by
  unfold stored at h
  split at h
  · obtain ⟨y, hy, rfl⟩ := List.mem_map.mp h
    split
    · rename_i e; exact .inl e
    · exact .inr hy
  · rcases List.mem_append.mp h with h | h
    · exact .inr h
    · exact .inl (by rw [List.mem_singleton.mp h])
end
theorem cacheKvs_app : ∀ (l : List (Nat × Addr)) (n : Nat) (x : Nat × Addr), cacheKvs (l ++ [x]) n = cacheKvs l n ++ [(((n + l.length : Nat) : Int), .ref x.2)]
  | [], n, x => rfl
  | y :: l, n, x => by
    rw [List.cons_append, cacheKvs, cacheKvs, cacheKvs_app l (n + 1) x, List.length_cons, List.cons_append]
    rw [show n + 1 + l.length = n + (l.length + 1) by omega]
theorem cacheKvs_length : ∀ (l : List (Nat × Addr)) (n : Nat), (cacheKvs l n).length = l.length
  | [], _ => rfl
  | _ :: l, n => by rw [cacheKvs, List.length_cons, List.length_cons, cacheKvs_length l]
theorem cacheKvs_at : ∀ (l : List (Nat × Addr)) (n : Nat) (o : Int) (v : Value), valueAt (cacheKvs l n) o = some v → ∃ i k r, l[i]? = some (k, r) ∧ o = ((n + i : Nat) : Int) ∧ v = .ref r
  | [], _, _, _, h => by cases h
  | y :: l, n, o, v, h => by
    rw [cacheKvs, valueAt_cons] at h
    split at h
    · rename_i e
      exact ⟨0, y.1, y.2, rfl, e.symm, (Option.some.inj h).symm⟩
    · obtain ⟨i, k, r, a, b, c⟩ := cacheKvs_at l (n + 1) o v h
      exact ⟨i + 1, k, r, a, by rw [b, show n + 1 + i = n + (i + 1) by omega], c⟩
theorem cacheKvs_get : ∀ (l : List (Nat × Addr)) (n i : Nat) (k : Nat) (r : Addr), l[i]? = some (k, r) → valueAt (cacheKvs l n) ((n + i : Nat) : Int) = some (.ref r)
  | [], _, _, _, _, h => by simp at h
  | y :: l, n, 0, k, r, h => by
    rw [cacheKvs, valueAt_cons, if_pos (by dsimp only; omega)]; simp at h; rw [h]
  | y :: l, n, i + 1, k, r, h => by
    rw [cacheKvs, valueAt_cons, if_neg (by dsimp only; omega), show n + (i + 1) = n + 1 + i by omega]
    exact cacheKvs_get l (n + 1) i k r (by simpa using h)
theorem cacheKvs_stored (l : List (Nat × Addr)) (k : Nat) (r : Addr) : stored (cacheKvs l) (l.length : Int) (.ref r) = cacheKvs (l ++ [(k, r)]) := by
  rw [cacheKvs_app, Nat.zero_add]
  unfold stored
  rw [if_neg]
  rw [any_key]
  intro h
  have : (valueAt (cacheKvs l) (l.length : Int)).isSome = true := by
    unfold valueAt
    rw [Option.isSome_map, List.find?_isSome]
    obtain ⟨x, hx, e⟩ := List.mem_map.mp h
    exact ⟨x, hx, decide_eq_true e⟩
  obtain ⟨v, hv⟩ := Option.isSome_iff_exists.mp this
  obtain ⟨i, k', r', a, b, _⟩ := cacheKvs_at l 0 _ v hv
  have := (List.getElem?_eq_some_iff.mp a).1
  omega

def cut (as : List Addr) (μ : Led) : Led := μ.filter fun x => !as.contains x.1
theorem mem_cut {as : List Addr} {μ : Led} {x : Addr × Obj} : x ∈ cut as μ ↔ x ∈ μ ∧ x.1 ∉ as := by
  unfold cut
  rw [List.mem_filter]
  simp
theorem cut_ne {as : List Addr} {ρ μ ι : Led} {a : Addr} {o : Obj} (ha : a ∈ as) (hm : (a, o) ∈ μ) (S : Sep ρ (μ ++ ι)) (Si : Sep ι μ) : ∀ p ∈ ρ ++ (cut as μ ++ ι), p.1 ≠ a := by
  intro p hp e
  rcases List.mem_append.mp hp with hp | hp
  · exact S p hp _ (List.mem_append_left _ hm) e
  · rcases List.mem_append.mp hp with hp | hp
    · exact (mem_cut.mp hp).2 (e ▸ ha)
    · exact Si p hp _ hm e
theorem cut_sub {as : List Addr} {ρ μ ι : Led} : ∀ x ∈ ρ ++ (cut as μ ++ ι), x ∈ ρ ++ (μ ++ ι) := fun x hx => by
  rcases List.mem_append.mp hx with hx | hx
  · exact List.mem_append_left _ hx
  · refine List.mem_append_right _ ?_
    rcases List.mem_append.mp hx with hx | hx
    · exact List.mem_append_left _ (mem_cut.mp hx).1
    · exact List.mem_append_right _ hx

theorem nodup_inj {α β : Type} {f : α → β} : ∀ {l : List α}, (l.map f).Nodup → ∀ {a b : α}, a ∈ l → b ∈ l → f a = f b → a = b
  | [], _, _, _, h, _, _ => (nomatch h)
  | x :: l, nd, a, b, ha, hb, e => by
    rw [List.map_cons, List.nodup_cons] at nd
    rcases List.mem_cons.mp ha with ha | ha <;> rcases List.mem_cons.mp hb with hb | hb
    · rw [ha, hb]
    · exact absurd (by rw [← ha, e]; exact List.mem_map.mpr ⟨b, hb, rfl⟩) nd.1
    · exact absurd (by rw [← hb, ← e]; exact List.mem_map.mpr ⟨a, ha, rfl⟩) nd.1
    · exact nodup_inj nd.2 ha hb e
structure NdF (g : Gram) (st : St) : Prop where
  c_ea : g.c ≠ g.ea
  c_ed : g.c ≠ g.ed
  ea_ed : g.ea ≠ g.ed
  r_c : ∀ k r, (k, r) ∈ st.rows → r ≠ g.c
  r_ea : ∀ k r, (k, r) ∈ st.rows → r ≠ g.ea
  r_ed : ∀ k r, (k, r) ∈ st.rows → r ≠ g.ed
  r_d : ∀ k r j, (k, r) ∈ st.rows → j < g.ex.length → r ≠ g.da j
  d_c : ∀ j, j < g.ex.length → g.da j ≠ g.c
  d_ea : ∀ j, j < g.ex.length → g.da j ≠ g.ea
  d_ed : ∀ j, j < g.ex.length → g.da j ≠ g.ed
  d_d : ∀ i j, i < g.ex.length → j < g.ex.length → i ≠ j → g.da i ≠ g.da j
  r_r : ∀ k r j, (k, r) ∈ st.rows → (j, r) ∈ st.rows → k = j
theorem ndF {g : Gram} {st : St} (h : (mlist g st).Nodup) : NdF g st := by
  unfold mlist at h
  rw [List.nodup_cons, List.nodup_cons, List.nodup_cons, List.nodup_append] at h
  obtain ⟨h1, h2, h3, h4, h5, h6⟩ := h
  simp only [List.mem_cons, List.mem_append, List.mem_map, List.mem_range, not_or, not_exists, not_and] at h1 h2 h3 h6
  obtain ⟨a1, a2, a3, a4⟩ := h1
  obtain ⟨b1, b2, b3⟩ := h2
  obtain ⟨c1, c2⟩ := h3
  refine ⟨a1, a2, b1, fun k r h e => a3 _ h e, fun k r h e => b2 _ h e, fun k r h e => c1 _ h e, fun k r j h hj e => h6 r ⟨(k, r), h, rfl⟩ _ ⟨j, hj, rfl⟩ e, fun j hj e => a4 j hj e, fun j hj e => b3 j hj e, fun j hj e => c2 j hj e, fun i j hi hj n e => n ?_, fun k r j h h' => ?_⟩
  · exact nodup_inj h5 (List.mem_range.mpr hi) (List.mem_range.mpr hj) e
  · exact congrArg Prod.fst (nodup_inj h4 h h' rfl)

def St.newRow (st : St) (k : Nat) (r : Addr) : St := { st with oids := fun j => if j = k then ((st.rows.length : Int), r) :: st.oids k else st.oids j, rows := st.rows ++ [(k, r)] }
def St.begin (st : St) (k q : Nat) : St := { st with memo := fun j p => if j = k ∧ p = q then some inProg else st.memo j p, ip := (k, q) :: st.ip, ps := ⟨(k, q) :: st.ps.seen, st.ps.err⟩ }
def St.fin (st : St) (k q : Nat) (v : Value) : St := { st with memo := fun j p => if j = k ∧ p = q then some v else st.memo j p, ip := st.ip.tail }
def St.err (st : St) (k q : Nat) : St := { st with ps := ⟨st.ps.seen, ((q : Int), some k)⟩ }

section
variable {prog : Program} {w : World} {g : Gram} {st : St} {μ ι : Led}
theorem CInv.live (C : CInv prog w g st μ ι) : ∀ a ∈ mlist g st, ∃ o, (a, o) ∈ μ := by
  intro a ha
  unfold mlist at ha
  simp only [List.mem_cons, List.mem_append, List.mem_map, List.mem_range] at ha
  rcases ha with rfl | rfl | rfl | ⟨⟨k, r⟩, hr, rfl⟩ | ⟨j, hj, rfl⟩
  · obtain ⟨oc, h, _⟩ := C.cache; exact ⟨_, h⟩
  · obtain ⟨_, _, _, _, _, _, _, _, _, h, _⟩ := C.err; exact ⟨_, h⟩
  · obtain ⟨_, _, _, _, _, _, _, _, _, _, h⟩ := C.err; exact ⟨_, h⟩
  · obtain ⟨o, _, h, _⟩ := C.rowAt k r hr; exact ⟨_, h⟩
  · obtain ⟨_, _, h⟩ := C.dicts j hj
    rcases h with ⟨_, h⟩ | ⟨_, _, _, _, _, h, _⟩ <;> exact ⟨_, h⟩

theorem CInv.newRow (C : CInv prog w g st μ ι) {k n : Nat} {r ot pa : Addr} {oc oR : Obj} {hsh : Int} {t tn : Tok} {pas : List Addr} (hk : k < g.ex.length) (hnew : ∀ x, (k, x) ∉ st.rows)
    (hoc : oc.IsDictOf (intKind prog w) (cacheKvs (st.rows ++ [(k, r)]))) (hR : oR.IsDictOf (intKind prog w) []) (hlo : (r == sysModules) = false) (hos : OidsAt ι pas (st.oids k))
    (f1 : ∀ x ∈ μ ++ ι, x.1 ≠ r) (f2 : ∀ x ∈ μ ++ ι, x.1 ≠ ot) (f3 : ∀ x ∈ μ ++ ι, x.1 ≠ pa) (h1 : r ≠ ot) (h2 : r ≠ pa) :
    CInv prog w g (st.newRow k r) ((g.c, oc) :: (g.da k, dictOf [⟨hsh, .str (PySem.Str.ofString "oids") t, .ref ot⟩] n) :: (r, oR) :: cut [g.c, g.da k] μ) ((ot, tupO ((pa :: pas).map .ref)) :: (pa, tupO [.int st.rows.length tn, .ref r]) :: ι) := by
  have D := ndF C.nd
  have sub : ∀ x ∈ ι, x ∈ (ot, tupO ((pa :: pas).map .ref)) :: (pa, tupO [.int st.rows.length tn, .ref r]) :: ι := fun x h => .tail _ (.tail _ h)
  have keep : ∀ x ∈ μ, x.1 ≠ g.c → x.1 ≠ g.da k → x ∈ (g.c, oc) :: (g.da k, dictOf [⟨hsh, .str (PySem.Str.ofString "oids") t, .ref ot⟩] n) :: (r, oR) :: cut [g.c, g.da k] μ := fun x h a b =>
    .tail _ (.tail _ (.tail _ (mem_cut.mpr ⟨h, by simp [a, b]⟩)))
  have rlive : ∀ j, (j, r) ∉ st.rows := fun j h => by
    obtain ⟨o, _, hm, _⟩ := C.rowAt j r h
    exact f1 _ (List.mem_append_left _ hm) rfl
  have noid : ∀ j o, j < g.ex.length → (o, r) ∉ st.oids j := fun j o hj h => by
    obtain ⟨_, x, hx⟩ := C.oidLive j o r hj h
    exact f1 _ hx rfl
  refine ⟨fun j e h => (C.exprs j e h).mono sub, fun j hj => ?_, ⟨oc, .head _, hoc⟩, C.cacheLo, fun j x hx => ?_, fun j hn p => ?_, fun j x hx => ?_, ?_, fun i j x hx => ?_, fun j o x hj ho i k' hx => ?_, fun j o x hj ho => ?_, fun j hj => ?_, ?_, C.seen, fun j p v e h1 h2 => ?_, C.done, C.errLt, ?_, ?_⟩
  · by_cases hjk : j = k
    · subst hjk
      refine ⟨_, rfl, .inr ⟨hsh, t, ot, pa :: pas, n, .tail _ (.head _), .head _, ?_⟩⟩
      simp only [St.newRow, if_true]
      exact .cons (.tail _ (.head _)) (hos.mono sub)
    · obtain ⟨os, e, h⟩ := C.dicts j hj
      refine ⟨os, by simp only [St.newRow, if_neg hjk]; exact e, ?_⟩
      rcases h with ⟨a, b⟩ | ⟨hh, tt, ot', pas', n', a, b, c⟩
      · exact .inl ⟨a, keep _ b (D.d_c j hj) (D.d_d j k hj hk hjk)⟩
      · exact .inr ⟨hh, tt, ot', pas', n', keep _ a (D.d_c j hj) (D.d_d j k hj hk hjk), sub _ b, c.mono sub⟩
  · rcases List.mem_append.mp hx with hx | hx
    · obtain ⟨o, ents, a, b, c, d, e⟩ := C.rowAt j x hx
      exact ⟨o, ents, keep _ a (D.r_c j x hx) (D.r_d j x k hx hk), b, c, d, e⟩
    · cases List.mem_singleton.mp hx
      exact ⟨oR, [], .tail _ (.tail _ (.head _)), hR, hlo, fun p => by rw [valueAt_nil]; exact (C.noRow k hnew p).symm, fun q hq => nomatch hq⟩
  · exact C.noRow j (fun x hx => hn x (List.mem_append_left _ hx)) p
  · rcases List.mem_append.mp hx with hx | hx
    · exact C.rowsLt j x hx
    · cases List.mem_singleton.mp hx; exact hk
  · show ((st.rows ++ [(k, r)]).map (·.1)).Nodup
    rw [List.map_append, List.nodup_append]
    refine ⟨C.rowsNd, by simp, fun a ha b hb e => ?_⟩
    rw [List.map_singleton, List.mem_singleton] at hb
    obtain ⟨⟨a', x⟩, hx, rfl⟩ := List.mem_map.mp ha
    exact hnew x (by rw [← (e.trans hb : a' = k)]; exact hx)
  · change (st.rows ++ [(k, r)])[i]? = some (j, x) at hx
    rw [List.getElem?_append] at hx
    split at hx
    · have := C.oidOwn i j x hx
      simp only [St.newRow]
      split
      · rename_i e; subst e; exact .tail _ this
      · exact this
    · rename_i hi
      have : i - st.rows.length = 0 := by
        have := (List.getElem?_eq_some_iff.mp hx).1
        simp only [List.length_cons, List.length_nil] at this
        omega
      rw [this] at hx
      simp only [List.getElem?_cons_zero, Option.some.injEq, Prod.mk.injEq] at hx
      obtain ⟨rfl, rfl⟩ := hx
      simp only [St.newRow, if_true]
      rw [show i = st.rows.length by omega]
      exact .head _
  · change (st.rows ++ [(k, r)])[i]? = some (k', x) at hx
    have hlast : ¬ i < st.rows.length → i = st.rows.length ∧ k' = k ∧ x = r := fun hi => by
      rw [List.getElem?_append, if_neg hi] at hx
      have h0 : i - st.rows.length = 0 := by
        have := (List.getElem?_eq_some_iff.mp hx).1
        simp only [List.length_cons, List.length_nil] at this
        omega
      rw [h0] at hx
      simp only [List.getElem?_cons_zero, Option.some.injEq, Prod.mk.injEq] at hx
      exact ⟨by omega, hx.1.symm, hx.2.symm⟩
    have hold : i < st.rows.length → st.rows[i]? = some (k', x) := fun hi => by rwa [List.getElem?_append, if_pos hi] at hx
    have old : (o, x) ∈ st.oids j → k' = j ∧ o = (i : Int) := fun hh => by
      by_cases hi : i < st.rows.length
      · exact C.oidOnly j o x hj hh i k' (hold hi)
      · obtain ⟨_, _, hxr⟩ := hlast hi
        exact absurd (hxr ▸ hh) (noid j o hj)
    simp only [St.newRow] at ho
    split at ho
    · rename_i e
      subst e
      rcases List.mem_cons.mp ho with ho | ho
      · obtain ⟨rfl, rfl⟩ := Prod.mk.inj ho
        by_cases hi : i < st.rows.length
        · exact absurd (List.mem_of_getElem? (hold hi)) (rlive k')
        · obtain ⟨a, b, _⟩ := hlast hi
          exact ⟨b, by rw [a]⟩
      · exact old ho
    · exact old ho
  · have old : (o, x) ∈ st.oids j → x ≠ g.ea ∧ ∃ y, (x, y) ∈ ((g.c, oc) :: (g.da k, dictOf [⟨hsh, .str (PySem.Str.ofString "oids") t, .ref ot⟩] n) :: (r, oR) :: cut [g.c, g.da k] μ) ++ ((ot, tupO ((pa :: pas).map .ref)) :: (pa, tupO [.int st.rows.length tn, .ref r]) :: ι) := fun ho => by
      obtain ⟨hne, y, hy⟩ := C.oidLive j o x hj ho
      refine ⟨hne, ?_⟩
      rcases List.mem_append.mp hy with hy | hy
      · by_cases a : x = g.c
        · subst a; exact ⟨oc, List.mem_append_left _ (.head _)⟩
        · by_cases b : x = g.da k
          · subst b; exact ⟨_, List.mem_append_left _ (.tail _ (.head _))⟩
          · exact ⟨y, List.mem_append_left _ (keep _ hy a b)⟩
      · exact ⟨y, List.mem_append_right _ (sub _ hy)⟩
    simp only [St.newRow] at ho
    split at ho
    · rename_i e
      subst e
      rcases List.mem_cons.mp ho with ho | ho
      · obtain ⟨rfl, rfl⟩ := Prod.mk.inj ho
        exact ⟨fun e => by
          obtain ⟨_, _, _, _, _, _, _, _, _, hm, _⟩ := C.err
          exact f1 _ (List.mem_append_left _ hm) e.symm, oR, List.mem_append_left _ (.tail _ (.tail _ (.head _)))⟩
      · exact old ho
    · exact old ho
  · by_cases hjk : j = k
    · subst hjk
      have := (C.oidFew j hj).2 hnew
      simp only [St.newRow, if_true, List.length_cons]
      exact ⟨by omega, fun h => absurd (List.mem_append_right _ (.head _)) (h r)⟩
    · have := C.oidFew j hj
      simp only [St.newRow, if_neg hjk]
      exact ⟨this.1, fun h => this.2 fun x hx => h x (List.mem_append_left _ hx)⟩
  · obtain ⟨ar, a1, a2, a3, b1, b2, b3, b4, n', x, y⟩ := C.err
    exact ⟨ar, a1, a2, a3, b1, b2, b3, b4, n', keep _ x D.c_ea.symm (D.d_ea k hk).symm, keep _ y D.c_ed.symm (D.d_ed k hk).symm⟩
  · have := C.vals j p v e h1 h2
    change if (j, p) ∈ st.ip then _ else _
    split
    · rename_i h; rw [if_pos h] at this; exact this
    · rename_i h; rw [if_neg h] at this; exact this.mono .refl sub
  · have lv := C.live
    have hnd := C.nd
    unfold mlist at hnd ⊢
    have hr : ∀ a ∈ mlist g st, a ≠ r := fun a ha e => by
      obtain ⟨o, ho⟩ := lv a ha
      exact f1 _ (List.mem_append_left _ ho) e
    unfold mlist at hr
    have perm : (g.c :: g.ea :: g.ed :: ((st.newRow k r).rows.map (·.2) ++ (List.range g.ex.length).map g.da)).Perm (r :: g.c :: g.ea :: g.ed :: (st.rows.map (·.2) ++ (List.range g.ex.length).map g.da)) := by
      have e : (st.newRow k r).rows.map (·.2) = st.rows.map (·.2) ++ [r] := by simp [St.newRow]
      rw [e, List.append_assoc]
      have p1 : (st.rows.map (·.2) ++ ([r] ++ (List.range g.ex.length).map g.da)).Perm (r :: (st.rows.map (·.2) ++ (List.range g.ex.length).map g.da)) := List.perm_middle
      refine ((p1.cons g.ed).cons g.ea |>.cons g.c).trans ?_
      refine ((((List.Perm.swap r g.ed _).cons g.ea).cons g.c)).trans ?_
      refine ((List.Perm.swap r g.ea _).cons g.c).trans ?_
      exact List.Perm.swap r g.c _
    rw [perm.nodup_iff, List.nodup_cons]
    exact ⟨fun h => hr r h rfl, hnd⟩
  · intro x hx y hy
    have hy' : y.1 = g.c ∨ y.1 = g.da k ∨ y.1 = r ∨ ∃ o, (y.1, o) ∈ μ := by
      simp only [List.mem_cons] at hy
      rcases hy with rfl | rfl | rfl | hy
      · exact .inl rfl
      · exact .inr (.inl rfl)
      · exact .inr (.inr (.inl rfl))
      · exact .inr (.inr (.inr ⟨y.2, (mem_cut.mp hy).1⟩))
    have hy2 : y.1 = r ∨ ∃ o, (y.1, o) ∈ μ := by
      rcases hy' with e | e | e | e
      · right; rw [e]; exact C.live _ (.head _)
      · right; rw [e]; exact C.live _ (by unfold mlist; simp only [List.mem_cons, List.mem_append, List.mem_map, List.mem_range]; exact .inr (.inr (.inr (.inr ⟨k, hk, rfl⟩))))
      · exact .inl e
      · exact .inr e
    simp only [List.mem_cons] at hx
    rcases hx with rfl | rfl | hx
    · rcases hy2 with e | ⟨o, e⟩
      · rw [e]; exact h1.symm
      · exact (f2 _ (List.mem_append_left _ e)).symm
    · rcases hy2 with e | ⟨o, e⟩
      · rw [e]; exact h2.symm
      · exact (f3 _ (List.mem_append_left _ e)).symm
    · rcases hy2 with e | ⟨o, e⟩
      · rw [e]; exact f1 _ (List.mem_append_right _ hx)
      · exact C.iota x hx (y.1, o) e

theorem CInv.putMemo (C : CInv prog w g st μ ι) {k q : Nat} {r : Addr} {v : Value} {o o' : Obj} {ents : List (Int × Value)} (st' : St) (hrow : (k, r) ∈ st.rows) (hq : q ≤ g.text.length) (hm : (r, o) ∈ μ)
    (hv : ∀ p : Nat, valueAt ents (p : Int) = st.memo k p) (hks : ∀ q ∈ ents, ∃ p : Nat, p ≤ g.text.length ∧ q.1 = (p : Int)) (hd' : o'.IsDictOf (intKind prog w) (stored ents (q : Int) v))
    (h1 : st'.oids = st.oids) (h2 : st'.rows = st.rows) (h3 : st'.memo = fun j p => if j = k ∧ p = q then some v else st.memo j p) (h4 : st'.ps.err = st.ps.err)
    (seen : ∀ k p, (st'.memo k p).isSome = true ↔ (k, p) ∈ st'.ps.seen)
    (vals : ∀ k p v e, st'.memo k p = some v → g.ex[k]? = some e → if (k, p) ∈ st'.ip then v = inProg else ValOk g st'.memo ι e k p v)
    (done : ∀ (k p : Nat) v e, st'.memo k p = some v → g.ex[k]? = some e → (k, p) ∉ st'.ip → g.sem k p ≠ none → ∀ c ∈ e.kids g.sem g.text.length p, c ∉ st'.ip) :
    CInv prog w g st' ((r, o') :: cut [r] μ) ι := by
  have D := ndF C.nd
  have keep : ∀ x ∈ μ, x.1 ≠ r → x ∈ (r, o') :: cut [r] μ := fun x h a => .tail _ (mem_cut.mpr ⟨h, by simp [a]⟩)
  have hml : mlist g st' = mlist g st := by unfold mlist; rw [h2]
  refine ⟨C.exprs, fun j hj => ?_, ?_, C.cacheLo, fun j x hx => ?_, fun j hn p => ?_, fun j x hx => ?_, ?_, fun i j x hx => ?_, fun j o x hj ho i k' hx => ?_, fun j o x hj ho => ?_, by rw [h1, h2]; exact C.oidFew, ?_, seen, vals, done, by rw [h4]; exact C.errLt, by rw [hml]; exact C.nd, ?_⟩
  · rw [h1]
    have hne : g.da j ≠ r := (D.r_d k r j hrow hj).symm
    obtain ⟨os, e, h⟩ := C.dicts j hj
    refine ⟨os, e, ?_⟩
    rcases h with ⟨a, b⟩ | ⟨hh, tt, ot', pas', n', a, b, c⟩
    · exact .inl ⟨a, keep _ b hne⟩
    · exact .inr ⟨hh, tt, ot', pas', n', keep _ a hne, b, c⟩
  · rw [h2]
    obtain ⟨oc, a, b⟩ := C.cache
    exact ⟨oc, keep _ a (D.r_c k r hrow).symm, b⟩
  · rw [h2] at hx
    obtain ⟨o₁, ents₁, a, b, c, d, e⟩ := C.rowAt j x hx
    by_cases hjk : j = k
    · subst hjk
      have hxr : x = r := by
        have := nodup_inj C.rowsNd hx hrow rfl
        exact congrArg Prod.snd this
      subst hxr
      refine ⟨o', _, .head _, hd', c, fun p => ?_, fun y hy => ?_⟩
      · rw [valueAt_stored, h3]
        by_cases hp : p = q
        · subst hp; rw [if_pos rfl]; simp
        · rw [if_neg (by omega), hv]; dsimp only; rw [if_neg (fun e => hp e.2)]
      · rcases mem_stored hy with e | h
        · exact ⟨q, hq, e⟩
        · exact hks y h
    · refine ⟨o₁, ents₁, keep _ a (fun e : x = r => hjk (D.r_r j r k (e ▸ hx) hrow)), b, c, fun p => ?_, e⟩
      rw [d, h3]; dsimp only; rw [if_neg (fun e => hjk e.1)]
  · rw [h3]
    dsimp only
    rw [if_neg]
    · rw [h2] at hn; exact C.noRow j hn p
    · rintro ⟨rfl, _⟩; exact hn r (by rw [h2]; exact hrow)
  · rw [h2] at hx; exact C.rowsLt j x hx
  · rw [h2]; exact C.rowsNd
  · rw [h2] at hx; rw [h1]; exact C.oidOwn i j x hx
  · rw [h2] at hx; rw [h1] at ho; exact C.oidOnly j o x hj ho i k' hx
  · rw [h1] at ho
    obtain ⟨hne, y, hy⟩ := C.oidLive j o x hj ho
    refine ⟨hne, ?_⟩
    rcases List.mem_append.mp hy with hy | hy
    · by_cases a : x = r
      · subst a; exact ⟨o', List.mem_append_left _ (.head _)⟩
      · exact ⟨y, List.mem_append_left _ (keep _ hy a)⟩
    · exact ⟨y, List.mem_append_right _ hy⟩
  · rw [h4]
    obtain ⟨ar, a1, a2, a3, b1, b2, b3, b4, n', x, y⟩ := C.err
    exact ⟨ar, a1, a2, a3, b1, b2, b3, b4, n', keep _ x (D.r_ea k r hrow).symm, keep _ y (D.r_ed k r hrow).symm⟩
  · intro x hx y hy
    rcases List.mem_cons.mp hy with rfl | hy
    · exact C.iota x hx (r, o) hm
    · exact C.iota x hx _ (mem_cut.mp hy).1

/-- kids of a done value are told -/
theorem ValOk.kidTold {memo : Nat → Nat → Option Value} {e : Ex} {k p : Nat} {v : Value} (h : ValOk g memo ι e k p v) (hs : g.sem k p ≠ none) : ∀ c ∈ e.kids g.sem g.text.length p, (memo c.1 c.2).isSome = true := by
  unfold ValOk at h
  split at h
  · rename_i e; exact absurd e hs
  · obtain ⟨a, _, dx, od, cl, ep, bs, tp, te, _, _, _, hk⟩ := h
    intro c hc
    have : memo c.1 c.2 ∈ (bs : List Addr).map fun b => some (.ref b) := by rw [← hk]; exact List.mem_map.mpr ⟨c, hc, rfl⟩
    obtain ⟨b, _, hb⟩ := List.mem_map.mp this
    rw [← hb]; rfl
theorem ValOk.told {memo memo' : Nat → Nat → Option Value} {e : Ex} {k p : Nat} {v : Value} (h : ValOk g memo ι e k p v) (hs : g.sem k p ≠ none → ∀ c ∈ e.kids g.sem g.text.length p, memo' c.1 c.2 = memo c.1 c.2) : ValOk g memo' ι e k p v := by
  unfold ValOk at h ⊢
  split
  · rename_i e; rw [e] at h; exact h
  · rename_i f e
    rw [e] at h
    obtain ⟨a, x, dx, od, cl, ep, bs, tp, te, h1, h2, h3, hk⟩ := h
    refine ⟨a, x, dx, od, cl, ep, bs, tp, te, h1, h2, h3, ?_⟩
    rw [← hk]
    exact List.map_congr_left fun c hc => hs (by rw [e]; exact fun h => nomatch h) c hc

theorem CInv.begin (C : CInv prog w g st μ ι) {k q : Nat} {r : Addr} {o o' : Obj} {ents : List (Int × Value)} (hrow : (k, r) ∈ st.rows) (hq : q ≤ g.text.length) (hm : (r, o) ∈ μ)
    (hv : ∀ p : Nat, valueAt ents (p : Int) = st.memo k p) (hks : ∀ q ∈ ents, ∃ p : Nat, p ≤ g.text.length ∧ q.1 = (p : Int)) (hd' : o'.IsDictOf (intKind prog w) (stored ents (q : Int) inProg)) (hn : st.memo k q = none) :
    CInv prog w g (st.begin k q) ((r, o') :: cut [r] μ) ι ∧ MemoLe st.memo (st.begin k q).memo := by
  have ml : MemoLe st.memo (st.begin k q).memo := fun j p v h => by
    simp only [St.begin]
    rw [if_neg]; exact h
    rintro ⟨rfl, rfl⟩; rw [hn] at h; cases h
  refine ⟨C.putMemo _ hrow hq hm hv hks hd' rfl rfl rfl rfl (fun j p => ?_) (fun j p v e h1 h2 => ?_) fun j p v e h1 h2 h3 h4 c hc => ?_, ml⟩
  · simp only [St.begin]
    by_cases h : j = k ∧ p = q
    · obtain ⟨rfl, rfl⟩ := h; simp
    · rw [if_neg h, C.seen, List.mem_cons, Prod.mk.injEq]
      exact ⟨.inr, fun x => x.resolve_left h⟩
  · by_cases h : j = k ∧ p = q
    · obtain ⟨rfl, rfl⟩ := h
      simp only [St.begin, and_self, if_true] at h1
      rw [if_pos (show (j, p) ∈ (st.begin j p).ip from .head _)]
      exact (Option.some.inj h1).symm
    · have h1' : st.memo j p = some v := by simp only [St.begin] at h1; rwa [if_neg h] at h1
      have := C.vals j p v e h1' h2
      have hip : (j, p) ∈ (st.begin k q).ip ↔ (j, p) ∈ st.ip := by
        simp only [St.begin, List.mem_cons, Prod.mk.injEq]
        exact ⟨fun x => x.resolve_left h, .inr⟩
      by_cases hi : (j, p) ∈ st.ip
      · rw [if_pos (hip.mpr hi)]; rw [if_pos hi] at this; exact this
      · rw [if_neg (fun x => hi (hip.mp x))]; rw [if_neg hi] at this; exact this.mono ml fun _ h => h
  · have h : ¬(j = k ∧ p = q) := by rintro ⟨rfl, rfl⟩; exact h3 (.head _)
    have h1' : st.memo j p = some v := by simp only [St.begin] at h1; rwa [if_neg h] at h1
    have hi : (j, p) ∉ st.ip := fun x => h3 (.tail _ x)
    have hval := C.vals j p v e h1' h2
    rw [if_neg hi] at hval
    intro hcm
    rcases List.mem_cons.mp hcm with rfl | hcm
    · have := hval.kidTold h4 _ hc
      rw [hn] at this; cases this
    · exact C.done j p v e h1' h2 hi h4 c hc hcm

theorem kids_below {sem : Nat → Nat → Option Nat} {size : Nat} {e : Ex} {k : Nat} (hb : e.below k) (p : Nat) : ∀ q ∈ e.kids sem size p, q.1 < k := by
  cases e with
  | lit _ => exact fun _ h => nomatch h
  | seq ks => exact fun q h => hb _ (seqAsks_sub _ _ _ _ h)
  | alt ks =>
    intro q h
    refine hb _ ?_
    have : ∀ (ks : List Nat), q ∈ altKids sem ks p → q.1 ∈ ks := by
      intro ks
      induction ks with
      | nil => exact fun h => nomatch h
      | cons j r ih =>
        intro h
        rw [altKids] at h
        split at h
        · exact .tail _ (ih h)
        · rw [List.mem_singleton.mp h]; exact .head _
    exact this ks h
  | look _ _ => exact fun _ h => nomatch h
  | rep j mn mx =>
    intro q h
    have : ∀ n c p, q ∈ (repRun sem size j mn mx n c p).kids → q.1 = j := by
      intro n
      induction n with
      | zero => exact fun _ _ h => nomatch h
      | succ n ih =>
        intro c p h
        rw [repRun] at h
        split at h
        · split at h
          · cases h
          · split at h
            · rw [List.mem_singleton.mp h]
            · rcases List.mem_cons.mp h with rfl | h
              · rfl
              · exact ih _ _ h
        · cases h
    rw [this _ _ _ h]; exact hb

theorem CInv.finish (C : CInv prog w g st μ ι) (G : GOk g) {k q : Nat} {r : Addr} {v : Value} {o o' : Obj} {ents : List (Int × Value)} {ip₀ : List (Nat × Nat)} {e : Ex} (hrow : (k, r) ∈ st.rows) (hq : q ≤ g.text.length) (hm : (r, o) ∈ μ)
    (hv : ∀ p : Nat, valueAt ents (p : Int) = st.memo k p) (hks : ∀ q ∈ ents, ∃ p : Nat, p ≤ g.text.length ∧ q.1 = (p : Int)) (hd' : o'.IsDictOf (intKind prog w) (stored ents (q : Int) v))
    (hip : st.ip = (k, q) :: ip₀) (hi : ∀ x ∈ ip₀, k < x.1) (hs : st.memo k q = some inProg) (he : g.ex[k]? = some e) (hval : ValOk g st.memo ι e k q v) :
    CInv prog w g (st.fin k q v) ((r, o') :: cut [r] μ) ι := by
  have hfip : (st.fin k q v).ip = ip₀ := by simp only [St.fin, hip, List.tail_cons]
  have hself : ∀ c ∈ e.kids g.sem g.text.length q, c.1 < k := kids_below (G.below k e he) q
  refine C.putMemo _ hrow hq hm hv hks hd' rfl rfl rfl rfl (fun j p => ?_) (fun j p v' e' h1 h2 => ?_) fun j p v' e' h1 h2 h3 h4 c hc => ?_
  · simp only [St.fin]
    by_cases h : j = k ∧ p = q
    · obtain ⟨rfl, rfl⟩ := h
      simp only [and_self, if_true, Option.isSome_some, true_iff]
      exact (C.seen j p).mp (by rw [hs]; rfl)
    · rw [if_neg h, C.seen]
  · rw [hfip]
    by_cases h : j = k ∧ p = q
    · obtain ⟨rfl, rfl⟩ := h
      simp only [St.fin, and_self, if_true, Option.some.injEq] at h1
      subst h1
      rw [he] at h2; cases h2
      rw [if_neg (fun x => absurd (hi _ x) (Nat.lt_irrefl _))]
      refine hval.told fun _ c hc => ?_
      simp only [St.fin]
      rw [if_neg]
      rintro ⟨e1, _⟩
      have := hself c hc
      omega
    · have h1' : st.memo j p = some v' := by simp only [St.fin] at h1; rwa [if_neg h] at h1
      have := C.vals j p v' e' h1' h2
      rw [hip] at this
      by_cases hj : (j, p) ∈ ip₀
      · rw [if_pos hj]; rw [if_pos (.tail _ hj)] at this; exact this
      · have hni : (j, p) ∉ (k, q) :: ip₀ := fun x => by
          rcases List.mem_cons.mp x with x | x
          · exact h (Prod.mk.inj x)
          · exact hj x
        rw [if_neg hj]; rw [if_neg hni] at this
        refine this.told fun hs' c hc => ?_
        have := C.done j p v' e' h1' h2 (by rw [hip]; exact hni) hs' c hc
        simp only [St.fin]
        rw [if_neg]
        rintro ⟨e1, e2⟩
        refine this ?_
        rw [hip]
        have : c = (k, q) := Prod.ext e1 e2
        rw [this]; exact .head _
  · rw [hfip] at h3 ⊢
    by_cases h : j = k ∧ p = q
    · obtain ⟨rfl, rfl⟩ := h
      rw [he] at h2; cases h2
      intro hx
      have := hself c hc
      have := hi _ hx
      omega
    · have h1' : st.memo j p = some v' := by simp only [St.fin] at h1; rwa [if_neg h] at h1
      have hni : (j, p) ∉ st.ip := fun x => by
        rw [hip] at x
        rcases List.mem_cons.mp x with x | x
        · exact h (Prod.mk.inj x)
        · exact h3 x
      exact fun hx => C.done j p v' e' h1' h2 hni h4 c hc (by rw [hip]; exact .tail _ hx)

theorem CInv.noted (C : CInv prog w g st μ ι) {k q : Nat} (hk : k < g.ex.length) {od od' : Obj} (hod : (g.ed, od) ∈ μ)
    {h1 h2 h3 : Int} {t1 t2 t3 tp : Tok} {n : Nat} (he : od' = dictOf (errEs g h1 h2 h3 t1 t2 t3 tp ((q : Int), some k)) n) : CInv prog w g (st.err k q) ((g.ed, od') :: cut [g.ed] μ) ι := by
  have D := ndF C.nd
  have keep : ∀ x ∈ μ, x.1 ≠ g.ed → x ∈ (g.ed, od') :: cut [g.ed] μ := fun x h a => .tail _ (mem_cut.mpr ⟨h, by simp [a]⟩)
  refine ⟨C.exprs, fun j hj => ?_, ?_, C.cacheLo, fun j x hx => ?_, C.noRow, C.rowsLt, C.rowsNd, C.oidOwn, C.oidOnly, fun j o x hj ho => ?_, C.oidFew, ?_, C.seen, C.vals, C.done, fun j e => by cases e; exact hk, C.nd, ?_⟩
  · obtain ⟨os, e, h⟩ := C.dicts j hj
    refine ⟨os, e, ?_⟩
    rcases h with ⟨a, b⟩ | ⟨hh, tt, ot', pas', n', a, b, c⟩
    · exact .inl ⟨a, keep _ b (D.d_ed j hj)⟩
    · exact .inr ⟨hh, tt, ot', pas', n', keep _ a (D.d_ed j hj), b, c⟩
  · obtain ⟨oc, a, b⟩ := C.cache
    exact ⟨oc, keep _ a D.c_ed, b⟩
  · obtain ⟨o₁, ents₁, a, b, c, d, e⟩ := C.rowAt j x hx
    exact ⟨o₁, ents₁, keep _ a (D.r_ed j x hx), b, c, d, e⟩
  · obtain ⟨hne, y, hy⟩ := C.oidLive j o x hj ho
    refine ⟨hne, ?_⟩
    rcases List.mem_append.mp hy with hy | hy
    · by_cases a : x = g.ed
      · subst a; exact ⟨od', List.mem_append_left _ (.head _)⟩
      · exact ⟨y, List.mem_append_left _ (keep _ hy a)⟩
    · exact ⟨y, List.mem_append_right _ hy⟩
  · obtain ⟨ar, a1, a2, a3, b1, b2, b3, b4, n', x, y⟩ := C.err
    exact ⟨ar, h1, h2, h3, t1, t2, t3, tp, n, keep _ x D.ea_ed, by rw [he]; exact .head _⟩
  · intro x hx y hy
    rcases List.mem_cons.mp hy with rfl | hy
    · exact C.iota x hx (g.ed, od) hod
    · exact C.iota x hx _ (mem_cut.mp hy).1
end
theorem cut_sep {as : List Addr} {ρ μ ι : Led} {r : Addr} {o o' : Obj} (hm : (r, o) ∈ μ) (S : Sep ρ (μ ++ ι)) : Sep ρ (((r, o') :: cut as μ) ++ ι) := fun x hx y hy => by
  rcases List.mem_append.mp hy with hy | hy
  · rcases List.mem_cons.mp hy with rfl | hy
    · exact S x hx (r, o) (List.mem_append_left _ hm)
    · exact S x hx y (List.mem_append_left _ (mem_cut.mp hy).1)
  · exact S x hx y (List.mem_append_right _ hy)
theorem mem_cutIn {x : Addr × Obj} {ρ M ι : Led} : ∀ y ∈ ρ ++ ((x :: M) ++ ι), y ∈ x :: (ρ ++ (M ++ ι)) := fun y hy => by
  simp only [List.mem_append, List.mem_cons] at hy ⊢
  rcases hy with h | (h | h) | h
  · exact .inr (.inl h)
  · exact .inl h
  · exact .inr (.inr (.inl h))
  · exact .inr (.inr (.inr h))
section
variable {prog : Program} {w : World} {g : Gram} {st : St} {ρ μ ι R : Led} {h₀ h : Heap} {L : Addr}
theorem CInv.beginL (C : CInv prog w g st μ ι) (S : Sep ρ (μ ++ ι)) {k q : Nat} {r : Addr} {o o' : Obj} {ents : List (Int × Value)} (hR : R = ρ ++ (cut [r] μ ++ ι)) (N : News h₀ L h ((r, o') :: R)) (hrow : (k, r) ∈ st.rows) (hq : q ≤ g.text.length) (hm : (r, o) ∈ μ)
    (hv : ∀ p : Nat, valueAt ents (p : Int) = st.memo k p) (hks : ∀ q ∈ ents, ∃ p : Nat, p ≤ g.text.length ∧ q.1 = (p : Int)) (hd' : o'.IsDictOf (intKind prog w) (stored ents (q : Int) inProg)) (hn : st.memo k q = none) :
    ∃ μ', News h₀ L h (ρ ++ (μ' ++ ι)) ∧ Sep ρ (μ' ++ ι) ∧ CInv prog w g (st.begin k q) μ' ι ∧ StLe st (st.begin k q) := by
  obtain ⟨a, b⟩ := C.begin hrow hq hm hv hks hd' hn
  subst hR
  exact ⟨_, news_sub N mem_cutIn, cut_sep hm S, a, b, fun _ h => h⟩
theorem CInv.finishL (C : CInv prog w g st μ ι) (S : Sep ρ (μ ++ ι)) (G : GOk g) {k q : Nat} {r : Addr} {v : Value} {o o' : Obj} {ents : List (Int × Value)} {ip₀ : List (Nat × Nat)} {e : Ex} (hR : R = ρ ++ (cut [r] μ ++ ι)) (N : News h₀ L h ((r, o') :: R)) (hrow : (k, r) ∈ st.rows) (hq : q ≤ g.text.length) (hm : (r, o) ∈ μ)
    (hv : ∀ p : Nat, valueAt ents (p : Int) = st.memo k p) (hks : ∀ q ∈ ents, ∃ p : Nat, p ≤ g.text.length ∧ q.1 = (p : Int)) (hd' : o'.IsDictOf (intKind prog w) (stored ents (q : Int) v))
    (hip : st.ip = (k, q) :: ip₀) (hi : ∀ x ∈ ip₀, k < x.1) (hs : st.memo k q = some inProg) (he : g.ex[k]? = some e) (hval : ValOk g st.memo ι e k q v) :
    ∃ μ', News h₀ L h (ρ ++ (μ' ++ ι)) ∧ Sep ρ (μ' ++ ι) ∧ CInv prog w g (st.fin k q v) μ' ι := by
  have a := C.finish G hrow hq hm hv hks hd' hip hi hs he hval
  subst hR
  exact ⟨_, news_sub N mem_cutIn, cut_sep hm S, a⟩
theorem CInv.notedL (C : CInv prog w g st μ ι) (S : Sep ρ (μ ++ ι)) {k q : Nat} (hk : k < g.ex.length) {od : Obj} (hod : (g.ed, od) ∈ μ) (hR : R = ρ ++ (cut [g.ed] μ ++ ι))
    {h1 h2 h3 : Int} {t1 t2 t3 tp : Tok} {n : Nat} (N : News h₀ L h ((g.ed, dictOf (errEs g h1 h2 h3 t1 t2 t3 tp ((q : Int), some k)) n) :: R)) :
    ∃ μ', News h₀ L h (ρ ++ (μ' ++ ι)) ∧ Sep ρ (μ' ++ ι) ∧ CInv prog w g (st.err k q) μ' ι := by
  have a := C.noted (k := k) (q := q) hk hod (od' := dictOf (errEs g h1 h2 h3 t1 t2 t3 tp ((q : Int), some k)) n) rfl
  subst hR
  exact ⟨_, news_sub N mem_cutIn, cut_sep hod S, a⟩
theorem split_row (N : News h₀ L h (ρ ++ (μ ++ ι))) (S : Sep ρ (μ ++ ι)) (Si : Sep ι μ) {r : Addr} {o : Obj} (hm : (r, o) ∈ μ) : ∃ R, R = ρ ++ (cut [r] μ ++ ι) ∧ News h₀ L h ((r, o) :: R) ∧ ∀ p ∈ R, p.1 ≠ r := by
  refine ⟨_, rfl, news_sub N fun x hx => ?_, cut_ne (as := [r]) (.head _) hm S Si⟩
  rcases List.mem_cons.mp hx with rfl | hx
  · exact List.mem_append_right _ (List.mem_append_left _ hm)
  · exact cut_sub x hx
end

/-! between two caches -/
def OdOk (ι : Led) (od : Obj) (os : List (Int × Addr)) : Prop :=
  (os = [] ∧ od = dictOf [] 0) ∨ ∃ h t ot pas n, od = dictOf [⟨h, .str (PySem.Str.ofString "oids") t, .ref ot⟩] n ∧ (ot, tupO (pas.map .ref)) ∈ ι ∧ OidsAt ι pas os
theorem OdOk.mono {ι ι' : Led} {od : Obj} {os : List (Int × Addr)} (hs : ∀ x ∈ ι, x ∈ ι') (h : OdOk ι od os) : OdOk ι' od os := by
  rcases h with h | ⟨a, b, c, d, e, f, i, j⟩
  · exact .inl h
  · exact .inr ⟨a, b, c, d, e, f, hs _ i, j.mono hs⟩
structure BInv (g : Gram) (os : Nat → List (Int × Addr)) (δ ι : Led) : Prop where
  exprs : ∀ (k : Nat) e, g.ex[k]? = some e → ExIn g ι k e
  dicts : ∀ k, k < g.ex.length → ∃ od, (g.da k, od) ∈ δ ∧ OdOk ι od (os k)
  live : ∀ k o r, k < g.ex.length → (o, r) ∈ os k → ∃ x, (r, x) ∈ δ ++ ι
  few : ∀ k, k < g.ex.length → (os k).length ≤ g.nth
  nd : ((List.range g.ex.length).map g.da).Nodup
  iota : Sep ι δ
def St.start (os : Nat → List (Int × Addr)) : St := ⟨os, [], fun _ _ => none, [], ⟨[], (-1, none)⟩⟩
def Gram.at (g : Gram) (c ea ed : Addr) : Gram := { g with c := c, ea := ea, ed := ed }
def Gram.next (g : Gram) : Gram := { g with nth := g.nth + 1 }
theorem GOk.at {g : Gram} (G : GOk g) (c ea ed : Addr) : GOk (g.at c ea ed) := ⟨G.below, G.sem, G.inText, G.small, G.few, G.nthLe, G.nmLen, G.kids4⟩
theorem ExIn.at {g : Gram} {σ : Led} {k : Nat} {e : Ex} (c ea ed : Addr) (h : ExIn g σ k e) : ExIn (g.at c ea ed) σ k e := by cases e <;> exact h
section
variable {prog : Program} {w : World} {g : Gram} {st : St} {μ ι δ : Led} {os : Nat → List (Int × Addr)}
theorem BInv.start (B : BInv g os δ ι) {c ea ed ar : Addr} {oc : Obj} {h1 h2 h3 : Int} {t1 t2 t3 tp : Tok} {n : Nat} (hc : oc.IsDictOf (intKind prog w) []) (hlo : (c == sysModules) = false)
    (f1 : ∀ x ∈ δ ++ ι, x.1 ≠ c) (f2 : ∀ x ∈ δ ++ ι, x.1 ≠ ea) (f3 : ∀ x ∈ δ ++ ι, x.1 ≠ ed) (n1 : c ≠ ea) (n2 : c ≠ ed) (n3 : ea ≠ ed) :
    CInv prog w (g.at c ea ed) (St.start os) ((c, oc) :: (ea, (⟨.ref 94, some ed, .fields #[.ref ar, .none, .none, .none, .bool false, .none], #[]⟩ : Obj)) ::
      (ed, dictOf [⟨h1, .str (PySem.Str.ofString "text") t1, .str g.text g.tt⟩, ⟨h2, .str (PySem.Str.ofString "pos") t2, .int (-1) tp⟩, ⟨h3, .str (PySem.Str.ofString "expr") t3, .none⟩] n) :: δ) ι := by
  have sub : ∀ x ∈ δ, x ∈ (c, oc) :: (ea, (⟨.ref 94, some ed, .fields #[.ref ar, .none, .none, .none, .bool false, .none], #[]⟩ : Obj)) ::
      (ed, dictOf [⟨h1, .str (PySem.Str.ofString "text") t1, .str g.text g.tt⟩, ⟨h2, .str (PySem.Str.ofString "pos") t2, .int (-1) tp⟩, ⟨h3, .str (PySem.Str.ofString "expr") t3, .none⟩] n) :: δ := fun x h => .tail _ (.tail _ (.tail _ h))
  refine ⟨fun k e h => (B.exprs k e h).at c ea ed, fun k h => ?_, ⟨oc, .head _, hc⟩, hlo, (fun _ _ h => (nomatch h)), fun _ _ _ => rfl, (fun _ _ h => (nomatch h)), List.nodup_nil, (fun i k r h => (by simp [St.start] at h)), (fun k o r _ _ i k' h => (by simp [St.start] at h)),
    fun k o r h h' => ?_, fun k h => ⟨Nat.le_succ_of_le (B.few k h), fun _ => B.few k h⟩, ?_, (fun k p => (by simp [St.start])), (fun k p v e h => (nomatch h)), (fun k p v e h => (nomatch h)), (fun k h => (nomatch h)), ?_, ?_⟩
  · obtain ⟨od, a, b⟩ := B.dicts k h
    refine ⟨os k, rfl, ?_⟩
    rcases b with ⟨x, rfl⟩ | ⟨hh, t, ot, pas, n', rfl, y, z⟩
    · exact .inl ⟨x, sub _ a⟩
    · exact .inr ⟨hh, t, ot, pas, n', sub _ a, y, z⟩
  · obtain ⟨x, hx⟩ := B.live k o r h h'
    refine ⟨f2 (r, x) hx, ?_⟩
    exact ⟨x, (List.mem_append.mp hx).elim (fun h => List.mem_append_left _ (sub _ h)) fun h => List.mem_append_right _ h⟩
  · exact ⟨ar, h1, h2, h3, t1, t2, t3, tp, n, .tail _ (.head _), .tail _ (.tail _ (.head _))⟩
  · have hd : ∀ a, (∀ x ∈ δ ++ ι, x.1 ≠ a) → a ∉ (List.range g.ex.length).map g.da := fun a ha hm => by
      obtain ⟨j, hj, rfl⟩ := List.mem_map.mp hm
      obtain ⟨od, h, _⟩ := B.dicts j (List.mem_range.mp hj)
      exact ha _ (List.mem_append_left _ h) rfl
    show (c :: ea :: ed :: ([] ++ (List.range g.ex.length).map g.da)).Nodup
    rw [List.nil_append]
    refine List.nodup_cons.mpr ⟨?_, List.nodup_cons.mpr ⟨?_, List.nodup_cons.mpr ⟨hd _ f3, B.nd⟩⟩⟩
    · simp only [List.mem_cons, not_or]; exact ⟨n1, n2, hd _ f1⟩
    · simp only [List.mem_cons, not_or]; exact ⟨n3, hd _ f2⟩
  · intro x hx y hy
    simp only [List.mem_cons] at hy
    rcases hy with rfl | rfl | rfl | hy
    · exact f1 x (List.mem_append_right _ hx)
    · exact f2 x (List.mem_append_right _ hx)
    · exact f3 x (List.mem_append_right _ hx)
    · exact B.iota x hx y hy
/-- the cache and the error report are put away: all but the expressions' dicts stays as it is -/
theorem CInv.stop (C : CInv prog w g st μ ι) : ∃ δ' ι' ar, BInv g.next st.oids δ' ι' ∧ (∀ x ∈ δ' ++ ι', x ∈ μ ++ ι ∧ x.1 ≠ g.ea) ∧ (∀ x ∈ ι, x ∈ ι') ∧ (g.ea, (⟨.ref 94, some g.ed, .fields #[.ref ar, .none, .none, .none, .bool false, .none], #[]⟩ : Obj)) ∈ μ := by
  have D := ndF C.nd
  let das := (List.range g.ex.length).map g.da
  let δ' := μ.filter fun x => das.contains x.1
  let κ := cut (g.ea :: das) μ
  obtain ⟨ar, _, _, _, _, _, _, _, _, hea, _⟩ := C.err
  have hδ : ∀ x, x ∈ δ' ↔ x ∈ μ ∧ x.1 ∈ das := fun x => by rw [List.mem_filter]; simp
  have hκ : ∀ x, x ∈ κ ↔ x ∈ μ ∧ x.1 ∉ g.ea :: das := fun x => mem_cut
  have sub : ∀ x ∈ ι, x ∈ κ ++ ι := fun x h => List.mem_append_right _ h
  refine ⟨δ', κ ++ ι, ar, ⟨fun k e h => ?_, fun k h => ?_, fun k o r h h' => ?_, fun k h => (C.oidFew k h).1, ?_, ?_⟩, fun x hx => ?_, sub, hea⟩
  · have := (C.exprs k e h).mono sub
    cases e <;> exact this
  · obtain ⟨oo, rfl, hh⟩ := C.dicts k h
    have hm : g.da k ∈ das := List.mem_map.mpr ⟨k, List.mem_range.mpr h, rfl⟩
    rcases hh with ⟨a, b⟩ | ⟨hh, t, ot, pas, n, a, b, c⟩
    · exact ⟨_, (hδ _).mpr ⟨b, hm⟩, .inl ⟨a, rfl⟩⟩
    · exact ⟨_, (hδ _).mpr ⟨a, hm⟩, .inr ⟨hh, t, ot, pas, n, rfl, sub _ b, c.mono sub⟩⟩
  · obtain ⟨hne, x, hx⟩ := C.oidLive k o r h h'
    refine ⟨x, ?_⟩
    rcases List.mem_append.mp hx with hx | hx
    · by_cases e : r ∈ das
      · exact List.mem_append_left _ ((hδ _).mpr ⟨hx, e⟩)
      · exact List.mem_append_right _ (List.mem_append_left _ ((hκ _).mpr ⟨hx, by simp only [List.mem_cons, not_or]; exact ⟨hne, e⟩⟩))
    · exact List.mem_append_right _ (sub _ hx)
  · have := C.nd
    unfold mlist at this
    rw [List.nodup_cons, List.nodup_cons, List.nodup_cons, List.nodup_append] at this
    exact this.2.2.2.2.1
  · intro x hx y hy
    obtain ⟨hy1, hy2⟩ := (hδ y).mp hy
    rcases List.mem_append.mp hx with hx | hx
    · intro e; exact ((hκ x).mp hx).2 (e ▸ List.mem_cons_of_mem _ hy2)
    · exact C.iota x hx y hy1
  · simp only [List.mem_append, hδ, hκ] at hx ⊢
    rcases hx with h | h | h
    · refine ⟨.inl h.1, fun e => ?_⟩
      obtain ⟨j, hj, e'⟩ := List.mem_map.mp h.2
      exact D.d_ea j (List.mem_range.mp hj) (e'.trans e)
    · exact ⟨.inl h.1, fun e => h.2 (e ▸ List.mem_cons_self)⟩
    · exact ⟨.inr h, C.iota x h _ hea⟩
end

/-! loops over anything that walks, the ledger free to change from turn to turn -/
section
variable {prog : Program} {w : World} {A : Around} {E : Value → Shared → Prop} {s : Shared} {env : Env} {h₀ : Heap}

/-- a turn's end: the next one may begin -/
def TEnd (h₀ : Heap) (L I : Addr) (oI : Obj) (J : (PySem.Str → Option Value) → Led → Prop) (s s₂ : Shared) : Prop :=
  ∃ h' tk m' ns', s₂ = { s with heap := h', toks := tk } ∧ Fr h₀ L h' m' ∧ News h₀ L h' ((I, oI) :: ns') ∧ (∀ p ∈ ns', p.1 ≠ I) ∧ J m' ns'
def TPost (h₀ : Heap) (L I : Addr) (oI : Obj) (J : (PySem.Str → Option Value) → Led → Prop) (s : Shared) (Q : Flow → Shared → Prop) (f : Flow) (s₂ : Shared) : Prop :=
  match f with
  | .ret v => Q (.ret v) s₂
  | .brk => Q .next s₂
  | _ => TEnd h₀ L I oI J s s₂
theorem TEnd.intro {L I : Addr} {oI : Obj} {J : (PySem.Str → Option Value) → Led → Prop} {s : Shared} {h' : Heap} {tk : Nat} {m' : PySem.Str → Option Value} {ns' : Led} (F : Fr h₀ L h' m') (N : News h₀ L h' ((I, oI) :: ns')) (hI : ∀ p ∈ ns', p.1 ≠ I) (hJ : J m' ns') :
    TEnd h₀ L I oI J s { s with heap := h', toks := tk } := ⟨h', tk, m', ns', rfl, F, N, hI, hJ⟩

theorem loop_walks {R : Result → Shared → Prop} {target : Expr} {body orelse : List Stmt} {I : Addr} {fp : List Addr} {n : Nat} {P : Nat → Value → Prop} {St : Nat → Heap → Prop} {m : PySem.Str → Option Value} {ns keep : Led} {oI : Obj}
    (W : Walks prog w A I fp [I] n P St) (J : Nat → (PySem.Str → Option Value) → Led → Prop)
    (hfp : ∀ b ∈ fp, b = I ∨ (∃ o, h₀.get? b = some o) ∨ ∃ o, (b, o) ∈ keep) (hIL : I ≠ env.locals)
    (F : Fr h₀ env.locals s.heap m) (N : News h₀ env.locals s.heap ((I, oI) :: ns)) (hI : ∀ p ∈ ns, p.1 ≠ I) (hst : St 0 s.heap) (h0 : J 0 m ns) (hk : ∀ i m ns, J i m ns → ∀ x ∈ keep, x ∈ ns)
    (hgo : ∀ i (s' : Shared) v (Q' : Unit → Shared → Prop), St i s'.heap → Q' () s' → wpAny (model prog w) A (letOwnedTupleGo target (.ref I) v) Q' (notedBy (model prog w) A env fun e s' => R (.error e) s') s')
    (alive : ∀ i h, St i h → ∃ o, h.get? I = some o)
    (turn : ∀ i v m₁ ns₁ h tk oJ, i < n → P i v → J i m₁ ns₁ → Fr h₀ env.locals h m₁ → News h₀ env.locals h ((I, oJ) :: ns₁) → (∀ p ∈ ns₁, p.1 ≠ I) →
      wpAny (model prog w) A (assign target env v) (fun _ s₂ => wpAny (model prog w) A (execs body env) (TPost h₀ env.locals I oJ (J (i + 1)) { s with heap := h, toks := tk } fun f s' => R (.ok f) s') (notedBy (model prog w) A env fun e s' => R (.error e) s') s₂) (notedBy (model prog w) A env fun e s' => R (.error e) s') { s with heap := h, toks := tk })
    (done : ∀ m₁ ns₁ h tk, J n m₁ ns₁ → Fr h₀ env.locals h m₁ → News h₀ env.locals h ns₁ →
      wpAny (model prog w) A (execs orelse env) (fun f s' => R (.ok f) s') (notedBy (model prog w) A env fun e s' => R (.error e) s') { s with heap := h, toks := tk }) :
    codeAny (model prog w) A (.forLoop target (.ref I) body orelse env) R s := by
  have hIn : h₀.get? I = none := (N (I, oI) (.head _)).2.2
  refine codeAny_forLoop_any
    (fun k s' => ∃ h' tk m' ns' i o, s' = { s with heap := h', toks := tk } ∧ St i h' ∧ Fr h₀ env.locals h' m' ∧ News h₀ env.locals h' ((I, o) :: ns') ∧ (∀ p ∈ ns', p.1 ≠ I) ∧ J i m' ns' ∧ i ≤ n ∧ k = n + 1 - i) ?_ (n + 1)
    ⟨s.heap, s.toks, m, ns, 0, oI, rfl, hst, F, N, hI, h0, Nat.zero_le _, rfl⟩
  rintro k s' ⟨h', tk, m', ns', i, o, rfl, hst', F', N', hI', hJ, hi, rfl⟩
  have next : ∀ h₁ : Heap, (∀ b x, b ∉ [I] → h'.get? b = some x → h₁.get? b = some x) → Fr h₀ env.locals h₁ m' ∧ News h₀ env.locals h₁ ns' := fun h₁ hk₁ =>
    ⟨⟨F'.ns.at' fun x e => hk₁ _ x (fun hm => hIL (List.mem_singleton.mp hm).symm) e, fun b x e => hk₁ b x (fun hm => by rw [List.mem_singleton.mp hm, hIn] at e; cases e) (F'.keep b x e), F'.above⟩,
     fun p hp => ⟨hk₁ _ _ (fun hm => hI' p hp (List.mem_singleton.mp hm)) (N' p (.tail _ hp)).1, (N' p (.tail _ hp)).2⟩⟩
  by_cases hlt : i < n
  · refine W.item i _ _ _ hlt hst' fun v h₁ tk₁ hP hst₁ hk₁ => ?_
    obtain ⟨F₁, N₁⟩ := next h₁ hk₁
    have alive : ∃ o₁, h₁.get? I = some o₁ := alive (i + 1) h₁ hst₁
    obtain ⟨o₁, ho₁⟩ := alive
    have N₁' : News h₀ env.locals h₁ ((I, o₁) :: ns') := fun p hp => by
      rcases List.mem_cons.mp hp with rfl | hp
      · exact ⟨ho₁, hIL, hIn⟩
      · exact N₁ p hp
    refine hgo (i + 1) _ v _ hst₁ ?_
    refine wpAny_mono (turn i v m' ns' h₁ tk₁ o₁ hlt hP hJ F₁ N₁' hI') (fun _ s₂ h₂ => wpAny_mono h₂ (fun f s₃ h₃ => ?_) fun _ _ e => e) fun _ _ e => e
    have fin : TEnd h₀ env.locals I o₁ (J (i + 1)) { s with heap := h₁, toks := tk₁ } s₃ → ∃ m, m < n + 1 - i ∧ ∃ h' tk m' ns' j o, s₃ = { s with heap := h', toks := tk } ∧ St j h' ∧ Fr h₀ env.locals h' m' ∧ News h₀ env.locals h' ((I, o) :: ns') ∧ (∀ p ∈ ns', p.1 ≠ I) ∧ J j m' ns' ∧ j ≤ n ∧ m = n + 1 - j := by
      rintro ⟨h₃', tk₃, m₂, ns₂, rfl, F₃, N₃, hI₃, hJ₃⟩
      refine ⟨n + 1 - (i + 1), by omega, h₃', tk₃, m₂, ns₂, i + 1, o₁, rfl, ?_, F₃, N₃, hI₃, hJ₃, hlt, rfl⟩
      refine W.frame _ _ _ hst₁ fun b hb x e => ?_
      rcases hfp b hb with rfl | ⟨y, hy⟩ | ⟨y, hy⟩
      · rw [ho₁] at e; cases e; exact (N₃ _ (.head _)).1
      · have z := F₁.keep b y hy
        rw [e] at z; cases z
        exact F₃.keep b _ hy
      · have z := (N₁ _ (hk _ _ _ hJ _ hy)).1
        rw [e] at z; cases z
        exact (N₃ _ (.tail _ (hk _ _ _ hJ₃ _ hy))).1
    cases f with
    | ret v => exact h₃
    | brk => exact h₃
    | cont => exact fin h₃
    | next => exact fin h₃
  · have hin : i = n := by omega
    subst hin
    refine W.done _ _ _ hst' fun h₁ tk₁ hk₁ => ?_
    obtain ⟨F₁, N₁⟩ := next h₁ hk₁
    exact done m' ns' h₁ tk₁ hJ F₁ N₁

def ForAt (prog : Program) (w : World) (A : Around) (env : Env) (target : Expr) (body orelse : List Stmt) (Q : Flow → Shared → Prop) (E : Value → Shared → Prop) (v : Value) (s : Shared) : Prop :=
  wpAny (model prog w) A (pyIter v) (fun it s₂ => codeAny (model prog w) A (.forLoop target it body orelse env) (fun r s' => match r with | .ok f => Q f s' | .error e => cameBackBy (model prog w) A env E e s') s₂) E s
theorem For_at {target iter : Expr} {body orelse : List Stmt} {pos : Pos} {Q : Flow → Shared → Prop} (h : wpAny (model prog w) A (eval iter env) (fun v s₁ => ForAt prog w A env target body orelse Q E v s₁) E s)
    (hs : ∀ x, foldedSetIterable iter env x = pure x := by intro _; rfl) : wpAny (model prog w) A (exec (.For target iter body orelse pos) env) Q E s := wpAny_For h hs

theorem letGo_tup {target : Expr} {I t : Addr} {i : Nat} {v : Value} {Q' : Unit → Shared → Prop} {s' : Shared} {E' : Value → Shared → Prop} (hit : s'.heap.IsTupleIter I t i) (h : Q' () s') :
    wpAny (model prog w) A (letOwnedTupleGo target (.ref I) v) Q' E' s' := letGo_tupleiter hit h

theorem for_tup {target : Expr} {body orelse : List Stmt} {t : Addr} {to : Obj} {vs : List Value} {ep : Nat} {m : PySem.Str → Option Value} {ns : Led} {Q : Flow → Shared → Prop} (J : Nat → (PySem.Str → Option Value) → Led → Prop)
    (hh : A.handled = none) (F : Fr h₀ env.locals s.heap m) (N : News h₀ env.locals s.heap ns) (hc : to.cls = .type "tuple") (hd : to.data = .seq vs.toArray ep) (h0 : J 0 m ns) (hk : ∀ i m ns, J i m ns → (t, to) ∈ ns) (hE : PassesOwn (model prog w) A env E)
    (turn : ∀ i v m₁ ns₁ h tk I oJ, vs[i]? = some v → J i m₁ ns₁ → Fr h₀ env.locals h m₁ → News h₀ env.locals h ((I, oJ) :: ns₁) → (∀ p ∈ ns₁, p.1 ≠ I) →
      wpAny (model prog w) A (assign target env v) (fun _ s₂ => wpAny (model prog w) A (execs body env) (TPost h₀ env.locals I oJ (J (i + 1)) { s with heap := h, toks := tk } Q) E s₂) E { s with heap := h, toks := tk })
    (done : ∀ m₁ ns₁ h tk, J vs.length m₁ ns₁ → Fr h₀ env.locals h m₁ → News h₀ env.locals h ns₁ → wpAny (model prog w) A (execs orelse env) Q E { s with heap := h, toks := tk }) :
    ForAt prog w A env target body orelse Q E (.ref t) s := by
  have hm := hk _ _ _ h0
  have ht : s.heap.IsTuple t vs.toArray := ⟨to, (N _ hm).1, hc, ep, hd⟩
  refine wpAny_pyIter_tuple ht ?_
  have hlt : t < s.heap.objs.size := Heap.lt_size (N _ hm).1
  have fresh : ∀ p ∈ ns, p.1 ≠ s.heap.objs.size := fun p hp => Nat.ne_of_lt (Heap.lt_size (N p hp).1)
  have hin : h₀.get? s.heap.objs.size = none := next_is_new F
  have W := Walks.tuple (prog := prog) (w := w) (A := A) hh s.heap.objs.size t (Nat.ne_of_lt hlt) vs.toArray
  refine loop_walks (oI := { cls := .type "tuple_iterator", data := .fields #[.ref t, .int 0 0] }) (n := vs.toArray.size) (keep := [(t, to)]) (m := m) (ns := ns) W J ?_ (fun e => absurd F.ns.lt (e ▸ Nat.lt_irrefl _)) (F.push _)
    (fun p hp => ?_) fresh ⟨⟨_, Heap.get?_push_size _ rfl, rfl, rfl⟩, ht.at fun o e => Heap.get?_push_of_some _ e⟩ h0 (fun i m ns hJ x hx => by rw [List.mem_singleton.mp hx]; exact hk _ _ _ hJ)
    (fun i s' v Q' st hQ => letGo_tup st.1 hQ) (fun i h st => let ⟨o, e, _⟩ := st.1; ⟨o, e⟩) ?_ ?_
  · intro b hb
    rcases List.mem_cons.mp hb with rfl | hb
    · exact .inl rfl
    · rw [List.mem_singleton.mp hb]; exact .inr (.inr ⟨to, .head _⟩)
  · rcases List.mem_cons.mp hp with rfl | hp
    · exact ⟨Heap.get?_push_size _ rfl, fun e => absurd F.ns.lt (e ▸ Nat.lt_irrefl _), hin⟩
    · exact ⟨Heap.get?_push_of_some _ (N p hp).1, (N p hp).2⟩
  · intro i v m₁ ns₁ h tk oJ _ hP hJ F₁ N₁ hI
    refine wpAny_passesOwn hE (wpAny_mono (turn i v m₁ ns₁ h tk _ oJ (by simpa using hP) hJ F₁ N₁ hI) (fun _ s₂ h₂ => wpAny_passesOwn hE (wpAny_mono h₂ (fun f s₃ h₃ => ?_) fun _ _ e => e)) fun _ _ e => e)
    cases f <;> exact h₃
  · intro m₁ ns₁ h tk hJ F₁ N₁
    have hJ : J vs.length m₁ ns₁ := by simpa using hJ
    exact wpAny_passesOwn hE (done m₁ ns₁ h tk hJ F₁ N₁)
end

section
variable {h₀ h : Heap} {L : Addr} {m₀ m₁ : PySem.Str → Option Value}
theorem fr_names (xs : List PySem.Str) (F : Fr h₀ L h m₁) (e : ∀ y, xs.contains y = false → m₁ y = m₀ y) : Fr h₀ L h (fun y => if xs.contains y then m₁ y else m₀ y) := by
  have : (fun y => if xs.contains y then m₁ y else m₀ y) = m₁ := funext fun y => by
    cases hy : xs.contains y with
    | true => simp
    | false => simp only [Bool.false_eq_true, if_false]; exact (e y hy).symm
  rw [this]; exact F
end
theorem altAsks_cons_none {sem : Nat → Nat → Option Nat} {j q : Nat} {r : List Nat} (h : sem j q = none) : altAsks sem (j :: r) q = (j, q) :: altAsks sem r q := by rw [altAsks, h]
theorem altAsks_cons_some {sem : Nat → Nat → Option Nat} {j q f : Nat} {r : List Nat} (h : sem j q = some f) : altAsks sem (j :: r) q = [(j, q)] := by rw [altAsks, h]
theorem altEnd_cons_none {sem : Nat → Nat → Option Nat} {j q : Nat} {r : List Nat} (h : sem j q = none) : altEnd sem (j :: r) q = altEnd sem r q := by rw [altEnd, h]
theorem altEnd_cons_some {sem : Nat → Nat → Option Nat} {j q f : Nat} {r : List Nat} (h : sem j q = some f) : altEnd sem (j :: r) q = some f := by rw [altEnd, h]
theorem altKids_cons_none {sem : Nat → Nat → Option Nat} {j q : Nat} {r : List Nat} (h : sem j q = none) : altKids sem (j :: r) q = altKids sem r q := by rw [altKids, h]
theorem altKids_cons_some {sem : Nat → Nat → Option Nat} {j q f : Nat} {r : List Nat} (h : sem j q = some f) : altKids sem (j :: r) q = [(j, q)] := by rw [altKids, h]
theorem drop_getElem {α : Type} {l : List α} {i : Nat} {x : α} (h : l[i]? = some x) : l.drop i = x :: l.drop (i + 1) := by
  obtain ⟨hi, rfl⟩ := List.getElem?_eq_some_iff.mp h
  exact List.drop_eq_getElem_cons hi

theorem turn_led {h₀ h : Heap} {L I : Addr} {oJ : Obj} {ρ μ ι : Led} (N : News h₀ L h ((I, oJ) :: (ρ ++ (μ ++ ι)))) (hI : ∀ p ∈ ρ ++ (μ ++ ι), p.1 ≠ I) (S : Sep ρ (μ ++ ι)) :
    ∃ ρ', ρ' = (I, oJ) :: ρ ∧ News h₀ L h (ρ' ++ (μ ++ ι)) ∧ Sep ρ' (μ ++ ι) := by
  refine ⟨_, rfl, N, fun x hx y hy => ?_⟩
  rcases List.mem_cons.mp hx with rfl | hx
  · exact (hI y (List.mem_append_right _ hy)).symm
  · exact S x hx y hy
/-- a turn's end, from the split ledger -/
theorem turn_back {h₀ h : Heap} {L I : Addr} {oJ : Obj} {ρ ρ' μ ι : Led} (e : ρ' = (I, oJ) :: ρ) (N : News h₀ L h (ρ' ++ (μ ++ ι))) (S : Sep ρ' (μ ++ ι)) (hρ : ∀ p ∈ ρ, p.1 ≠ I) :
    News h₀ L h ((I, oJ) :: (ρ ++ (μ ++ ι))) ∧ (∀ p ∈ ρ ++ (μ ++ ι), p.1 ≠ I) ∧ Sep ρ (μ ++ ι) := by
  subst e
  refine ⟨N, fun p hp => ?_, fun x hx y hy => S x (.tail _ hx) y hy⟩
  rcases List.mem_append.mp hp with hp | hp
  · exact hρ p hp
  · exact (S _ (.head _) p hp).symm

theorem truthy_led {prog : Program} {w : World} {A : Around} {E : Value → Shared → Prop} {s : Shared} {h₀ : Heap} {L l : Addr} {ns : Led} {items : Array Value} {ep : Nat} {Q : Bool → Shared → Prop} (N : News h₀ L s.heap ns) (hm : (l, W.listOf items ep) ∈ ns) (hfit : items.size < 2 ^ 40)
    (h : Q (!items.isEmpty) { s with toks := s.toks + 1 + 1 }) : wpAny (model prog w) A (truthy (.ref l)) Q E s :=
  wpAny_truthy_list (News.isList N hm) (by omega) h

theorem mem_drop {new ρ R : Led} {q : Addr × Obj} : ∀ x ∈ new ++ (ρ ++ R), x ∈ new ++ ((q :: ρ) ++ R) := fun x hx => by
  rcases List.mem_append.mp hx with h | h
  · exact List.mem_append_left _ h
  · exact List.mem_append_right _ (.tail _ h)
theorem foldl_snoc {α β : Type} {f : β → α → β} {l : List α} {b c : β} {a : α} (h : c = l.foldl f b) : f c a = (l ++ [a]).foldl f b := by rw [List.foldl_append, ← h]; rfl
theorem lt_all {a b : Nat} {l : Led} (h : ∀ p ∈ l, @LT.lt Nat _ p.1 a) (k : a ≤ b) : ∀ p ∈ l, @LT.lt Nat _ p.1 b := fun p hp => Nat.lt_of_lt_of_le (h p hp) k

theorem fr_vals {h₀ h : Heap} {L : Addr} {m₀ m₁ : PySem.Str → Option Value} (kv : List (PySem.Str × Value)) (xs : List PySem.Str) (F : Fr h₀ L h m₁) (hv : ∀ p ∈ kv, m₁ p.1 = some p.2) (e : ∀ y, (kv.map (·.1) ++ xs).contains y = false → m₁ y = m₀ y) :
    Fr h₀ L h (fun y => match kv.lookup y with | some v => some v | none => if xs.contains y then m₁ y else m₀ y) := by
  have : (fun y => match kv.lookup y with | some v => some v | none => if xs.contains y then m₁ y else m₀ y) = m₁ := funext fun y => by
    cases hl : kv.lookup y with
    | some v =>
      have : (y, v) ∈ kv := by
        clear hv e
        induction kv with
        | nil => cases hl
        | cons p r ih =>
          rw [List.lookup_cons] at hl
          split at hl
          · rename_i hb; cases hl; rw [beq_iff_eq.mp hb]; exact .head _
          · exact .tail _ (ih hl)
      exact (hv _ this).symm
    | none =>
      dsimp only
      cases hx : xs.contains y with
      | true => simp
      | false =>
        simp only [Bool.false_eq_true, if_false]
        refine (e y ?_).symm
        rw [List.contains_eq_mem] at hx ⊢
        simp only [decide_eq_false_iff_not, List.mem_append, not_or] at hx ⊢
        refine ⟨fun hm => ?_, hx⟩
        obtain ⟨p, hp, rfl⟩ := List.mem_map.mp hm
        have := List.lookup_eq_none_iff.mp hl p hp
        simp at this
  rw [this]; exact F
theorem ne_app {ρ ρ' R : Led} {c : Addr} (h1 : ∀ p ∈ ρ, p.1 ≠ c) (S : Sep ρ' R) (hm : ∃ o, (c, o) ∈ ρ') : ∀ p ∈ ρ ++ R, p.1 ≠ c := fun p hp => by
  rcases List.mem_append.mp hp with hp | hp
  · exact h1 p hp
  · obtain ⟨o, ho⟩ := hm
    exact (S _ ho p hp).symm
theorem seqAsks_cons_none {sem : Nat → Nat → Option Nat} {j q : Nat} {r : List Nat} (h : sem j q = none) : seqAsks sem (j :: r) q = [(j, q)] := by rw [seqAsks, h]
theorem seqAsks_cons_some {sem : Nat → Nat → Option Nat} {j q f : Nat} {r : List Nat} (h : sem j q = some f) : seqAsks sem (j :: r) q = (j, q) :: seqAsks sem r f := by rw [seqAsks, h]
theorem seqEnd_cons_none {sem : Nat → Nat → Option Nat} {j q : Nat} {r : List Nat} (h : sem j q = none) : seqEnd sem (j :: r) q = none := by rw [seqEnd, h]
theorem seqEnd_cons_some {sem : Nat → Nat → Option Nat} {j q f : Nat} {r : List Nat} (h : sem j q = some f) : seqEnd sem (j :: r) q = seqEnd sem r f := by rw [seqEnd, h]

theorem push_ref {vs : List Addr} {a : Addr} : ((vs.map Value.ref).toArray.push (.ref a)) = ((vs ++ [a]).map Value.ref).toArray := by simp

theorem some_int {a b : Int} {t : Tok} (h : a = b) : some (Value.int a t) = some (Value.int b t) := by rw [h]
theorem Sep.head {q q' : Addr × Obj} {a b : Led} (h : Sep (q :: a) b) (e : q.1 = q'.1) : Sep (q' :: a) b := fun x hx y hy => by
  rcases List.mem_cons.mp hx with rfl | hx
  · rw [← e]; exact h q (.head _) y hy
  · exact h x (.tail _ hx) y hy
theorem Sep.tail {q : Addr × Obj} {a b : Led} (h : Sep (q :: a) b) : Sep a b := fun x hx y hy => h x (.tail _ hx) y hy

theorem len_led {prog : Program} {w : World} {A : Around} {E : Value → Shared → Prop} {s : Shared} {h₀ : Heap} {L l : Addr} {ns : Led} {vs : List Addr} {ep : Nat} {Q : Value → Shared → Prop} (N : News h₀ L s.heap ns) (hm : (l, W.listOf (vs.map Value.ref).toArray ep) ∈ ns) (hfit : vs.length < 2 ^ 30)
    (h : Q (.int (vs.length : Int) (s.toks + 1)) { s with toks := s.toks + 1 + 1 }) : wpAny (model prog w) A (call (.builtin "len") [.ref l]) Q E s := by
  have e : ((vs.map Value.ref).toArray.size : Int) = (vs.length : Int) := by simp
  exact call_len_list (News.isList N hm) (by rw [e]; omega) (by rw [e]; exact h)
theorem cmp_inf (n : Int) : Float64.cmpInt 9218868437227405312 n = some Ordering.gt := by
  unfold Float64.cmpInt
  rw [show Float64.decode 9218868437227405312 = Float64.Num.inf false from by kernel_rfl]
  rfl
theorem lt_inf {prog : Program} {w : World} {A : Around} {E : Value → Shared → Prop} {s : Shared} {n : Int} {u t : Tok} {Q : Value → Shared → Prop} (h : Q (.bool true) s) : wpAny (model prog w) A (compareOp .Lt (.int n u) (.float 9218868437227405312 t)) Q E s :=
  lt_if (by rw [cmp_inf]; exact h)
def WhileAt (prog : Program) (w : World) (A : Around) (env : Env) (test : Expr) (body orelse : List Stmt) (pos : Pos) (Q : Flow → Shared → Prop) (E : Value → Shared → Prop) (s : Shared) : Prop := wpAny (model prog w) A (exec (.While test body orelse pos) env) Q E s
theorem While_at {prog : Program} {w : World} {A : Around} {env : Env} {test : Expr} {body orelse : List Stmt} {pos : Pos} {Q : Flow → Shared → Prop} {E : Value → Shared → Prop} {s : Shared} (h : WhileAt prog w A env test body orelse pos Q E s) : wpAny (model prog w) A (exec (.While test body orelse pos) env) Q E s := h

theorem wp_by {α : Type} {M : Model} {A : Around} {t : Sem α} {Q : α → Shared → Prop} {E : Value → Shared → Prop} {s : Shared} {h₀ : Heap} {L : Addr} {m : PySem.Str → Option Value} (_F : Fr h₀ L s.heap m) (P : Heap → Addr → α → Shared → Prop) (h1 : wpAny M A t (P h₀ L) E s) (h2 : ∀ f s', P h₀ L f s' → Q f s') : wpAny M A t Q E s :=
  wpAny_mono h1 h2 fun _ _ e => e
theorem beq_no {x y : PySem.Str} (h : (x == y) = false) : x ≠ y := beq_eq_false_iff_ne.mp h

section
variable {sem : Nat → Nat → Option Nat} {size k mn n c p e : Nat} {mx : Option Nat}
theorem rep_none (h1 : p < size) (h2 : capOk mx c = true) (h : sem k p = none) : repRun sem size k mn mx (n + 1) c p = ⟨[(k, p)], [], p, c⟩ := by rw [repRun, if_pos ⟨h1, h2⟩, h]
theorem rep_zero (h1 : p < size) (h2 : capOk mx c = true) (h : sem k p = some e) (h3 : mn ≤ c + 1) (h4 : e = p) : repRun sem size k mn mx (n + 1) c p = ⟨[(k, p)], [(k, p)], p, c + 1⟩ := by rw [repRun, if_pos ⟨h1, h2⟩, h]; dsimp only; rw [if_pos ⟨h3, h4⟩]
theorem rep_more (h1 : p < size) (h2 : capOk mx c = true) (h : sem k p = some e) (h3 : ¬(mn ≤ c + 1 ∧ e = p)) : repRun sem size k mn mx (n + 1) c p = ⟨(k, p) :: (repRun sem size k mn mx n (c + 1) e).asks, (k, p) :: (repRun sem size k mn mx n (c + 1) e).kids, (repRun sem size k mn mx n (c + 1) e).fin, (repRun sem size k mn mx n (c + 1) e).cnt⟩ := by
  rw [repRun, if_pos ⟨h1, h2⟩, h]; dsimp only; rw [if_neg h3]
theorem rep_stop (h : ¬(p < size ∧ capOk mx c = true)) : repRun sem size k mn mx (n + 1) c p = ⟨[], [], p, c⟩ := by rw [repRun, if_neg h]
end

theorem cap_some {c x : Nat} (h : c < x) : capOk (some x) c = true := decide_eq_true h

theorem args_getattr_3 (a b c : Value) : argsOk "getattr" ⟨[a, b, c], []⟩ := by unfold argsOk; kernel_rfl
section
open Builtin Builtin.ObjectAttr
variable {prog : Program} {w : World} {A : Around} {E : Value → Shared → Prop} {s : Shared} {K : Frag} {x C : Addr} {ox : Obj} {od : Option Obj}  {t : Tok} {dflt : Value} {Q : Value → Shared → Prop}
theorem getattr3_ref_oids (I : InstAt s.heap x ox C od) (X : K.In s.heap) (hm : subIn K (.ref C) (.type "module") = some false)     (h : wpAny (model prog w) A.in1 (getAttrBy (.ref x) (.str (PySem.Str.ofString "oids") t) false) Q (fun e s' => wpAny (model prog w) A.in1 (isInstance e (.type "AttributeError")) (fun b s'' => b = true ∧ Q dflt s'') E s') s) :
    wpAny (model prog w) A (call (.builtin "getattr") [.ref x, .str (PySem.Str.ofString "oids") t, dflt]) Q E s := by
  refine Calls.call_function_entry KB.kind_getattr KB.plain_getattr KB.entry_getattr (args_getattr_3 _ _ _) ?_
  obtain ⟨hh, g, d, tk, os⟩ := s
  have L0 := I.type (M := model prog w)
  have L1 : Looks (model prog w) hh (isInstance (.ref x) (.type "module")) false := L0.andThen (looks_subIn X hm)
  unfold Builtin.«getattr»
  refine wpAny_bind (wpAny_of_eq (a := [.ref x, .str (PySem.Str.ofString "oids") t, dflt]) (by first | rfl | kernel_rfl) ?_)
  dsimp only
  refine wpAny_bind (wpAny_of_eq (a := ()) (by first | rfl | kernel_rfl) ?_)
  refine wpAny_bind (wpAny_of_eq (a := none) (by kernel_rfl) ?_)
  dsimp only
  refine wpAny_bind ?_
  have h1 : wpAny (model prog w) A.in1 (getAttrBy? (.ref x) (.str (PySem.Str.ofString "oids") t)) (fun r s' => Q (r.getD dflt) s') E { heap := hh, gens := g, drawn := d, toks := tk, os := os } := by
    unfold getAttrBy?
    refine wpAny_bind (wpAny_attempt (wpAny_mono h (fun v s' hq => ?_) fun e s' he => ?_))
    · exact wpAny_pure hq
    · exact wpAny_bind (wpAny_mono he (fun b s'' hb => by obtain ⟨rfl, hq⟩ := hb; exact wpAny_pure hq) fun _ _ z => z)
  repeat (first | (with_reducible refine wpAny_mono h1 ?_ (fun _ _ z => z)) | lk)
  intro r s' hq
  cases r with
  | some v => exact wpAny_pure ⟨_, rfl, hq⟩
  | none => exact wpAny_pure ⟨_, rfl, hq⟩

theorem by_false_open {od : Obj} {name : PySem.Str} {expr : Bool} (X : K.In s.heap) (I : InstAt s.heap x ox C (some od)) (hga : findIn K (.ref C) "__getattribute__" = some (some (.builtin "object.__getattribute__")))
    (h : wpAny (model prog w) A.in1 (Builtin.«proto.getattr_hooked» ⟨[.ref x, .str name t], []⟩)
      (fun fin s' => match fin with | .done (.ret v) => wpAny (model prog w) A (handedOut v) Q E s' | _ => False) (fun e s' => E e s') s) :
    wpAny (model prog w) A (getAttrBy (.ref x) (.str name t) false expr) Q E s := by
  obtain ⟨hh, g, d, tk, os⟩ := s
  have L0 := I.type (M := model prog w)
  have L1 := looks_findIn (M := model prog w) X hga
  unfold getAttrBy
  refine wpAny_holding (wpAny_bind (L0.at (wpAny_bind (L1.at ?_))))
  show wpAny _ _ (getAttrEveryday _ _ _) _ _ _
  refine wpAny_bind (wpAny_onRaise (wpAny_runValue (codeAny_builtin F.plainObj_entry_getattr_hooked (wpAny_mono h (fun fin s' z => ?_) fun e s' z => wpAny_pure z))))
  rcases fin with (_ | _ | _ | _) | _ <;> first | exact z | exact z.elim
theorem by_false_value {od : Obj} {name : PySem.Str} {expr : Bool} {v : Value} (X : K.In s.heap) (I : InstAt s.heap x ox C (some od)) (hga : findIn K (.ref C) "__getattribute__" = some (some (.builtin "object.__getattribute__")))
    (hf : findObj K C (some od) name = some (.value v)) (hh : handedIn v = true) (h : Q v s) : wpAny (model prog w) A (getAttrBy (.ref x) (.str name t) false expr) Q E s := by
  refine by_false_open X I hga ?_
  obtain ⟨hh', g, d, tk, os⟩ := s
  have L0 := I.type (M := model prog w)
  have L1 := looks_find (M := model prog w) X I hf
  refine wpAny_bind (wpAny_pure (wpAny_bind (L0.at (wpAny_bind (L1.at ?_)))))
  refine wpAny_pure ?_
  show wpAny _ _ (handedOut v) _ _ _
  rw [handedOut_of hh]; exact wpAny_pure h
theorem by_false_miss {od : Obj} {name : PySem.Str} {expr : Bool} {cd : ClassData} (X : K.In s.heap) (I : InstAt s.heap x ox C (some od)) (hga : findIn K (.ref C) "__getattribute__" = some (some (.builtin "object.__getattribute__")))
    (hf : findObj K C (some od) name = some .missing) (hk : findIn K (.ref C) "__getattr__" = some none) (hc : clsIn K C = some cd) (hl : cd.name.cps.foldl (fun k c => k + (PySem.Str.utf8Of c).length) 0 ≤ 50) (hp : (toString "'" ++ toString cd.name.toString ++ toString "' object has no attribute '").length ≤ 90) (hA : A.handled = none) (hsz : name.length ≤ 100)
    (h : ∀ h' tk e, Heap.NewAttrErr s.heap h' e (.ref x) name → E (.ref e) { s with heap := h', toks := tk }) : wpAny (model prog w) A (getAttrBy (.ref x) (.str name t) false expr) Q E s := by
  refine by_false_open X I hga ?_
  obtain ⟨hh', g, d, tk, os⟩ := s
  have L0 := I.type (M := model prog w)
  have L1 := looks_find (M := model prog w) X I hf
  have L2 := looks_findIn (M := model prog w) X hk
  have L3 := looks_clsIn (M := model prog w) X hc
  refine wpAny_bind (wpAny_pure (wpAny_bind (L0.at (wpAny_bind (L1.at (wpAny_bind (L2.at ?_)))))))
  show wpAny _ _ (noSuchAttribute (.ref x) name) _ _ _
  unfold noSuchAttribute
  refine wpAny_bind ?_
  unfold typeNameOfCut shownTypeOf typeNameCut
  refine wpAny_bind (wpAny_bind (L0.at ?_))
  dsimp only
  rw [if_neg (by simp)]
  refine wpAny_pure ?_
  dsimp only
  refine wpAny_bind (L3.at ?_)
  dsimp only
  rw [if_pos (Nat.le_trans hl (by decide))]
  refine wpAny_pure ?_
  refine wpAny_raiseAttrError (by exact hA) (fun h' tk e hn => h h' tk e hn) ?_
  exact attrMsg_fits hp (by rw [sizeLine_eq]; omega)
theorem getattr3_own_oids {es : List DictEntry} {n : Nat} {v : Value} {h₀ : Heap} {L : Addr} {m : PySem.Str → Option Value} (F : Fr h₀ L s.heap m) (X₀ : K.In h₀) (I : InstAt s.heap x ox C (some (dictOf es n))) (hm : subIn K (.ref C) (.type "module") = some false) (hg : plainGet K C "oids" = true) (hh : hasDictIn K C = true)
    (ha : findIn K (.ref C) (PySem.Str.ofString "oids") = some none) (hl : getL (PySem.Str.ofString "oids") es = some (some v)) (hv : handedIn v = true) (h : Q v s) :
    wpAny (model prog w) A (call (.builtin "getattr") [.ref x, .str (PySem.Str.ofString "oids") t, dflt]) Q E s :=
  getattr3_ref_oids I (X₀.keeps F.keep) hm (by_false_value (X₀.keeps F.keep) I (plainGet_of hg).1 (findObj_own hh ha rfl (by show lookIn (PySem.Str.ofString "oids") (dictOf es n) = _; rw [lookIn_dict, hl])) hv h)
theorem findObj_none {od : Obj} {name : PySem.Str} (hh : hasDictIn K C = true) (ha : findIn K (.ref C) name = some none) (hc : copiedNames.contains name = false) (hl : lookIn name od = some none) : findObj K C (some od) name = some .missing := by
  obtain ⟨cd, hc', hd⟩ := any_some hh
  unfold findObj
  have ho : W.ownOf cd (some od) name = some none := by unfold W.ownOf; rw [if_pos hd]; exact hl
  rw [hc', Option.bind_some, ha, Option.bind_some]
  simp only [Option.bind_some, ho, hc, Bool.false_and, Bool.false_eq_true, if_false]
theorem getattr3_miss_oids {es : List DictEntry} {n : Nat} {cd : ClassData} {h₀ : Heap} {L : Addr} {m : PySem.Str → Option Value} (hA : A.handled = none) (F : Fr h₀ L s.heap m) (X₀ : K.In h₀) (I : InstAt s.heap x ox C (some (dictOf es n))) (hm : subIn K (.ref C) (.type "module") = some false) (hg : plainGet K C "oids" = true) (hh : hasDictIn K C = true)
    (ha : findIn K (.ref C) (PySem.Str.ofString "oids") = some none) (hl : getL (PySem.Str.ofString "oids") es = some none) (hc : clsIn K C = some cd) (hn : cd.name.cps.foldl (fun k c => k + (PySem.Str.utf8Of c).length) 0 ≤ 50) (hp : (toString "'" ++ toString cd.name.toString ++ toString "' object has no attribute '").length ≤ 90)
    (h : ∀ h' tk, (∀ b o, s.heap.get? b = some o → h'.get? b = some o) → Q dflt { s with heap := h', toks := tk }) :
    wpAny (model prog w) A (call (.builtin "getattr") [.ref x, .str (PySem.Str.ofString "oids") t, dflt]) Q E s := by
  refine getattr3_ref_oids I (X₀.keeps F.keep) hm (by_false_miss (X₀.keeps F.keep) I (plainGet_of hg).1 (findObj_none hh ha (by decide +kernel) (by rw [lookIn_dict, hl])) (plainGet_of hg).2 hc hn hp (by exact hA) (by decide +kernel) fun h' tk e he => ?_)
  obtain ⟨t', u', ho⟩ := he.there
  have hT : ({ s with heap := h', toks := tk } : Shared).TypeIs (.ref e) "AttributeError" := ⟨_, ho, rfl⟩
  exact wpAny_isInstance hT sub_AttributeError ⟨rfl, h h' tk he.keeps⟩
end

/-! own exception classes: reading and writing their attributes -/
def excTail : List Value → Bool
  | .ref _ :: r => excTail r
  | l => l == [.type "Exception", .type "BaseException", .type "object"]
theorem excTail_eq : ∀ {l : List Value}, excTail l = true → ∃ rs : List Addr, l = rs.map .ref ++ [.type "Exception", .type "BaseException", .type "object"]
  | .ref a :: r, h => by
    obtain ⟨rs, e⟩ := excTail_eq (l := r) h
    exact ⟨a :: rs, by rw [e]; rfl⟩
  | [], h => by simp [excTail] at h
  | .type _ :: _, h => ⟨[], by simpa [excTail] using h⟩
  | .none :: _, h => by simp [excTail] at h
  | .bool _ :: _, h => by simp [excTail] at h
  | .ellipsis :: _, h => by simp [excTail] at h
  | .notImplemented :: _, h => by simp [excTail] at h
  | .int _ _ :: _, h => by simp [excTail] at h
  | .float _ _ :: _, h => by simp [excTail] at h
  | .str _ _ :: _, h => by simp [excTail] at h
  | .bytes _ _ :: _, h => by simp [excTail] at h
  | .builtin _ :: _, h => by simp [excTail] at h
theorem excTail_refuse (self : Value) : ∀ (rs : List Addr), refuseLoop self "__setattr__" (rs.map .ref ++ [.type "Exception", .type "BaseException", .type "object"]) = pure ()
  | [] => PySem.F.store_Exception.passes self
  | _ :: r => by rw [List.map_cons, List.cons_append, refuseLoop_ref]; exact excTail_refuse self r
def excOver (K : Frag) (C : Addr) : Bool := (clsIn K C).any fun cd => excTail cd.mro
theorem excTail_has {l : List Value} (h : excTail l = true) {T : String} (hT : ([.type "Exception", .type "BaseException", .type "object"] : List Value).contains (.type T) = true) : l.contains (.type T) = true := by
  obtain ⟨rs, rfl⟩ := excTail_eq h
  rw [List.contains_eq_mem] at hT ⊢
  simp only [decide_eq_true_eq] at hT ⊢
  exact List.mem_append_right _ hT
theorem bexc_ga_slot : Slot "Exception" "__getattribute__" "BaseException.__getattribute__" := PySem.F.attr_Exception.ga
section
open Builtin Builtin.ObjectAttr
variable {prog : Program} {w : World} {A : Around} {E : Value → Shared → Prop} {s : Shared} {K : Frag} {x C : Addr} {ox : Obj} {od : Option Obj} {R : Result → Shared → Prop}
theorem exc_sub {M : Model} {h : Heap} (X : K.In h) (hp : excOver K C = true) (T : String) (hT : ([.type "Exception", .type "BaseException", .type "object"] : List Value).contains (.type T) = true) : Looks M h (isSubtype (.ref C) (.type T)) true := by
  obtain ⟨cd, hc, ho⟩ := any_some hp
  have ne : cd.mro.isEmpty = false := by
    obtain ⟨rs, e⟩ := excTail_eq ho
    rw [e]; cases rs <;> rfl
  exact looks_mroIn X (by unfold mroIn; rw [hc, Option.bind_some, if_neg (by rw [ne]; decide), excTail_has ho hT])
theorem exc_get_value {name : PySem.Str} {expr : Bool} {v : Value} {Q : Value → Shared → Prop} (X : K.In s.heap) (I : InstAt s.heap x ox C od) (hp : excOver K C = true) (hga : findIn K (.ref C) "__getattribute__" = some (some (.builtin "BaseException.__getattribute__")))
    (hgt : findIn K (.ref C) "__getattr__" = some none) (hf : findObj K C od name = some (.value v)) (hh : handedIn v = true) (h : Q v { s with toks := s.toks + 1 }) : wpAny (model prog w) A (getAttr (.ref x) name expr) Q E s := by
  obtain ⟨hh', g, d, t, os⟩ := s
  have L0 := I.type (M := model prog w)
  have L1 := looks_findIn (M := model prog w) X hga
  have L2 := looks_findIn (M := model prog w) X hgt
  have L3 := looks_find (M := model prog w) X I hf
  have L4 : Looks (model prog w) hh' (isInstance (.ref x) (.type "BaseException")) true := L0.andThen (exc_sub (M := model prog w) X hp "BaseException" (by decide +kernel))
  unfold getAttr getAttrBy
  refine wpAny_bind (wpAny_mkText (wpAny_holding (wpAny_bind (L0.at (wpAny_bind (L1.at ?_))))))
  have e1 : (onTheHeap (Value.ref C) && Value.builtin "BaseException.__getattribute__" == Value.builtin "object.__getattribute__") = false := by
    rw [show (Value.builtin "BaseException.__getattribute__" == Value.builtin "object.__getattribute__") = false from by decide +kernel]; rfl
  dsimp only
  rw [e1]
  show wpAny _ _ (getAttrByItsOwn _ _ _ _ _ _) _ _ _
  unfold getAttrByItsOwn hookBefore
  refine wpAny_bind ?_
  show wpAny _ _ (typeLookup (.ref C) "__getattr__") _ _ _
  refine L2.at (wpAny_bind (wpAny_attempt (wpAny_holding ?_)))
  have e2 : (expr && onTheHeap (Value.builtin "BaseException.__getattribute__")) = false := by cases expr <;> rfl
  unfold callGetattribute
  rw [e2]
  show wpAny _ _ (boundAndCalled _ _ _) _ _ _
  unfold boundAndCalled
  rw [bexc_ga_slot.bind]
  refine wpAny_bind (wpAny_pure (wpAny_call (codeAny_call_builtin bexc_ga_slot.plain PySem.F.entry_bexc_ga (@check_slot (model prog w) _ _ _ "BaseException.__getattribute__" "BaseException" "__getattribute__" (.ref x) [.str name t] [] _ (by decide +kernel) (by decide +kernel) L4 (PySem.F.args_bexc_ga (.ref x) (.str name t)) ?_))))
  refine wpAny_bind (wpAny_pure (wpAny_bind (wpAny_pure (wpAny_bind (L0.at (wpAny_bind (L3.at ?_)))))))
  refine wpAny_pure ?_
  show wpAny _ _ (handedOut v) _ _ _
  rw [handedOut_of hh]; exact wpAny_pure h
theorem exc_store_open {name : PySem.Str} {tk : Tok} {v : Value} (X : K.In s.heap) (I : InstAt s.heap x ox C od) (hp : excOver K C = true) (ht : takerIn K C name = some none)
    (h : ∀ b, wpAny (model prog w) A.in1 (storeInOwnDict (.ref x) (.ref C) (.str name tk) name v b)
      (fun fin s' => match fin with | .done f => R (.ok f) s' | .again c' => c'.quiet = true ∧ codeAny (model prog w) A c' R s') (fun e s' => R (.error e) s') s) :
    codeAny (model prog w) A (.call (.builtin "object.__setattr__") ⟨[.ref x, .str name tk, v], []⟩) R s := by
  have SF := PySem.F.store_object
  obtain ⟨cd, hc, ho⟩ := any_some hp
  have sub : Looks (model prog w) s.heap (isInstance (.ref x) (.type "object")) true := I.type.andThen (exc_sub X hp "object" (by decide +kernel))
  refine codeAny_call_builtin SF.slot.plain SF.entry (@check_slot (model prog w) _ _ s "object.__setattr__" "object" "__setattr__" (.ref x) [.str name tk, v] [] _ SF.kind SF.split sub (SF.args (.ref x) (.str name tk) v) ?_)
  obtain ⟨attr, ha, hr⟩ := Option.bind_eq_some_iff.mp ht
  have hm : Looks (model prog w) s.heap (mroOf (.ref C)) cd.mro := (looks_clsIn X hc).andThen .now
  have L3 : Looks (model prog w) s.heap (storeTaker? attr) none := by
    cases attr with
    | none => exact .now
    | some a =>
      obtain ⟨b, hb, hbe⟩ := Option.map_eq_some_iff.mp hr
      cases b with
      | true => cases hbe
      | false => exact (looks_takesIn X hb).andThen .now
  obtain ⟨rs, hrs⟩ := excTail_eq ho
  rw [osa_eq, refuse_eq]
  refine wpAny_bind (wpAny_bind (I.type.here (wpAny_bind (hm.here ?_))))
  rw [hrs, excTail_refuse]
  refine wpAny_pure (wpAny_bind (I.type.here (wpAny_bind ((looks_findIn X ha).here (wpAny_bind (L3.here ?_))))))
  exact h _
theorem exc_store_dict {name : PySem.Str} {tk : Tok} {v : Value} {dx : Addr} {pre post : Led} {h₀ : Heap} {L : Addr} {m : PySem.Str → Option Value} {es es' : List DictEntry} {n n' : Nat} (F : Fr h₀ L s.heap m) (N : News h₀ L s.heap (pre ++ (dx, dictOf es n) :: post)) (X : K.In s.heap)
    (I : InstAt s.heap x ox C (some (dictOf es n))) (hd : ox.dict = some dx) (hp : excOver K C = true) (ht : takerIn K C name = some none) (hh : hasDictIn K C = true)
    (hl : (getL name es).isSome = true) (h1 : ∀ p ∈ pre, p.1 ≠ dx) (h2 : ∀ p ∈ post, p.1 ≠ dx)
    (e : (putL name (PyData.keyHash w.params name) (.str name s.toks) v es, putN name es n) = (es', n')) (hz : es'.length ≤ 1000)
    (h : ∀ h', Fr h₀ L h' m → News h₀ L h' (pre ++ (dx, dictOf es' n') :: post) → R (.ok (.ret .none)) { s with heap := h', toks := s.toks + 1 }) :
    codeAny (model prog w) A (.call (.builtin "object.__setattr__") ⟨[.ref x, .str name tk, v], []⟩) R s := by
  refine exc_store_open X I hp ht fun b => ?_
  obtain ⟨cd, hc, hd'⟩ := any_some hh
  obtain ⟨e1, e2⟩ := Prod.mk.inj e
  obtain ⟨U1, U2⟩ := news_upd (f := Obj.putName name (PyData.keyHash w.params name) (.str name s.toks) v) F N h1 h2 (by rw [putName_dict, e1, e2]) rfl
  have D := (N (dx, dictOf es n) (by simp)).1
  have D' := (U2 (dx, dictOf es' n') (by simp)).1
  obtain ⟨hx, hcl, hn, -⟩ := I
  obtain ⟨oc, odi, oda, osl⟩ := ox
  dsimp only at hcl hd
  subst hcl hd
  refine wpAny_bind (wpAny_pure (wpAny_bind (wpAny_bind (wpAny_loadPart hx (wpAny_bind ((looks_clsIn X hc).here ?_))))))
  rw [hd']
  refine wpAny_pure (a := some dx) (wpAny_bind (wpAny_pure (wpAny_bind ?_)))
  unfold nsSet
  refine wpAny_bind (wpAny_bind (wpAny_askSetting (wpAny_pure (wpAny_bind (wpAny_mkText (wpAny_bind (wpAny_loadPart D ?_)))))))
  have c : (!es.toArray.any (·.key.isStr name) && es.toArray.any (·.refKey)) = false := by
    rw [← Array.any_toList, ← Array.any_toList]
    unfold getL at hl
    split at hl
    · rename_i en he
      rw [List.any_eq_true.mpr ⟨en, List.mem_of_find?_eq_some he, List.find?_some he⟩]; rfl
    · split at hl
      · cases hl
      · rename_i z; rw [Bool.not_eq_true] at z; rw [z, Bool.and_false]
  dsimp only [dictOf]
  rw [aRefKeyMayBeTheName_at, c]
  refine wpAny_updatePart D ?_
  refine wpAny_bind (wpAny_lookBehind D' (pastItsLine_dict (by rw [List.size_toArray, sizeLine_eq]; omega)) ?_)
  exact wpAny_pure (h _ U1 U2)
theorem exc_store_first {vs : Array Value} {sl : Array (Option Value)} {name : PySem.Str} {tk : Tok} {v : Value} {pre post : Led} {h₀ : Heap} {L : Addr} {m : PySem.Str → Option Value} (F : Fr h₀ L s.heap m) (N : News h₀ L s.heap (pre ++ (x, (⟨.ref C, none, .fields vs, sl⟩ : Obj)) :: post)) (X : K.In s.heap)
    (hp : excOver K C = true) (ht : takerIn K C name = some none) (hh : hasDictIn K C = true) (h1 : ∀ p ∈ pre, p.1 ≠ x) (h2 : ∀ p ∈ post, p.1 ≠ x)
    (h : ∀ d h', Fr h₀ L h' m → News h₀ L h' ((d, dictOf [⟨PyData.keyHash w.params name, .str name s.toks, v⟩] (putN name [] 0)) :: (pre ++ (x, (⟨.ref C, some d, .fields vs, sl⟩ : Obj)) :: post)) →
      (∀ p ∈ pre ++ (x, (⟨.ref C, some d, .fields vs, sl⟩ : Obj)) :: post, p.1 < d) → R (.ok (.ret .none)) { s with heap := h', toks := s.toks + 1 }) :
    codeAny (model prog w) A (.call (.builtin "object.__setattr__") ⟨[.ref x, .str name tk, v], []⟩) R s := by
  have hx := (N (x, ⟨.ref C, none, .fields vs, sl⟩) (by simp)).1
  refine exc_store_open X (ox := ⟨.ref C, none, .fields vs, sl⟩) (od := none) ⟨hx, rfl, rfl, trivial⟩ hp ht fun b => ?_
  obtain ⟨cd, hc, hd'⟩ := any_some hh
  have hlt : ∀ p ∈ pre ++ (x, (⟨.ref C, none, .fields vs, sl⟩ : Obj)) :: post, p.1 < s.heap.objs.size := fun p hp => Heap.lt_size (N p hp).1
  obtain ⟨hh', g, d, t, os⟩ := s
  have hx₁ := Heap.get?_push_of_some emptyDict hx
  have F1 := F.push emptyDict
  have N1 := N.push F emptyDict
  dsimp only at F1 N1 hlt
  obtain ⟨F2, N2⟩ := news_upd (pre := (hh'.objs.size, emptyDict) :: pre) (f := fun o : Obj => { cls := o.cls, dict := some hh'.objs.size, data := o.data, slots := o.slots }) F1 N1 (fun p hp => by
    rcases List.mem_cons.mp hp with rfl | hp
    · exact Nat.ne_of_gt (hlt _ (List.mem_append_right _ (.head _)))
    · exact h1 p hp) h2 (o' := ⟨.ref C, some hh'.objs.size, .fields vs, sl⟩) rfl rfl
  obtain ⟨F3, N3⟩ := news_upd (pre := []) (f := Obj.putName name (PyData.keyHash w.params name) (.str name t) v) (o := emptyDict) (d := hh'.objs.size) (post := pre ++ (x, ⟨.ref C, some hh'.objs.size, .fields vs, sl⟩) :: post) F2 N2 (fun _ h => nomatch h) (fun p hp => by
    refine Nat.ne_of_lt ?_
    rcases List.mem_append.mp hp with q | q
    · exact hlt p (List.mem_append_left _ q)
    · rcases List.mem_cons.mp q with rfl | q
      · exact hlt (x, ⟨.ref C, none, .fields vs, sl⟩) (List.mem_append_right _ (.head _))
      · exact hlt p (List.mem_append_right _ (.tail _ q))) (o' := dictOf [⟨PyData.keyHash w.params name, .str name t, v⟩] (putN name [] 0)) (putName_dict (es := []) (n := 0) ..) rfl
  have D := (N2 (hh'.objs.size, emptyDict) (.head _)).1
  have D' := (N3 (hh'.objs.size, _) (.head _)).1
  refine wpAny_bind (wpAny_pure (wpAny_bind (wpAny_bind (wpAny_loadPart hx (wpAny_bind ((looks_clsIn X hc).here ?_))))))
  rw [hd']
  dsimp only
  show wpAny _ _ (alloc emptyDict >>= _) _ _ _
  refine wpAny_bind (wpAny_alloc' (wpAny_bind (wpAny_update' hx₁ ?_)))
  refine wpAny_pure (a := some hh'.objs.size) (wpAny_bind (wpAny_pure (wpAny_bind ?_)))
  unfold nsSet
  refine wpAny_bind (wpAny_bind (wpAny_askSetting (wpAny_pure (wpAny_bind (wpAny_mkText (wpAny_bind (wpAny_loadPart D ?_)))))))
  dsimp only [emptyDict]
  have c : (!(#[] : Array DictEntry).any (·.key.isStr name) && (#[] : Array DictEntry).any (·.refKey)) = false := by simp
  rw [aRefKeyMayBeTheName_at, c]
  refine wpAny_updatePart D ?_
  refine wpAny_bind (wpAny_lookBehind D' (pastItsLine_dict (by rw [List.size_toArray, sizeLine_eq]; simp)) ?_)
  refine wpAny_pure (h _ _ F3 N3 fun p hp => ?_)
  rcases List.mem_append.mp hp with q | q
  · exact hlt p (List.mem_append_left _ q)
  · rcases List.mem_cons.mp q with rfl | q
    · exact hlt (x, ⟨.ref C, none, .fields vs, sl⟩) (List.mem_append_right _ (.head _))
    · exact hlt p (List.mem_append_right _ (.tail _ q))
theorem exc_set {name : PySem.Str} {v : Value} {dx : Addr} {h₀ : Heap} {L : Addr} {m : PySem.Str → Option Value} {es es' : List DictEntry} {n n' : Nat} {news news' : Led} {Q : Unit → Shared → Prop} (F : Fr h₀ L s.heap m) (X₀ : K.In h₀) (N : News h₀ L s.heap news)
    (I : InstAt s.heap x ox C (some (dictOf es n))) (hd : ox.dict = some dx) (hs : findIn K (.ref C) "__setattr__" = some (some (.builtin "object.__setattr__"))) (hp : excOver K C = true) (ht : takerIn K C name = some none) (hh : hasDictIn K C = true)
    (hl : (getL name es).isSome = true) (e : (putL name (PyData.keyHash w.params name) (.str name (s.toks + 1)) v es, putN name es n) = (es', n')) (U : Upd dx (dictOf es n) (dictOf es' n') news news') (hz : es'.length ≤ 1000)
    (h : ∀ h', Fr h₀ L h' m → News h₀ L h' news' → Q () { s with heap := h', toks := s.toks + 2 }) :
    wpAny (model prog w) A (setAttr (.ref x) name v) Q E s := by
  obtain ⟨pre, post, rfl, rfl, a, b⟩ := U.split
  exact set_plain (X₀.keeps F.keep) I hs (exc_store_dict (s := { s with toks := s.toks + 1 }) F N (X₀.keeps F.keep) I hd hp ht hh hl a b e hz fun h' F' N' => h h' F' N')
theorem exc_set_first {vs : Array Value} {sl : Array (Option Value)} {name : PySem.Str} {v : Value} {h₀ : Heap} {L : Addr} {m : PySem.Str → Option Value} {news : Led} {g : Obj → Led} {Q : Unit → Shared → Prop} (F : Fr h₀ L s.heap m) (X₀ : K.In h₀) (N : News h₀ L s.heap news) (U : UpdF x ⟨.ref C, none, .fields vs, sl⟩ news g)
    (hs : findIn K (.ref C) "__setattr__" = some (some (.builtin "object.__setattr__"))) (hp : excOver K C = true) (ht : takerIn K C name = some none) (hh : hasDictIn K C = true)
    (h : ∀ d h', Fr h₀ L h' m → News h₀ L h' ((d, dictOf [⟨PyData.keyHash w.params name, .str name (s.toks + 1), v⟩] (putN name [] 0)) :: g ⟨.ref C, some d, .fields vs, sl⟩) → (∀ p ∈ g ⟨.ref C, some d, .fields vs, sl⟩, p.1 < d) → Q () { s with heap := h', toks := s.toks + 2 }) :
    wpAny (model prog w) A (setAttr (.ref x) name v) Q E s := by
  obtain ⟨pre, post, rfl, hg, a, b⟩ := U.split
  have hx := (N (x, ⟨.ref C, none, .fields vs, sl⟩) (by simp)).1
  exact set_plain (X₀.keeps F.keep) (ox := ⟨.ref C, none, .fields vs, sl⟩) (od := none) ⟨hx, rfl, rfl, trivial⟩ hs (exc_store_first (s := { s with toks := s.toks + 1 }) F N (X₀.keeps F.keep) hp ht hh a b fun d h' F' N' l => h d h' F' (by rw [hg]; exact N') (by rw [hg]; exact l))
end

section
open Builtin Builtin.ObjectAttr
variable {prog : Program} {w : World} {A : Around} {E : Value → Shared → Prop} {s : Shared} {K : Frag} {x C : Addr} {ox : Obj} {od : Option Obj}  {t : Tok} {dflt : Value} {Q : Value → Shared → Prop}
theorem getattr3_ref_name (I : InstAt s.heap x ox C od) (X : K.In s.heap) (hm : subIn K (.ref C) (.type "module") = some false)     (h : wpAny (model prog w) A.in1 (getAttrBy (.ref x) (.str (PySem.Str.ofString "name") t) false) Q (fun e s' => wpAny (model prog w) A.in1 (isInstance e (.type "AttributeError")) (fun b s'' => b = true ∧ Q dflt s'') E s') s) :
    wpAny (model prog w) A (call (.builtin "getattr") [.ref x, .str (PySem.Str.ofString "name") t, dflt]) Q E s := by
  refine Calls.call_function_entry KB.kind_getattr KB.plain_getattr KB.entry_getattr (args_getattr_3 _ _ _) ?_
  obtain ⟨hh, g, d, tk, os⟩ := s
  have L0 := I.type (M := model prog w)
  have L1 : Looks (model prog w) hh (isInstance (.ref x) (.type "module")) false := L0.andThen (looks_subIn X hm)
  unfold Builtin.«getattr»
  refine wpAny_bind (wpAny_of_eq (a := [.ref x, .str (PySem.Str.ofString "name") t, dflt]) (by first | rfl | kernel_rfl) ?_)
  dsimp only
  refine wpAny_bind (wpAny_of_eq (a := ()) (by first | rfl | kernel_rfl) ?_)
  refine wpAny_bind (wpAny_of_eq (a := none) (by kernel_rfl) ?_)
  dsimp only
  refine wpAny_bind ?_
  have h1 : wpAny (model prog w) A.in1 (getAttrBy? (.ref x) (.str (PySem.Str.ofString "name") t)) (fun r s' => Q (r.getD dflt) s') E { heap := hh, gens := g, drawn := d, toks := tk, os := os } := by
    unfold getAttrBy?
    refine wpAny_bind (wpAny_attempt (wpAny_mono h (fun v s' hq => ?_) fun e s' he => ?_))
    · exact wpAny_pure hq
    · exact wpAny_bind (wpAny_mono he (fun b s'' hb => by obtain ⟨rfl, hq⟩ := hb; exact wpAny_pure hq) fun _ _ z => z)
  repeat (first | (with_reducible refine wpAny_mono h1 ?_ (fun _ _ z => z)) | lk)
  intro r s' hq
  cases r with
  | some v => exact wpAny_pure ⟨_, rfl, hq⟩
  | none => exact wpAny_pure ⟨_, rfl, hq⟩
theorem by_false_none {name : PySem.Str} (hmiss : typeLookup (.type "NoneType") name = pure none) (hA : A.handled = none)
    (h : ∀ h' tk e, Heap.NewExcOf s.heap h' e "AttributeError" → E (.ref e) { s with heap := h', toks := tk }) (hsz : name.length + 100 ≤ sizeLine := by size_fits) :
    wpAny (model prog w) A (getAttrBy .none (.str name t) false) Q E s := by
  obtain ⟨hp, g, d, tk, os⟩ := s
  have hT : ∀ s' : Shared, s'.TypeIs (.none) "NoneType" := fun _ => rfl
  have f1 := sub_AttributeError
  have f3 := F.slot_NoneType_getattribute.lookup
  have f4 := F.slot_NoneType_getattribute.bind (.none)
  have f5 := am_none_getattr_none
  unfold getAttrBy
  repeat (any_goals (first | assumption | ((with_reducible show wpAny _ _ (call (Value.builtin "object.__getattribute__") _ _) _ _ _); refine call_meets F.slot_NoneType_getattribute (hT _) F.entry_object_getattribute (F.args_object_getattribute_2 _ _) (meets_getattribute_miss_none name _ hmiss hsz) ⟨hA, fun h' tk' e hx => ?_⟩) | wp_step))
  obtain ⟨t', u', he⟩ := hx.there
  show wpAny _ _ (getattributeRaised _ _ _ _ _ _ _) _ _ _
  unfold getattributeRaised
  repeat (any_goals (first | assumption | wp_step))
  exact h _ _ _ hx.of
theorem miss_none_name : typeLookup (.type "NoneType") (PySem.Str.ofString "name") = pure none := by rw [typeLookup_type, builtinLookup_eq_fast]; kernel_rfl
theorem getattr3_none_name (hA : A.handled = none) (h : ∀ h' tk, (∀ b o, s.heap.get? b = some o → h'.get? b = some o) → Q dflt { s with heap := h', toks := tk }) :
    wpAny (model prog w) A (call (.builtin "getattr") [.none, .str (PySem.Str.ofString "name") t, dflt]) Q E s := by
  refine Calls.call_function_entry KB.kind_getattr KB.plain_getattr KB.entry_getattr (args_getattr_3 _ _ _) ?_
  obtain ⟨hh, g, d, tk, os⟩ := s
  have L1 : Looks (model prog w) hh (isInstance .none (.type "module")) false := Looks.of_pure (by kernel_rfl)
  unfold Builtin.«getattr»
  refine wpAny_bind (wpAny_of_eq (a := [.none, .str (PySem.Str.ofString "name") t, dflt]) (by first | rfl | kernel_rfl) ?_)
  dsimp only
  refine wpAny_bind (wpAny_of_eq (a := ()) (by first | rfl | kernel_rfl) ?_)
  refine wpAny_bind (wpAny_of_eq (a := none) (by kernel_rfl) ?_)
  dsimp only
  refine wpAny_bind ?_
  have h1 : wpAny (model prog w) A.in1 (getAttrBy? .none (.str (PySem.Str.ofString "name") t)) (fun r s' => Q (r.getD dflt) s') E { heap := hh, gens := g, drawn := d, toks := tk, os := os } := by
    unfold getAttrBy?
    refine wpAny_bind (wpAny_attempt (by_false_none miss_none_name (by exact hA) fun h' tk' e he => ?_))
    obtain ⟨t', u', ho⟩ := he.there
    exact wpAny_bind (wpAny_isInstance ⟨_, ho.1, ho.2.1⟩ sub_AttributeError (wpAny_pure (h h' tk' he.keeps)))
  repeat (first | (with_reducible refine wpAny_mono h1 ?_ (fun _ _ z => z)) | lk)
  intro r s' hq
  cases r with
  | some v => exact wpAny_pure ⟨_, rfl, hq⟩
  | none => exact wpAny_pure ⟨_, rfl, hq⟩
theorem by_false_bind {od : Obj} {name : PySem.Str} {expr : Bool} {g a : Value} (X : K.In s.heap) (I : InstAt s.heap x ox C (some od)) (hga : findIn K (.ref C) "__getattribute__" = some (some (.builtin "object.__getattribute__")))
    (hf : findObj K C (some od) name = some (.bind g a)) (hk : findIn K (.ref C) "__getattr__" = some none)
    (h : wpAny (model prog w) A.in1 (call g [a, .ref x, .ref C]) (fun v s' => wpAny (model prog w) A (handedOut v) Q E s') (fun e s' => E e s') s) : wpAny (model prog w) A (getAttrBy (.ref x) (.str name t) false expr) Q E s := by
  refine by_false_open X I hga ?_
  obtain ⟨hh', gg, d, tt, os⟩ := s
  have L0 := I.type (M := model prog w)
  have L1 := looks_find (M := model prog w) X I hf
  have L2 := looks_findIn (M := model prog w) X hk
  refine wpAny_bind (wpAny_pure (wpAny_bind (L0.at (wpAny_bind (L1.at (wpAny_bind (L2.at ?_)))))))
  show wpAny _ _ (holding [a] (call g [a, .ref x, .ref C]) >>= ret) _ _ _
  exact wpAny_bind (wpAny_holding (wpAny_mono h (fun v s' z => wpAny_pure z) fun _ _ z => z))
theorem getattr3_slot_name {od : Obj} {p : Addr} {i : Nat} {v : Value} {h₀ : Heap} {L : Addr} {m : PySem.Str → Option Value} (F : Fr h₀ L s.heap m) (X₀ : K.In h₀) (I : InstAt s.heap x ox C (some od)) (hm : subIn K (.ref C) (.type "module") = some false) (hg : plainGet K C "name" = true) (hc : isClsIn K C = true)
    (ha : findIn K (.ref C) (PySem.Str.ofString "name") = some (some (.ref p))) (hn : specialIn K (.ref p) "__get__" = some (some (.builtin "member_descriptor.__get__"))) (ht : takesIn K (.ref p) = some true) (hp : slotIn K p C = some i)
    (hv : (ox.slots[i]?).join = some v) (hh : handedIn v = true) (h : Q v s) :
    wpAny (model prog w) A (call (.builtin "getattr") [.ref x, .str (PySem.Str.ofString "name") t, dflt]) Q E s :=
  getattr3_ref_name I (X₀.keeps F.keep) hm (by_false_bind (X₀.keeps F.keep) I (plainGet_of hg).1 (findObj_data hc ha hn ht) (plainGet_of hg).2 (wpAny_call (slot_get (X₀.keeps F.keep) I hp hv (handed_on hh h))))
end

/-! making an instance of an own exception class whose __init__ is its own -/
structure ExcCls (K : Frag) (C : Addr) (cd : ClassData) : Prop where
  cls : clsIn K C = some cd
  tail : excTail cd.mro = true
  selfIn : cd.mro.contains (.ref C) = true
  ab : cd.abstract = false
  del : cd.hasDel = false
  make : ∃ dd sl, K.lookup C = some ⟨.type "type", dd, .cls cd, sl⟩ ∧ (sl.toList[4]?).join = some (.builtin "Exception.__new__")
  call : specialIn K (.ref C) "__call__" = some (some (.builtin "type.__call__"))
  typ : instIn K (.ref C) (.type "type") = some true
  noA : subIn K (.ref C) (.type "AttributeError") = some false
  noN : subIn K (.ref C) (.type "NameError") = some false
abbrev excObj (C t : Addr) : Obj := { cls := .ref C, data := .fields #[.ref t, .none, .none, .none, .bool false, .none] }
section
variable {prog : Program} {w : World} {A : Around} {K : Frag} {C : Addr} {cd : ClassData} {R : Result → Shared → Prop} {h : Heap} {g : Array GenState} {d : Drawn} {t : Nat} {os : OsState}
theorem ExcCls.ne (Y : ExcCls K C cd) : cd.mro.isEmpty = false := by
  obtain ⟨rs, e⟩ := excTail_eq Y.tail
  rw [e]; cases rs <;> rfl
theorem ExcCls.sub {M : Model} (Y : ExcCls K C cd) (X : K.In h) (T : String) (hT : ([.type "Exception", .type "BaseException", .type "object"] : List Value).contains (.type T) = true) : Looks M h (isSubtype (.ref C) (.type T)) true :=
  looks_mroIn X (by unfold mroIn; rw [Y.cls, Option.bind_some, if_neg (by rw [Y.ne]; decide), excTail_has Y.tail hT])
theorem ExcCls.sub_self {M : Model} (Y : ExcCls K C cd) (X : K.In h) : Looks M h (isSubtype (.ref C) (.ref C)) true :=
  looks_mroIn X (by unfold mroIn; rw [Y.cls, Option.bind_some, if_neg (by rw [Y.ne]; decide), Y.selfIn])
theorem ExcCls.mro {M : Model} (Y : ExcCls K C cd) (X : K.In h) : Looks M h (mroOf (.ref C)) cd.mro := (looks_clsIn X Y.cls).andThen .now
theorem ExcCls.made {M : Model} (Y : ExcCls K C cd) (X : K.In h) : Looks M h (Bind.madeBy (.ref C)) (some "Exception.__new__") := by
  obtain ⟨dd, sl, ho, e3⟩ := Y.make
  obtain ⟨c, l, hl⟩ : ∃ c l, cd.mro = c :: l := by have := Y.ne; cases q : cd.mro with | nil => rw [q] at this; cases this | cons c l => exact ⟨c, l, rfl⟩
  intro A Q E s k q
  unfold Bind.madeBy
  refine wpAny_bind (Y.mro X A _ E s k ?_)
  rw [hl, List.forIn_cons]
  refine wpAny_bind (wpAny_bind (wpAny_bind (wpAny_bind (wpAny_loadPart (k _ _ (X _ _ ho)) (wpAny_pure ?_)))))
  dsimp only
  rw [← Array.getElem?_toList, e3]
  exact wpAny_pure (wpAny_pure (wpAny_pure q))
theorem ExcCls.base {M : Model} (Y : ExcCls K C cd) (X : K.In h) : Looks M h (Bind.staticBase (.ref C)) (.ref C) := by
  obtain ⟨c, l, hl⟩ : ∃ c l, cd.mro = c :: l := by have := Y.ne; cases q : cd.mro with | nil => rw [q] at this; cases this | cons c l => exact ⟨c, l, rfl⟩
  intro A Q E s k q
  unfold Bind.staticBase
  refine wpAny_bind (Y.mro X A _ E s k ?_)
  rw [hl, List.forIn_cons]
  exact wpAny_bind (wpAny_bind (wpAny_bind (Y.made X A _ E s k (wpAny_pure (wpAny_pure (wpAny_pure q))))))
theorem exc_new {rest : List Value} (Y : ExcCls K C cd) (X : K.In h) (hrest : rest.length ≤ 1000)
    (hq : R (.ok (.ret (.ref (h.objs.size + 1)))) ⟨(h.push (tupO rest)).push (excObj C h.objs.size), g, d, t, os⟩) :
    codeAny (model prog w) A (.call (.builtin "Exception.__new__") ⟨.ref C :: rest, []⟩) R ⟨h, g, d, t, os⟩ := by
  have F := PySem.F.excBase_Exception
  obtain ⟨dd, sl, ho, e3⟩ := Y.make
  have hC := X _ _ ho
  have S1 : Looks (model prog w) h (isSubtype (.ref C) (.type "Exception")) true := Y.sub X "Exception" (by decide +kernel)
  have B1 := Y.base (M := model prog w) X
  have M1 := Y.made (M := model prog w) X
  have A1 := looks_subIn (M := model prog w) X Y.noA
  have N1 := looks_subIn (M := model prog w) X Y.noN
  have hstar := F.noStar
  refine codeAny_call_builtin_code (Code.quiet_builtin _ F.quiet) ?_
  simp only [checkBuiltinCall, F.newKind, F.newSplit, F.newRow]
  repeat (first | simp only [bne_self_eq_false, Bool.false_eq_true, if_false] | lk)
  have hends := F.ends
  have H1 : Looks (model prog w) h (Bind.madeHere "BaseException.__new__" (.ref C)) () := B1.andThen (M1.andThen (Looks.of_pure (by simp only [Option.map_some, F.canon, bne_self_eq_false, Bool.false_eq_true, if_false])))
  refine codeAny_builtinAt F.entry ?_
  unfold Builtin.«BaseException.__new__»
  refine PySem.wpAt_bind ?_
  show PySem.wpAt _ _ _ (stack >>= _) _ _ _
  refine PySem.wpAt_bind (PySem.wpAt_stack fun p below => PySem.wpAt_of_wpAny ?_)
  wp_walk
  refine PySem.wpAt_of_wpAny ?_
  rw [F.owner]
  repeat (first | with_reducible refine wpAny_loadPart_at hC ?_ | lk | wp_step)
  rw [if_neg (by rw [List.size_toArray, sizeLine_eq]; omega)]
  repeat (first | with_reducible refine wpAny_loadPart_at hC ?_ | lk | wp_step)
  refine wpAny_load (Heap.get?_push_of_some _ (Heap.get?_push_of_some _ hC)) (wpAny_pure ?_)
  rw [Y.del]
  refine wpAny_pure (wpAny_pure ?_)
  show R _ _
  rw [Heap.size_push]
  exact hq
theorem exc_make_core {rest : List Value} {fI : Addr} (Y : ExcCls K C cd) (X : K.In h) (hrest : rest.length ≤ 1000) (hi : findIn K (.ref C) "__init__" = some (some (.ref fI))) (hf : typeIn K (.ref fI) = some (.type "function"))
    (hq : codeAny (model prog w) (A.under (.builtin "type.__call__" ⟨.ref C :: rest, []⟩)) (.call (.ref fI) ⟨.ref (h.objs.size + 1) :: rest, []⟩) (InitBack (h.objs.size + 1) R) ⟨(h.push (tupO rest)).push (excObj C h.objs.size), g, d, t, os⟩) :
    codeAny (model prog w) A (.call (.ref C) ⟨rest, []⟩) R ⟨h, g, d, t, os⟩ := by
  obtain ⟨dd, sl, ho, e3⟩ := Y.make
  have hC := X _ _ ho
  have call := looks_specialIn (M := model prog w) X Y.call
  have typ := looks_instIn (M := model prog w) X Y.typ
  have made := Y.made (M := model prog w) X
  have e4 := Y.ne
  refine codeAny_of_tree ?_
  show wpAny _ _ (callAny (.ref C) _) _ _ _
  refine nd_load hC ?_
  show wpAny _ _ (callAny.viaDunder (.ref C) _) _ _ _
  unfold callAny.viaDunder
  refine wpAny_bind (call.at ?_)
  dsimp only
  rw [tc_bind]
  refine wpAny_bind (wpAny_pure (wpAny_bind (wpAny_pure ?_)))
  refine wpAny_pure (a := Fin.again (.call (.builtin "type.__call__") ⟨.ref C :: rest, []⟩)) (And.intro rfl ?_)
  refine codeAny_call_builtin_at (Code.quiet_builtin _ (by decide +kernel)) entry_typeCall (check_slot tc_kind tc_split typ (tc_args _ _ _) ?_)
  unfold Builtin.«type.__call__»
  have hm : Looks (model prog w) h (mroOf (.ref C)) cd.mro := ((Looks.ld (part := none) hC).andThen .now).andThen .now
  repeat (first | simp only [e4, Bool.false_eq_true, if_false] | with_reducible refine wpAny_call ?_ | lk)
  refine exc_new Y X hrest ?_
  have k : ∀ b o, h.get? b = some o → ((h.push (tupO rest)).push (excObj C h.objs.size)).get? b = some o := fun b o e => Heap.get?_push_of_some _ (Heap.get?_push_of_some _ e)
  have hx : ((h.push (tupO rest)).push (excObj C h.objs.size)).get? (h.objs.size + 1) = some (excObj C h.objs.size) := by heap_get
  have t1 : Looks (model prog w) ((h.push (tupO rest)).push (excObj C h.objs.size)) (typeOf (.ref (h.objs.size + 1))) (.ref C) := (Looks.ld hx).andThen .now
  have s1 := (Y.sub_self (M := model prog w) X).keeps k
  have i1 := (looks_findIn (M := model prog w) X hi).keeps k
  have b1 := (bind_fn (M := model prog w) X (.ref (h.objs.size + 1)) hf).keeps k
  unfold isInstance callSpecial? specialOf
  repeat (first | with_reducible refine wpAny_call ?_ | lk)
  refine codeAny_mono hq fun r s' z => ?_
  rcases r with e | (v | _ | _ | _) <;> first | exact z | exact z.elim | skip
  obtain ⟨rfl, z⟩ := z
  exact wpAny_pure (wpAny_pure z)
end
section
variable {prog : Program} {w : World} {A : Around} {K : Frag} {C : Addr} {cd : ClassData} {s : Shared} {h₀ : Heap} {L : Addr} {m : PySem.Str → Option Value} {news : Led} {R : Result → Shared → Prop}
theorem exc_make {rest : List Value} {fI : Addr} (F : Fr h₀ L s.heap m) (N : News h₀ L s.heap news) (Y : ExcCls K C cd) (X : K.In s.heap) (hrest : rest.length ≤ 1000) (hi : findIn K (.ref C) "__init__" = some (some (.ref fI))) (hf : typeIn K (.ref fI) = some (.type "function"))
    (h : ∀ x t h', Fr h₀ L h' m → News h₀ L h' ((x, excObj C t) :: (t, tupO rest) :: news) → (∀ p ∈ news, p.1 < t) → t < x →
      codeAny (model prog w) (A.under (.builtin "type.__call__" ⟨.ref C :: rest, []⟩)) (.call (.ref fI) ⟨.ref x :: rest, []⟩) (InitBack x R) { s with heap := h' }) :
    codeAny (model prog w) A (.call (.ref C) ⟨rest, []⟩) R s := by
  obtain ⟨hh, g, d, t, os⟩ := s
  refine exc_make_core Y X hrest hi hf (h _ hh.objs.size _ ((F.push _).push _) ?_ (fun p hp => Heap.lt_size (N p hp).1) (Nat.lt_succ_self _))
  have := (N.push F (tupO rest)).push (F.push _) (excObj C hh.objs.size)
  rwa [Heap.size_push] at this
end
section
variable {prog : Program} {w : World} {A : Around} {E : Value → Shared → Prop} {K : Frag} {C : Addr} {cd : ClassData} {s : Shared} {h₀ : Heap} {L : Addr} {m : PySem.Str → Option Value} {news : Led} {Q : Value → Shared → Prop}
theorem call_exc {rest : List Value} {fI : Addr} (F : Fr h₀ L s.heap m) (X₀ : K.In h₀) (N : News h₀ L s.heap news) (Y : ExcCls K C cd) (hi : findIn K (.ref C) "__init__" = some (some (.ref fI))) (hf : typeIn K (.ref fI) = some (.type "function")) (hrest : rest.length ≤ 1000)
    (h : ∀ x t h', Fr h₀ L h' m → News h₀ L h' ((x, excObj C t) :: (t, tupO rest) :: news) → (∀ p ∈ news, p.1 < t) → t < x →
      codeAny (model prog w) (A.under (.builtin "type.__call__" ⟨.ref C :: rest, []⟩)) (.call (.ref fI) ⟨.ref x :: rest, []⟩) (InitBack x fun r s' => match r with | .ok (.ret v) => Q v s' | .ok _ => False | .error e => E e s') { s with heap := h' }) :
    wpAny (model prog w) A (call (.ref C) rest) Q E s := wpAny_call (exc_make F N Y (X₀.keeps F.keep) hrest hi hf h)
end

local macro_rules | `(tactic| k_lt $h:ident) => `(tactic| (replace $h := allLt_of $h; (try simp only [AllLt, and_true] at $h:ident); (repeat (obtain ⟨_, $h⟩ := $h)); (try (replace $h := all_lt_of_AllLt $h))))
local macro_rules | `(tactic| k_all) => `(tactic| first | assumption | exact ne_app (by assumption) (by assumption) ⟨_, by k_mem⟩ | (intro p9 hp9; (repeat ((with_reducible rename (∀ p : Addr × Obj, p ∈ _ → p.1 < _) => hh9); first | (replace hh9 := ltN (hh9 p9 hp9)) | clear hh9)); refine neN ?_; omega))
local macro_rules | `(tactic| k_room) => `(tactic| ktr_room)
local macro_rules | `(tactic| k_units) => `(tactic| ktr_units)
local macro_rules | `(tactic| k_enter) => `(tactic| (refine' code_def ?k1 ?k2 ?k3 ?k4 ?k5 ?kA ?kF ?kK ?k6 ?k7 ?k8 ?k9 ?kB ?_ ?c2 ?c3 ?c4 ?c5; (case kA => exact rfl); (case kF => exact rfl); (case kK => first | assumption | exact rfl); (case k1 => k_asm); (case k2 => k_asm); (case k3 => k_asm); (case k4 => k_asm); (case k5 => k_asm); (case k6 => k_is); (case k7 => k_is); (case k8 => k_room); (case k9 => first | exact BindsTo.of_eq rfl | exact binds_K (by k_in) rfl (by k_is) rfl rfl rfl | fail "k_enter: no rule for these arguments"); (case c5 => decide); (case kB => exact locs rfl); (case c2 => exact rfl); (case c3 => exact rfl); (case c4 => exact rfl); k_whole; intro g' L' h' FG' F' N' B' X' T'; (try dsimp only); (try k_fold)))

local macro_rules | `(tactic| k_mem) => `(tactic| first | exact List.mem_cons_self | (refine List.mem_cons_of_mem _ ?_; k_mem))
local macro_rules | `(tactic| walk_at "truthy ref") => `(tactic| (k_here; k_dflt (refine' truthy_led ?N ?m ?f ?_; (case N => k_asm); (case m => k_mem); (case f => (simp only [List.size_toArray, List.length_map, List.length_cons, List.length_nil] at *; omega)); (try simp only [Array.isEmpty, List.size_toArray, List.length_map, List.length_cons, List.length_nil, Nat.succ_ne_zero, Nat.zero_add, decide_true, decide_false, Bool.not_true, Bool.not_false]))))

section
local macro_rules | `(tactic| walk_at "zz0") => `(tactic| fail)
local macro_rules | `(tactic| walk_at "zz1") => `(tactic| fail)
local macro_rules | `(tactic| walk_at "zz2") => `(tactic| fail)
local macro_rules | `(tactic| walk_at "zz3") => `(tactic| fail)
local macro_rules | `(tactic| walk_at "zz4") => `(tactic| fail)
local macro_rules | `(tactic| walk_at "zz5") => `(tactic| fail)
local macro_rules | `(tactic| walk_at "zz6") => `(tactic| fail)
local macro_rules | `(tactic| walk_at "zz7") => `(tactic| fail)
local macro_rules | `(tactic| walk_at "zz8") => `(tactic| fail)
theorem begin_node (M : Model) (A : Around) (Q E : Value → Shared → Prop) (s : Shared) : True := by
  w_top off
  first | (have h : ∀ t : Sem Value, wpAny M A t Q E s := by (intro t; walk1; fail); trivial) | trivial
end
theorem node4 {w : World} {p : Program} {loose : List PySem.Str} {mean : ExcName → Option Value} {mg mb : PySem.Str → Option Value}
    {dp un : Nat} {gd : Option (List Code)} {cn : PySem.Str} {cs : Scope} {a : Addr} {ccd : Value} {cl : List (PySem.Str × Addr)} {outer : List Env} {A₀ : Around} {base h₀ : Heap} {L : Addr} {m : PySem.Str → Option Value} {s : Shared}
    {Q E : Value → Shared → Prop} {ns : Led} {e tx p0 p1 : Value}
    (B : Below A₀ base outer h₀) (F : Fr h₀ L s.heap m) (X : (hd3.heap_39 w.params).In h₀) (T : Top p loose mean mg mb h₀) (hk : cs.kind = .function) (N : News h₀ L s.heap ns)
    (hd : dp + 10 < recursionLimit) (hu : un + 80 < cLine)
    (ret : ∀ (c x dx : Addr) h' tk', Fr h₀ L h' m → News h₀ L h' ((c, W.listOf #[] 0) :: (x, ⟨.ref 212, some dx, .plain, #[some (.ref c), some p1, some e, some tx, some p0]⟩) :: (dx, dictOf [] 0) :: ns) → (∀ q ∈ ns, q.1 < dx) → dx < x → x < c → Q (.ref x) { s with heap := h', toks := tk' }) :
    wpAny (model (PySem.Challenge.rw_vy0013_03).row.prog w) (ktrTop dp un gd cn cs L a ccd cl outer) (call (.ref 212) [e, tx, p0, p1]) Q E s := by
  k_steps
  exact ret _ _ _ _ _ (by k_asm) (by k_asm) (by assumption) (by omega) (by omega)


theorem node5 {w : World} {p : Program} {loose : List PySem.Str} {mean : ExcName → Option Value} {mg mb : PySem.Str → Option Value}
    {dp un : Nat} {gd : Option (List Code)} {cn : PySem.Str} {cs : Scope} {a : Addr} {ccd : Value} {cl : List (PySem.Str × Addr)} {outer : List Env} {A₀ : Around} {base h₀ : Heap} {L : Addr} {m : PySem.Str → Option Value} {s : Shared}
    {Q E : Value → Shared → Prop} {ns : Led} {e tx p0 p1 : Value} {l : Addr} {vs : List Addr} {ep : Nat}
    (B : Below A₀ base outer h₀) (F : Fr h₀ L s.heap m) (X : (hd3.heap_39 w.params).In h₀) (T : Top p loose mean mg mb h₀) (hk : cs.kind = .function) (N : News h₀ L s.heap ns) (hm : (l, W.listOf (vs.map Value.ref).toArray ep) ∈ ns) (hv : vs.length < 2 ^ 30)
    (hd : dp + 10 < recursionLimit) (hu : un + 80 < cLine)
    (ret : ∀ pre (c : Addr) ep' (x dx : Addr) h' tk', Fr h₀ L h' m → News h₀ L h' (pre ++ ns) → (∀ y ∈ pre, ∀ q ∈ ns, q.1 < y.1) → ((c, W.listOf (vs.map Value.ref).toArray ep') ∈ pre ∨ (c = l ∧ ep' = ep)) →
      (x, (⟨.ref 212, some dx, .plain, #[some (.ref c), some p1, some e, some tx, some p0]⟩ : Obj)) ∈ pre → (dx, dictOf [] 0) ∈ pre → Q (.ref x) { s with heap := h', toks := tk' }) :
    wpAny (model (PySem.Challenge.rw_vy0013_03).row.prog w) (ktrTop dp un gd cn cs L a ccd cl outer) (call (.ref 212) [e, tx, p0, p1, .ref l]) Q E s := by
  cases vs with
  | nil =>
    k_steps
    refine ret [_, _, _] _ 0 _ _ _ _ (by k_asm) (by k_asm) ?_ (.inl (.head _)) (.tail _ (.head _)) (.tail _ (.tail _ (.head _)))
    intro y hy q hq
    simp only [List.mem_cons, List.not_mem_nil, or_false] at hy
    (with_reducible rename (∀ p : Addr × Obj, p ∈ _ → p.1 < _) => ha; replace ha := ltN (ha q hq))
    (with_reducible rename (∀ p : Addr × Obj, p ∈ _ → p.1 < _) => hb; replace hb := ltN (hb q hq))
    refine ltN ?_
    rcases hy with rfl | rfl | rfl <;> dsimp only <;> omega
  | cons v r =>
    k_steps
    refine ret [_, _] _ _ _ _ _ _ (by k_asm) (by k_asm) ?_ (.inr ⟨rfl, rfl⟩) (.head _) (.tail _ (.head _))
    intro y hy q hq
    simp only [List.mem_cons, List.not_mem_nil, or_false] at hy
    (with_reducible rename (∀ p : Addr × Obj, p ∈ _ → p.1 < _) => ha; replace ha := ltN (ha q hq))
    refine ltN ?_
    rcases hy with rfl | rfl <;> dsimp only <;> omega
theorem node5k {w : World} {p : Program} {loose : List PySem.Str} {mean : ExcName → Option Value} {mg mb : PySem.Str → Option Value}
    {dp un : Nat} {gd : Option (List Code)} {cn : PySem.Str} {cs : Scope} {a : Addr} {ccd : Value} {cl : List (PySem.Str × Addr)} {outer : List Env} {A₀ : Around} {base h₀ : Heap} {L : Addr} {m : PySem.Str → Option Value} {s : Shared}
    {Q E : Value → Shared → Prop} {ns : Led} {e tx p0 p1 : Value} {l : Addr} {v : Addr} {ep : Nat}
    (B : Below A₀ base outer h₀) (F : Fr h₀ L s.heap m) (X : (hd3.heap_39 w.params).In h₀) (T : Top p loose mean mg mb h₀) (hk : cs.kind = .function) (N : News h₀ L s.heap ns) (hm : (l, W.listOf ([v].map Value.ref).toArray ep) ∈ ns)
    (hd : dp + 10 < recursionLimit) (hu : un + 80 < cLine)
    (ret : ∀ (x dx : Addr) h' tk', Fr h₀ L h' m → News h₀ L h' ((x, (⟨.ref 212, some dx, .plain, #[some (.ref l), some p1, some e, some tx, some p0]⟩ : Obj)) :: (dx, dictOf [] 0) :: ns) → (∀ q ∈ ns, q.1 < dx) → dx < x → Q (.ref x) { s with heap := h', toks := tk' }) :
    wpAny (model (PySem.Challenge.rw_vy0013_03).row.prog w) (ktrTop dp un gd cn cs L a ccd cl outer) (call (.ref 212) [e, tx, p0, p1] [(PySem.Str.ofString "children", .ref l)]) Q E s := by
  k_steps
  exact ret _ _ _ _ (by k_asm) (by k_asm) (by assumption) (by omega)

local macro_rules | `(tactic| walk_at "call ref") => `(tactic| (k_here; k_dflt ((show wpAny _ _ (call (Value.ref 212) [_, _, _, _]) _ _ _); refine' node4 ?B ?F ?X ?T ?hk ?N ?hd ?hu ?_; (case B => k_asm); (case F => k_asm); (case X => k_asm); (case T => k_asm); (case hk => first | assumption | exact rfl); (case N => k_asm); (case hd => k_room); (case hu => k_units); intro c' x' d' h' tk' F' N' l1 l2 l3; (try k_lt l1); (try k_lt2 l2); (try k_lt2 l3); (try k_sweep); (try k_fold))))
local macro_rules | `(tactic| walk_at "call builtin:len") => `(tactic| ((with_reducible show wpAny _ _ (call (Value.builtin "len") [Value.str _ _]) _ _ _); refine P.len_str (by omega) ?_))


local macro_rules | `(tactic| walk_at "call ref") => `(tactic| (k_here; k_dflt ((show wpAny _ _ (call (Value.ref 212) [_, _, _, _] [(_, Value.ref _)]) _ _ _); refine' node5k ?B ?F ?X ?T ?hk ?N ?hm ?hd ?hu ?_; (case B => k_asm); (case F => k_asm); (case X => k_asm); (case T => k_asm); (case hk => first | assumption | exact rfl); (case N => k_asm); (case hm => k_mem); (case hd => k_room); (case hu => k_units); intro x' d' h' tk' F' N' l1 l2; (try k_lt l1); (try k_lt2 l2); (try k_sweep); (try k_fold))))
local macro_rules | `(tactic| walk_at "call ref") => `(tactic| (k_here; k_dflt ((show wpAny _ _ (call (Value.ref 212) [_, _, _, _, Value.ref _]) _ _ _); refine' node5 ?B ?F ?X ?T ?hk ?N ?hm ?hv ?hd ?hu ?_; (case B => k_asm); (case F => k_asm); (case X => k_asm); (case T => k_asm); (case hk => first | assumption | exact rfl); (case N => k_asm); (case hm => k_mem); (case hv => omega); (case hd => k_room); (case hu => k_units); intro pre' c' ep' x' d' h' tk' F' N' la' lb' lc' ld'; (try k_sweep); (try k_fold))))
local macro_rules | `(tactic| walk_at "getAttr ref") => `(tactic| (k_here; k_dflt (refine' get_slot ?k1 ?k2 ?k3 ?k4 ?k5 ?k6 ?k7 ?k8 ?k9 ?k10 ?k11 ?_; (case k1 => k_asm); (case k2 => k_asm); (case k3 => k_inst); (case k4 => k_is); (case k5 => k_is); (case k6 => k_is); (case k7 => k_is); (case k8 => k_is); (case k9 => k_is); (case k10 => k_slotget); (case k11 => k_handed); k_whole)))

section
local macro_rules | `(tactic| walk_at "zz0") => `(tactic| fail)
local macro_rules | `(tactic| walk_at "zz1") => `(tactic| fail)
local macro_rules | `(tactic| walk_at "zz2") => `(tactic| fail)
local macro_rules | `(tactic| walk_at "zz3") => `(tactic| fail)
local macro_rules | `(tactic| walk_at "zz4") => `(tactic| fail)
local macro_rules | `(tactic| walk_at "zz5") => `(tactic| fail)
local macro_rules | `(tactic| walk_at "zz6") => `(tactic| fail)
local macro_rules | `(tactic| walk_at "zz7") => `(tactic| fail)
local macro_rules | `(tactic| walk_at "zz8") => `(tactic| fail)
theorem begin_uclit (M : Model) (A : Around) (Q E : Value → Shared → Prop) (s : Shared) : True := by
  w_top off
  first | (have h : ∀ t : Sem Value, wpAny M A t Q E s := by (intro t; walk1; fail); trivial) | trivial
end
theorem uc_lit {w : World} {p : Program} {loose : List PySem.Str} {mean : ExcName → Option Value} {mg mb : PySem.Str → Option Value}
    {dp un : Nat} {gd : Option (List Code)} {cn : PySem.Str} {cs : Scope} {a : Addr} {ccd : Value} {cl : List (PySem.Str × Addr)} {outer : List Env} {A₀ : Around} {base h₀ : Heap} {L : Addr} {m : PySem.Str → Option Value} {s : Shared}
    {Q E : Value → Shared → Prop} {g : Gram} {st : St} {ρ μ ι : Led} {k q : Nat} {tp : Tok} {wd : PySem.Str}
    (B : Below A₀ base outer h₀) (F : Fr h₀ L s.heap m) (X : (hd3.heap_39 w.params).In h₀) (T : Top p loose mean mg mb h₀) (hk : cs.kind = .function) (N : News h₀ L s.heap (ρ ++ (μ ++ ι))) (hS : Sep ρ (μ ++ ι)) (C : CInv (PySem.Challenge.rw_vy0013_03).row.prog w g st μ ι) (G : GOk g) (he : g.ex[k]? = some (.lit wd)) (hq : q ≤ g.text.length)
    (hd : dp + 15 < recursionLimit) (hu : un + 100 < cLine) (ret : UPost (PySem.Challenge.rw_vy0013_03).row.prog w g st ρ ι (.lit wd) k q h₀ L m s Q) :
    wpAny (model (PySem.Challenge.rw_vy0013_03).row.prog w) (ktrTop dp un gd cn cs L a ccd cl outer) (call (.ref 325) [.ref (g.xa k), .str g.text g.tt, .int q tp, .ref g.c, .ref g.ea]) Q E s := by
  obtain ⟨tl, idt, tn, hx⟩ := C.exprs _ _ he
  obtain ⟨n, des, hdd⟩ := C.dictAt he
  have hf := G.sem k _ q he hq
  have hw : wd.length ≤ 100 := G.kids4 k _ he
  rw [Ex.fin] at hf
  k_steps
  · (rename (Txt.startswith3 _ _ _ = true) => hp; rw [if_pos hp] at hf)
    exact upost_node0 ret C hS (by k_asm) (fun _ h => h) rfl .refl rfl (by k_asm) (by assumption) (by assumption) (by assumption) rfl hf
  · (rename (Txt.startswith3 _ _ _ = false) => hp; rw [if_neg (by rw [hp]; decide)] at hf)
    exact upost_none ret C hS (by k_asm) (fun _ h => h) rfl .refl rfl (by k_asm) hf

def MPost (prog : Program) (w : World) (g : Gram) (st : St) (ρ ι : Led) (k q : Nat) (h₀ : Heap) (L : Addr) (m : PySem.Str → Option Value) (s : Shared) (Q : Value → Shared → Prop) : Prop :=
  ∀ r st' μ' ι' h' tk', Fr h₀ L h' m → News h₀ L h' (ρ ++ (μ' ++ ι')) → Sep ρ (μ' ++ ι') → CInv prog w g st' μ' ι' → (∀ x ∈ ι, x ∈ ι') → st'.ip = st.ip → StLe st st' →
    st'.ps = runK g k q st.ps → st'.memo k q = some r → Q r { s with heap := h', toks := tk' }
def MC (w : World) (g : Gram) (k : Nat) : Prop :=
  ∀ {w : World} {p : Program} {loose : List PySem.Str} {mean : ExcName → Option Value} {mg mb : PySem.Str → Option Value}
    {dp un : Nat} {gd : Option (List Code)} {cn : PySem.Str} {cs : Scope} {a : Addr} {ccd : Value} {cl : List (PySem.Str × Addr)} {outer : List Env} {A₀ : Around} {base h₀ : Heap} {L : Addr} {m : PySem.Str → Option Value} {s : Shared}
    {Q E : Value → Shared → Prop} {st : St} {ρ μ ι : Led} {q : Nat} {tp : Tok},
    Below A₀ base outer h₀ → Fr h₀ L s.heap m → (hd3.heap_39 w.params).In h₀ → Top p loose mean mg mb h₀ → cs.kind = .function → News h₀ L s.heap (ρ ++ (μ ++ ι)) → Sep ρ (μ ++ ι) → CInv (PySem.Challenge.rw_vy0013_03).row.prog w g st μ ι → GOk g →
    k < g.ex.length → q ≤ g.text.length → (∀ x ∈ st.ip, k < x.1) → dp + 20 * (k + 1) < recursionLimit → un + 200 * (k + 1) < cLine → MPost (PySem.Challenge.rw_vy0013_03).row.prog w g st ρ ι k q h₀ L m s Q →
    wpAny (model (PySem.Challenge.rw_vy0013_03).row.prog w) (ktrTop dp un gd cn cs L a ccd cl outer) (call (.ref 266) [.ref (g.xa k), .str g.text g.tt, .int q tp, .ref g.c, .ref g.ea]) Q E s
theorem mc_val {prog : Program} {w : World} {g : Gram} {st : St} {μ ι : Led} {k q : Nat} {r : Value} {e : Ex} (C : CInv prog w g st μ ι) (he : g.ex[k]? = some e) (hi : ∀ x ∈ st.ip, k < x.1) (h : st.memo k q = some r) : ValOk g st.memo ι e k q r := by
  have := C.vals k q r e h he
  rwa [if_neg (fun hm => absurd (hi _ hm) (Nat.lt_irrefl _))] at this
theorem val_cases {g : Gram} {memo : Nat → Nat → Option Value} {ι : Led} {e : Ex} {k q : Nat} {r : Value} (h : ValOk g memo ι e k q r) :
    (g.sem k q = none ∧ r = .none) ∨ ∃ f a, g.sem k q = some f ∧ r = .ref a ∧ NodeAt g memo ι e k q f a := by
  unfold ValOk at h
  split at h
  · rename_i hs; exact .inl ⟨hs, h⟩
  · rename_i f hs; obtain ⟨a, h1, h2⟩ := h; exact .inr ⟨f, a, hs, h1, h2⟩

theorem mc_use {k : Nat} {w : World} {p : Program} {loose : List PySem.Str} {mean : ExcName → Option Value} {mg mb : PySem.Str → Option Value}
    {dp un : Nat} {gd : Option (List Code)} {cn : PySem.Str} {cs : Scope} {a : Addr} {ccd : Value} {cl : List (PySem.Str × Addr)} {outer : List Env} {A₀ : Around} {base h₀ : Heap} {L : Addr} {m : PySem.Str → Option Value} {s : Shared}
    {Q E : Value → Shared → Prop} {g : Gram} {st : St} {ρ μ ι : Led} {q : Nat} {tp : Tok} (M : MC w g k)
    (B : Below A₀ base outer h₀) (F : Fr h₀ L s.heap m) (X : (hd3.heap_39 w.params).In h₀) (T : Top p loose mean mg mb h₀) (hk : cs.kind = .function) (C : CInv (PySem.Challenge.rw_vy0013_03).row.prog w g st μ ι) (N : News h₀ L s.heap (ρ ++ (μ ++ ι))) (hS : Sep ρ (μ ++ ι)) (G : GOk g)
    (h1 : k < g.ex.length) (h2 : q ≤ g.text.length) (h3 : ∀ x ∈ st.ip, k < x.1) (h4 : dp + 20 * (k + 1) < recursionLimit) (h5 : un + 200 * (k + 1) < cLine)
    (ret : ∀ r st' μ' ι' h' tk', Fr h₀ L h' m → News h₀ L h' (ρ ++ (μ' ++ ι')) → Sep ρ (μ' ++ ι') → CInv (PySem.Challenge.rw_vy0013_03).row.prog w g st' μ' ι' → (∀ x ∈ ι, x ∈ ι') → st'.ip = st.ip → StLe st st' →
      st'.ps = runK g k q st.ps → st'.memo k q = some r → ((g.sem k q = none ∧ r = .none) ∨ ∃ e f a, g.ex[k]? = some e ∧ g.sem k q = some f ∧ r = .ref a ∧ NodeAt g st'.memo ι' e k q f a) → Q r { s with heap := h', toks := tk' }) :
    wpAny (model (PySem.Challenge.rw_vy0013_03).row.prog w) (ktrTop dp un gd cn cs L a ccd cl outer) (call (.ref 266) [.ref (g.xa k), .str g.text g.tt, .int q tp, .ref g.c, .ref g.ea]) Q E s :=
  M B F X T hk N hS C G h1 h2 h3 h4 h5 fun r st' μ' ι' h' tk' a b c d l e f i j => by
    obtain ⟨ex, hex⟩ : ∃ ex, g.ex[k]? = some ex := ⟨_, List.getElem?_eq_getElem h1⟩
    refine ret r st' μ' ι' h' tk' a b c d l e f i j ((val_cases (mc_val d hex (by rw [e]; exact h3) j)).imp id ?_)
    rintro ⟨f, a, x, y, z⟩
    exact ⟨ex, f, a, hex, x, y, z⟩

theorem meth_mc {w : World} {A : Around} {E : Value → Shared → Prop} {s : Shared} {h₀ : Heap} {L : Addr} {m : PySem.Str → Option Value} {ns μ ι : Led} {g : Gram} {st : St} {j : Nat} {pl : Sem Bool} {Q : Value × List Value → Shared → Prop}
    (F : Fr h₀ L s.heap m) (X : (hd3.heap_39 w.params).In h₀) (N : News h₀ L s.heap ns) (C : CInv (PySem.Challenge.rw_vy0013_03).row.prog w g st μ ι) (hs : ∀ x ∈ μ ++ ι, x ∈ ns) (hj : j < g.ex.length) (h : Q (.ref 266, [.ref (g.xa j)]) s) :
    wpAny (model (PySem.Challenge.rw_vy0013_03).row.prog w) A (getMethod (.ref (g.xa j)) (PySem.Str.ofString "match_core") pl) Q E s := by
  obtain ⟨os, _, hd⟩ := C.dicts j hj
  have N' : News h₀ L s.heap (μ ++ ι) := news_sub N hs
  obtain ⟨e, he⟩ : ∃ e, g.ex[j]? = some e := ⟨_, List.getElem?_eq_getElem hj⟩
  have hx := C.exprs j e he
  obtain ⟨es, n, hdd, hg⟩ : ∃ es n, (g.da j, dictOf es n) ∈ μ ∧ getL (PySem.Str.ofString "match_core") es = some none := by
    rcases hd with ⟨_, hd⟩ | ⟨_, _, _, _, _, hd, _⟩
    · exact ⟨_, _, hd, rfl⟩
    · exact ⟨_, _, hd, rfl⟩
  cases e with
  | lit _ =>
    obtain ⟨_, _, _, hx⟩ := hx
    exact (method_inst F X (InstAt.of_news N' (List.mem_append_right _ hx) (List.mem_append_left _ hdd)) (by k_is) (by k_is) (by k_is) hg h)
  | seq _ =>
    obtain ⟨_, _, _, hx, _⟩ := hx
    exact (method_inst F X (InstAt.of_news N' (List.mem_append_right _ hx) (List.mem_append_left _ hdd)) (by k_is) (by k_is) (by k_is) hg h)
  | alt _ =>
    obtain ⟨_, _, _, hx, _⟩ := hx
    exact (method_inst F X (InstAt.of_news N' (List.mem_append_right _ hx) (List.mem_append_left _ hdd)) (by k_is) (by k_is) (by k_is) hg h)
  | look _ _ =>
    obtain ⟨_, _, _, hx, _⟩ := hx
    exact (method_inst F X (InstAt.of_news N' (List.mem_append_right _ hx) (List.mem_append_left _ hdd)) (by k_is) (by k_is) (by k_is) hg h)
  | rep _ _ _ =>
    obtain ⟨_, _, _, _, _, hx, _⟩ := hx
    exact (method_inst F X (InstAt.of_news N' (List.mem_append_right _ hx) (List.mem_append_left _ hdd)) (by k_is) (by k_is) (by k_is) hg h)

local macro_rules | `(tactic| walk_at "getMethod ref") => `(tactic| (k_here; (with_reducible show wpAny _ _ (getMethod (Value.ref (Gram.xa _ _)) (PySem.Str.ofString "match_core") _) _ _ _); k_dflt (refine' meth_mc ?F ?X ?N ?C ?hs ?hj ?_; (case F => k_asm); (case X => k_asm); (case N => k_asm); (case C => k_asm); (case hs => (intro x hx; simp only [List.mem_cons, List.mem_append] at hx ⊢; rcases hx with h | h <;> simp [h])); (case hj => omega))))
local macro_rules | `(tactic| walk_at "call ref") => `(tactic| (k_here; k_dflt ((show wpAny _ _ (call (Value.ref 266) [Value.ref (Gram.xa _ _), _, _, _, _]) _ _ _); refine' mc_use ?M ?B ?F ?X ?T ?hk ?C ?N ?hS ?G ?h1 ?h2 ?h3 ?h4 ?h5 ?_; (case C => k_asm); (case hS => k_asm); (case B => k_asm); (case F => k_asm); (case X => k_asm); (case T => k_asm); (case hk => first | assumption | exact rfl); (case N => k_asm); (case G => k_asm); (case M => first | assumption | (refine ‹∀ j, j < _ → MC _ _ j› _ ?_; omega)); (case h1 => omega); (case h2 => omega); (case h3 => first | assumption | (intro x hx; (have hx9 := ‹∀ x ∈ _, _ ≤ x.1› x hx); omega)); (case h4 => k_room); (case h5 => k_units); intro r' st' mu' ta' h' tk' F' N' S' C' io' ip' ml' ps' mv' hr'; (try simp only [List.cons_append, List.nil_append] at N'); (rcases hr' with ⟨hs', hr'⟩ | ⟨e', f', a', he', hs', hr', dx9, od9, cl9, ep9, bs9, tp9, te9, hn1, hn2, hn3, hn4⟩) <;> (subst hr'; (try k_sweep); (try k_fold)))))
local macro_rules | `(tactic| walk_at "exec For Name Attribute cons nil") => `(tactic| (k_here; k_dflt (refine For_at ?_)))
local macro_rules | `(tactic| walk_at "exec While BoolOp cons nil") => `(tactic| (k_here; refine While_at ?_))
local macro_rules | `(tactic| walk_at "exec While BoolOp") => `(tactic| (k_here; refine While_at ?_))
local macro_rules | `(tactic| walk_at "exec While") => `(tactic| (k_here; refine While_at ?_))
local macro_rules | `(tactic| walk_at "call builtin:len") => `(tactic| (k_here; (with_reducible show wpAny _ _ (call (Value.builtin "len") [Value.ref _]) _ _ _); k_dflt (refine' len_led ?N ?m ?f ?_; (case N => k_asm); (case m => k_mem); (case f => first | omega | (simp only [List.length_append, List.length_cons, List.length_nil]; omega)); (try simp only [List.length_append, List.length_cons, List.length_nil]))))
local macro_rules | `(tactic| walk_at "compareOp Lt int float") => `(tactic| (with_reducible refine lt_inf ?_))
local macro_rules | `(tactic| walk_at "call builtin:list.append") => `(tactic| (k_here; (with_reducible show wpAny _ _ (call (Value.builtin _) [Value.ref _, _]) _ _ _); k_dflt (refine' append_K ?k1 ?k2 ?k3 ?_ ?z; (case k1 => k_asm); (case k2 => k_asm); (case k3 => k_upd); (case z => first | size_fits | (simp only [List.size_toArray, List.length_map]; rw [sizeLine_eq]; omega)); k_whole); intro h' F' N'; (try simp only [push_ref] at N'); (try k_sweep)))

section
local macro_rules | `(tactic| walk_at "zz0") => `(tactic| fail)
local macro_rules | `(tactic| walk_at "zz1") => `(tactic| fail)
local macro_rules | `(tactic| walk_at "zz2") => `(tactic| fail)
local macro_rules | `(tactic| walk_at "zz3") => `(tactic| fail)
local macro_rules | `(tactic| walk_at "zz4") => `(tactic| fail)
local macro_rules | `(tactic| walk_at "zz5") => `(tactic| fail)
local macro_rules | `(tactic| walk_at "zz6") => `(tactic| fail)
local macro_rules | `(tactic| walk_at "zz7") => `(tactic| fail)
local macro_rules | `(tactic| walk_at "zz8") => `(tactic| fail)
theorem begin_uclook (M : Model) (A : Around) (Q E : Value → Shared → Prop) (s : Shared) : True := by
  w_top off
  first | (have h : ∀ t : Sem Value, wpAny M A t Q E s := by (intro t; walk1; fail); trivial) | trivial
end
theorem uc_look {w : World} {p : Program} {loose : List PySem.Str} {mean : ExcName → Option Value} {mg mb : PySem.Str → Option Value}
    {dp un : Nat} {gd : Option (List Code)} {cn : PySem.Str} {cs : Scope} {a : Addr} {ccd : Value} {cl : List (PySem.Str × Addr)} {outer : List Env} {A₀ : Around} {base h₀ : Heap} {L : Addr} {m : PySem.Str → Option Value} {s : Shared}
    {Q E : Value → Shared → Prop} {g : Gram} {st : St} {ρ μ ι : Led} {k q : Nat} {tp : Tok} {neg : Bool} {j : Nat}
    (B : Below A₀ base outer h₀) (F : Fr h₀ L s.heap m) (X : (hd3.heap_39 w.params).In h₀) (T : Top p loose mean mg mb h₀) (hk : cs.kind = .function) (N : News h₀ L s.heap (ρ ++ (μ ++ ι))) (hS : Sep ρ (μ ++ ι)) (C : CInv (PySem.Challenge.rw_vy0013_03).row.prog w g st μ ι) (G : GOk g) (he : g.ex[k]? = some (.look neg j)) (hq : q ≤ g.text.length)
    (hM : MC w g j) (hi : ∀ x ∈ st.ip, k ≤ x.1)
    (hd : dp + 20 * (k + 1) < recursionLimit + 5) (hu : un + 200 * (k + 1) < cLine + 100) (ret : UPost (PySem.Challenge.rw_vy0013_03).row.prog w g st ρ ι (.look neg j) k q h₀ L m s Q) :
    wpAny (model (PySem.Challenge.rw_vy0013_03).row.prog w) (ktrTop dp un gd cn cs L a ccd cl outer) (call (.ref 447) [.ref (g.xa k), .str g.text g.tt, .int q tp, .ref g.c, .ref g.ea]) Q E s := by
  obtain ⟨mt, idt, tn, hx, hmt⟩ := C.exprs _ _ he
  obtain ⟨n, des, hdd⟩ := C.dictAt he
  have hf := G.sem k _ q he hq
  have hjk : j < k := G.below k _ he
  have hkl : k < g.ex.length := (List.getElem?_eq_some_iff.mp he).1
  rw [Ex.fin] at hf
  cases neg
  all_goals k_steps
  all_goals (rename CInv _ _ _ _ _ _ => C2; obtain ⟨mt2, idt2, tn2, hx2, hmt2⟩ := C2.exprs _ _ he; obtain ⟨n2, des2, hdd2⟩ := C2.dictAt he; k_steps)
  all_goals ((rename g.sem _ _ = _ => hs2); rw [hs2] at hf; simp only [Option.isNone_none, Option.isNone_some, reduceCtorEq, if_true, if_false, Bool.false_eq_true] at hf)
  all_goals first
    | exact upost_none ret C2 (by k_asm) (by k_asm) (by assumption) (by assumption) (by assumption) (by assumption) (by k_asm) hf
    | exact upost_node0 ret C2 (by k_asm) (by k_asm) (by assumption) (by assumption) (by assumption) (by assumption) (by k_asm) (by assumption) (by assumption) (by assumption) rfl hf

section
local macro_rules | `(tactic| walk_at "zz0") => `(tactic| fail)
local macro_rules | `(tactic| walk_at "zz1") => `(tactic| fail)
local macro_rules | `(tactic| walk_at "zz2") => `(tactic| fail)
local macro_rules | `(tactic| walk_at "zz3") => `(tactic| fail)
local macro_rules | `(tactic| walk_at "zz4") => `(tactic| fail)
local macro_rules | `(tactic| walk_at "zz5") => `(tactic| fail)
local macro_rules | `(tactic| walk_at "zz6") => `(tactic| fail)
local macro_rules | `(tactic| walk_at "zz7") => `(tactic| fail)
local macro_rules | `(tactic| walk_at "zz8") => `(tactic| fail)
theorem begin_ucalt (M : Model) (A : Around) (Q E : Value → Shared → Prop) (s : Shared) : True := by
  w_top off
  first | (have h : ∀ t : Sem Value, wpAny M A t Q E s := by (intro t; walk1; fail); trivial) | trivial
end
theorem uc_alt {w : World} {p : Program} {loose : List PySem.Str} {mean : ExcName → Option Value} {mg mb : PySem.Str → Option Value}
    {dp un : Nat} {gd : Option (List Code)} {cn : PySem.Str} {cs : Scope} {a : Addr} {ccd : Value} {cl : List (PySem.Str × Addr)} {outer : List Env} {A₀ : Around} {base h₀ : Heap} {L : Addr} {m : PySem.Str → Option Value} {s : Shared}
    {Q E : Value → Shared → Prop} {g : Gram} {st : St} {ρ μ ι : Led} {k q : Nat} {tp : Tok} {ks : List Nat}
    (B : Below A₀ base outer h₀) (F : Fr h₀ L s.heap m) (X : (hd3.heap_39 w.params).In h₀) (T : Top p loose mean mg mb h₀) (hk : cs.kind = .function) (N : News h₀ L s.heap (ρ ++ (μ ++ ι))) (hS : Sep ρ (μ ++ ι)) (C : CInv (PySem.Challenge.rw_vy0013_03).row.prog w g st μ ι) (G : GOk g) (he : g.ex[k]? = some (.alt ks)) (hq : q ≤ g.text.length)
    (hM : ∀ j, j < k → MC w g j) (hi : ∀ x ∈ st.ip, k ≤ x.1)
    (hd : dp + 20 * (k + 1) < recursionLimit + 5) (hu : un + 200 * (k + 1) < cLine + 100) (ret : UPost (PySem.Challenge.rw_vy0013_03).row.prog w g st ρ ι (.alt ks) k q h₀ L m s Q) :
    wpAny (model (PySem.Challenge.rw_vy0013_03).row.prog w) (ktrTop dp un gd cn cs L a ccd cl outer) (call (.ref 410) [.ref (g.xa k), .str g.text g.tt, .int q tp, .ref g.c, .ref g.ea]) Q E s := by
  obtain ⟨mt, idt, tn, hx, hmt⟩ := C.exprs _ _ he
  obtain ⟨n, des, hdd⟩ := C.dictAt he
  have hf := G.sem k _ q he hq
  have hjk := G.below k _ he
  have hkl : k < g.ex.length := (List.getElem?_eq_some_iff.mp he).1
  rw [Ex.fin] at hf
  k_steps
  let m0 : PySem.Str → Option Value := fun y => List.lookup y [(PySem.Str.ofString "error", Value.ref g.ea), (PySem.Str.ofString "cache", Value.ref g.c), (PySem.Str.ofString "pos", Value.int q tp), (PySem.Str.ofString "text", Value.str g.text g.tt), (PySem.Str.ofString "self", Value.ref (g.xa k))]
  refine for_tup (fun i m₁ ns₁ => ∃ st₁ μ₁ ι₁ pre, ns₁ = ρ ++ (μ₁ ++ ι₁) ∧ Sep ρ (μ₁ ++ ι₁) ∧ CInv (PySem.Challenge.rw_vy0013_03).row.prog w g st₁ μ₁ ι₁ ∧ (∀ x ∈ ι, x ∈ ι₁) ∧ st₁.ip = st.ip ∧ StLe st st₁ ∧
    st₁.ps = pre.foldl (fun s q => runK g q.1 q.2 s) st.ps ∧ altAsks g.sem ks q = pre ++ altAsks g.sem (ks.drop i) q ∧ altEnd g.sem ks q = altEnd g.sem (ks.drop i) q ∧ altKids g.sem ks q = altKids g.sem (ks.drop i) q ∧
    ∀ y, [PySem.Str.ofString "m", PySem.Str.ofString "node"].contains y = false → m₁ y = m0 y) (by exact rfl) (by k_asm) (by k_asm) (to := tupO (ks.map fun j => .ref (g.xa j))) (by rfl) (by rfl) ?_ ?_ (by passes_own) ?_ ?_
  · exact ⟨st, μ, ι, [], rfl, hS, C, fun _ h => h, rfl, .refl, rfl, rfl, rfl, rfl, fun _ _ => rfl⟩
  · rintro i m₁ ns₁ ⟨st₁, μ₁, ι₁, pre, rfl, S₁, C₁, sub₁, -⟩
    exact List.mem_append_right _ (List.mem_append_right _ (sub₁ _ hmt))
  · rintro i v m₁ ns₁ h tk I oJ hv ⟨st₁, μ₁, ι₁, pre, rfl, S₁, C₁, sub₁, ip₁, ml₁, ps₁, hA, hE, hK, hm⟩ F₁ N₁ hI
    rw [List.getElem?_map] at hv
    obtain ⟨j, hj, rfl⟩ := Option.map_eq_some_iff.mp hv
    have hjk' : j < k := hjk j (List.mem_of_getElem? hj)
    rw [drop_getElem hj] at hA hE hK
    replace F₁ := fr_names _ F₁ hm
    have hρI : ∀ p ∈ ρ, p.1 ≠ I := fun p hp => hI p (List.mem_append_left _ hp)
    obtain ⟨ρ', hρ, N₂, S₂⟩ := turn_led N₁ hI S₁
    clear N₁
    have hi₁ : ∀ x ∈ st₁.ip, k ≤ x.1 := by rw [ip₁]; exact hi
    clear N C hS hi
    k_steps
    all_goals dsimp only [TPost]
    all_goals ((rename CInv _ _ _ _ _ _ => C2); (rename Sep ρ' _ => S3); (rename ∀ x ∈ ι₁, x ∈ _ => io2); (rename St.ps _ = runK _ _ _ _ => ps2); (rename StLe st₁ _ => ml2); (rename St.ip _ = St.ip st₁ => ip2); (rename St.memo _ j q = some _ => mv2); (rename g.sem j q = _ => hs2))
    · obtain ⟨n1, n2, n3⟩ := turn_back hρ (by k_asm) S3 hρI
      rw [altAsks_cons_none hs2] at hA; rw [altEnd_cons_none hs2] at hE; rw [altKids_cons_none hs2] at hK
      refine TEnd.intro (by k_asm) n1 n2 ⟨_, _, _, pre ++ [(j, q)], rfl, n3, C2, fun x hx => io2 _ (sub₁ _ hx), ip2.trans ip₁, ml₁.trans ml2, ?_, ?_, hE, hK, ?_⟩
      · rw [ps2]; exact foldl_snoc (f := fun s q => runK g q.1 q.2 s) (a := (j, q)) ps₁
      · rw [hA, List.append_assoc]; rfl
      · intro y hy
        simp only [List.contains_cons, List.contains_nil, Bool.or_false, Bool.or_eq_false_iff, beq_eq_false_iff_ne, ne_eq] at hy
        simp [hy.1, hy.2]
    · k_steps
      rw [altAsks_cons_some hs2] at hA; rw [altEnd_cons_some hs2] at hE; rw [altKids_cons_some hs2] at hK
      rename News h₀ _ _ _ => N9
      subst hρ
      refine upost_node (new := [_, _, _]) (vs := [_]) ret C2 (S3.sub (fun x hx => .tail _ hx) fun _ h => h) (by k_asm) (fun x hx => io2 _ (sub₁ _ hx)) (ip2.trans ip₁) (ml₁.trans ml2) ?_ (news_sub N9 mem_drop) ?_ (.tail _ (.tail _ (.head _))) (.head _) (.tail _ (.head _)) ?_ (by rw [hf, hE])
      · rw [Ex.asks, hA, ps2]; exact foldl_snoc (f := fun s q => runK g q.1 q.2 s) (a := (j, q)) ps₁
      · intro y hy z hz
        have hz' : z ∈ ((I, oJ) :: ρ) ++ _ := .tail _ hz
        (with_reducible rename (∀ p : Addr × Obj, p ∈ _ → p.1 < _) => ha; replace ha := ltN (ha z hz'))
        (with_reducible rename (∀ p : Addr × Obj, p ∈ _ → p.1 < _) => hb; replace hb := ltN (hb z hz'))
        simp only [List.mem_cons, List.not_mem_nil, or_false] at hy
        refine neN ?_
        rcases hy with rfl | rfl | rfl <;> dsimp only <;> omega
      · rw [Ex.kids, hK]; simp only [List.map_cons, List.map_nil]; rw [mv2]
  · rintro m₁ ns₁ h tk ⟨st₁, μ₁, ι₁, pre, rfl, S₁, C₁, sub₁, ip₁, ml₁, ps₁, hA, hE, hK, hm⟩ F₁ N₁
    rw [List.length_map, List.drop_length] at hA hE hK
    k_steps
    exact upost_none ret C₁ S₁ (by k_asm) sub₁ ip₁ ml₁ (by rw [Ex.asks, hA]; simpa [altAsks] using ps₁) (by k_asm) (by rw [hf, hE]; rfl)

section
local macro_rules | `(tactic| walk_at "zz0") => `(tactic| fail)
local macro_rules | `(tactic| walk_at "zz1") => `(tactic| fail)
local macro_rules | `(tactic| walk_at "zz2") => `(tactic| fail)
local macro_rules | `(tactic| walk_at "zz3") => `(tactic| fail)
local macro_rules | `(tactic| walk_at "zz4") => `(tactic| fail)
local macro_rules | `(tactic| walk_at "zz5") => `(tactic| fail)
local macro_rules | `(tactic| walk_at "zz6") => `(tactic| fail)
local macro_rules | `(tactic| walk_at "zz7") => `(tactic| fail)
local macro_rules | `(tactic| walk_at "zz8") => `(tactic| fail)
theorem begin_ucseq (M : Model) (A : Around) (Q E : Value → Shared → Prop) (s : Shared) : True := by
  w_top off
  first | (have h : ∀ t : Sem Value, wpAny M A t Q E s := by (intro t; walk1; fail); trivial) | trivial
end
theorem uc_seq {w : World} {p : Program} {loose : List PySem.Str} {mean : ExcName → Option Value} {mg mb : PySem.Str → Option Value}
    {dp un : Nat} {gd : Option (List Code)} {cn : PySem.Str} {cs : Scope} {a : Addr} {ccd : Value} {cl : List (PySem.Str × Addr)} {outer : List Env} {A₀ : Around} {base h₀ : Heap} {L : Addr} {m : PySem.Str → Option Value} {s : Shared}
    {Q E : Value → Shared → Prop} {g : Gram} {st : St} {ρ μ ι : Led} {k q : Nat} {tp : Tok} {ks : List Nat}
    (B : Below A₀ base outer h₀) (F : Fr h₀ L s.heap m) (X : (hd3.heap_39 w.params).In h₀) (T : Top p loose mean mg mb h₀) (hk : cs.kind = .function) (N : News h₀ L s.heap (ρ ++ (μ ++ ι))) (hS : Sep ρ (μ ++ ι)) (C : CInv (PySem.Challenge.rw_vy0013_03).row.prog w g st μ ι) (G : GOk g) (he : g.ex[k]? = some (.seq ks)) (hq : q ≤ g.text.length)
    (hM : ∀ j, j < k → MC w g j) (hi : ∀ x ∈ st.ip, k ≤ x.1)
    (hd : dp + 20 * (k + 1) < recursionLimit + 5) (hu : un + 200 * (k + 1) < cLine + 100) (ret : UPost (PySem.Challenge.rw_vy0013_03).row.prog w g st ρ ι (.seq ks) k q h₀ L m s Q) :
    wpAny (model (PySem.Challenge.rw_vy0013_03).row.prog w) (ktrTop dp un gd cn cs L a ccd cl outer) (call (.ref 384) [.ref (g.xa k), .str g.text g.tt, .int q tp, .ref g.c, .ref g.ea]) Q E s := by
  obtain ⟨mt, idt, tn, hx, hmt⟩ := C.exprs _ _ he
  obtain ⟨n, des, hdd⟩ := C.dictAt he
  have hf := G.sem k _ q he hq
  have hjk := G.below k _ he
  have hkl : k < g.ex.length := (List.getElem?_eq_some_iff.mp he).1
  have hlen : ks.length ≤ 100 := G.kids4 k _ he
  rw [Ex.fin] at hf
  k_steps
  rename_i lc _ hlc _ _ N1
  let m0 : PySem.Str → Option Value := fun y => List.lookup y [(PySem.Str.ofString "error", Value.ref g.ea), (PySem.Str.ofString "cache", Value.ref g.c), (PySem.Str.ofString "pos", Value.int q tp), (PySem.Str.ofString "text", Value.str g.text g.tt), (PySem.Str.ofString "self", Value.ref (g.xa k))]
  have hρc : ∀ p ∈ ρ, p.1 ≠ lc := fun p hp => Nat.ne_of_lt (hlc p (List.mem_append_left _ hp))
  have S0 : Sep ((lc, W.listOf #[] 0) :: ρ) (μ ++ ι) := fun x hx y hy => by
    rcases List.mem_cons.mp hx with rfl | hx
    · exact Nat.ne_of_gt (hlc y (List.mem_append_right _ hy))
    · exact hS x hx y hy
  refine for_tup (fun i m₁ ns₁ => ∃ st₁ μ₁ ι₁ pre p₁ tp₁ vs ep, ns₁ = ((lc, W.listOf ((vs : List Addr).map Value.ref).toArray ep) :: ρ) ++ (μ₁ ++ ι₁) ∧ Sep ((lc, W.listOf ((vs : List Addr).map Value.ref).toArray ep) :: ρ) (μ₁ ++ ι₁) ∧ CInv (PySem.Challenge.rw_vy0013_03).row.prog w g st₁ μ₁ ι₁ ∧ (∀ x ∈ ι, x ∈ ι₁) ∧ st₁.ip = st.ip ∧ StLe st st₁ ∧
    st₁.ps = pre.foldl (fun s q => runK g q.1 q.2 s) st.ps ∧ seqAsks g.sem ks q = pre ++ seqAsks g.sem (ks.drop i) p₁ ∧ seqEnd g.sem ks q = seqEnd g.sem (ks.drop i) p₁ ∧ pre.map (fun q => st₁.memo q.1 q.2) = vs.map (fun b => some (.ref b)) ∧
    p₁ ≤ g.text.length ∧ vs.length = i ∧ (∀ x ∈ [(PySem.Str.ofString "new_pos", Value.int p₁ tp₁), (PySem.Str.ofString "children", Value.ref lc)], m₁ x.1 = some x.2) ∧
    ∀ y, ([PySem.Str.ofString "new_pos", PySem.Str.ofString "children"] ++ [PySem.Str.ofString "m", PySem.Str.ofString "node", PySem.Str.ofString "length"]).contains y = false → m₁ y = m0 y) (by exact rfl) (by k_asm) (by k_asm) (to := tupO (ks.map fun j => .ref (g.xa j))) (by rfl) (by rfl) ?_ ?_ (by passes_own) ?_ ?_
  · refine ⟨st, μ, ι, [], q, tp, [], 0, rfl, S0, C, fun _ h => h, rfl, .refl, rfl, rfl, rfl, rfl, hq, rfl, ?_, ?_⟩
    · intro x hx
      simp only [List.mem_cons, List.not_mem_nil, or_false] at hx
      rcases hx with rfl | rfl <;> rfl
    · intro y hy
      simp only [List.cons_append, List.nil_append, List.contains_cons, List.contains_nil, Bool.or_false, Bool.or_eq_false_iff, beq_eq_false_iff_ne, ne_eq] at hy
      simp only [hy.1, hy.2.1, if_false]
      rfl
  · rintro i m₁ ns₁ ⟨st₁, μ₁, ι₁, pre, p₁, tp₁, vs, ep, rfl, S₁, C₁, sub₁, -⟩
    exact List.mem_append_right _ (List.mem_append_right _ (sub₁ _ hmt))
  · rintro i v m₁ ns₁ h tk I oJ hv ⟨st₁, μ₁, ι₁, pre, p₁, tp₁, vs, ep, rfl, S₁, C₁, sub₁, ip₁, ml₁, ps₁, hA, hE, hV, hp₁, hvl, hkv, hm⟩ F₁ N₂ hI
    rw [List.getElem?_map] at hv
    obtain ⟨j, hj, rfl⟩ := Option.map_eq_some_iff.mp hv
    have hjk' : j < k := hjk j (List.mem_of_getElem? hj)
    have hil : i < ks.length := (List.getElem?_eq_some_iff.mp hj).1
    rw [drop_getElem hj] at hA hE
    replace F₁ := fr_vals _ _ F₁ hkv hm
    have hρI : ∀ p ∈ (lc, W.listOf ((vs : List Addr).map Value.ref).toArray ep) :: ρ, p.1 ≠ I := fun p hp => hI p (List.mem_append_left _ hp)
    have hIc : @Ne Nat I lc := neN (hρI _ (.head _)).symm
    have S₂ : Sep ((I, oJ) :: (lc, W.listOf ((vs : List Addr).map Value.ref).toArray ep) :: ρ) (μ₁ ++ ι₁) := fun x hx y hy => by
      rcases List.mem_cons.mp hx with rfl | hx
      · exact (hI y (List.mem_append_right _ hy)).symm
      · exact S₁ x hx y hy
    simp only [List.cons_append] at N₂
    have hi₁ : ∀ x ∈ st₁.ip, k ≤ x.1 := by rw [ip₁]; exact hi
    clear N1 C hS hi S0 S₁ hlc
    k_steps
    all_goals dsimp only [TPost]
    all_goals ((rename CInv _ _ _ _ _ _ => C2); (rename Sep _ _ => S3); (rename ∀ x ∈ ι₁, x ∈ _ => io2); (rename St.ps _ = runK _ _ _ _ => ps2); (rename StLe st₁ _ => ml2); (rename St.ip _ = St.ip st₁ => ip2); (rename St.memo _ j p₁ = some _ => mv2); (rename g.sem j p₁ = _ => hs2))
    · k_steps
      rw [seqAsks_cons_none hs2] at hA; rw [seqEnd_cons_none hs2] at hE
      rename News h₀ _ _ _ => N9
      refine upost_none ret C2 (S3.sub (fun x hx => .tail _ (.tail _ hx)) fun _ h => h) (by k_asm) (fun x hx => io2 _ (sub₁ _ hx)) (ip2.trans ip₁) (ml₁.trans ml2) ?_ (news_sub N9 fun x hx => .tail _ (.tail _ hx)) (by rw [hf, hE])
      rw [Ex.asks, hA, ps2]; exact foldl_snoc (f := fun s q => runK g q.1 q.2 s) (a := (j, p₁)) ps₁
    · rename News _ _ _ _ => N9
      rename Fr _ _ _ _ => F9
      rw [seqAsks_cons_some hs2] at hA; rw [seqEnd_cons_some hs2] at hE
      have hin := G.inText _ _ _ hs2 (by omega) hp₁
      have hpm := map_memo_le ml2.memo _ _ hV
      refine TEnd.intro (by k_asm) N9 ?_ ⟨_, _, _, pre ++ [(j, p₁)], _, ?tq, _, _, rfl, ?_, C2, fun x hx => io2 _ (sub₁ _ hx), ip2.trans ip₁, ml₁.trans ml2, ?_, ?_, hE, ?_, hin.2, ?_, ?_, ?_⟩
      · intro p hp
        rcases List.mem_cons.mp hp with rfl | hp
        · exact hIc.symm
        · rcases List.mem_append.mp hp with hp | hp
          · exact hρI p (.tail _ hp)
          · exact (S3 _ (.head _) p hp).symm
      rotate_left
      · exact S3.tail.head rfl
      · rw [ps2]; exact foldl_snoc (f := fun s q => runK g q.1 q.2 s) (a := (j, p₁)) ps₁
      · rw [hA, List.append_assoc]; rfl
      · rw [List.map_append, List.map_append, hpm]; simp only [List.map_cons, List.map_nil]; rw [mv2]
      · rw [List.length_append, hvl]; rfl
      · intro x hx
        simp only [List.mem_cons, List.not_mem_nil, or_false] at hx
        rcases hx with rfl | rfl
        · rw [if_pos rfl]; refine some_int ?_; omega
        · rfl
      · intro y hy
        simp only [List.cons_append, List.nil_append, List.contains_cons, List.contains_nil, Bool.or_false, Bool.or_eq_false_iff] at hy
        obtain ⟨h1, h2, h3, h4, h5⟩ := hy
        have g1 := beq_eq_false_iff_ne.mp h1
        have g3 := beq_eq_false_iff_ne.mp h3
        have g4 := beq_eq_false_iff_ne.mp h4
        have g5 := beq_eq_false_iff_ne.mp h5
        simp [g1, g3, g4, g5, List.lookup_cons, h1, h2]
  · rintro m₁ ns₁ h tk ⟨st₁, μ₁, ι₁, pre, p₁, tp₁, vs, ep, rfl, S₁, C₁, sub₁, ip₁, ml₁, ps₁, hA, hE, hV, hp₁, hvl, hkv, hm⟩ F₁ N₁
    rw [List.length_map, List.drop_length] at hA hE
    replace F₁ := fr_vals _ _ F₁ hkv hm
    rw [List.length_map] at hvl
    simp only [List.cons_append] at N₁
    k_steps
    rename News h₀ _ _ _ => N9
    rw [seqAsks, List.append_nil] at hA
    rw [seqEnd] at hE
    have hps : st₁.ps = ((Ex.seq ks).asks g.sem g.text.length q).foldl (fun s q => runK g q.1 q.2 s) st.ps := by rw [Ex.asks, hA]; exact ps₁
    have hkd : ((Ex.seq ks).kids g.sem g.text.length q).map (fun q => st₁.memo q.1 q.2) = vs.map fun b => some (.ref b) := by rw [Ex.kids, hA]; exact hV
    have hfin : g.sem k q = some p₁ := by rw [hf, hE]
    have hne : ∀ z ∈ ρ ++ (μ₁ ++ ι₁), z.1 ≠ lc := ne_app hρc S₁ ⟨_, .head _⟩
    rename (∀ y : Addr × Obj, y ∈ _ → ∀ q : Addr × Obj, q ∈ _ → q.1 < y.1) => hgt
    have hmm : ∀ (pre' : Led), ∀ x ∈ (pre' ++ [(lc, W.listOf ((vs : List Addr).map Value.ref).toArray ep)]) ++ (ρ ++ (μ₁ ++ ι₁)), x ∈ pre' ++ (lc, W.listOf ((vs : List Addr).map Value.ref).toArray ep) :: (ρ ++ (μ₁ ++ ι₁)) := fun pre' x hx => by rwa [List.append_assoc] at hx
    have hnn : ∀ y ∈ _ ++ [(lc, W.listOf ((vs : List Addr).map Value.ref).toArray ep)], ∀ z ∈ ρ ++ (μ₁ ++ ι₁), z.1 ≠ y.1 := fun y hy z hz => (List.mem_append.mp hy).elim (fun h => Nat.ne_of_lt (hgt y h z (.tail _ hz))) fun h => by rw [List.mem_singleton.mp h]; exact hne z hz
    rename (_ ∨ _) => hcc
    rcases hcc with hcc | ⟨hc1, hc2⟩
    · exact upost_node ret C₁ S₁.tail (by k_asm) sub₁ ip₁ ml₁ hps (news_sub N9 (hmm _)) hnn (List.mem_append_left _ hcc) (List.mem_append_left _ (by assumption)) (List.mem_append_left _ (by assumption)) hkd hfin
    · subst hc1; subst hc2
      exact upost_node ret C₁ S₁.tail (by k_asm) sub₁ ip₁ ml₁ hps (news_sub N9 (hmm _)) hnn (List.mem_append_right _ (.head _)) (List.mem_append_left _ (by assumption)) (List.mem_append_left _ (by assumption)) hkd hfin

section
local macro_rules | `(tactic| walk_at "zz0") => `(tactic| fail)
local macro_rules | `(tactic| walk_at "zz1") => `(tactic| fail)
local macro_rules | `(tactic| walk_at "zz2") => `(tactic| fail)
local macro_rules | `(tactic| walk_at "zz3") => `(tactic| fail)
local macro_rules | `(tactic| walk_at "zz4") => `(tactic| fail)
local macro_rules | `(tactic| walk_at "zz5") => `(tactic| fail)
local macro_rules | `(tactic| walk_at "zz6") => `(tactic| fail)
local macro_rules | `(tactic| walk_at "zz7") => `(tactic| fail)
local macro_rules | `(tactic| walk_at "zz8") => `(tactic| fail)
theorem begin_ucrep (M : Model) (A : Around) (Q E : Value → Shared → Prop) (s : Shared) : True := by
  w_top off
  first | (have h : ∀ t : Sem Value, wpAny M A t Q E s := by (intro t; walk1; fail); trivial) | trivial
end
def RepFS (prog : Program) (w : World) (g : Gram) (st : St) (ρ ι : Led) (R : RepOut) (lc : Addr) (h₀ : Heap) (L : Addr) (m0 : PySem.Str → Option Value) (s : Shared) (f : Flow) (s' : Shared) : Prop :=
  f = .next ∧ ∃ st₁ μ₁ ι₁ tp₁ tz vs ep m₁ h' tk, s' = { s with heap := h', toks := tk } ∧ Fr h₀ L h' m₁ ∧ News h₀ L h' ((lc, W.listOf ((vs : List Addr).map Value.ref).toArray ep) :: (ρ ++ (μ₁ ++ ι₁))) ∧
    Sep ((lc, W.listOf ((vs : List Addr).map Value.ref).toArray ep) :: ρ) (μ₁ ++ ι₁) ∧ CInv prog w g st₁ μ₁ ι₁ ∧ (∀ x ∈ ι, x ∈ ι₁) ∧ st₁.ip = st.ip ∧ StLe st st₁ ∧
    st₁.ps = R.asks.foldl (fun s q => runK g q.1 q.2 s) st.ps ∧ R.kids.map (fun q => st₁.memo q.1 q.2) = vs.map (fun b => some (.ref b)) ∧ R.cnt = vs.length ∧ vs.length < 2 ^ 20 ∧ R.fin ≤ g.text.length ∧
    (∀ x ∈ [(PySem.Str.ofString "new_pos", Value.int R.fin tp₁), (PySem.Str.ofString "children", Value.ref lc), (PySem.Str.ofString "size", Value.int g.text.length tz)], m₁ x.1 = some x.2) ∧
    ∀ y, ([PySem.Str.ofString "new_pos", PySem.Str.ofString "children", PySem.Str.ofString "size"] ++ [PySem.Str.ofString "node", PySem.Str.ofString "length"]).contains y = false → m₁ y = m0 y
theorem uc_rep {w : World} {p : Program} {loose : List PySem.Str} {mean : ExcName → Option Value} {mg mb : PySem.Str → Option Value}
    {dp un : Nat} {gd : Option (List Code)} {cn : PySem.Str} {cs : Scope} {a : Addr} {ccd : Value} {cl : List (PySem.Str × Addr)} {outer : List Env} {A₀ : Around} {base h₀ : Heap} {L : Addr} {m : PySem.Str → Option Value} {s : Shared}
    {Q E : Value → Shared → Prop} {g : Gram} {st : St} {ρ μ ι : Led} {k q : Nat} {tp : Tok} {j mn : Nat} {mx : Option Nat}
    (B : Below A₀ base outer h₀) (F : Fr h₀ L s.heap m) (X : (hd3.heap_39 w.params).In h₀) (T : Top p loose mean mg mb h₀) (hk : cs.kind = .function) (N : News h₀ L s.heap (ρ ++ (μ ++ ι))) (hS : Sep ρ (μ ++ ι)) (C : CInv (PySem.Challenge.rw_vy0013_03).row.prog w g st μ ι) (G : GOk g) (he : g.ex[k]? = some (.rep j mn mx)) (hq : q ≤ g.text.length)
    (hM : MC w g j) (hi : ∀ x ∈ st.ip, k ≤ x.1)
    (hd : dp + 20 * (k + 1) < recursionLimit + 5) (hu : un + 200 * (k + 1) < cLine + 100) (ret : UPost (PySem.Challenge.rw_vy0013_03).row.prog w g st ρ ι (.rep j mn mx) k q h₀ L m s Q) :
    wpAny (model (PySem.Challenge.rw_vy0013_03).row.prog w) (ktrTop dp un gd cn cs L a ccd cl outer) (call (.ref 486) [.ref (g.xa k), .str g.text g.tt, .int q tp, .ref g.c, .ref g.ea]) Q E s := by
  obtain ⟨mt, idt, tn, tm, mv, hx, hmt, hmv⟩ := C.exprs _ _ he
  obtain ⟨n, des, hdd⟩ := C.dictAt he
  have hf := G.sem k _ q he hq
  have hjk : j < k := G.below k _ he
  have hkl : k < g.ex.length := (List.getElem?_eq_some_iff.mp he).1
  have hmn : mn ≤ 100 := G.kids4 k _ he
  have hsm := G.small
  rw [Ex.fin] at hf
  obtain ⟨R, hR⟩ : ∃ R, R = repRun g.sem g.text.length j mn mx (repFuel g.text.length mn) 0 q := ⟨_, rfl⟩
  k_steps
  rename_i lc _ hlc _ _ _ _ N1
  let m0 : PySem.Str → Option Value := fun y => List.lookup y [(PySem.Str.ofString "error", Value.ref g.ea), (PySem.Str.ofString "cache", Value.ref g.c), (PySem.Str.ofString "pos", Value.int q tp), (PySem.Str.ofString "text", Value.str g.text g.tt), (PySem.Str.ofString "self", Value.ref (g.xa k))]
  have hρc : ∀ p ∈ ρ, p.1 ≠ lc := fun p hp => Nat.ne_of_lt (hlc p (List.mem_append_left _ hp))
  have S0 : Sep ((lc, W.listOf #[] 0) :: ρ) (μ ++ ι) := fun x hx y hy => by
    rcases List.mem_cons.mp hx with rfl | hx
    · exact Nat.ne_of_gt (hlc y (List.mem_append_right _ hy))
    · exact hS x hx y hy
  unfold WhileAt
  rename Fr _ _ _ _ => F1
  refine wp_by F1 (fun B L' => RepFS (PySem.Challenge.rw_vy0013_03).row.prog w g st ρ ι R lc B L' m0 s) (While_inv2 (n₀ := repFuel g.text.length mn) (fun n m₁ nx => ∃ st₁ μ₁ ι₁ pre p₁ tp₁ tz c vs ep, nx = (lc, W.listOf ((vs : List Addr).map Value.ref).toArray ep) :: (ρ ++ (μ₁ ++ ι₁)) ∧ Sep ((lc, W.listOf ((vs : List Addr).map Value.ref).toArray ep) :: ρ) (μ₁ ++ ι₁) ∧ CInv (PySem.Challenge.rw_vy0013_03).row.prog w g st₁ μ₁ ι₁ ∧ (∀ x ∈ ι, x ∈ ι₁) ∧ st₁.ip = st.ip ∧ StLe st st₁ ∧
    st₁.ps = pre.foldl (fun s q => runK g q.1 q.2 s) st.ps ∧ R.asks = pre ++ (repRun g.sem g.text.length j mn mx n c p₁).asks ∧ R.kids = pre ++ (repRun g.sem g.text.length j mn mx n c p₁).kids ∧ R.fin = (repRun g.sem g.text.length j mn mx n c p₁).fin ∧ R.cnt = (repRun g.sem g.text.length j mn mx n c p₁).cnt ∧
    pre.map (fun q => st₁.memo q.1 q.2) = vs.map (fun b => some (.ref b)) ∧ p₁ ≤ g.text.length ∧ vs.length = c ∧ (g.text.length - p₁) + (mn - c) < n ∧ c + n ≤ g.text.length + mn + 2 ∧
    (∀ x ∈ [(PySem.Str.ofString "new_pos", Value.int p₁ tp₁), (PySem.Str.ofString "children", Value.ref lc), (PySem.Str.ofString "size", Value.int g.text.length tz)], m₁ x.1 = some x.2) ∧
    ∀ y, ([PySem.Str.ofString "new_pos", PySem.Str.ofString "children", PySem.Str.ofString "size"] ++ [PySem.Str.ofString "node", PySem.Str.ofString "length"]).contains y = false → m₁ y = m0 y) F1 N1 ?_ ?_ (by passes_own)) ?_
  · refine ⟨st, μ, ι, [], q, tp, ?zz1, 0, [], 0, rfl, S0, C, fun _ h => h, rfl, .refl, rfl, by rw [hR]; rfl, by rw [hR]; rfl, by rw [hR], by rw [hR], rfl, hq, rfl, ?_, ?_, ?_, ?_⟩
    rotate_left
    · unfold repFuel; omega
    · unfold repFuel; omega
    · intro x hx
      simp only [List.mem_cons, List.not_mem_nil, or_false] at hx
      rcases hx with rfl | rfl | rfl <;> rfl
    · intro y hy
      simp only [List.cons_append, List.nil_append, List.contains_cons, List.contains_nil, Bool.or_false, Bool.or_eq_false_iff] at hy
      obtain ⟨h1, h2, h3, h4, h5⟩ := hy
      simp only [beq_no h1, beq_no h2, beq_no h3, if_false]
      rfl
  · rintro n m₁ ns₁ h tk F₁ N₂ ⟨st₁, μ₁, ι₁, pre, p₁, tp₁, tz, c, vs, ep, rfl, S₁, C₁, sub₁, ip₁, ml₁, ps₁, hA, hK, hE, hCt, hV, hp₁, hvl, hms, hcn, hkv, hm⟩
    replace F₁ := fr_vals _ _ F₁ hkv hm
    obtain ⟨mt₁, idt₁, tn₁, tm₁, mv₁, hx₁, hmt₁, hmv₁⟩ := C₁.exprs _ _ he
    obtain ⟨n₁, des₁, hdd₁⟩ := C₁.dictAt he
    have hi₁ : ∀ x ∈ st₁.ip, k ≤ x.1 := by rw [ip₁]; exact hi
    clear N1 C hS hi S0 hlc hx hmt hdd
    obtain ⟨n, rfl⟩ : ∃ n', n = n' + 1 := ⟨n - 1, by omega⟩
    cases mx with
    | none =>
      obtain ⟨tf, rfl⟩ := hmv₁
      k_steps
      · -- the part does not match
        (rename CInv _ _ _ _ _ _ => C2); (rename Sep _ _ => S3); (rename ∀ x ∈ ι₁, x ∈ _ => io2); (rename St.ps _ = runK _ _ _ _ => ps2); (rename StLe st₁ _ => ml2); (rename St.ip _ = St.ip st₁ => ip2); (rename St.memo _ j p₁ = some _ => mv2); (rename g.sem j p₁ = _ => hs2); (rename News _ _ _ _ => N9); (rename Fr _ _ _ _ => F9)
        have hpp : p₁ < g.text.length := by omega
        rw [rep_none hpp rfl hs2] at hA hK hE hCt
        refine ⟨rfl, _, _, _, tp₁, ?zz2, vs, _, _, _, _, rfl, F9, N9, S3, C2, fun x hx => io2 _ (sub₁ _ hx), ip2.trans ip₁, ml₁.trans ml2, ?_, ?_, by rw [hCt, hvl], by omega, by rw [hE]; exact hp₁, ?_, ?_⟩
        rotate_left
        · rw [hA, ps2]; exact foldl_snoc (f := fun s q => runK g q.1 q.2 s) (a := (j, p₁)) ps₁
        · rw [hK, List.append_nil]; exact map_memo_le ml2.memo _ _ hV
        · intro x hx
          simp only [List.mem_cons, List.not_mem_nil, or_false] at hx
          rcases hx with rfl | rfl | rfl
          · rw [hE]; rfl
          · rfl
          · rfl
        · intro y hy
          simp only [List.cons_append, List.nil_append, List.contains_cons, List.contains_nil, Bool.or_false, Bool.or_eq_false_iff] at hy
          obtain ⟨h1, h2, h3, h4, h5⟩ := hy
          simp [beq_no h1, beq_no h2, beq_no h3, beq_no h4, beq_no h5, List.lookup_cons, h1, h2, h3, h4, h5]
      · -- it matches
        rename CInv _ _ _ _ _ _ => C2
        obtain ⟨mt2, idt2, tn2, tm2, mvv2, hx2, hmt2, hmv2⟩ := C2.exprs _ _ he
        obtain ⟨n2, des2, hdd2⟩ := C2.dictAt he
        clear hx₁ hmt₁ hdd₁
        k_steps
        · (rename Sep _ _ => S3); (rename ∀ x ∈ ι₁, x ∈ _ => io2); (rename St.ps _ = runK _ _ _ _ => ps2); (rename StLe st₁ _ => ml2); (rename St.ip _ = St.ip st₁ => ip2); (rename St.memo _ j p₁ = some _ => mv2); (rename g.sem j p₁ = _ => hs2); (rename News _ _ _ _ => N9); (rename Fr _ _ _ _ => F9)
          have hpp : p₁ < g.text.length := by omega
          rw [rep_zero hpp rfl hs2 (by omega) (by omega)] at hA hK hE hCt
          have hpm := map_memo_le ml2.memo _ _ hV
          refine ⟨rfl, _, _, _, tp₁, ?zz3, _, _, _, _, _, rfl, F9, N9, S3.head rfl, C2, fun x hx => io2 _ (sub₁ _ hx), ip2.trans ip₁, ml₁.trans ml2, ?_, ?_, ?_, ?_, by rw [hE]; exact hp₁, ?_, ?_⟩
          rotate_left
          · rw [hA, ps2]; exact foldl_snoc (f := fun s q => runK g q.1 q.2 s) (a := (j, p₁)) ps₁
          · rw [hK, List.map_append, List.map_append, hpm]; simp only [List.map_cons, List.map_nil]; rw [mv2]
          · rw [hCt, List.length_append, hvl]; rfl
          · rw [List.length_append, hvl]; simp only [List.length_cons, List.length_nil]; omega
          · intro x hx
            simp only [List.mem_cons, List.not_mem_nil, or_false] at hx
            rcases hx with rfl | rfl | rfl
            · rw [hE]; rfl
            · rfl
            · rfl
          · intro y hy
            simp only [List.cons_append, List.nil_append, List.contains_cons, List.contains_nil, Bool.or_false, Bool.or_eq_false_iff] at hy
            obtain ⟨h1, h2, h3, h4, h5⟩ := hy
            simp [beq_no h1, beq_no h2, beq_no h3, beq_no h4, beq_no h5, List.lookup_cons, h1, h2, h3, h4, h5]
        · (rename Sep _ _ => S3); (rename ∀ x ∈ ι₁, x ∈ _ => io2); (rename St.ps _ = runK _ _ _ _ => ps2); (rename StLe st₁ _ => ml2); (rename St.ip _ = St.ip st₁ => ip2); (rename St.memo _ j p₁ = some _ => mv2); (rename g.sem j p₁ = _ => hs2); (rename News _ _ _ _ => N9); (rename Fr _ _ _ _ => F9)
          have hpp : p₁ < g.text.length := by omega
          have hin := G.inText _ _ _ hs2 (by omega) hp₁
          rw [rep_more hpp rfl hs2 (by omega)] at hA hK hE hCt
          have hpm := map_memo_le ml2.memo _ _ hV
          refine ⟨_, _, _, _, n, rfl, F9, N9, Nat.lt_succ_self _, _, _, _, pre ++ [(j, p₁)], _, ?zz4, ?zz5, c + 1, _, _, rfl, S3.head rfl, C2, fun x hx => io2 _ (sub₁ _ hx), ip2.trans ip₁, ml₁.trans ml2, ?_, ?_, ?_, hE, hCt, ?_, hin.2, ?_, ?_, ?_, ?_, ?_⟩
          rotate_left 2
          · rw [ps2]; exact foldl_snoc (f := fun s q => runK g q.1 q.2 s) (a := (j, p₁)) ps₁
          · rw [hA, List.append_assoc]; rfl
          · rw [hK, List.append_assoc]; rfl
          · rw [List.map_append, List.map_append, hpm]; simp only [List.map_cons, List.map_nil]; rw [mv2]
          · rw [List.length_append, hvl]; rfl
          · omega
          · omega
          · intro x hx
            simp only [List.mem_cons, List.not_mem_nil, or_false] at hx
            rcases hx with rfl | rfl | rfl
            · dsimp only; rw [if_pos rfl]; refine some_int ?_; omega
            · rfl
            · rfl
          · intro y hy
            simp only [List.cons_append, List.nil_append, List.contains_cons, List.contains_nil, Bool.or_false, Bool.or_eq_false_iff] at hy
            obtain ⟨h1, h2, h3, h4, h5⟩ := hy
            simp [beq_no h1, beq_no h2, beq_no h3, beq_no h4, beq_no h5, List.lookup_cons, h1, h2, h3, h4, h5]
        · (rename Sep _ _ => S3); (rename ∀ x ∈ ι₁, x ∈ _ => io2); (rename St.ps _ = runK _ _ _ _ => ps2); (rename StLe st₁ _ => ml2); (rename St.ip _ = St.ip st₁ => ip2); (rename St.memo _ j p₁ = some _ => mv2); (rename g.sem j p₁ = _ => hs2); (rename News _ _ _ _ => N9); (rename Fr _ _ _ _ => F9)
          have hpp : p₁ < g.text.length := by omega
          have hin := G.inText _ _ _ hs2 (by omega) hp₁
          rw [rep_more hpp rfl hs2 (by omega)] at hA hK hE hCt
          have hpm := map_memo_le ml2.memo _ _ hV
          refine ⟨_, _, _, _, n, rfl, F9, N9, Nat.lt_succ_self _, _, _, _, pre ++ [(j, p₁)], _, ?zz6, ?zz7, c + 1, _, _, rfl, S3.head rfl, C2, fun x hx => io2 _ (sub₁ _ hx), ip2.trans ip₁, ml₁.trans ml2, ?_, ?_, ?_, hE, hCt, ?_, hin.2, ?_, ?_, ?_, ?_, ?_⟩
          rotate_left 2
          · rw [ps2]; exact foldl_snoc (f := fun s q => runK g q.1 q.2 s) (a := (j, p₁)) ps₁
          · rw [hA, List.append_assoc]; rfl
          · rw [hK, List.append_assoc]; rfl
          · rw [List.map_append, List.map_append, hpm]; simp only [List.map_cons, List.map_nil]; rw [mv2]
          · rw [List.length_append, hvl]; rfl
          · omega
          · omega
          · intro x hx
            simp only [List.mem_cons, List.not_mem_nil, or_false] at hx
            rcases hx with rfl | rfl | rfl
            · dsimp only; rw [if_pos rfl]; refine some_int ?_; omega
            · rfl
            · rfl
          · intro y hy
            simp only [List.cons_append, List.nil_append, List.contains_cons, List.contains_nil, Bool.or_false, Bool.or_eq_false_iff] at hy
            obtain ⟨h1, h2, h3, h4, h5⟩ := hy
            simp [beq_no h1, beq_no h2, beq_no h3, beq_no h4, beq_no h5, List.lookup_cons, h1, h2, h3, h4, h5]
      · (rename News _ _ _ _ => N9); (rename Fr _ _ _ _ => F9)
        rw [rep_stop (by rintro ⟨h1, h2⟩; first | omega | (simp only [capOk, decide_eq_true_eq] at h2; omega))] at hA hK hE hCt
        refine ⟨rfl, _, _, _, tp₁, ?zz8, vs, _, _, _, _, rfl, F9, N9, S₁, C₁, sub₁, ip₁, ml₁, ?_, ?_, by rw [hCt, hvl], by omega, by rw [hE]; exact hp₁, ?_, ?_⟩
        rotate_left
        · rw [hA, List.append_nil]; exact ps₁
        · rw [hK, List.append_nil]; exact hV
        · intro x hx
          simp only [List.mem_cons, List.not_mem_nil, or_false] at hx
          rcases hx with rfl | rfl | rfl
          · rw [hE]; rfl
          · rfl
          · rfl
        · intro y hy
          simp only [List.cons_append, List.nil_append, List.contains_cons, List.contains_nil, Bool.or_false, Bool.or_eq_false_iff] at hy
          obtain ⟨h1, h2, h3, h4, h5⟩ := hy
          simp [beq_no h1, beq_no h2, beq_no h3, beq_no h4, beq_no h5, List.lookup_cons, h1, h2, h3, h4, h5]
    | some x =>
      obtain ⟨tf, rfl⟩ := hmv₁
      k_steps
      · -- the part does not match
        (rename CInv _ _ _ _ _ _ => C2); (rename Sep _ _ => S3); (rename ∀ x ∈ ι₁, x ∈ _ => io2); (rename St.ps _ = runK _ _ _ _ => ps2); (rename StLe st₁ _ => ml2); (rename St.ip _ = St.ip st₁ => ip2); (rename St.memo _ j p₁ = some _ => mv2); (rename g.sem j p₁ = _ => hs2); (rename News _ _ _ _ => N9); (rename Fr _ _ _ _ => F9)
        have hpp : p₁ < g.text.length := by omega
        rw [rep_none hpp (cap_some (by omega)) hs2] at hA hK hE hCt
        refine ⟨rfl, _, _, _, tp₁, ?zz9, vs, _, _, _, _, rfl, F9, N9, S3, C2, fun x hx => io2 _ (sub₁ _ hx), ip2.trans ip₁, ml₁.trans ml2, ?_, ?_, by rw [hCt, hvl], by omega, by rw [hE]; exact hp₁, ?_, ?_⟩
        rotate_left
        · rw [hA, ps2]; exact foldl_snoc (f := fun s q => runK g q.1 q.2 s) (a := (j, p₁)) ps₁
        · rw [hK, List.append_nil]; exact map_memo_le ml2.memo _ _ hV
        · intro x hx
          simp only [List.mem_cons, List.not_mem_nil, or_false] at hx
          rcases hx with rfl | rfl | rfl
          · rw [hE]; rfl
          · rfl
          · rfl
        · intro y hy
          simp only [List.cons_append, List.nil_append, List.contains_cons, List.contains_nil, Bool.or_false, Bool.or_eq_false_iff] at hy
          obtain ⟨h1, h2, h3, h4, h5⟩ := hy
          simp [beq_no h1, beq_no h2, beq_no h3, beq_no h4, beq_no h5, List.lookup_cons, h1, h2, h3, h4, h5]
      · -- it matches
        rename CInv _ _ _ _ _ _ => C2
        obtain ⟨mt2, idt2, tn2, tm2, mvv2, hx2, hmt2, hmv2⟩ := C2.exprs _ _ he
        obtain ⟨n2, des2, hdd2⟩ := C2.dictAt he
        clear hx₁ hmt₁ hdd₁
        k_steps
        · (rename Sep _ _ => S3); (rename ∀ x ∈ ι₁, x ∈ _ => io2); (rename St.ps _ = runK _ _ _ _ => ps2); (rename StLe st₁ _ => ml2); (rename St.ip _ = St.ip st₁ => ip2); (rename St.memo _ j p₁ = some _ => mv2); (rename g.sem j p₁ = _ => hs2); (rename News _ _ _ _ => N9); (rename Fr _ _ _ _ => F9)
          have hpp : p₁ < g.text.length := by omega
          rw [rep_zero hpp (cap_some (by omega)) hs2 (by omega) (by omega)] at hA hK hE hCt
          have hpm := map_memo_le ml2.memo _ _ hV
          refine ⟨rfl, _, _, _, tp₁, ?zz10, _, _, _, _, _, rfl, F9, N9, S3.head rfl, C2, fun x hx => io2 _ (sub₁ _ hx), ip2.trans ip₁, ml₁.trans ml2, ?_, ?_, ?_, ?_, by rw [hE]; exact hp₁, ?_, ?_⟩
          rotate_left
          · rw [hA, ps2]; exact foldl_snoc (f := fun s q => runK g q.1 q.2 s) (a := (j, p₁)) ps₁
          · rw [hK, List.map_append, List.map_append, hpm]; simp only [List.map_cons, List.map_nil]; rw [mv2]
          · rw [hCt, List.length_append, hvl]; rfl
          · rw [List.length_append, hvl]; simp only [List.length_cons, List.length_nil]; omega
          · intro x hx
            simp only [List.mem_cons, List.not_mem_nil, or_false] at hx
            rcases hx with rfl | rfl | rfl
            · rw [hE]; rfl
            · rfl
            · rfl
          · intro y hy
            simp only [List.cons_append, List.nil_append, List.contains_cons, List.contains_nil, Bool.or_false, Bool.or_eq_false_iff] at hy
            obtain ⟨h1, h2, h3, h4, h5⟩ := hy
            simp [beq_no h1, beq_no h2, beq_no h3, beq_no h4, beq_no h5, List.lookup_cons, h1, h2, h3, h4, h5]
        · (rename Sep _ _ => S3); (rename ∀ x ∈ ι₁, x ∈ _ => io2); (rename St.ps _ = runK _ _ _ _ => ps2); (rename StLe st₁ _ => ml2); (rename St.ip _ = St.ip st₁ => ip2); (rename St.memo _ j p₁ = some _ => mv2); (rename g.sem j p₁ = _ => hs2); (rename News _ _ _ _ => N9); (rename Fr _ _ _ _ => F9)
          have hpp : p₁ < g.text.length := by omega
          have hin := G.inText _ _ _ hs2 (by omega) hp₁
          rw [rep_more hpp (cap_some (by omega)) hs2 (by omega)] at hA hK hE hCt
          have hpm := map_memo_le ml2.memo _ _ hV
          refine ⟨_, _, _, _, n, rfl, F9, N9, Nat.lt_succ_self _, _, _, _, pre ++ [(j, p₁)], _, ?zz11, ?zz12, c + 1, _, _, rfl, S3.head rfl, C2, fun x hx => io2 _ (sub₁ _ hx), ip2.trans ip₁, ml₁.trans ml2, ?_, ?_, ?_, hE, hCt, ?_, hin.2, ?_, ?_, ?_, ?_, ?_⟩
          rotate_left 2
          · rw [ps2]; exact foldl_snoc (f := fun s q => runK g q.1 q.2 s) (a := (j, p₁)) ps₁
          · rw [hA, List.append_assoc]; rfl
          · rw [hK, List.append_assoc]; rfl
          · rw [List.map_append, List.map_append, hpm]; simp only [List.map_cons, List.map_nil]; rw [mv2]
          · rw [List.length_append, hvl]; rfl
          · omega
          · omega
          · intro x hx
            simp only [List.mem_cons, List.not_mem_nil, or_false] at hx
            rcases hx with rfl | rfl | rfl
            · dsimp only; rw [if_pos rfl]; refine some_int ?_; omega
            · rfl
            · rfl
          · intro y hy
            simp only [List.cons_append, List.nil_append, List.contains_cons, List.contains_nil, Bool.or_false, Bool.or_eq_false_iff] at hy
            obtain ⟨h1, h2, h3, h4, h5⟩ := hy
            simp [beq_no h1, beq_no h2, beq_no h3, beq_no h4, beq_no h5, List.lookup_cons, h1, h2, h3, h4, h5]
        · (rename Sep _ _ => S3); (rename ∀ x ∈ ι₁, x ∈ _ => io2); (rename St.ps _ = runK _ _ _ _ => ps2); (rename StLe st₁ _ => ml2); (rename St.ip _ = St.ip st₁ => ip2); (rename St.memo _ j p₁ = some _ => mv2); (rename g.sem j p₁ = _ => hs2); (rename News _ _ _ _ => N9); (rename Fr _ _ _ _ => F9)
          have hpp : p₁ < g.text.length := by omega
          have hin := G.inText _ _ _ hs2 (by omega) hp₁
          rw [rep_more hpp (cap_some (by omega)) hs2 (by omega)] at hA hK hE hCt
          have hpm := map_memo_le ml2.memo _ _ hV
          refine ⟨_, _, _, _, n, rfl, F9, N9, Nat.lt_succ_self _, _, _, _, pre ++ [(j, p₁)], _, ?zz13, ?zz14, c + 1, _, _, rfl, S3.head rfl, C2, fun x hx => io2 _ (sub₁ _ hx), ip2.trans ip₁, ml₁.trans ml2, ?_, ?_, ?_, hE, hCt, ?_, hin.2, ?_, ?_, ?_, ?_, ?_⟩
          rotate_left 2
          · rw [ps2]; exact foldl_snoc (f := fun s q => runK g q.1 q.2 s) (a := (j, p₁)) ps₁
          · rw [hA, List.append_assoc]; rfl
          · rw [hK, List.append_assoc]; rfl
          · rw [List.map_append, List.map_append, hpm]; simp only [List.map_cons, List.map_nil]; rw [mv2]
          · rw [List.length_append, hvl]; rfl
          · omega
          · omega
          · intro x hx
            simp only [List.mem_cons, List.not_mem_nil, or_false] at hx
            rcases hx with rfl | rfl | rfl
            · dsimp only; rw [if_pos rfl]; refine some_int ?_; omega
            · rfl
            · rfl
          · intro y hy
            simp only [List.cons_append, List.nil_append, List.contains_cons, List.contains_nil, Bool.or_false, Bool.or_eq_false_iff] at hy
            obtain ⟨h1, h2, h3, h4, h5⟩ := hy
            simp [beq_no h1, beq_no h2, beq_no h3, beq_no h4, beq_no h5, List.lookup_cons, h1, h2, h3, h4, h5]
      · (rename News _ _ _ _ => N9); (rename Fr _ _ _ _ => F9)
        rw [rep_stop (by rintro ⟨h1, h2⟩; first | omega | (simp only [capOk, decide_eq_true_eq] at h2; omega))] at hA hK hE hCt
        refine ⟨rfl, _, _, _, tp₁, ?zz15, vs, _, _, _, _, rfl, F9, N9, S₁, C₁, sub₁, ip₁, ml₁, ?_, ?_, by rw [hCt, hvl], by omega, by rw [hE]; exact hp₁, ?_, ?_⟩
        rotate_left
        · rw [hA, List.append_nil]; exact ps₁
        · rw [hK, List.append_nil]; exact hV
        · intro x hx
          simp only [List.mem_cons, List.not_mem_nil, or_false] at hx
          rcases hx with rfl | rfl | rfl
          · rw [hE]; rfl
          · rfl
          · rfl
        · intro y hy
          simp only [List.cons_append, List.nil_append, List.contains_cons, List.contains_nil, Bool.or_false, Bool.or_eq_false_iff] at hy
          obtain ⟨h1, h2, h3, h4, h5⟩ := hy
          simp [beq_no h1, beq_no h2, beq_no h3, beq_no h4, beq_no h5, List.lookup_cons, h1, h2, h3, h4, h5]
      · (rename News _ _ _ _ => N9); (rename Fr _ _ _ _ => F9)
        rw [rep_stop (by rintro ⟨h1, h2⟩; first | omega | (simp only [capOk, decide_eq_true_eq] at h2; omega))] at hA hK hE hCt
        refine ⟨rfl, _, _, _, tp₁, ?zz16, vs, _, _, _, _, rfl, F9, N9, S₁, C₁, sub₁, ip₁, ml₁, ?_, ?_, by rw [hCt, hvl], by omega, by rw [hE]; exact hp₁, ?_, ?_⟩
        rotate_left
        · rw [hA, List.append_nil]; exact ps₁
        · rw [hK, List.append_nil]; exact hV
        · intro x hx
          simp only [List.mem_cons, List.not_mem_nil, or_false] at hx
          rcases hx with rfl | rfl | rfl
          · rw [hE]; rfl
          · rfl
          · rfl
        · intro y hy
          simp only [List.cons_append, List.nil_append, List.contains_cons, List.contains_nil, Bool.or_false, Bool.or_eq_false_iff] at hy
          obtain ⟨h1, h2, h3, h4, h5⟩ := hy
          simp [beq_no h1, beq_no h2, beq_no h3, beq_no h4, beq_no h5, List.lookup_cons, h1, h2, h3, h4, h5]
  · rintro f s' ⟨rfl, st₁, μ₁, ι₁, tp₁, tz, vs, ep, m₁, h', tk', rfl, F₁, N₂, S₁, C₁, sub₁, ip₁, ml₁, ps₁, hV, hct, hvl, hfin, hkv, hm⟩
    replace F₁ := fr_vals _ _ F₁ hkv hm
    obtain ⟨mt₁, idt₁, tn₁, tm₁, mv₁, hx₁, hmt₁, hmv₁⟩ := C₁.exprs _ _ he
    obtain ⟨n₁, des₁, hdd₁⟩ := C₁.dictAt he
    clear N1 C hS hi S0 hlc hx hmt hdd F1
    dsimp only at hf ⊢
    rw [← hR] at hf
    have hps : st₁.ps = ((Ex.rep j mn mx).asks g.sem g.text.length q).foldl (fun s q => runK g q.1 q.2 s) st.ps := by rw [Ex.asks, ← hR]; exact ps₁
    have hkd : ((Ex.rep j mn mx).kids g.sem g.text.length q).map (fun q => st₁.memo q.1 q.2) = vs.map fun b => some (.ref b) := by rw [Ex.kids, ← hR]; exact hV
    rw [hct] at hf
    k_steps
    · rename News h₀ _ _ _ => N9
      rw [if_pos (by omega)] at hf
      have hne : ∀ z ∈ ρ ++ (μ₁ ++ ι₁), z.1 ≠ lc := ne_app hρc S₁ ⟨_, .head _⟩
      rename (∀ y : Addr × Obj, y ∈ _ → ∀ q : Addr × Obj, q ∈ _ → q.1 < y.1) => hgt
      have hmm : ∀ (pre' : Led), ∀ x ∈ (pre' ++ [(lc, W.listOf ((vs : List Addr).map Value.ref).toArray ep)]) ++ (ρ ++ (μ₁ ++ ι₁)), x ∈ pre' ++ (lc, W.listOf ((vs : List Addr).map Value.ref).toArray ep) :: (ρ ++ (μ₁ ++ ι₁)) := fun pre' x hx => by rwa [List.append_assoc] at hx
      have hnn : ∀ y ∈ _ ++ [(lc, W.listOf ((vs : List Addr).map Value.ref).toArray ep)], ∀ z ∈ ρ ++ (μ₁ ++ ι₁), z.1 ≠ y.1 := fun y hy z hz => (List.mem_append.mp hy).elim (fun h => Nat.ne_of_lt (hgt y h z (.tail _ hz))) fun h => by rw [List.mem_singleton.mp h]; exact hne z hz
      rename (_ ∨ _) => hcc
      rcases hcc with hcc | ⟨hc1, hc2⟩
      · exact upost_node ret C₁ S₁.tail (by k_asm) sub₁ ip₁ ml₁ hps (news_sub N9 (hmm _)) hnn (List.mem_append_left _ hcc) (List.mem_append_left _ (by assumption)) (List.mem_append_left _ (by assumption)) hkd hf
      · subst hc1; subst hc2
        exact upost_node ret C₁ S₁.tail (by k_asm) sub₁ ip₁ ml₁ hps (news_sub N9 (hmm _)) hnn (List.mem_append_right _ (.head _)) (List.mem_append_left _ (by assumption)) (List.mem_append_left _ (by assumption)) hkd hf
    · rename News h₀ _ _ _ => N9
      rw [if_neg (by omega)] at hf
      exact upost_none ret C₁ S₁.tail (by k_asm) sub₁ ip₁ ml₁ hps (news_sub N9 fun x hx => .tail _ hx) hf

theorem CInv.odAt {prog : Program} {w : World} {g : Gram} {st : St} {μ ι : Led} (C : CInv prog w g st μ ι) {k : Nat} (h : k < g.ex.length) : ∃ od, (g.da k, od) ∈ μ ∧ OdOk ι od (st.oids k) := by
  obtain ⟨os, rfl, h⟩ := C.dicts k h
  rcases h with ⟨a, b⟩ | ⟨hh, t, ot, pas, n, a, b, c⟩
  · exact ⟨_, b, .inl ⟨a, rfl⟩⟩
  · exact ⟨_, a, .inr ⟨hh, t, ot, pas, n, rfl, b, c⟩⟩
theorem ex_inst {g : Gram} {σ : Led} {k : Nat} {e : Ex} (hx : ExIn g σ k e) : ∃ C sl, (g.xa k, (⟨.ref C, some (g.da k), .plain, sl⟩ : Obj)) ∈ σ ∧ (C = 336 ∨ C = 394 ∨ C = 420 ∨ C = 458 ∨ C = 497) := by
  cases e with
  | lit _ => obtain ⟨_, _, _, hx⟩ := hx; exact ⟨_, _, hx, .inl rfl⟩
  | seq _ => obtain ⟨_, _, _, hx, _⟩ := hx; exact ⟨_, _, hx, .inr (.inl rfl)⟩
  | alt _ => obtain ⟨_, _, _, hx, _⟩ := hx; exact ⟨_, _, hx, .inr (.inr (.inl rfl))⟩
  | look _ _ => obtain ⟨_, _, _, hx, _⟩ := hx; exact ⟨_, _, hx, .inr (.inr (.inr (.inl rfl)))⟩
  | rep _ _ _ => obtain ⟨_, _, _, _, _, hx, _⟩ := hx; exact ⟨_, _, hx, .inr (.inr (.inr (.inr rfl)))⟩
/-- what self.oids gives: a tuple of pairs -/
theorem oids_get {w : World} {A : Around} {E : Value → Shared → Prop} {s : Shared} {h₀ : Heap} {L : Addr} {m : PySem.Str → Option Value} {ns ι : Led} {g : Gram} {k : Nat} {t : Tok} {e : Ex} {od : Obj} {os : List (Int × Addr)} {dt : Addr} {Q : Value → Shared → Prop}
    (F : Fr h₀ L s.heap m) (X : (hd3.heap_39 w.params).In h₀) (N : News h₀ L s.heap ns) (hs : ∀ x ∈ ι, x ∈ ns) (hx : ExIn g ι k e) (hd : (g.da k, od) ∈ ns) (ho : OdOk ι od os) (hA : A.handled = none) (hdt : (dt, tupO []) ∈ ns)
    (h : ∀ ot pas h' tk, Fr h₀ L h' m → News h₀ L h' ns → (ot, tupO ((pas : List Addr).map .ref)) ∈ ns → OidsAt ι pas os → Q (.ref ot) { s with heap := h', toks := tk }) :
    wpAny (model (PySem.Challenge.rw_vy0013_03).row.prog w) A (call (.builtin "getattr") [.ref (g.xa k), .str (PySem.Str.ofString "oids") t, .ref dt]) Q E s := by
  obtain ⟨Cc, sl, hxi, hC⟩ := ex_inst hx
  replace hxi := hs _ hxi
  rcases ho with ⟨ho, rfl⟩ | ⟨hh, tt, ot, pas, n, rfl, hot, hop⟩
  · have grow : ∀ h' tk, (∀ b o, s.heap.get? b = some o → h'.get? b = some o) → Q (.ref dt) { s with heap := h', toks := tk } := fun h' tk hk => h dt [] h' tk (F.keeps hk) (N.grown hk) hdt (ho ▸ .nil)
    rcases hC with rfl | rfl | rfl | rfl | rfl
    · exact getattr3_miss_oids hA F X (InstAt.of_news N hxi hd) (by k_is) (by k_is) (by k_is) (by k_is) rfl (by k_is) (by decide +kernel) (by decide +kernel) grow
    · exact getattr3_miss_oids hA F X (InstAt.of_news N hxi hd) (by k_is) (by k_is) (by k_is) (by k_is) rfl (by k_is) (by decide +kernel) (by decide +kernel) grow
    · exact getattr3_miss_oids hA F X (InstAt.of_news N hxi hd) (by k_is) (by k_is) (by k_is) (by k_is) rfl (by k_is) (by decide +kernel) (by decide +kernel) grow
    · exact getattr3_miss_oids hA F X (InstAt.of_news N hxi hd) (by k_is) (by k_is) (by k_is) (by k_is) rfl (by k_is) (by decide +kernel) (by decide +kernel) grow
    · exact getattr3_miss_oids hA F X (InstAt.of_news N hxi hd) (by k_is) (by k_is) (by k_is) (by k_is) rfl (by k_is) (by decide +kernel) (by decide +kernel) grow
  · have q := h ot pas s.heap s.toks F N (hs _ hot) hop
    rcases hC with rfl | rfl | rfl | rfl | rfl
    · exact getattr3_own_oids F X (InstAt.of_news N hxi hd) (by k_is) (by k_is) (by k_is) (by k_is) rfl rfl q
    · exact getattr3_own_oids F X (InstAt.of_news N hxi hd) (by k_is) (by k_is) (by k_is) (by k_is) rfl rfl q
    · exact getattr3_own_oids F X (InstAt.of_news N hxi hd) (by k_is) (by k_is) (by k_is) (by k_is) rfl rfl q
    · exact getattr3_own_oids F X (InstAt.of_news N hxi hd) (by k_is) (by k_is) (by k_is) (by k_is) rfl rfl q
    · exact getattr3_own_oids F X (InstAt.of_news N hxi hd) (by k_is) (by k_is) (by k_is) (by k_is) rfl rfl q
theorem upd_split {d : Addr} {o o' : Obj} {post : Led} (h : ∀ p ∈ post, p.1 ≠ d) : ∀ {pre : Led}, (∀ p ∈ pre, p.1 ≠ d) → Upd d o o' (pre ++ (d, o) :: post) (pre ++ (d, o') :: post)
  | [], _ => .head h
  | x :: pre, hp => .tail (hp x (.head _)) (upd_split h fun p hp' => hp p (.tail _ hp'))
theorem set_oids {w : World} {A : Around} {E : Value → Shared → Prop} {s : Shared} {h₀ : Heap} {L : Addr} {m : PySem.Str → Option Value} {ns ι : Led} {gg : Obj → Led} {g : Gram} {k : Nat} {e : Ex} {v : Value} {od : Obj} {os : List (Int × Addr)} {Q : Unit → Shared → Prop}
    (F : Fr h₀ L s.heap m) (X : (hd3.heap_39 w.params).In h₀) (N : News h₀ L s.heap ns) (hs : ∀ x ∈ ι, x ∈ ns) (hx : ExIn g ι k e) (U : UpdF (g.da k) od ns gg) (ho : OdOk ι od os)
    (h : ∀ h' hsh t n tk, Fr h₀ L h' m → News h₀ L h' (gg (dictOf [⟨hsh, .str (PySem.Str.ofString "oids") t, v⟩] n)) → Q () { s with heap := h', toks := tk }) :
    wpAny (model (PySem.Challenge.rw_vy0013_03).row.prog w) A (setAttr (.ref (g.xa k)) (PySem.Str.ofString "oids") v) Q E s := by
  obtain ⟨Cc, sl, hxi, hC⟩ := ex_inst hx
  replace hxi := hs _ hxi
  obtain ⟨pre, post, rfl, hg, a, b⟩ := U.split
  have hd : (g.da k, od) ∈ pre ++ (g.da k, od) :: post := List.mem_append_right _ (.head _)
  rcases ho with ⟨ho, rfl⟩ | ⟨hh, tt, ot, pas, n, rfl, hot, hop⟩
  · have U' := upd_split (o := dictOf [] 0) (o' := dictOf [⟨PyData.keyHash w.params (PySem.Str.ofString "oids"), .str (PySem.Str.ofString "oids") (s.toks + 1), v⟩] (putN (PySem.Str.ofString "oids") [] 0)) b a
    have fin : ∀ h', Fr h₀ L h' m → News h₀ L h' _ → _ := fun h' F' N' => h h' (PyData.keyHash w.params (PySem.Str.ofString "oids")) (s.toks + 1) (putN (PySem.Str.ofString "oids") [] 0) (s.toks + 2) F' ((hg _) ▸ N')
    rcases hC with rfl | rfl | rfl | rfl | rfl
    · exact set_dict F X N (InstAt.of_news N hxi hd) rfl (by k_is) (by k_is) (by k_is) (by k_is) rfl rfl U' (Nat.le_of_ble_eq_true rfl) fin
    · exact set_dict F X N (InstAt.of_news N hxi hd) rfl (by k_is) (by k_is) (by k_is) (by k_is) rfl rfl U' (Nat.le_of_ble_eq_true rfl) fin
    · exact set_dict F X N (InstAt.of_news N hxi hd) rfl (by k_is) (by k_is) (by k_is) (by k_is) rfl rfl U' (Nat.le_of_ble_eq_true rfl) fin
    · exact set_dict F X N (InstAt.of_news N hxi hd) rfl (by k_is) (by k_is) (by k_is) (by k_is) rfl rfl U' (Nat.le_of_ble_eq_true rfl) fin
    · exact set_dict F X N (InstAt.of_news N hxi hd) rfl (by k_is) (by k_is) (by k_is) (by k_is) rfl rfl U' (Nat.le_of_ble_eq_true rfl) fin
  · have U' := upd_split (o := dictOf [⟨hh, .str (PySem.Str.ofString "oids") tt, .ref ot⟩] n) (o' := dictOf [⟨hh, .str (PySem.Str.ofString "oids") tt, v⟩] (putN (PySem.Str.ofString "oids") [⟨hh, .str (PySem.Str.ofString "oids") tt, .ref ot⟩] n)) b a
    have fin : ∀ h', Fr h₀ L h' m → News h₀ L h' _ → _ := fun h' F' N' => h h' hh tt (putN (PySem.Str.ofString "oids") [⟨hh, .str (PySem.Str.ofString "oids") tt, .ref ot⟩] n) (s.toks + 2) F' ((hg _) ▸ N')
    rcases hC with rfl | rfl | rfl | rfl | rfl
    · exact set_dict F X N (InstAt.of_news N hxi hd) rfl (by k_is) (by k_is) (by k_is) (by k_is) rfl rfl U' (Nat.le_of_ble_eq_true rfl) fin
    · exact set_dict F X N (InstAt.of_news N hxi hd) rfl (by k_is) (by k_is) (by k_is) (by k_is) rfl rfl U' (Nat.le_of_ble_eq_true rfl) fin
    · exact set_dict F X N (InstAt.of_news N hxi hd) rfl (by k_is) (by k_is) (by k_is) (by k_is) rfl rfl U' (Nat.le_of_ble_eq_true rfl) fin
    · exact set_dict F X N (InstAt.of_news N hxi hd) rfl (by k_is) (by k_is) (by k_is) (by k_is) rfl rfl U' (Nat.le_of_ble_eq_true rfl) fin
    · exact set_dict F X N (InstAt.of_news N hxi hd) rfl (by k_is) (by k_is) (by k_is) (by k_is) rfl rfl U' (Nat.le_of_ble_eq_true rfl) fin
theorem add_oids {prog : Program} {w : World} {A : Around} {E : Value → Shared → Prop} {s : Shared} {h₀ : Heap} {L : Addr} {m : PySem.Str → Option Value} {ns : Led} {t b pa : Addr} {pas : List Addr} {Q : Value → Shared → Prop}
    (F : Fr h₀ L s.heap m) (N : News h₀ L s.heap ns) (h1 : (t, tupO [.ref pa]) ∈ ns) (h2 : (b, tupO (pas.map .ref)) ∈ ns) (hl : pas.length ≤ 1000)
    (h : ∀ (x : Addr) h', Fr h₀ L h' m → News h₀ L h' ((x, tupO ((pa :: pas).map .ref)) :: ns) → @LE.le Nat _ t x → Q (.ref x) { s with heap := h' }) :
    wpAny (model prog w) A (binaryOp .Add (.ref t) (.ref b)) Q E s := by
  have t1 : IsTup s.heap t (#[.ref pa] : Array Value) := News.isTup N h1
  have t2 : IsTup s.heap b (pas.map Value.ref).toArray := News.isTup N h2
  cases hp : pas with
  | nil =>
    subst hp
    exact kde_addT1 F N t1 t2 (by simp) (by simp) (by simp) (h t s.heap F (fun p hp => by
      rcases List.mem_cons.mp hp with rfl | hp
      · exact N _ h1
      · exact N p hp) (Nat.le_refl _))
  | cons y r =>
    rw [hp] at h t2
    have hlen : r.length + 1 ≤ 1000 := by rw [hp] at hl; simpa using hl
    refine kde_addT F N t1 t2 (zs := (pa :: y :: r).map .ref) (by simp) (by simp) (by simp; omega) (by simp) ?_
    intro x h' F' N' l
    exact h x h' F' N' (Nat.le_of_lt (l _ h1))

theorem excOver_of {K : Frag} {C : Addr} {cd : ClassData} (hc : clsIn K C = some cd) (h : excTail cd.mro = true) : excOver K C = true := by unfold excOver; rw [hc]; exact h
theorem exc94 (w : World) : excOver (hd3.heap_39 w.params) 94 = true := excOver_of (by k_is) (by rfl)
theorem exc132 (w : World) : excOver (hd3.heap_39 w.params) 132 = true := excOver_of (by k_is) (by rfl)
theorem inst_exc {h₀ h : Heap} {L x C dx : Addr} {news : Led} {od : Obj} {vs : Array Value} {sl : Array (Option Value)} (N : News h₀ L h news) (h1 : (x, (⟨.ref C, some dx, .fields vs, sl⟩ : Obj)) ∈ news) (h2 : (dx, od) ∈ news) :
    InstAt h x ⟨.ref C, some dx, .fields vs, sl⟩ C (some od) := ⟨(N _ h1).1, rfl, rfl, (N _ h2).1⟩
section
variable {w : World} {A : Around} {E : Value → Shared → Prop} {s : Shared} {h₀ : Heap} {L : Addr} {m : PySem.Str → Option Value} {ns ι : Led} {g : Gram} {vs : Array Value} {h1 h2 h3 : Int} {t1 t2 t3 tp : Tok} {er : Err} {n : Nat} {gg : Obj → Led} {expr : Bool} {k q : Nat} {e : Ex}
theorem err_get_pos {Q : Value → Shared → Prop} (F : Fr h₀ L s.heap m) (X : (hd3.heap_39 w.params).In h₀) (N : News h₀ L s.heap ns) (hea : (g.ea, (⟨.ref 94, some g.ed, .fields vs, #[]⟩ : Obj)) ∈ ns) (hed : (g.ed, dictOf (errEs g h1 h2 h3 t1 t2 t3 tp er) n) ∈ ns)
    (h : Q (.int er.1 tp) { s with toks := s.toks + 1 }) : wpAny (model (PySem.Challenge.rw_vy0013_03).row.prog w) A (getAttr (.ref g.ea) (PySem.Str.ofString "pos") expr) Q E s :=
  exc_get_value (X.keeps F.keep) (inst_exc N hea hed) (exc94 w) (by k_is) (by k_is) (findObj_own (by k_is) (by k_is : findIn (hd3.heap_39 w.params) (.ref 94) (PySem.Str.ofString "pos") = some none) rfl (by rw [lookIn_dict]; rfl)) (by rfl) h
theorem err_get_expr {Q : Value → Shared → Prop} (F : Fr h₀ L s.heap m) (X : (hd3.heap_39 w.params).In h₀) (N : News h₀ L s.heap ns) (hea : (g.ea, (⟨.ref 94, some g.ed, .fields vs, #[]⟩ : Obj)) ∈ ns) (hed : (g.ed, dictOf (errEs g h1 h2 h3 t1 t2 t3 tp er) n) ∈ ns)
    (h : Q (match er.2 with | none => .none | some k => .ref (g.xa k)) { s with toks := s.toks + 1 }) : wpAny (model (PySem.Challenge.rw_vy0013_03).row.prog w) A (getAttr (.ref g.ea) (PySem.Str.ofString "expr") expr) Q E s :=
  exc_get_value (v := match er.2 with | none => .none | some k => .ref (g.xa k)) (X.keeps F.keep) (inst_exc N hea hed) (exc94 w) (by k_is) (by k_is) (findObj_own (by k_is) (by k_is : findIn (hd3.heap_39 w.params) (.ref 94) (PySem.Str.ofString "expr") = some none) rfl (by rw [lookIn_dict]; rfl)) (by cases er.2 <;> rfl) h
theorem err_get_text {Q : Value → Shared → Prop} (F : Fr h₀ L s.heap m) (X : (hd3.heap_39 w.params).In h₀) (N : News h₀ L s.heap ns) (hea : (g.ea, (⟨.ref 94, some g.ed, .fields vs, #[]⟩ : Obj)) ∈ ns) (hed : (g.ed, dictOf (errEs g h1 h2 h3 t1 t2 t3 tp er) n) ∈ ns)
    (h : Q (.str g.text g.tt) { s with toks := s.toks + 1 }) : wpAny (model (PySem.Challenge.rw_vy0013_03).row.prog w) A (getAttr (.ref g.ea) (PySem.Str.ofString "text") expr) Q E s :=
  exc_get_value (X.keeps F.keep) (inst_exc N hea hed) (exc94 w) (by k_is) (by k_is) (findObj_own (by k_is) (by k_is : findIn (hd3.heap_39 w.params) (.ref 94) (PySem.Str.ofString "text") = some none) rfl (by rw [lookIn_dict]; rfl)) (by rfl) h
theorem err_set_expr {Q : Unit → Shared → Prop} (F : Fr h₀ L s.heap m) (X : (hd3.heap_39 w.params).In h₀) (N : News h₀ L s.heap ns) (hea : (g.ea, (⟨.ref 94, some g.ed, .fields vs, #[]⟩ : Obj)) ∈ ns) (U : UpdF g.ed (dictOf (errEs g h1 h2 h3 t1 t2 t3 tp er) n) ns gg)
    (h : ∀ h' n', Fr h₀ L h' m → News h₀ L h' (gg (dictOf (errEs g h1 h2 h3 t1 t2 t3 tp (er.1, some k)) n')) → Q () { s with heap := h', toks := s.toks + 2 }) : wpAny (model (PySem.Challenge.rw_vy0013_03).row.prog w) A (setAttr (.ref g.ea) (PySem.Str.ofString "expr") (.ref (g.xa k))) Q E s := by
  obtain ⟨pre, post, rfl, hg, a, b⟩ := U.split
  exact exc_set F X N (inst_exc N hea (List.mem_append_right _ (.head _))) rfl (by k_is) (exc94 w) (by k_is) (by k_is) rfl (es' := errEs g h1 h2 h3 t1 t2 t3 tp (er.1, some k)) (n' := putN (PySem.Str.ofString "expr") (errEs g h1 h2 h3 t1 t2 t3 tp er) n) rfl (upd_split b a) (Nat.le_of_ble_eq_true rfl)
    fun h' F' N' => h h' _ F' (hg _ ▸ N')
theorem err_set_pos {tq : Tok} {Q : Unit → Shared → Prop} (F : Fr h₀ L s.heap m) (X : (hd3.heap_39 w.params).In h₀) (N : News h₀ L s.heap ns) (hea : (g.ea, (⟨.ref 94, some g.ed, .fields vs, #[]⟩ : Obj)) ∈ ns) (U : UpdF g.ed (dictOf (errEs g h1 h2 h3 t1 t2 t3 tp er) n) ns gg)
    (h : ∀ h' n', Fr h₀ L h' m → News h₀ L h' (gg (dictOf (errEs g h1 h2 h3 t1 t2 t3 tq ((q : Int), er.2)) n')) → Q () { s with heap := h', toks := s.toks + 2 }) : wpAny (model (PySem.Challenge.rw_vy0013_03).row.prog w) A (setAttr (.ref g.ea) (PySem.Str.ofString "pos") (.int q tq)) Q E s := by
  obtain ⟨pre, post, rfl, hg, a, b⟩ := U.split
  exact exc_set F X N (inst_exc N hea (List.mem_append_right _ (.head _))) rfl (by k_is) (exc94 w) (by k_is) (by k_is) rfl (es' := errEs g h1 h2 h3 t1 t2 t3 tq ((q : Int), er.2)) (n' := putN (PySem.Str.ofString "pos") (errEs g h1 h2 h3 t1 t2 t3 tp er) n) rfl (upd_split b a) (Nat.le_of_ble_eq_true rfl)
    fun h' F' N' => h h' _ F' (hg _ ▸ N')
/-- an expression's name -/
theorem name_get {Q : Value → Shared → Prop} {od : Obj} (F : Fr h₀ L s.heap m) (X : (hd3.heap_39 w.params).In h₀) (N : News h₀ L s.heap ns) (hs : ∀ x ∈ ι, x ∈ ns) (hx : ExIn g ι k e) (hd : (g.da k, od) ∈ ns)
    (h : ∀ t, Q (.str (g.nm k) t) { s with toks := s.toks + 1 }) : wpAny (model (PySem.Challenge.rw_vy0013_03).row.prog w) A (getAttr (.ref (g.xa k)) (PySem.Str.ofString "name") expr) Q E s := by
  cases e with
  | lit _ => obtain ⟨_, _, tn, hx⟩ := hx; exact get_slot F X (InstAt.of_news N (hs _ hx) hd) (by k_is) (by k_is) (by k_is) (by k_is) (by k_is) (by k_is) rfl rfl (h tn)
  | seq _ => obtain ⟨_, _, tn, hx, _⟩ := hx; exact get_slot F X (InstAt.of_news N (hs _ hx) hd) (by k_is) (by k_is) (by k_is) (by k_is) (by k_is) (by k_is) rfl rfl (h tn)
  | alt _ => obtain ⟨_, _, tn, hx, _⟩ := hx; exact get_slot F X (InstAt.of_news N (hs _ hx) hd) (by k_is) (by k_is) (by k_is) (by k_is) (by k_is) (by k_is) rfl rfl (h tn)
  | look _ _ => obtain ⟨_, _, tn, hx, _⟩ := hx; exact get_slot F X (InstAt.of_news N (hs _ hx) hd) (by k_is) (by k_is) (by k_is) (by k_is) (by k_is) (by k_is) rfl rfl (h tn)
  | rep _ _ _ => obtain ⟨_, _, tn, _, _, hx, _⟩ := hx; exact get_slot F X (InstAt.of_news N (hs _ hx) hd) (by k_is) (by k_is) (by k_is) (by k_is) (by k_is) (by k_is) rfl rfl (h tn)
/-- getattr(error.expr, 'name', None) -/
theorem name_getattr {t : Tok} {Q : Value → Shared → Prop} {od : Obj} (F : Fr h₀ L s.heap m) (X : (hd3.heap_39 w.params).In h₀) (N : News h₀ L s.heap ns) (hs : ∀ x ∈ ι, x ∈ ns) (hx : ExIn g ι k e) (hd : (g.da k, od) ∈ ns)
    (h : ∀ t, Q (.str (g.nm k) t) s) : wpAny (model (PySem.Challenge.rw_vy0013_03).row.prog w) A (call (.builtin "getattr") [.ref (g.xa k), .str (PySem.Str.ofString "name") t, .none]) Q E s := by
  cases e with
  | lit _ => obtain ⟨_, _, tn, hx⟩ := hx; exact getattr3_slot_name F X (InstAt.of_news N (hs _ hx) hd) (by k_is) (by k_is) (by k_is) (by k_is) (by k_is) (by k_is) (by k_is) rfl rfl (h tn)
  | seq _ => obtain ⟨_, _, tn, hx, _⟩ := hx; exact getattr3_slot_name F X (InstAt.of_news N (hs _ hx) hd) (by k_is) (by k_is) (by k_is) (by k_is) (by k_is) (by k_is) (by k_is) rfl rfl (h tn)
  | alt _ => obtain ⟨_, _, tn, hx, _⟩ := hx; exact getattr3_slot_name F X (InstAt.of_news N (hs _ hx) hd) (by k_is) (by k_is) (by k_is) (by k_is) (by k_is) (by k_is) (by k_is) rfl rfl (h tn)
  | look _ _ => obtain ⟨_, _, tn, hx, _⟩ := hx; exact getattr3_slot_name F X (InstAt.of_news N (hs _ hx) hd) (by k_is) (by k_is) (by k_is) (by k_is) (by k_is) (by k_is) (by k_is) rfl rfl (h tn)
  | rep _ _ _ => obtain ⟨_, _, tn, _, _, hx, _⟩ := hx; exact getattr3_slot_name F X (InstAt.of_news N (hs _ hx) hd) (by k_is) (by k_is) (by k_is) (by k_is) (by k_is) (by k_is) (by k_is) rfl rfl (h tn)
end
theorem none_getattr {prog : Program} {w : World} {A : Around} {E : Value → Shared → Prop} {s : Shared} {h₀ : Heap} {L : Addr} {m : PySem.Str → Option Value} {ns : Led} {t : Tok} {Q : Value → Shared → Prop} (F : Fr h₀ L s.heap m) (N : News h₀ L s.heap ns) (hA : A.handled = none)
    (h : ∀ h' tk, Fr h₀ L h' m → News h₀ L h' ns → Q .none { s with heap := h', toks := tk }) : wpAny (model prog w) A (call (.builtin "getattr") [.none, .str (PySem.Str.ofString "name") t, .none]) Q E s :=
  getattr3_none_name hA fun h' tk hk => h h' tk (F.keeps hk) (N.grown hk)

def ucAddr : Ex → Addr
  | .lit _ => 325
  | .seq _ => 384
  | .alt _ => 410
  | .look _ _ => 447
  | .rep _ _ _ => 486
theorem uc_all {w : World} {p : Program} {loose : List PySem.Str} {mean : ExcName → Option Value} {mg mb : PySem.Str → Option Value}
    {dp un : Nat} {gd : Option (List Code)} {cn : PySem.Str} {cs : Scope} {a : Addr} {ccd : Value} {cl : List (PySem.Str × Addr)} {outer : List Env} {A₀ : Around} {base h₀ : Heap} {L : Addr} {m : PySem.Str → Option Value} {s : Shared}
    {Q E : Value → Shared → Prop} {g : Gram} {st : St} {ρ μ ι : Led} {k q : Nat} {tp : Tok} {e : Ex}
    (B : Below A₀ base outer h₀) (F : Fr h₀ L s.heap m) (X : (hd3.heap_39 w.params).In h₀) (T : Top p loose mean mg mb h₀) (hk : cs.kind = .function) (N : News h₀ L s.heap (ρ ++ (μ ++ ι))) (hS : Sep ρ (μ ++ ι)) (C : CInv (PySem.Challenge.rw_vy0013_03).row.prog w g st μ ι) (G : GOk g) (he : g.ex[k]? = some e) (hq : q ≤ g.text.length)
    (hM : ∀ j, j < k → MC w g j) (hi : ∀ x ∈ st.ip, k ≤ x.1)
    (hd : dp + 20 * (k + 1) < recursionLimit + 5) (hu : un + 200 * (k + 1) < cLine + 100) (ret : UPost (PySem.Challenge.rw_vy0013_03).row.prog w g st ρ ι e k q h₀ L m s Q) :
    wpAny (model (PySem.Challenge.rw_vy0013_03).row.prog w) (ktrTop dp un gd cn cs L a ccd cl outer) (call (.ref (ucAddr e)) [.ref (g.xa k), .str g.text g.tt, .int q tp, .ref g.c, .ref g.ea]) Q E s := by
  cases e with
  | lit wd => exact uc_lit B F X T hk N hS C G he hq (by omega) (by omega) ret
  | seq ks => exact uc_seq B F X T hk N hS C G he hq hM hi hd hu ret
  | alt ks => exact uc_alt B F X T hk N hS C G he hq hM hi hd hu ret
  | look neg j => exact uc_look B F X T hk N hS C G he hq (hM j (G.below k _ he)) hi hd hu ret
  | rep j mn mx => exact uc_rep B F X T hk N hS C G he hq (hM j (G.below k _ he)) hi hd hu ret
theorem meth_uc {w : World} {A : Around} {E : Value → Shared → Prop} {s : Shared} {h₀ : Heap} {L : Addr} {m : PySem.Str → Option Value} {ns μ ι : Led} {g : Gram} {st : St} {j : Nat} {e : Ex} {pl : Sem Bool} {Q : Value × List Value → Shared → Prop}
    (F : Fr h₀ L s.heap m) (X : (hd3.heap_39 w.params).In h₀) (N : News h₀ L s.heap ns) (C : CInv (PySem.Challenge.rw_vy0013_03).row.prog w g st μ ι) (hs : ∀ x ∈ μ ++ ι, x ∈ ns) (he : g.ex[j]? = some e) (h : Q (.ref (ucAddr e), [.ref (g.xa j)]) s) :
    wpAny (model (PySem.Challenge.rw_vy0013_03).row.prog w) A (getMethod (.ref (g.xa j)) (PySem.Str.ofString "_uncached_match") pl) Q E s := by
  obtain ⟨os, _, hd⟩ := C.dicts j (List.getElem?_eq_some_iff.mp he).1
  have N' : News h₀ L s.heap (μ ++ ι) := news_sub N hs
  have hx := C.exprs j e he
  obtain ⟨es, n, hdd, hg⟩ : ∃ es n, (g.da j, dictOf es n) ∈ μ ∧ getL (PySem.Str.ofString "_uncached_match") es = some none := by
    rcases hd with ⟨_, hd⟩ | ⟨_, _, _, _, _, hd, _⟩
    · exact ⟨_, _, hd, rfl⟩
    · exact ⟨_, _, hd, rfl⟩
  cases e with
  | lit _ =>
    replace h : Q (.ref 325, [.ref (g.xa j)]) s := h
    obtain ⟨_, _, _, hx⟩ := hx
    exact (method_inst F X (InstAt.of_news N' (List.mem_append_right _ hx) (List.mem_append_left _ hdd)) (by k_is) (by k_is) (by k_is) hg h)
  | seq _ =>
    replace h : Q (.ref 384, [.ref (g.xa j)]) s := h
    obtain ⟨_, _, _, hx, _⟩ := hx
    exact (method_inst F X (InstAt.of_news N' (List.mem_append_right _ hx) (List.mem_append_left _ hdd)) (by k_is) (by k_is) (by k_is) hg h)
  | alt _ =>
    replace h : Q (.ref 410, [.ref (g.xa j)]) s := h
    obtain ⟨_, _, _, hx, _⟩ := hx
    exact (method_inst F X (InstAt.of_news N' (List.mem_append_right _ hx) (List.mem_append_left _ hdd)) (by k_is) (by k_is) (by k_is) hg h)
  | look _ _ =>
    replace h : Q (.ref 447, [.ref (g.xa j)]) s := h
    obtain ⟨_, _, _, hx, _⟩ := hx
    exact (method_inst F X (InstAt.of_news N' (List.mem_append_right _ hx) (List.mem_append_left _ hdd)) (by k_is) (by k_is) (by k_is) hg h)
  | rep _ _ _ =>
    replace h : Q (.ref 486, [.ref (g.xa j)]) s := h
    obtain ⟨_, _, _, _, _, hx, _⟩ := hx
    exact (method_inst F X (InstAt.of_news N' (List.mem_append_right _ hx) (List.mem_append_left _ hdd)) (by k_is) (by k_is) (by k_is) hg h)
theorem uc_use {w : World} {p : Program} {loose : List PySem.Str} {mean : ExcName → Option Value} {mg mb : PySem.Str → Option Value}
    {dp un : Nat} {gd : Option (List Code)} {cn : PySem.Str} {cs : Scope} {a : Addr} {ccd : Value} {cl : List (PySem.Str × Addr)} {outer : List Env} {A₀ : Around} {base h₀ : Heap} {L : Addr} {m : PySem.Str → Option Value} {s : Shared}
    {Q E : Value → Shared → Prop} {g : Gram} {st : St} {ρ μ ι : Led} {k q : Nat} {tp : Tok} {e : Ex} {ua : Addr}
    (B : Below A₀ base outer h₀) (F : Fr h₀ L s.heap m) (X : (hd3.heap_39 w.params).In h₀) (T : Top p loose mean mg mb h₀) (hk : cs.kind = .function) (N : News h₀ L s.heap (ρ ++ (μ ++ ι))) (hS : Sep ρ (μ ++ ι)) (C : CInv (PySem.Challenge.rw_vy0013_03).row.prog w g st μ ι) (G : GOk g) (he : g.ex[k]? = some e) (hua : ua = ucAddr e) (hq : q ≤ g.text.length)
    (hM : ∀ j, j < k → MC w g j) (hi : ∀ x ∈ st.ip, k ≤ x.1)
    (hd : dp + 20 * (k + 1) < recursionLimit + 5) (hu : un + 200 * (k + 1) < cLine + 100) (ret : UPost (PySem.Challenge.rw_vy0013_03).row.prog w g st ρ ι e k q h₀ L m s Q) :
    wpAny (model (PySem.Challenge.rw_vy0013_03).row.prog w) (ktrTop dp un gd cn cs L a ccd cl outer) (call (.ref ua) [.ref (g.xa k), .str g.text g.tt, .int q tp, .ref g.c, .ref g.ea]) Q E s := by
  subst hua
  exact uc_all B F X T hk N hS C G he hq hM hi hd hu ret
theorem uc_begin {w : World} {A : Around} {E : Value → Shared → Prop} {s : Shared} {h₀ : Heap} {L : Addr} {m : PySem.Str → Option Value} {ρ μ ι R : Led} {g : Gram} {st : St} {k q : Nat} {e : Ex} {r : Addr} {o o' : Obj} {ents : List (Int × Value)} {pl : Sem Bool} {Q : Value × List Value → Shared → Prop}
    (C : CInv (PySem.Challenge.rw_vy0013_03).row.prog w g st μ ι) (S : Sep ρ (μ ++ ι)) (hR : R = ρ ++ (cut [r] μ ++ ι)) (N : News h₀ L s.heap ((r, o') :: R)) (hrow : (k, r) ∈ st.rows) (hq : q ≤ g.text.length) (hm : (r, o) ∈ μ)
    (hv : ∀ p : Nat, valueAt ents (p : Int) = st.memo k p) (hks : ∀ q ∈ ents, ∃ p : Nat, p ≤ g.text.length ∧ q.1 = (p : Int)) (hd' : o'.IsDictOf (intKind (PySem.Challenge.rw_vy0013_03).row.prog w) (stored ents (q : Int) inProg)) (hn : st.memo k q = none)
    (F : Fr h₀ L s.heap m) (X : (hd3.heap_39 w.params).In h₀) (he : g.ex[k]? = some e)
    (h : ∀ μ', News h₀ L s.heap (ρ ++ (μ' ++ ι)) → Sep ρ (μ' ++ ι) → CInv (PySem.Challenge.rw_vy0013_03).row.prog w g (st.begin k q) μ' ι → StLe st (st.begin k q) → Q (.ref (ucAddr e), [.ref (g.xa k)]) s) :
    wpAny (model (PySem.Challenge.rw_vy0013_03).row.prog w) A (getMethod (.ref (g.xa k)) (PySem.Str.ofString "_uncached_match") pl) Q E s := by
  obtain ⟨μ', a, b, c, d⟩ := C.beginL S hR N hrow hq hm hv hks hd' hn
  exact meth_uc F X a c (fun x hx => List.mem_append_right _ hx) he (h μ' a b c d)
theorem truthy_nm_t {prog : Program} {w : World} {A : Around} {E : Value → Shared → Prop} {s : Shared} {x : PySem.Str} {t : Tok} {Q : Bool → Shared → Prop} (h1 : x.length ≤ 100) (h2 : 0 < x.length) (h : Q true { s with toks := s.toks + 1 + 1 }) : wpAny (model prog w) A (truthy (.str x t)) Q E s :=
  P.truthy_str (by omega) (by rw [show ((x.length : Int) != 0) = true from bne_iff_ne.mpr (by omega)]; exact h)
theorem truthy_nm_f {prog : Program} {w : World} {A : Around} {E : Value → Shared → Prop} {s : Shared} {x : PySem.Str} {t : Tok} {Q : Bool → Shared → Prop} (h2 : x.length = 0) (h : Q false { s with toks := s.toks + 1 + 1 }) : wpAny (model prog w) A (truthy (.str x t)) Q E s :=
  P.truthy_str (by omega) (by rw [show ((x.length : Int) != 0) = false from by rw [h2]; rfl]; exact h)

section
local macro_rules | `(tactic| walk_at "zz0") => `(tactic| fail)
local macro_rules | `(tactic| walk_at "zz1") => `(tactic| fail)
local macro_rules | `(tactic| walk_at "zz2") => `(tactic| fail)
local macro_rules | `(tactic| walk_at "zz3") => `(tactic| fail)
local macro_rules | `(tactic| walk_at "zz4") => `(tactic| fail)
local macro_rules | `(tactic| walk_at "zz5") => `(tactic| fail)
local macro_rules | `(tactic| walk_at "zz6") => `(tactic| fail)
local macro_rules | `(tactic| walk_at "zz7") => `(tactic| fail)
local macro_rules | `(tactic| walk_at "zz8") => `(tactic| fail)
theorem begin_perr (M : Model) (A : Around) (Q E : Value → Shared → Prop) (s : Shared) : True := by
  w_top off
  first | (have h : ∀ t : Sem Value, wpAny M A t Q E s := by (intro t; walk1; fail); trivial) | trivial
end
theorem cls94 (w : World) : ∃ cd, ExcCls (hd3.heap_39 w.params) 94 cd := ⟨_, by k_is, by rfl, by rfl, by rfl, by rfl, ⟨_, _, by k_is, by rfl⟩, by k_is, by k_is, by k_is, by k_is⟩
section
local macro_rules | `(tactic| walk_at "setAttr ref") => `(tactic| (k_here; k_dflt (refine' exc_set ?k1 ?k2 ?k3 ?k4 ?k5 ?k6 (exc94 _) ?k7 ?k8 ?k9 ?k10 ?k11 ?k12 ?_; (case k1 => k_asm); (case k2 => k_asm); (case k3 => k_asm); (case k4 => (refine' inst_exc ?N ?a ?b; (case N => k_asm); (case a => k_mem); (case b => k_mem))); (case k5 => exact rfl); (case k6 => k_is); (case k7 => k_is); (case k8 => k_is); (case k9 => exact rfl); (case k10 => exact rfl); (case k11 => k_upd); (case k12 => exact Nat.le_of_ble_eq_true rfl); intro h' F' N'; (try k_sweep))))
local macro_rules | `(tactic| walk_at "setAttr ref") => `(tactic| (k_here; k_dflt (refine' exc_set_first ?k1 ?k2 ?k3 ?k4 ?k5 (exc94 _) ?k7 ?k8 ?_; (case k1 => k_asm); (case k2 => k_asm); (case k3 => k_asm); (case k4 => k_updF); (case k5 => k_is); (case k7 => k_is); (case k8 => k_is); intro d' h' F' N' l'; (try dsimp only at N'); (try dsimp only at l'); (try k_lt l'); (try k_sweep))))
theorem perr {w : World} {p : Program} {loose : List PySem.Str} {mean : ExcName → Option Value} {mg mb : PySem.Str → Option Value}
    {dp un : Nat} {gd : Option (List Code)} {cn : PySem.Str} {cs : Scope} {a : Addr} {ccd : Value} {cl : List (PySem.Str × Addr)} {outer : List Env} {A₀ : Around} {base h₀ : Heap} {L : Addr} {m : PySem.Str → Option Value} {s : Shared}
    {Q E : Value → Shared → Prop} {ns : Led} {tx : PySem.Str} {tt : Tok}
    (B : Below A₀ base outer h₀) (F : Fr h₀ L s.heap m) (X : (hd3.heap_39 w.params).In h₀) (T : Top p loose mean mg mb h₀) (hk : cs.kind = .function) (N : News h₀ L s.heap ns) (hd : dp + 10 < recursionLimit) (hu : un + 80 < cLine)
    (ret : ∀ (x t d : Addr) h1 h2 h3 u1 u2 u3 tp n h' tk', Fr h₀ L h' m → News h₀ L h' ((d, dictOf [⟨h1, .str (PySem.Str.ofString "text") u1, .str tx tt⟩, ⟨h2, .str (PySem.Str.ofString "pos") u2, .int (-1) tp⟩, ⟨h3, .str (PySem.Str.ofString "expr") u3, .none⟩] n) ::
      (x, (⟨.ref 94, some d, .fields #[.ref t, .none, .none, .none, .bool false, .none], #[]⟩ : Obj)) :: (t, tupO [.str tx tt]) :: ns) → (∀ p ∈ ns, p.1 < t) → t < x → x < d → Q (.ref x) { s with heap := h', toks := tk' }) :
    wpAny (model (PySem.Challenge.rw_vy0013_03).row.prog w) (ktrTop dp un gd cn cs L a ccd cl outer) (call (.ref 94) [.str tx tt]) Q E s := by
  obtain ⟨cd, Y⟩ := cls94 w
  refine call_exc F X N Y (by k_is) (by k_is) (Nat.le_of_ble_eq_true rfl) ?_
  intro x t h' F' N' l1 l2
  k_lt l1
  k_lt2 l2
  k_enter
  k_steps
  exact ret _ _ _ _ _ _ _ _ _ _ _ _ _ (by k_asm) (by k_asm) (by assumption) (by omega) (by omega)
end

local macro_rules | `(tactic| k_all) => `(tactic| first | assumption | exact ne_app (by assumption) (by assumption) ⟨_, by k_mem⟩ | (intro p9 hp9; (repeat ((with_reducible rename (∀ p : Addr × Obj, p ∈ _ → p.1 < _) => hh9); first | (replace hh9 := ltN (hh9 p9 hp9)) | clear hh9)); refine neN ?_; omega))
local macro_rules | `(tactic| walk_at "call builtin:getattr") => `(tactic| (k_here; (with_reducible show wpAny _ _ (call (Value.builtin "getattr") [Value.ref (Gram.xa _ _), Value.str (PySem.Str.ofString "oids") _, Value.ref _]) _ _ _); k_dflt (refine' oids_get ?F ?X ?N ?hs ?hx ?hd ?ho ?hA ?hdt ?_; (case F => k_asm); (case X => k_asm); (case N => k_asm); (case ho => assumption); (case hs => (intro x hx; first | (simp only [List.mem_cons, List.mem_append, hx, true_or, or_true]; done) | ((repeat refine List.mem_cons_of_mem _ ?_); exact (by assumption : ∀ x ∈ _, x ∈ _) x hx))); (case hx => assumption); (case hd => k_mem); (case hA => first | assumption | exact rfl); (case hdt => k_mem); intro ot' pas' h' tk' F' N' hm' hp'; (try have hq9 := (by assumption : ∀ pas' : List Addr, OidsAt _ pas' _ → pas'.length ≤ 1000) _ hp'); (try k_sweep))))
local macro_rules | `(tactic| walk_at "call builtin:len") => `(tactic| (k_here; (with_reducible show wpAny _ _ (call (Value.builtin "len") [Value.ref (Gram.c _)]) _ _ _); k_dflt (refine' kda_len (knd := PySem.intKind _ _) ?N ?m ?d ?lo ?f ?_; (case N => k_asm); (case m => k_mem); (case d => assumption); (case lo => assumption); (case f => first | omega | (rw [cacheKvs_length, List.length_append, List.length_singleton]; omega)))))
local macro_rules | `(tactic| walk_at "setItem ref int") => `(tactic| (k_here; k_dflt (refine' kda_set (knd := PySem.intKind _ _) ?F ?N ?U ?d (intKind_is _ _ _ _) ?z ?_; (case F => k_asm); (case N => k_asm); (case U => k_updF); (case d => assumption); (case z => rw [sizeLine_eq]; omega); intro h' o' F' N' hd'; (try dsimp only at N'))))
local macro_rules | `(tactic| walk_at "getMethod ref") => `(tactic| (k_here; (with_reducible show wpAny _ _ (getMethod (Value.ref (Gram.c _)) (PySem.Str.ofString "get") _) _ _ _); k_dflt (refine' kdg_method (knd := PySem.intKind _ _) ?N ?m ?d ?_; (case N => k_asm); (case m => k_mem); (case d => assumption))))
local macro_rules | `(tactic| walk_at "call builtin:dict.get") => `(tactic| (k_here; k_dflt (refine' kdg_get1 (knd := PySem.intKind _ _) ?N ?m ?d ?lo (intKind_is _ _ _ _) _ ?e ?_; (case e => assumption); (case N => k_asm); (case m => k_mem); (case d => assumption); (case lo => assumption); (try dsimp only [Option.getD]))))
local macro_rules | `(tactic| walk_at "compareOp Is ref ref") => `(tactic| (k_here; k_dflt (refine' wpAny_is_ref_other ?n ?a ?b ?c ?_; (case n => assumption); (case a => (refine' kto_N ?N ?m; (case N => k_asm); (case m => k_mem))); (case b => (refine' kto_N ?N ?m; (case N => k_asm); (case m => k_mem))); (case c => assumption))))
local macro_rules | `(tactic| walk_at "binaryOp Add ref ref") => `(tactic| (k_here; k_dflt (refine' add_oids ?F ?N ?a ?b ?l ?_; (case F => k_asm); (case N => k_asm); (case a => k_mem); (case b => first | assumption | k_mem); (case l => omega); intro x' h' F' N' l' ; (try k_sweep))))
local macro_rules | `(tactic| walk_at "setAttr ref") => `(tactic| (k_here; (with_reducible show wpAny _ _ (setAttr (Value.ref (Gram.xa _ _)) (PySem.Str.ofString "oids") _) _ _ _); k_dflt (refine' set_oids ?F ?X ?N ?hs ?hx ?U ?ho ?_; (case F => k_asm); (case X => k_asm); (case N => k_asm); (case U => k_updF); (case ho => assumption); (case hs => (intro x hx; first | (simp only [List.mem_cons, List.mem_append, hx, true_or, or_true]; done) | ((repeat refine List.mem_cons_of_mem _ ?_); exact (by assumption : ∀ x ∈ _, x ∈ _) x hx))); (case hx => assumption); intro h' hsh' t' n' tk' F' N'; (try dsimp only at N'); (try k_sweep))))
local macro_rules | `(tactic| walk_at "compareOp In int ref") => `(tactic| (k_here; k_dflt (refine' kda_in (knd := PySem.intKind _ _) ?N ?m ?d ?lo (intKind_is _ _ _ _) _ ?e ?_; (case e => assumption); (case N => k_asm); (case m => k_mem); (case d => assumption); (case lo => assumption))))
local macro_rules | `(tactic| walk_at "subscriptTail") => `(tactic| (k_here; k_dflt ((with_reducible show wpAny _ _ (subscriptTail _ _ (Value.ref _) (Value.int _ _)) _ _ _); refine' kda_item (knd := PySem.intKind _ _) ?N ?m ?d (intKind_is _ _ _ _) ?e ?_; (case e => assumption); (case N => k_asm); (case m => k_mem); (case d => assumption))))
local macro_rules | `(tactic| walk_at "call ref") => `(tactic| (k_here; k_dflt ((show wpAny _ _ (call (Value.ref _) [Value.ref (Gram.xa _ _), Value.str _ _, Value.int _ _, Value.ref (Gram.c _), Value.ref (Gram.ea _)]) _ _ _); refine' uc_use ?B ?F ?X ?T ?hk ?N ?hS ?C ?G ?he ?hua ?hq ?M ?hi ?h4 ?h5 ?_; (case he => assumption); (case hua => exact rfl); (case C => k_asm); (case hS => k_asm); (case B => k_asm); (case F => k_asm); (case X => k_asm); (case T => k_asm); (case hk => first | assumption | exact rfl); (case N => k_asm); (case G => k_asm); (case hq => omega); (case M => assumption); (case hi => assumption); (case h4 => k_room); (case h5 => k_units); intro r' st' mu' ta' h' tk' F' N' S' C' io' ip' ml' ps' hv'; (try k_sweep); (try k_fold))))
local macro_rules | `(tactic| walk_at "getMethod ref") => `(tactic| (k_here; (with_reducible show wpAny _ _ (getMethod (Value.ref (Gram.xa _ _)) (PySem.Str.ofString "_uncached_match") _) _ _ _); k_dflt (refine' uc_begin ?C ?S ?hR ?N ?row ?hq ?m ?v ?ks ?d ?n ?F ?X ?he ?_; (case C => assumption); (case S => assumption); (case hR => assumption); (case N => assumption); (case row => assumption); (case hq => omega); (case m => assumption); (case v => assumption); (case ks => assumption); (case d => assumption); (case n => assumption); (case F => k_asm); (case X => k_asm); (case he => assumption); intro mu2 N2 S2 C2 ml2; (try clear ml2); (try dsimp only [ucAddr]))))
local macro_rules | `(tactic| walk_at "getAttr ref") => `(tactic| (k_here; k_dflt (first
  | ((with_reducible show wpAny _ _ (getAttr (Value.ref (Gram.ea _)) (PySem.Str.ofString "pos") _) _ _ _); refine' err_get_pos ?F ?X ?N ?a ?d ?_; (case F => k_asm); (case X => k_asm); (case N => k_asm); (case a => k_mem); (case d => k_mem))
  | ((with_reducible show wpAny _ _ (getAttr (Value.ref (Gram.ea _)) (PySem.Str.ofString "expr") _) _ _ _); refine' err_get_expr ?F ?X ?N ?a ?d ?_; (case F => k_asm); (case X => k_asm); (case N => k_asm); (case a => k_mem); (case d => k_mem))
  | ((with_reducible show wpAny _ _ (getAttr (Value.ref (Gram.ea _)) (PySem.Str.ofString "text") _) _ _ _); refine' err_get_text ?F ?X ?N ?a ?d ?_; (case F => k_asm); (case X => k_asm); (case N => k_asm); (case a => k_mem); (case d => k_mem))
  | ((with_reducible show wpAny _ _ (getAttr (Value.ref (Gram.xa _ _)) (PySem.Str.ofString "name") _) _ _ _); refine' name_get ?F ?X ?N ?hs ?hx ?hd ?_; (case F => k_asm); (case X => k_asm); (case N => k_asm); (case hx => assumption); (case hs => (intro x hx; first | (simp only [List.mem_cons, List.mem_append, hx, true_or, or_true]; done) | ((repeat refine List.mem_cons_of_mem _ ?_); exact (by assumption : ∀ x ∈ _, x ∈ _) x hx))); (case hd => k_mem); intro tn'))))
local macro_rules | `(tactic| walk_at "call builtin:getattr") => `(tactic| (k_here; k_dflt (first
  | ((with_reducible show wpAny _ _ (call (Value.builtin "getattr") [Value.ref (Gram.xa _ _), Value.str (PySem.Str.ofString "name") _, Value.none]) _ _ _); refine' name_getattr ?F ?X ?N ?hs ?hx ?hd ?_; (case F => k_asm); (case X => k_asm); (case N => k_asm); (case hx => assumption); (case hs => (intro x hx; first | (simp only [List.mem_cons, List.mem_append, hx, true_or, or_true]; done) | ((repeat refine List.mem_cons_of_mem _ ?_); exact (by assumption : ∀ x ∈ _, x ∈ _) x hx))); (case hd => k_mem); intro tn')
  | ((with_reducible show wpAny _ _ (call (Value.builtin "getattr") [Value.none, Value.str (PySem.Str.ofString "name") _, Value.none]) _ _ _); refine' none_getattr ?F ?N ?hA ?_; (case F => k_asm); (case N => k_asm); (case hA => first | assumption | exact rfl); intro h' tk' F' N'; (try k_sweep)))))
local macro_rules | `(tactic| walk_at "setAttr ref") => `(tactic| (k_here; k_dflt (first
  | ((with_reducible show wpAny _ _ (setAttr (Value.ref (Gram.ea _)) (PySem.Str.ofString "expr") (Value.ref (Gram.xa _ _))) _ _ _); refine' err_set_expr ?F ?X ?N ?a ?U ?_; (case F => k_asm); (case X => k_asm); (case N => k_asm); (case a => k_mem); (case U => k_updF); intro h' n' F' N'; (try dsimp only at N'); (try k_sweep))
  | ((with_reducible show wpAny _ _ (setAttr (Value.ref (Gram.ea _)) (PySem.Str.ofString "pos") (Value.int _ _)) _ _ _); refine' err_set_pos ?F ?X ?N ?a ?U ?_; (case F => k_asm); (case X => k_asm); (case N => k_asm); (case a => k_mem); (case U => k_updF); intro h' n' F' N'; (try dsimp only at N'); (try k_sweep)))))
local macro_rules | `(tactic| walk_at "truthy str") => `(tactic| (k_here; (with_reducible show wpAny _ _ (PySem.truthy (Value.str (Gram.nm _ _) _)) _ _ _); first | refine truthy_nm_t (by assumption) (by assumption) ?_ | refine truthy_nm_f (by assumption) ?_))

section
local macro_rules | `(tactic| walk_at "zz0") => `(tactic| fail)
local macro_rules | `(tactic| walk_at "zz1") => `(tactic| fail)
local macro_rules | `(tactic| walk_at "zz2") => `(tactic| fail)
local macro_rules | `(tactic| walk_at "zz3") => `(tactic| fail)
local macro_rules | `(tactic| walk_at "zz4") => `(tactic| fail)
local macro_rules | `(tactic| walk_at "zz5") => `(tactic| fail)
local macro_rules | `(tactic| walk_at "zz6") => `(tactic| fail)
local macro_rules | `(tactic| walk_at "zz7") => `(tactic| fail)
local macro_rules | `(tactic| walk_at "zz8") => `(tactic| fail)
theorem begin_mcore (M : Model) (A : Around) (Q E : Value → Shared → Prop) (s : Shared) : True := by
  w_top off
  first | (have h : ∀ t : Sem Value, wpAny M A t Q E s := by (intro t; walk1; fail); trivial) | trivial
end
def IfAt (prog : Program) (w : World) (A : Around) (env : Env) (test : Expr) (body orelse : List Stmt) (pos : Pos) (Q : Flow → Shared → Prop) (E : Value → Shared → Prop) (s : Shared) : Prop := wpAny (model prog w) A (exec (.If test body orelse pos) env) Q E s
theorem If_at {prog : Program} {w : World} {A : Around} {env : Env} {test : Expr} {body orelse : List Stmt} {pos : Pos} {Q : Flow → Shared → Prop} {E : Value → Shared → Prop} {s : Shared} (h : IfAt prog w A env test body orelse pos Q E s) : wpAny (model prog w) A (exec (.If test body orelse pos) env) Q E s := h
theorem str_len0 {x : PySem.Str} (h : x.length = 0) : x = PySem.Str.empty := by
  obtain ⟨a⟩ := x
  have : a.size = 0 := h
  show (⟨a⟩ : PySem.Str) = ⟨#[]⟩
  rw [Array.size_eq_zero_iff.mp this]
theorem str_lenpos {x : PySem.Str} (h : 0 < x.length) : x ≠ PySem.Str.empty := by rintro rfl; exact absurd h (Nat.lt_irrefl _)
theorem news_uniq {h₀ h : Heap} {L : Addr} {l : Led} (N : News h₀ L h l) {x y : Addr × Obj} (hx : x ∈ l) (hy : y ∈ l) (e : x.1 = y.1) : x = y := by
  have a := (N x hx).1
  rw [e, (N y hy).1] at a
  exact Prod.ext e (Option.some.inj a).symm
theorem join_row {h₀ h : Heap} {L r : Addr} {o : Obj} {ρ μ ι R : Led} (N : News h₀ L h ((r, o) :: R)) (hR : R = ρ ++ (cut [r] μ ++ ι)) (hu : ∀ x ∈ μ, x.1 = r → x = (r, o)) : News h₀ L h (ρ ++ (μ ++ ι)) := news_sub N fun x hx => by
  rw [hR]
  rcases List.mem_append.mp hx with h | h
  · exact .tail _ (List.mem_append_left _ h)
  · rcases List.mem_append.mp h with h | h
    · by_cases e : x.1 = r
      · rw [hu x h e]; exact .head _
      · exact .tail _ (List.mem_append_right _ (List.mem_append_left _ (mem_cut.mpr ⟨h, by simp [e]⟩)))
    · exact .tail _ (List.mem_append_right _ (List.mem_append_right _ h))
section
local macro_rules | `(tactic| walk_at "exec If Compare cons cons") => `(tactic| (k_here; (with_reducible show wpAny _ _ (exec (Stmt.If (Expr.Compare _ [CmpOp.In] _ _) _ _ _) _) _ _ _); refine If_at ?_))
def S2Post (prog : Program) (w : World) (g : Gram) (st : St) (ρ ι : Led) (e : Ex) (k q : Nat) (h₀ : Heap) (L : Addr) (m0 : PySem.Str → Option Value) (s : Shared) (f : Flow) (s' : Shared) : Prop :=
  f = .next ∧ ∃ st₂ μ₂ ι₂ v m₂ h' tk, s' = { s with heap := h', toks := tk } ∧ Fr h₀ L h' m₂ ∧ News h₀ L h' (ρ ++ (μ₂ ++ ι₂)) ∧ Sep ρ (μ₂ ++ ι₂) ∧ CInv prog w g st₂ μ₂ ι₂ ∧ (∀ x ∈ ι, x ∈ ι₂) ∧ st₂.ip = st.ip ∧ StLe st st₂ ∧ st₂.memo k q = some v ∧
    st₂.ps = (if (k, q) ∈ st.ps.seen then st.ps else (e.asks g.sem g.text.length q).foldl (fun s q => runK g q.1 q.2 s) ⟨(k, q) :: st.ps.seen, st.ps.err⟩) ∧
    (∀ x ∈ [(PySem.Str.ofString "node", v)], m₂ x.1 = some x.2) ∧ ∀ y, ([PySem.Str.ofString "node"] ++ [PySem.Str.ofString "expr_cache", PySem.Str.ofString "oid"]).contains y = false → m₂ y = m0 y
theorem s2_fin {prog : Program} {w : World} {g : Gram} {st st₃ : St} {ρ ι μ9 ι9 : Led} {e : Ex} {k q : Nat} {h₀ h' : Heap} {L : Addr} {m0 m₂ : PySem.Str → Option Value} {s : Shared} {v : Value} {tk : Nat}
    (F9 : Fr h₀ L h' m₂) (N9 : News h₀ L h' (ρ ++ (μ9 ++ ι9))) (S9 : Sep ρ (μ9 ++ ι9)) (C9 : CInv prog w g (St.fin st₃ k q v) μ9 ι9) (io : ∀ x ∈ ι, x ∈ ι9) (hip : (St.fin st₃ k q v).ip = st.ip) (le : StLe st (St.fin st₃ k q v))
    (hps : st₃.ps = (if (k, q) ∈ st.ps.seen then st.ps else (e.asks g.sem g.text.length q).foldl (fun s q => runK g q.1 q.2 s) ⟨(k, q) :: st.ps.seen, st.ps.err⟩))
    (hk : ∀ x ∈ [(PySem.Str.ofString "node", v)], m₂ x.1 = some x.2) (hm : ∀ y, ([PySem.Str.ofString "node"] ++ [PySem.Str.ofString "expr_cache", PySem.Str.ofString "oid"]).contains y = false → m₂ y = m0 y) :
    S2Post prog w g st ρ ι e k q h₀ L m0 s .next { s with heap := h', toks := tk } :=
  ⟨rfl, _, μ9, ι9, v, m₂, h', tk, rfl, F9, N9, S9, C9, io, hip, le, by simp only [St.fin, and_self, if_true], hps, hk, hm⟩
def S1Post (prog : Program) (w : World) (g : Gram) (st : St) (ρ ι : Led) (k : Nat) (h₀ : Heap) (L : Addr) (m0 : PySem.Str → Option Value) (s : Shared) (f : Flow) (s' : Shared) : Prop :=
  f = .next ∧ ∃ st₁ μ₁ ι₁ r m₁ h' tk, s' = { s with heap := h', toks := tk } ∧ Fr h₀ L h' m₁ ∧ News h₀ L h' (ρ ++ (μ₁ ++ ι₁)) ∧ Sep ρ (μ₁ ++ ι₁) ∧ CInv prog w g st₁ μ₁ ι₁ ∧ (∀ x ∈ ι, x ∈ ι₁) ∧ st₁.ip = st.ip ∧ st₁.memo = st.memo ∧ StLe st st₁ ∧ st₁.ps = st.ps ∧ (k, r) ∈ st₁.rows ∧
    (∀ x ∈ [(PySem.Str.ofString "expr_cache", Value.ref r)], m₁ x.1 = some x.2) ∧ ∀ y, ([PySem.Str.ofString "expr_cache"] ++ [PySem.Str.ofString "oid"]).contains y = false → m₁ y = m0 y
theorem OidsAt.get {σ : Led} : ∀ {pas : List Addr} {os : List (Int × Addr)}, OidsAt σ pas os → ∀ {i : Nat} {pa : Addr}, pas[i]? = some pa → ∃ o t r, os[i]? = some (o, r) ∧ (pa, tupO [.int o t, .ref r]) ∈ σ
  | _, _, .nil, _, _, h => by simp at h
  | _, _, .cons hm r, 0, pa, h => by simp at h; subst h; exact ⟨_, _, _, rfl, hm⟩
  | _, _, .cons hm r, i + 1, pa, h => by
    obtain ⟨o, t, x, a, b⟩ := r.get (i := i) (by simpa using h)
    exact ⟨o, t, x, by simpa using a, b⟩
theorem OidsAt.len {σ : Led} : ∀ {pas : List Addr} {os : List (Int × Addr)}, OidsAt σ pas os → pas.length = os.length
  | _, _, .nil => rfl
  | _, _, .cons _ r => by rw [List.length_cons, List.length_cons, r.len]
theorem nodup_len : ∀ (n : Nat) (l : List Nat), l.Nodup → (∀ x ∈ l, x < n) → l.length ≤ n
  | 0, [], _, _ => Nat.le_refl _
  | 0, x :: _, _, h => absurd (h x (.head _)) (Nat.not_lt_zero _)
  | n + 1, l, nd, h => by
    by_cases hn : n ∈ l
    · have := nodup_len n (l.erase n) (nd.erase n) fun x hx => by
        have := (nd.mem_erase_iff).mp hx
        have := h x this.2
        omega
      rw [List.length_erase_of_mem hn] at this
      omega
    · have := nodup_len n l nd fun x hx => by
        have := h x hx
        have : x ≠ n := fun e => hn (e ▸ hx)
        omega
      omega
theorem nodup_of_map {α β : Type} {f : α → β} : ∀ {l : List α}, (l.map f).Nodup → l.Nodup
  | [], _ => .nil
  | x :: l, h => by
    rw [List.map_cons, List.nodup_cons] at h
    exact List.nodup_cons.mpr ⟨fun hx => h.1 (List.mem_map.mpr ⟨x, hx, rfl⟩), nodup_of_map h.2⟩
theorem ents_len {n : Nat} {ents : List (Int × Value)} (hnd : (ents.map (·.1)).Nodup) (hk : ∀ x ∈ ents, ∃ p : Nat, p ≤ n ∧ x.1 = (p : Int)) : ents.length ≤ n + 1 := by
  have e : (ents.map fun x => x.1.toNat).map (fun m : Nat => (m : Int)) = ents.map (·.1) := by
    rw [List.map_map]
    refine List.map_congr_left fun x hx => ?_
    obtain ⟨p, _, h⟩ := hk x hx
    show ((x.1.toNat : Nat) : Int) = x.1
    omega
  have := nodup_len (n + 1) (ents.map fun x => x.1.toNat) (nodup_of_map (f := fun m : Nat => (m : Int)) (by rw [e]; exact hnd)) fun y hy => by
    obtain ⟨x, hx, rfl⟩ := List.mem_map.mp hy
    obtain ⟨p, _, h⟩ := hk x hx
    omega
  rwa [List.length_map] at this
theorem isDict_keys {prog : Program} {w : World} {K : Type} [DecidableEq K] {knd : KeyKind prog w K} {o : Obj} {kvs : List (K × Value)} (h : o.IsDictOf knd kvs) : (kvs.map (·.1)).Nodup := let ⟨_, _, _, _, _, _, h⟩ := h; h
theorem StLe.fin {st st₁ st₃ : St} {k q : Nat} {v : Value} (le : StLe st st₁) (hm : st₁.memo = st.memo) (hn : st₁.memo k q = none) (ml : StLe (st₁.begin k q) st₃) : StLe st (st₃.fin k q v) := by
  refine ⟨fun j p x h => ?_, fun x hx => ml.rows _ (le.rows _ hx)⟩
  rw [← hm] at h
  have hne : ¬(j = k ∧ p = q) := by rintro ⟨rfl, rfl⟩; rw [hn] at h; cases h
  simp only [St.fin]
  rw [if_neg hne]
  exact ml.memo j p x (by simp only [St.begin]; rw [if_neg hne]; exact h)
theorem CInv.rowsLen {prog : Program} {w : World} {g : Gram} {st : St} {μ ι : Led} (C : CInv prog w g st μ ι) (G : GOk g) : st.rows.length ≤ 100 := by
  have := nodup_len g.ex.length (st.rows.map (·.1)) C.rowsNd fun x hx => by
    obtain ⟨⟨k, r⟩, h, rfl⟩ := List.mem_map.mp hx
    exact C.rowsLt k r h
  rw [List.length_map] at this
  exact Nat.le_trans this G.few
theorem mc_of {w : World} {p : Program} {loose : List PySem.Str} {mean : ExcName → Option Value} {mg mb : PySem.Str → Option Value}
    {dp un : Nat} {gd : Option (List Code)} {cn : PySem.Str} {cs : Scope} {a : Addr} {ccd : Value} {cl : List (PySem.Str × Addr)} {outer : List Env} {A₀ : Around} {base h₀ : Heap} {L : Addr} {m : PySem.Str → Option Value} {s : Shared}
    {Q E : Value → Shared → Prop} {g : Gram} {st : St} {ρ μ ι : Led} {k q : Nat} {tp : Tok} {e : Ex}
    (B : Below A₀ base outer h₀) (F : Fr h₀ L s.heap m) (X : (hd3.heap_39 w.params).In h₀) (T : Top p loose mean mg mb h₀) (hk : cs.kind = .function) (N : News h₀ L s.heap (ρ ++ (μ ++ ι))) (hS : Sep ρ (μ ++ ι)) (C : CInv (PySem.Challenge.rw_vy0013_03).row.prog w g st μ ι) (G : GOk g) (he : g.ex[k]? = some e) (hq : q ≤ g.text.length)
    (hM : ∀ j, j < k → MC w g j) (hi : ∀ x ∈ st.ip, k < x.1)
    (hd : dp + 20 * (k + 1) < recursionLimit) (hu : un + 200 * (k + 1) < cLine) (ret : MPost (PySem.Challenge.rw_vy0013_03).row.prog w g st ρ ι k q h₀ L m s Q) :
    wpAny (model (PySem.Challenge.rw_vy0013_03).row.prog w) (ktrTop dp un gd cn cs L a ccd cl outer) (call (.ref 266) [.ref (g.xa k), .str g.text g.tt, .int q tp, .ref g.c, .ref g.ea]) Q E s := by
  have hkl : k < g.ex.length := (List.getElem?_eq_some_iff.mp he).1
  have hx := C.exprs k e he
  obtain ⟨od, hod, ho⟩ := C.odAt hkl
  let m0 : PySem.Str → Option Value := fun y => List.lookup y [(PySem.Str.ofString "error", Value.ref g.ea), (PySem.Str.ofString "cache", Value.ref g.c), (PySem.Str.ofString "pos", Value.int q tp), (PySem.Str.ofString "text", Value.str g.text g.tt), (PySem.Str.ofString "self", Value.ref (g.xa k))]
  k_steps
  rename Fr _ _ _ _ => F1
  refine wp_by F1 (fun B L' => S1Post (PySem.Challenge.rw_vy0013_03).row.prog w g st ρ ι k B L' m0 s) (For_at ?_) ?_
  · k_steps
    rename_i D _ l1 ot pas _ _ F2 N2 hot hop
    obtain ⟨oD, hoD⟩ : ∃ oD : Obj, oD = { cls := Value.type "tuple", data := Data.seq #[] } := ⟨_, rfl⟩
    rw [← hoD] at N2 hot
    refine for_tup (fun i m₁ ns₁ => ns₁ = (D, oD) :: (ρ ++ (μ ++ ι)) ∧ (∀ j o r', j < i → (st.oids k)[j]? = some (o, r') → ∀ i' : Nat, st.rows[i']? = some (k, r') → o ≠ (i' : Int)) ∧
      (∀ y, [PySem.Str.ofString "oid", PySem.Str.ofString "expr_cache"].contains y = false → m₁ y = m0 y)) (by exact rfl) (by k_asm) (by k_asm) (to := tupO (pas.map .ref)) (by rfl) (by rfl) ?_ ?_ (by passes_own) ?_ ?_
    · exact ⟨rfl, fun j o r' h => absurd h (Nat.not_lt_zero _), fun _ _ => rfl⟩
    · rintro i m₁ ns₁ ⟨rfl, -⟩
      exact hot
    · rintro i v m₁ ns₁ h tk I oJ hv ⟨rfl, hno, hm⟩ F₁ N₁ hI
      rw [List.getElem?_map] at hv
      obtain ⟨pa, hpa, rfl⟩ := Option.map_eq_some_iff.mp hv
      obtain ⟨o, t, r, hor, hpr⟩ := hop.get hpa
      obtain ⟨oc, hoc, hcd⟩ := C.cache
      have hlo := C.cacheLo
      replace F₁ := fr_names _ F₁ hm
      clear N2 N
      have hval : valueAt (cacheKvs st.rows) o = none ∨ (∃ r2 o2, valueAt (cacheKvs st.rows) o = some (.ref r2) ∧ r2 ≠ r ∧ (r2, o2) ∈ μ ∧ o2.cls ≠ .type "tuple") ∨ valueAt (cacheKvs st.rows) o = some (.ref r) := by
        cases hv : valueAt (cacheKvs st.rows) o with
        | none => exact .inl rfl
        | some v =>
          obtain ⟨i', k', r2, a1, a2, rfl⟩ := cacheKvs_at _ _ _ _ hv
          by_cases e : r2 = r
          · exact .inr (.inr (by rw [e]))
          · obtain ⟨o2, _, b1, ⟨_, _, b2, _⟩, _⟩ := C.rowAt k' r2 (List.mem_of_getElem? a1)
            exact .inr (.inl ⟨r2, o2, rfl, e, b1, by rw [b2.1]; intro z; exact absurd (Value.type.inj z) (by decide)⟩)
      obtain ⟨-, xr, hxr⟩ := C.oidLive k o r hkl (List.mem_of_getElem? hor)
      have hIn : ∀ p ∈ (D, oD) :: (ρ ++ (μ ++ ι)), p.1 ≠ I := hI
      have hstep : valueAt (cacheKvs st.rows) o ≠ some (.ref r) → ∀ j o r', j < i + 1 → (st.oids k)[j]? = some (o, r') → ∀ i' : Nat, st.rows[i']? = some (k, r') → o ≠ (i' : Int) := fun hne j o' r' hj ho' i' hi' e => by
        by_cases hji : j < i
        · exact hno j o' r' hji ho' i' hi' e
        · rw [show j = i by omega, hor] at ho'
          obtain ⟨rfl, rfl⟩ := Prod.mk.inj (Option.some.inj ho')
          refine hne ?_
          have := cacheKvs_get st.rows 0 i' k r hi'
          rw [Nat.zero_add] at this
          rw [e]; exact this
      rcases hval with hval | ⟨r2, o2, hval, hr2, hm2, hc2⟩ | hval
      · k_steps
        dsimp only [TPost]
        refine TEnd.intro (by k_asm) (by k_asm) hIn ⟨rfl, hstep (by rw [hval]; exact fun h => nomatch h), ?_⟩
        intro y hy
        simp only [List.contains_cons, List.contains_nil, Bool.or_false, Bool.or_eq_false_iff] at hy
        obtain ⟨y1, y2⟩ := hy
        simp [beq_no y1, beq_no y2, y1, y2]
      · rcases List.mem_append.mp hxr with hxr | hxr
        all_goals
          k_steps
          dsimp only [TPost]
          refine TEnd.intro (by k_asm) (by k_asm) hIn ⟨rfl, hstep (by rw [hval]; exact fun h => hr2 (Value.ref.inj (Option.some.inj h))), ?_⟩
          intro y hy
          simp only [List.contains_cons, List.contains_nil, Bool.or_false, Bool.or_eq_false_iff] at hy
          obtain ⟨y1, y2⟩ := hy
          simp [beq_no y1, beq_no y2, y1, y2]
      · k_steps
        dsimp only
        dsimp only [TPost]
        obtain ⟨i', k', r3, a1, a2, a3⟩ := cacheKvs_at _ _ _ _ hval
        cases a3
        have hk' := (C.oidOnly k o r hkl (List.mem_of_getElem? hor) i' k' a1).1
        subst hk'
        rename Fr _ _ _ _ => F9
        rename News _ _ _ _ => N9
        refine ⟨rfl, st, μ, ι, r, _, _, _, rfl, F9, news_sub N9 (fun x hx => .tail _ (.tail _ hx)), hS, C, fun _ h => h, rfl, rfl, .refl, rfl, List.mem_of_getElem? a1, ?_, ?_⟩
        · intro x hx
          rw [List.mem_singleton.mp hx]
          rfl
        · intro y hy
          simp only [List.cons_append, List.nil_append, List.contains_cons, List.contains_nil, Bool.or_false, Bool.or_eq_false_iff] at hy
          obtain ⟨y1, y2⟩ := hy
          simp [beq_no y1, beq_no y2, y1, y2]
    · rintro m₁ ns₁ h tk ⟨rfl, hno, hm⟩ F₁ N₁
      replace F₁ := fr_names _ F₁ hm
      clear N2 N
      rw [List.length_map, hop.len] at hno
      have hnew : ∀ x, (k, x) ∉ st.rows := fun x hx => by
        obtain ⟨i', hi'⟩ := List.getElem?_of_mem hx
        obtain ⟨j, hj⟩ := List.getElem?_of_mem (C.oidOwn i' k x hi')
        exact hno j _ _ (List.getElem?_eq_some_iff.mp hj).1 hj i' hi' rfl
      obtain ⟨oc, hoc, hcd⟩ := C.cache
      have hlo := C.cacheLo
      have hrl := C.rowsLen G
      have hcl : (cacheKvs st.rows).length = st.rows.length := cacheKvs_length _ _
      have D0 := ndF C.nd
      have hcd0 : @Ne Nat g.c (g.da k) := (D0.d_c k hkl).symm
      have S2 : Sep ((D, oD) :: ρ) (μ ++ ι) := fun x hx y hy => by
        rcases List.mem_cons.mp hx with rfl | hx
        · exact Nat.ne_of_gt (l1 y (List.mem_append_right _ hy))
        · exact hS x hx y hy
      have n1 := cut_ne (as := [g.c, g.da k]) (.head _) hoc S2 C.iota
      have n2 := cut_ne (as := [g.c, g.da k]) (.tail _ (.head _)) hod S2 C.iota
      obtain ⟨R, hR⟩ : ∃ R, R = ((D, oD) :: ρ) ++ (cut [g.c, g.da k] μ ++ ι) := ⟨_, rfl⟩
      have N2 := news_sub (l' := (g.c, oc) :: (g.da k, od) :: R) N₁ fun x hx => by
        rcases List.mem_cons.mp hx with rfl | hx
        · exact .tail _ (List.mem_append_right _ (List.mem_append_left _ hoc))
        · rcases List.mem_cons.mp hx with rfl | hx
          · exact .tail _ (List.mem_append_right _ (List.mem_append_left _ hod))
          · rw [hR] at hx; exact cut_sub x hx
      rw [← hR] at n1 n2
      have n1' : ∀ p ∈ (g.da k, od) :: R, p.1 ≠ g.c := fun p hp => by
        rcases List.mem_cons.mp hp with rfl | hp
        · exact D0.d_c k hkl
        · exact n1 p hp
      have hιR : ∀ x ∈ ι, x ∈ R := fun x hx => by rw [hR]; exact List.mem_append_right _ (List.mem_append_right _ hx)
      clear N₁
      k_steps
      rename Obj.IsDictOf _ _ (stored _ _ _) => hcd2
      rw [hcl, cacheKvs_stored _ k] at hcd2
      have hfew := C.oidFew k hkl
      have hnth := G.nthLe
      have hpl : ∀ pas' : List Addr, OidsAt ι pas' (st.oids k) → pas'.length ≤ 1000 := fun pas' h => by rw [h.len]; omega
      k_steps
      rename_i d9 _ oR9 _ _ lo9 _ _ hi9 _ e1 e2 l9 _ _ oc9 D2 _ a1 a2 a3 l2 D1 _ b1 b2 b3 b4 l3 D3 _ c1 c2 c3 c4 c5 l4 ot9 pas9 _ _ hm9 hp9 hq9 x9 _ l5 _ hsh9 t9 n9 tk9 F9 N9
      have hnl : ((cacheKvs (st.rows ++ [(k, d9)])).length : Int) - 1 = (st.rows.length : Int) := by rw [cacheKvs_length, List.length_append, List.length_singleton]; omega
      simp only [hnl] at N9
      have l5' : @LE.le Nat _ D1 x9 := l5
      have hall : ∀ x ∈ μ ++ ι, x.1 = g.c ∨ x.1 = g.da k ∨ x ∈ R := fun x hx => by
        rcases List.mem_append.mp hx with hx | hx
        · by_cases h1 : x.1 = g.c
          · exact .inl h1
          · by_cases h2 : x.1 = g.da k
            · exact .inr (.inl h2)
            · refine .inr (.inr ?_)
              rw [hR]
              exact List.mem_append_right _ (List.mem_append_left _ (mem_cut.mpr ⟨hx, by simp [h1, h2]⟩))
        · exact .inr (.inr (hιR x hx))
      have hlt : ∀ y, @LE.le Nat _ d9 y → ∀ x ∈ μ ++ ι, x.1 ≠ y := fun y hy x hx => by
        refine neN ?_
        rcases hall x hx with h | h | h
        · rw [h]; omega
        · rw [h]; omega
        · have := ltN (l9 x h); omega
      have C9 := C.newRow (n := n9) (ot := x9) (pa := D2) (hsh := hsh9) (t := t9) (tn := ?tn9) hkl hnew hcd2 hi9 lo9 hp9 (hlt _ (Nat.le_refl _)) (hlt _ (by omega)) (hlt _ (by omega)) (neN (by omega)) (neN (by omega))
      refine ⟨rfl, _, _, _, d9, _, _, _, rfl, F9, ?_, ?_, C9, fun x hx => .tail _ (.tail _ hx), rfl, rfl, ⟨.refl, fun _ h => List.mem_append_left _ h⟩, rfl, List.mem_append_right _ (.head _), ?_, ?_⟩
      · refine news_sub N9 fun x hx => ?_
        simp only [List.mem_append, List.mem_cons] at hx
        rcases hx with h | ((rfl | rfl | rfl | h) | (rfl | rfl | h))
        · have hRx : x ∈ R := by rw [hR]; exact List.mem_append_left _ (.tail _ h)
          repeat (first | exact hRx | refine List.mem_cons_of_mem _ ?_)
        · repeat (first | exact List.mem_cons_self | refine List.mem_cons_of_mem _ ?_)
        · repeat (first | exact List.mem_cons_self | refine List.mem_cons_of_mem _ ?_)
        · repeat (first | exact List.mem_cons_self | refine List.mem_cons_of_mem _ ?_)
        · have hRx : x ∈ R := by rw [hR]; exact List.mem_append_right _ (List.mem_append_left _ h)
          repeat (first | exact hRx | refine List.mem_cons_of_mem _ ?_)
        · repeat (first | exact List.mem_cons_self | refine List.mem_cons_of_mem _ ?_)
        · repeat (first | exact List.mem_cons_self | refine List.mem_cons_of_mem _ ?_)
        · have hRx := hιR x h
          repeat (first | exact hRx | refine List.mem_cons_of_mem _ ?_)
      · intro x hx y hy
        have hxR : x ∈ R := by rw [hR]; exact List.mem_append_left _ (.tail _ hx)
        have hxd := ltN (l9 x hxR)
        simp only [List.mem_append, List.mem_cons] at hy
        rcases hy with ((rfl | rfl | rfl | h) | (rfl | rfl | h))
        · exact n1 x hxR
        · exact n2 x hxR
        · refine neN ?_; dsimp only; omega
        · exact hS x hx y (List.mem_append_left _ (mem_cut.mp h).1)
        · refine neN ?_; dsimp only; omega
        · refine neN ?_; dsimp only; omega
        · exact hS x hx y (List.mem_append_right _ h)
      · intro x hx
        rw [List.mem_singleton.mp hx]
        rfl
      · intro y hy
        simp only [List.cons_append, List.nil_append, List.contains_cons, List.contains_nil, Bool.or_false, Bool.or_eq_false_iff] at hy
        obtain ⟨y1, y2⟩ := hy
        simp [beq_no y1, beq_no y2, y1, y2]
  · rintro f s' ⟨rfl, st₁, μ₁, ι₁, r, m₁, h', tk', rfl, F₁, N₁, S₁, C₁, sub₁, ip₁, memo₁, le₁, ps₁, hrow, hkv, hm⟩
    replace F₁ := fr_vals _ _ F₁ hkv hm
    clear N F1 hkv hm
    k_steps
    unfold IfAt
    rename Fr _ _ _ _ => F2
    refine wp_by F2 (fun B L' => S2Post (PySem.Challenge.rw_vy0013_03).row.prog w g st ρ ι e k q B L' m0 s) ?_ ?_
    · obtain ⟨o, ents, hro, hrd, hrlo, hrv, hrk⟩ := C₁.rowAt k r hrow
      have hb := hrv q
      cases hmq : st₁.memo k q with
      | some v =>
        rw [hmq] at hb
        have hb' : (valueAt ents (q : Int)).isSome = true := by rw [hb]; rfl
        refine wpAny_If ?_
        k_steps
        rename Fr _ _ _ _ => F9
        rename News _ _ _ _ => N9
        refine ⟨rfl, st₁, μ₁, ι₁, v, _, _, _, rfl, F9, N9, S₁, C₁, sub₁, ip₁, le₁, hmq, ?_, ?_, ?_⟩
        · rw [ps₁, if_pos]
          rw [← ps₁]
          exact (C₁.seen k q).mp (by rw [hmq]; rfl)
        · intro x hx
          rw [List.mem_singleton.mp hx]
          rfl
        · intro y hy
          simp only [List.cons_append, List.nil_append, List.contains_cons, List.contains_nil, Bool.or_false, Bool.or_eq_false_iff] at hy
          obtain ⟨y1, y2, y3⟩ := hy
          simp [beq_no y1, beq_no y2, beq_no y3, y1, y2, y3, List.lookup_cons]
      | none =>
        rw [hmq] at hb
        have hb' : (valueAt ents (q : Int)).isSome = false := by rw [hb]; rfl
        have n1 := cut_ne (as := [r]) (.head _) hro S₁ C₁.iota
        obtain ⟨R, hR⟩ : ∃ R, R = ρ ++ (cut [r] μ₁ ++ ι₁) := ⟨_, rfl⟩
        rename News _ _ _ _ => N3
        have N4 := news_sub (l' := (r, o) :: R) N3 fun x hx => by
          rcases List.mem_cons.mp hx with rfl | hx
          · exact List.mem_append_right _ (List.mem_append_left _ hro)
          · rw [hR] at hx; exact cut_sub x hx
        rw [← hR] at n1
        clear N3
        have hel : ents.length ≤ 1001 := by
          have := ents_len (isDict_keys hrd) hrk
          have := G.small
          omega
        have hi' : ∀ x ∈ (st₁.begin k q).ip, k ≤ x.1 := by
          intro x hx
          rcases List.mem_cons.mp hx with rfl | hx
          · exact Nat.le_refl _
          · exact Nat.le_of_lt (hi x (ip₁ ▸ hx))
        have hri : inProg = inProg := rfl
        have hns : (k, q) ∉ st.ps.seen := fun h => by
          rw [← ps₁] at h
          have := (C₁.seen k q).mpr h
          rw [hmq] at this; cases this
        clear C ho hod hx
        cases e
        all_goals
          refine wpAny_If ?_
          k_steps
          rename CInv _ _ _ _ _ _ => C3
          rename Sep _ _ => S3
          rename StLe _ _ => ml3
          rename ValOk _ _ _ _ _ _ _ => hv3
          rename St.ip _ = _ => ip3
          rename St.ps _ = _ => ps3
          rename (∀ x ∈ ι₁, x ∈ _) => io3
          rename News _ _ _ _ => N3
          have row3 := ml3.rows _ hrow
          have hmq3 := ml3.memo k q inProg (by simp [St.begin])
          obtain ⟨o3, ents3, hro3, hrd3, hrlo3, hrv3, hrk3⟩ := C3.rowAt k r row3
          obtain ⟨R3, hR3, N4, n3⟩ := split_row N3 S3 C3.iota hro3
          have hel3 : ents3.length ≤ 1001 := by
            have := ents_len (isDict_keys hrd3) hrk3
            have := G.small
            omega
          clear N3
          k_steps
          rename Obj.IsDictOf _ _ (stored _ _ _) => hst3
          rename News _ _ _ ((r, _) :: R3) => N5
          obtain ⟨μ9, N9, S9, C9⟩ := C3.finishL S3 G hR3 N5 row3 hq hro3 hrv3 hrk3 hst3 ip3 (by rw [ip₁]; exact hi) hmq3 he hv3
          rename Fr _ _ _ _ => F9
          refine s2_fin F9 N9 S9 C9 (fun x hx => io3 _ (sub₁ _ hx)) ?_ (le₁.fin memo₁ hmq ml3) ?_ ?_ ?_
          · simp only [St.fin]; rw [ip3]; exact ip₁
          · rw [ps3, if_neg hns, ← ps₁]; rfl
          · intro x hx
            rw [List.mem_singleton.mp hx]
            rfl
          · intro y hy
            simp only [List.cons_append, List.nil_append, List.contains_cons, List.contains_nil, Bool.or_false, Bool.or_eq_false_iff] at hy
            obtain ⟨y1, y2, y3⟩ := hy
            simp [beq_no y1, beq_no y2, beq_no y3, y1, y2, y3, List.lookup_cons]
    · rintro f s' ⟨rfl, st₂, μ₂, ι₂, v, m₂, h', tk', rfl, F₂, N₂, S₂, C₂, sub₂, ip₂, le₂, hmem, ps₂, hkv, hm⟩
      replace F₂ := fr_vals _ _ F₂ hkv hm
      clear N₁ C₁ S₁ C hod ho hx
      have hval := mc_val C₂ he (by rw [ip₂]; exact hi) hmem
      have hx₂ := C₂.exprs k e he
      obtain ⟨ar9, g1, g2, g3, u1, u2, u3, tp9, n9, hea, hed⟩ := C₂.err
      obtain ⟨od2, hod2, -⟩ := C₂.odAt hkl
      have hlt2 := C₂.errLt
      have hrun := runK_eq G.below he st.ps (p := q)
      rw [← ps₂] at hrun
      unfold PS.note at hrun
      rcases val_cases hval with ⟨hsem, rfl⟩ | ⟨f, a9, hsem, rfl, dx9, oo9, cl9, ep9, bs9, v1, v2, hn1, hn2, hn3, hn4⟩
      · rw [hsem] at hrun
        obtain ⟨R, hR, N4, n4⟩ := split_row N₂ S₂ C₂.iota hed
        have heaR : (g.ea, (⟨.ref 94, some g.ed, .fields #[.ref ar9, .none, .none, .none, .bool false, .none], #[]⟩ : Obj)) ∈ R := by
          rw [hR]; exact List.mem_append_right _ (List.mem_append_left _ (mem_cut.mpr ⟨hea, by simp [(ndF C₂.nd).ea_ed]⟩))
        have hodR : (g.da k, od2) ∈ R := by
          rw [hR]; exact List.mem_append_right _ (List.mem_append_left _ (mem_cut.mpr ⟨hod2, by simp [(ndF C₂.nd).d_ed k hkl]⟩))
        have hιR : ∀ x ∈ ι₂, x ∈ R := fun x hx => by rw [hR]; exact List.mem_append_right _ (List.mem_append_right _ hx)
        have huniq : ∀ x ∈ μ₂, x.1 = g.ed → x = (g.ed, dictOf (errEs g g1 g2 g3 u1 u2 u3 tp9 st₂.ps.err) n9) := fun x hx e => news_uniq N₂ (List.mem_append_right _ (List.mem_append_left _ hx)) (List.mem_append_right _ (List.mem_append_left _ hed)) e
        have ret0 : runK g k q st.ps = st₂.ps → ∀ h' tk', Fr h₀ L h' m → News h₀ L h' ((g.ed, dictOf (errEs g g1 g2 g3 u1 u2 u3 tp9 st₂.ps.err) n9) :: R) → Q .none { s with heap := h', toks := tk' } := fun e h' tk' F' N' =>
          ret _ st₂ μ₂ ι₂ _ _ F' (join_row N' hR huniq) S₂ C₂ sub₂ ip₂ le₂ e.symm hmem
        have ret1 : runK g k q st.ps = (st₂.err k q).ps → ∀ h' tk' t n', Fr h₀ L h' m → News h₀ L h' ((g.ed, dictOf (errEs g g1 g2 g3 u1 u2 u3 t ((q : Int), some k)) n') :: R) → Q .none { s with heap := h', toks := tk' } := fun e h' tk' t n' F' N' => by
          obtain ⟨μ', N'', S', C'⟩ := C₂.notedL S₂ hkl hed hR N'
          exact ret _ (st₂.err k q) μ' ι₂ _ _ F' N'' S' C' sub₂ ip₂ ⟨le₂.memo, le₂.rows⟩ e.symm hmem
        have hnl := G.nmLen k hkl
        clear N₂ ret
        rcases hE : st₂.ps.err with ⟨ep, _ | k'⟩
        · rw [hE] at N4 hrun ret0
          rcases Nat.eq_zero_or_pos (g.nm k).length with hl0 | hl0
          · have hnm := str_len0 hl0
            k_steps
            · exact ret1 (by rw [hrun, if_pos ⟨by dsimp only; omega, .inr rfl⟩]; rfl) _ _ _ _ (by k_asm) (by k_asm)
            · exact ret0 (by rw [hrun, if_neg (by dsimp only; omega)]) _ _ (by k_asm) (by k_asm)
          · have hnm := str_lenpos hl0
            k_steps
            · exact ret1 (by rw [hrun, if_pos ⟨by dsimp only; omega, .inl hnm⟩]; rfl) _ _ _ _ (by k_asm) (by k_asm)
            · exact ret0 (by rw [hrun, if_neg (by dsimp only; omega)]) _ _ (by k_asm) (by k_asm)
        · rw [hE] at N4 hrun ret0
          have hk' : k' < g.ex.length := hlt2 k' (by rw [hE])
          obtain ⟨e', he'⟩ : ∃ e', g.ex[k']? = some e' := ⟨_, List.getElem?_eq_getElem hk'⟩
          have hx' := C₂.exprs k' e' he'
          obtain ⟨od3, hod3, -⟩ := C₂.odAt hk'
          have hodR' : (g.da k', od3) ∈ R := by
            rw [hR]; exact List.mem_append_right _ (List.mem_append_left _ (mem_cut.mpr ⟨hod3, by simp [(ndF C₂.nd).d_ed k' hk']⟩))
          rcases Nat.eq_zero_or_pos (g.nm k).length with hl0 | hl0
          · have hnm := str_len0 hl0
            k_steps
            · exact ret0 (by rw [hrun, if_neg (fun h => h.2.elim (fun a => a hnm) (fun a => nomatch a))]) _ _ (by k_asm) (by k_asm)
            · exact ret0 (by rw [hrun, if_neg (by dsimp only; omega)]) _ _ (by k_asm) (by k_asm)
          · have hnm := str_lenpos hl0
            k_steps
            · exact ret1 (by rw [hrun, if_pos ⟨by dsimp only; omega, .inl hnm⟩]; rfl) _ _ _ _ (by k_asm) (by k_asm)
            · exact ret0 (by rw [hrun, if_neg (by dsimp only; omega)]) _ _ (by k_asm) (by k_asm)
      · rw [hsem] at hrun
        k_steps
        rename News h₀ _ _ _ => N9
        exact ret _ st₂ μ₂ ι₂ _ _ (by k_asm) N9 S₂ C₂ sub₂ ip₂ le₂ hrun.symm hmem
end
theorem mc_all {w : World} {g : Gram} (k : Nat) : MC w g k := by
  induction k using Nat.strongRecOn with
  | ind k ih =>
    intro w2 p loose mean mg mb dp un gd cn cs a ccd cl outer A₀ base h₀ L m s Q E st ρ μ ι q tp B F X T hk N hS C G hkl hq hi hd hu ret
    obtain ⟨e, he⟩ : ∃ e, g.ex[k]? = some e := ⟨_, List.getElem?_eq_getElem hkl⟩
    exact mc_of B F X T hk N hS C G he hq ih hi hd hu ret

/-- raising an existing instance of an own exception class -/
def RaiseOk (K : Frag) (C : Addr) (E : Value → Shared → Prop) (v : Value) (s₁ : Shared) : Prop :=
  ∃ a ob vs, v = .ref a ∧ s₁.heap.get? a = some ob ∧ ob.cls = .ref C ∧ ob.data = .fields vs ∧ vs[1]? = some .none ∧ K.In s₁.heap ∧ E (.ref a) s₁
theorem Raise_inst {M : Model} {A : Around} {E : Value → Shared → Prop} {s : Shared} {env : Env} {K : Frag} {C : Addr} {cd : ClassData} {e : Expr} {pos : Pos} {Q : Flow → Shared → Prop} (Y : ExcCls K C cd) (hh : A.handled = none)
    (h : wpAny M A (eval e env) (RaiseOk K C E) E s) : wpAny M A (exec (.Raise (some e) none pos) env) Q E s := by
  show wpAny M A (do standAt pos; raiseStmt env (some (do let v ← eval e env; standAt pos; pure v)) none) Q E s
  refine wpAny_bind (wpAny_standAt ?_)
  unfold raiseStmt
  dsimp only
  refine wpAny_bind (wpAny_bind (wpAny_mono h (fun v s₁ h₁ => wpAny_bind (wpAny_standAt (wpAny_pure ?_))) fun _ _ x => x))
  obtain ⟨a, ob, vs, rfl, ha, hcls, hd, h1, X, hE⟩ := h₁
  obtain ⟨dd, sl, ho, e3⟩ := Y.make
  have hC := X _ _ ho
  have L0 : Looks M s₁.heap (typeOf (.ref a)) (.ref C) := hcls ▸ (Looks.ld ha).andThen .now
  have L1 : Looks M s₁.heap (isInstance (.ref a) (.type "BaseException")) true := L0.andThen (Y.sub X "BaseException" (by decide +kernel))
  have L2 : Looks M s₁.heap (typeOf (.ref C)) (.type "type") := (Looks.ld hC).andThen .now
  have hnt : ∀ {Q' : Bool → Shared → Prop}, Q' false s₁ → wpAny M A (isType (.ref a)) Q' E s₁ := by
    intro Q' hq
    simp only [isType, loadHead]
    refine wpAny_bind (wpAny_loadPart ha ?_)
    rw [hd]; exact wpAny_pure hq
  refine wpAny_bind (wpAny_pure ?_)
  dsimp only
  refine wpAny_bind (wpAny_holding ?_)
  unfold excFromValue isExcClass
  refine wpAny_bind (wpAny_bind (hnt ?_))
  simp only [Bool.false_eq_true, if_false]
  refine wpAny_pure ?_
  simp only [Bool.false_eq_true, if_false]
  refine wpAny_bind (L1.here ?_)
  simp only [if_true]
  refine wpAny_pure ?_
  refine wpAny_bind (hnt ?_)
  simp only [Bool.false_eq_true, if_false]
  unfold raisedInstance
  refine wpAny_bind (wpAny_bind (L0.here (wpAny_bind (L2.here ?_))))
  rw [if_pos (by decide)]
  refine wpAny_pure ?_
  unfold setFlight raiseNew
  refine wpAny_bind (wpAny_bind (wpAny_field ha hd h1 ?_))
  rw [if_neg (by decide)]
  refine wpAny_pure (wpAny_bind (wpAny_handled ?_))
  rw [hh]
  first
    | exact wpAny_throw hE
    | exact wpAny_bind (wpAny_pure (wpAny_throw hE))
theorem leave_inst {M : Model} {A : Around} {E : Value → Shared → Prop} {s' : Shared} {base g : Heap} {outer : List Env} {L a e tp : Addr} {m : PySem.Str → Option Value} {name : PySem.Str} {scope : Scope} {cd : Value} {Q : Unit → Shared → Prop} {news : Led} {ob : Obj} {cls : Value}
    (K : Below A base outer g) (F : Fr g L s'.heap m) (N : News g L s'.heap ((e, ob) :: news)) (hcls : ob.cls = cls) (hd : ob.data = .fields #[.ref tp, .none, .none, .none, .bool false, .none]) (hne : ∀ q ∈ news, q.1 ≠ e)
    (hQ : ∀ h', RaisedSN base g outer e cls news h' → g.UpToSlots h' → Q () { s' with heap := h' }) (hk : scope.kind = .function := by rfl) :
    wpAny M (A.deeper (envOf name scope L a cd)) (leaving (envOf name scope L a cd) (.ref e)) Q E s' := by
  have K' := K.push (name := name) (a := a) (cd := cd) F hk
  have he := N (e, ob) (.head _)
  let as := e :: (envOf name scope L a cd :: outer).filterMap (·.frame)
  have hin : ∀ env ∈ (envOf name scope L a cd :: outer), ∀ b, env.frame = some b → b ∈ as := fun env he b hb => .tail _ (List.mem_filterMap.mpr ⟨env, he, hb⟩)
  have hbe : base.get? e = none := fresh_of_stays K.stays he.2.2
  have st : base.StaysIn (hideAll s'.heap as) := fun b o q => hideAll_get _ (K'.stays b o q) fun hm => by
    rcases List.mem_cons.mp hm with rfl | hm
    · rw [hbe] at q; cases q
    · rw [(K'.frames.mem hm).1] at q; cases q
  have sg : ∀ b o, g.get? b = some o → b ∉ outer.filterMap (·.frame) → (hideAll s'.heap as).get? b = some o := fun b o q nm => hideAll_get _ (F.keep b o q) fun hm => by
    rcases List.mem_cons.mp hm with rfl | hm
    · rw [he.2.2] at q; cases q
    · rcases kts_mem hm with z | z
      · rw [z, kts_self F] at q
        cases q
      · exact nm z
  have hl : ∀ q ∈ news, (hideAll s'.heap as).get? q.1 = some q.2 ∧ g.get? q.1 = none ∧ base.get? q.1 = none := fun q hq => by
    have Nq := N q (.tail _ hq)
    refine ⟨hideAll_get _ Nq.1 fun hm => ?_, Nq.2.2, fresh_of_stays K.stays Nq.2.2⟩
    rcases List.mem_cons.mp hm with hm | hm
    · exact hne q hq hm
    · obtain ⟨env, he, hf⟩ := List.mem_filterMap.mp hm
      rcases List.mem_cons.mp he with rfl | he
      · exact Nq.2.1 (Option.some.inj hf).symm
      · obtain ⟨o, ho, _⟩ := (K.frames.mem (List.mem_filterMap.mpr ⟨env, he, hf⟩)).2
        rw [Nq.2.2] at ho; cases ho
  have hen : (hideAll s'.heap as).get? e = none := hideAll_none _ (.head _)
  refine wpAny_leaving_firstW (a0 := .ref tp) K'.stack (funFrames_hide K'.frames hin) rfl he.1 (fun b o hb => of_hideAll _ hb) hen hd rfl rfl fun h' hL => ?_
  obtain ⟨k1, ⟨_, _, k2⟩, k3, k4⟩ := hL
  exact hQ h' ⟨_, .ref tp, st, sg, hl, k1, hen, k2, by rw [← hcls]; exact k3⟩ ((Heap.UpToSlots.of_keeps F.keep).trans k4)
/-- two clauses of own classes: the first passes on, the second catches -/
theorem caught_two {prog : Program} {w : World} {A₀ : Around} {E : Value → Shared → Prop} {s' : Shared} {base g g₀ G : Heap} {outer : List Env} {L a e : Addr} {m : PySem.Str → Option Value} {name : PySem.Str} {scope : Scope} {cd : Value}
    {b₀ b₁ : PySem.Stmt} {suite suite₁ : List PySem.Stmt} {pos np pos₁ np₁ : Pos} {rest : List ExceptHandler} {Q : Flow → Shared → Prop} {news : Led} {KF : Frag} {p : Program} {loose : List PySem.Str} {mean : ExcName → Option Value} {mg mb : PySem.Str → Option Value} {x x₁ : PySem.Str} {cls : Value} {C C₁ : Addr}
    (R : RaisedSN base G (envOf name scope L a cd :: outer) e cls news s'.heap) (F : Fr g L G m) (K : Below A₀ base outer g) (hsm : G.UpToSlots s'.heap) (XB : KF.In base) (TB : Top p loose mean mg mb base)
    (D : KtsDicts (outer.filterMap (·.frame)) g) (T0 : KtsTurn (outer.filterMap (·.frame)) g₀ g)
    (ex₁ : nsIn KF mainGlobals x₁ = some (some (.ref C₁))) (q₁ : exmOne KF cls (.ref C₁) = some false) (ex : nsIn KF mainGlobals x = some (some (.ref C))) (q : exmOne KF cls (.ref C) = some true)
    (k : ∀ h' g', KtsTurn (outer.filterMap (·.frame)) g₀ g' → Fr g' L h' m → News g' L h' news → Below A₀ base outer g' → KF.In g' → Top p loose mean mg mb g' → KtsDicts (outer.filterMap (·.frame)) g' →
      wpAny (model prog w) ((A₀.deeper (envOf name scope L a cd)).mark (some (.ref e))) (execs (b₀ :: suite) (envOf name scope L a cd)) Q E { s' with heap := h' })
    (hk : scope.kind = .function := by rfl) (hx₁ : (envOf name scope L a cd).kindOf x₁ = some .globalImplicit := by rfl) (hd₁ : (x₁ == (PySem.Str.ofString "__debug__")) = false := by decide)
    (hx : (envOf name scope L a cd).kindOf x = some .globalImplicit := by rfl) (hd : (x == (PySem.Str.ofString "__debug__")) = false := by decide)
    (hE : PassesOwnAt (model prog w) ((A₀.deeper (envOf name scope L a cd)).mark (some (.ref e))) (A₀.deeper (envOf name scope L a cd)) (envOf name scope L a cd) E := by passes_own) :
    wpAny (model prog w) (A₀.deeper (envOf name scope L a cd)) (noteFrame (.ref e) (envOf name scope L a cd))
      (fun _ s₂ => wpAny (model prog w) (A₀.deeper (envOf name scope L a cd)) (setFlight (.ref e) none) (fun _ s₃ =>
        wpAny (model prog w) (A₀.deeper (envOf name scope L a cd)) (handleBy (.ref e) (envOf name scope L a cd) (.ExceptHandler (some (.Name x₁ np₁)) none (b₁ :: suite₁) pos₁ :: .ExceptHandler (some (.Name x np)) none (b₀ :: suite) pos :: rest)) Q E s₃) E s₂) E s' := by
  obtain ⟨B, a0, hB, hBG, hl, hfl⟩ := R
  have hL : B.get? L = none := by
    obtain ⟨_, ⟨L', _, hf, hn', _⟩, _⟩ := hfl.2.2.1
    obtain rfl : L = L' := Option.some.inj hf
    exact hn'
  refine wpAny_looks_onW (Around.frames_deeper K.stack) rfl hfl fun h₄ hheld₄ hsm₄ => ?_
  refine wpAny_landsW hheld₄ fun h₅ hheld hsm₅' => ?_
  have hsm₅ := hsm₄.trans hsm₅'
  obtain ⟨g₅, T₅, F₅, K₅⟩ := kts_ground K F hBG hheld.1 (hsm.trans hsm₅)
  have X₅ : KF.In g₅ := XB.keeps K₅.stays
  have P₅ : TopRead p loose mg mb g₅ := topRead_of (TB.keeps K₅.stays)
  obtain ⟨ob, hob, hobc⟩ := hheld.there
  have LT : ∀ {M : Model}, Looks M h₅ (typeOf (.ref e)) cls := hobc ▸ (Looks.ld hob).andThen .now
  refine wpAny_handleBy_cons (codeAny_handlers_test (name_K F₅ X₅ P₅ ex₁ ?_ hk hx₁ hd₁)) (by intro q; cases q)
  refine (exm_one (X₅.keeps F₅.keep) LT q₁).here ?_
  refine wpAny_handleBy_cons (codeAny_handlers_test (name_K F₅ X₅ P₅ ex ?_ hk hx hd)) (by intro q; cases q)
  refine (exm_one (X₅.keeps F₅.keep) LT q).here ?_
  refine codeAny_handlers_suite ?_
  refine lands_againW hheld fun h₆ hfl₆ hsm₆ => ?_
  obtain ⟨g₆, T₆, F₆, K₆⟩ := kts_ground K F hBG hfl₆.1 ((hsm.trans hsm₅).trans hsm₆)
  have Nl : News g₆ L h₆ news := fun q hq => ⟨hfl₆.1 _ _ (hl q hq).1, (fun z => by have := (hl q hq).1; rw [z, hL] at this; cases this), T₆.none_ _ (kts_none F.keep (hl q hq).2.1)⟩
  have X₆ : KF.In g₆ := XB.keeps K₆.stays
  have P₆ : Top p loose mean mg mb g₆ := TB.keeps K₆.stays
  have D₆ : KtsDicts (outer.filterMap (·.frame)) g₆ := D.turn T₆
  exact wpAny_passesOwnAt hE (k h₆ g₆ (T0.trans T₆) F₆ Nl K₆ X₆ P₆ D₆)

section
local macro_rules | `(tactic| walk_at "zz0") => `(tactic| fail)
local macro_rules | `(tactic| walk_at "zz1") => `(tactic| fail)
local macro_rules | `(tactic| walk_at "zz2") => `(tactic| fail)
local macro_rules | `(tactic| walk_at "zz3") => `(tactic| fail)
local macro_rules | `(tactic| walk_at "zz4") => `(tactic| fail)
local macro_rules | `(tactic| walk_at "zz5") => `(tactic| fail)
local macro_rules | `(tactic| walk_at "zz6") => `(tactic| fail)
local macro_rules | `(tactic| walk_at "zz7") => `(tactic| fail)
local macro_rules | `(tactic| walk_at "zz8") => `(tactic| fail)
theorem begin_pmatch (M : Model) (A : Around) (Q E : Value → Shared → Prop) (s : Shared) : True := by
  w_top off
  first | (have h : ∀ t : Sem Value, wpAny M A t Q E s := by (intro t; walk1; fail); trivial) | trivial
end
theorem up_of {h₀ g h : Heap} {L : Addr} {m : PySem.Str → Option Value} (U : g.UpToSlots h) (F : Fr h₀ L g m) : h₀.UpToSlots h := (Heap.UpToSlots.of_keeps F.keep).trans U
theorem BInv.unat {g : Gram} {os : Nat → List (Int × Addr)} {δ ι : Led} {c ea ed : Addr} (B : BInv (g.at c ea ed).next os δ ι) : BInv g.next os δ ι :=
  ⟨fun k e h => by have := B.exprs k e h; cases e <;> exact this, B.dicts, B.live, B.few, B.nd, B.iota⟩
theorem meth_mcB {w : World} {A : Around} {E : Value → Shared → Prop} {s : Shared} {h₀ : Heap} {L : Addr} {m : PySem.Str → Option Value} {ns δ ι : Led} {g : Gram} {os : Nat → List (Int × Addr)} {j : Nat} {pl : Sem Bool} {Q : Value × List Value → Shared → Prop}
    (F : Fr h₀ L s.heap m) (X : (hd3.heap_39 w.params).In h₀) (N : News h₀ L s.heap ns) (BI : BInv g os δ ι) (hs : ∀ x ∈ δ ++ ι, x ∈ ns) (hj : j < g.ex.length) (h : Q (.ref 266, [.ref (g.xa j)]) s) :
    wpAny (model (PySem.Challenge.rw_vy0013_03).row.prog w) A (getMethod (.ref (g.xa j)) (PySem.Str.ofString "match_core") pl) Q E s := by
  obtain ⟨od, hod, ho⟩ := BI.dicts j hj
  have N' : News h₀ L s.heap (δ ++ ι) := news_sub N hs
  obtain ⟨e, he⟩ : ∃ e, g.ex[j]? = some e := ⟨_, List.getElem?_eq_getElem hj⟩
  obtain ⟨Cc, sl, hxi, hC⟩ := ex_inst (BI.exprs j e he)
  obtain ⟨es, n, rfl, hg⟩ : ∃ es n, od = dictOf es n ∧ getL (PySem.Str.ofString "match_core") es = some none := by
    rcases ho with ⟨_, rfl⟩ | ⟨_, _, _, _, _, rfl, _⟩
    · exact ⟨_, _, rfl, rfl⟩
    · exact ⟨_, _, rfl, rfl⟩
  have I := InstAt.of_news N' (List.mem_append_right _ hxi) (List.mem_append_left _ hod)
  rcases hC with rfl | rfl | rfl | rfl | rfl
  · exact method_inst F X I (by k_is) (by k_is) (by k_is) hg h
  · exact method_inst F X I (by k_is) (by k_is) (by k_is) hg h
  · exact method_inst F X I (by k_is) (by k_is) (by k_is) hg h
  · exact method_inst F X I (by k_is) (by k_is) (by k_is) hg h
  · exact method_inst F X I (by k_is) (by k_is) (by k_is) hg h
theorem mc_first {w : World} {p : Program} {loose : List PySem.Str} {mean : ExcName → Option Value} {mg mb : PySem.Str → Option Value}
    {dp un : Nat} {gd : Option (List Code)} {cn : PySem.Str} {cs : Scope} {a : Addr} {ccd : Value} {cl : List (PySem.Str × Addr)} {outer : List Env} {A₀ : Around} {base h₀ : Heap} {L : Addr} {m : PySem.Str → Option Value} {s : Shared}
    {Q E : Value → Shared → Prop} {g : Gram} {os : Nat → List (Int × Addr)} {ρ δ ι : Led} {k q : Nat} {tp : Tok} {c d x t : Addr} {oc : Obj} {h1 h2 h3 : Int} {u1 u2 u3 tq : Tok} {n : Nat}
    (B : Below A₀ base outer h₀) (F : Fr h₀ L s.heap m) (X : (hd3.heap_39 w.params).In h₀) (T : Top p loose mean mg mb h₀) (hk : cs.kind = .function) (N : News h₀ L s.heap ((c, oc) :: (d, dictOf [⟨h1, .str (PySem.Str.ofString "text") u1, .str g.text g.tt⟩, ⟨h2, .str (PySem.Str.ofString "pos") u2, .int (-1) tq⟩, ⟨h3, .str (PySem.Str.ofString "expr") u3, .none⟩] n) ::
      (x, (⟨.ref 94, some d, .fields #[.ref t, .none, .none, .none, .bool false, .none], #[]⟩ : Obj)) :: (t, tupO [.str g.text g.tt]) :: (ρ ++ (δ ++ ι))))
    (hS : Sep ρ (δ ++ ι)) (BI : BInv g os δ ι) (G : GOk g) (hkl : k < g.ex.length) (hq : q ≤ g.text.length) (hc : oc.IsDictOf (intKind (PySem.Challenge.rw_vy0013_03).row.prog w) []) (hlo : (c == sysModules) = false)
    (l1 : ∀ p ∈ ρ ++ (δ ++ ι), p.1 < t) (l2 : @LT.lt Nat _ t x) (l3 : @LT.lt Nat _ x d) (l4 : @LT.lt Nat _ d c)
    (hd : dp + 20 * (k + 1) < recursionLimit) (hu : un + 200 * (k + 1) < cLine)
    (ret : ∀ r memo os' δ' ι' dd ar h' tk', Fr h₀ L h' m → News h₀ L h' ((x, (⟨.ref 94, some dd, .fields #[.ref ar, .none, .none, .none, .bool false, .none], #[]⟩ : Obj)) :: (ρ ++ (δ' ++ ι'))) → (∀ p ∈ ρ ++ (δ' ++ ι'), p.1 ≠ x) → Sep ρ (δ' ++ ι') → BInv g.next os' δ' ι' → (∀ x ∈ ι, x ∈ ι') →
      (∀ j p v e', memo j p = some v → g.ex[j]? = some e' → ValOk g memo ι' e' j p v) →
      ((g.sem k q = none ∧ r = .none) ∨ ∃ e f a, g.ex[k]? = some e ∧ g.sem k q = some f ∧ r = .ref a ∧ NodeAt g memo ι' e k q f a) → Q r { s with heap := h', toks := tk' }) :
    wpAny (model (PySem.Challenge.rw_vy0013_03).row.prog w) (ktrTop dp un gd cn cs L a ccd cl outer) (call (.ref 266) [.ref (g.xa k), .str g.text g.tt, .int q tp, .ref c, .ref x]) Q E s := by
  have hlt : ∀ y, @LT.lt Nat _ t y → ∀ p ∈ δ ++ ι, p.1 ≠ y := fun y hy p hp => by
    have := ltN (l1 p (List.mem_append_right _ hp))
    exact neN (by omega)
  have C := BI.start (prog := (PySem.Challenge.rw_vy0013_03).row.prog) (w := w) (c := c) (ea := x) (ed := d) (ar := t) (h1 := h1) (h2 := h2) (h3 := h3) (t1 := u1) (t2 := u2) (t3 := u3) (tp := tq) (n := n) hc hlo (hlt _ (by omega)) (hlt _ (by omega)) (hlt _ (by omega)) (neN (by omega)) (neN (by omega)) (neN (by omega))
  refine mc_all (w := w) (g := g.at c x d) k B F X T hk (ρ := ρ) (ι := ι) (st := St.start os) (news_sub N fun y hy => ?_) (fun y hy z hz => ?_) C (G.at c x d) hkl hq (fun _ h => (nomatch h)) hd hu ?_
  · simp only [List.mem_append, List.mem_cons] at hy ⊢
    rcases hy with h | (h | h | h | h) | h
    · exact .inr (.inr (.inr (.inr (.inl h))))
    · exact .inl h
    · exact .inr (.inr (.inl h))
    · exact .inr (.inl h)
    · exact .inr (.inr (.inr (.inr (.inr (.inl h)))))
    · exact .inr (.inr (.inr (.inr (.inr (.inr h)))))
  · have hl := ltN (l1 y (List.mem_append_left _ hy))
    simp only [List.mem_append, List.mem_cons] at hz
    rcases hz with (rfl | rfl | rfl | h) | h
    · refine neN ?_; dsimp only; omega
    · refine neN ?_; dsimp only; omega
    · refine neN ?_; dsimp only; omega
    · exact hS y hy z (List.mem_append_left _ h)
    · exact hS y hy z (List.mem_append_right _ h)
  · intro r st' μ' ι' h' tk' F' N' S' C' io ip' le' ps' hm
    obtain ⟨δ', ι'', ar, BI', hmem, hsub, hex⟩ := C'.stop
    have hv : ∀ j p v e', st'.memo j p = some v → g.ex[j]? = some e' → ValOk g st'.memo ι'' e' j p v := fun j p v e' h1 h2 => by
      have := C'.vals j p v e' h1 h2
      rw [ip', if_neg (fun h => (nomatch h))] at this
      exact this.mono .refl hsub
    refine ret r st'.memo st'.oids δ' ι'' d ar h' tk' F' (news_sub N' fun y hy => ?_) (fun y hy => ?_) (fun y hy z hz => S' y hy z (hmem z hz).1) BI'.unat (fun y hy => hsub _ (io y hy)) hv ?_
    · rcases List.mem_cons.mp hy with rfl | hy
      · exact List.mem_append_right _ (List.mem_append_left _ hex)
      · rcases List.mem_append.mp hy with h | h
        · exact List.mem_append_left _ h
        · exact List.mem_append_right _ (hmem y h).1
    · rcases List.mem_append.mp hy with h | h
      · exact S' y h _ (List.mem_append_left _ hex)
      · exact (hmem y h).2
    · obtain ⟨e, he⟩ : ∃ e, g.ex[k]? = some e := ⟨_, List.getElem?_eq_getElem hkl⟩
      refine (val_cases (hv k q r e hm he)).imp id ?_
      rintro ⟨f, a, x1, x2, x3⟩
      exact ⟨e, f, a, he, x1, x2, x3⟩
section
local macro_rules | `(tactic| walk_at "getMethod ref") => `(tactic| (k_here; (with_reducible show wpAny _ _ (getMethod (Value.ref (Gram.xa _ _)) (PySem.Str.ofString "match_core") _) _ _ _); k_dflt (refine' meth_mcB ?F ?X ?N ?C ?hs ?hj ?_; (case F => k_asm); (case X => k_asm); (case N => k_asm); (case C => k_asm); (case hs => (intro x hx; simp only [List.mem_cons, List.mem_append] at hx ⊢; rcases hx with h | h <;> simp [h])); (case hj => omega))))
local macro_rules | `(tactic| walk_at "call ref") => `(tactic| (k_here; k_dflt ((show wpAny _ _ (call (Value.ref 94) [Value.str _ _]) _ _ _); refine' perr ?B ?F ?X ?T ?hk ?N ?hd ?hu ?_; (case B => k_asm); (case F => k_asm); (case X => k_asm); (case T => k_asm); (case hk => first | assumption | exact rfl); (case N => k_asm); (case hd => k_room); (case hu => k_units); intro x9 t9 d9 h91 h92 h93 u91 u92 u93 tp9 n9 h' tk' F' N' l1 l2 l3; (have l1' := l1); (try k_lt l1); (try k_lt2 l2); (try k_lt2 l3); (try k_sweep); (try k_fold))))
local macro_rules | `(tactic| walk_at "call ref") => `(tactic| (k_here; k_dflt ((show wpAny _ _ (call (Value.ref 266) [Value.ref (Gram.xa _ _), _, _, _, _]) _ _ _); refine' mc_first ?B ?F ?X ?T ?hk ?N ?hS ?C ?G ?h1 ?h2 ?hc ?lo ?l1 ?l2 ?l3 ?l4 ?h4 ?h5 ?_; (case C => k_asm); (case hS => k_asm); (case B => k_asm); (case F => k_asm); (case X => k_asm); (case T => k_asm); (case hk => first | assumption | exact rfl); (case N => k_asm); (case G => k_asm); (case h1 => assumption); (case h2 => assumption); (case hc => assumption); (case lo => assumption); (case l1 => assumption); (case l2 => omega); (case l3 => omega); (case l4 => omega); (case h4 => k_room); (case h5 => k_units); intro r' mem' os' de' io' dd' ar' h' tk' F' N' n9' S' B' s' v' hr'; (rcases hr' with ⟨hs', hr'⟩ | ⟨e', f', a', he', hs', hr', dx9, od9, cl9, ep9, bs9, tp9, te9, hn1, hn2, hn3, hn4⟩) <;> (subst hr'; (try k_sweep); (try k_fold)))))
local macro_rules | `(tactic| walk_at "exec Raise some none") => `(tactic| (k_here; (with_reducible show wpAny _ _ (exec (Stmt.Raise (some (Expr.Name _ _)) none _) _) _ _ _); k_dflt (refine' Raise_inst ?Y ?hh ?_; (case Y => assumption); (case hh => first | assumption | exact rfl))))
theorem pmatch {w : World} {p : Program} {loose : List PySem.Str} {mean : ExcName → Option Value} {mg mb : PySem.Str → Option Value}
    {dp un : Nat} {gd : Option (List Code)} {cn : PySem.Str} {cs : Scope} {a : Addr} {ccd : Value} {cl : List (PySem.Str × Addr)} {outer : List Env} {A₀ : Around} {base h₀ : Heap} {L : Addr} {m : PySem.Str → Option Value} {s : Shared}
    {Q E : Value → Shared → Prop} {g : Gram} {os : Nat → List (Int × Addr)} {ρ δ ι : Led} {k q : Nat} {tp : Tok}
    (B : Below A₀ base outer h₀) (F : Fr h₀ L s.heap m) (X : (hd3.heap_39 w.params).In h₀) (T : Top p loose mean mg mb h₀) (hk : cs.kind = .function) (N : News h₀ L s.heap (ρ ++ (δ ++ ι))) (hS : Sep ρ (δ ++ ι)) (BI : BInv g os δ ι) (G : GOk g) (hkl : k < g.ex.length) (hq : q ≤ g.text.length)
    (hd : dp + 20 * (k + 1) + 10 < recursionLimit) (hu : un + 200 * (k + 1) + 100 < cLine)
    (retok : ∀ f a memo e os' δ' ι' h' tk', g.ex[k]? = some e → g.sem k q = some f → Fr h₀ L h' m → News h₀ L h' (ρ ++ (δ' ++ ι')) → Sep ρ (δ' ++ ι') → BInv g.next os' δ' ι' → (∀ x ∈ ι, x ∈ ι') → NodeAt g memo ι' e k q f a →
      (∀ j p v e', memo j p = some v → g.ex[j]? = some e' → ValOk g memo ι' e' j p v) → Q (.ref a) { s with heap := h', toks := tk' })
    (retno : g.sem k q = none → ∀ x G os' δ' ι' h' tk', RaisedSN base G (envX cn cs L a ccd cl :: outer) x (.ref 94) (ρ ++ (δ' ++ ι')) h' → Fr h₀ L G m → G.UpToSlots h' → Sep ρ (δ' ++ ι') → BInv g.next os' δ' ι' → (∀ x ∈ ι, x ∈ ι') → E (.ref x) { s with heap := h', toks := tk' }) :
    wpAny (model (PySem.Challenge.rw_vy0013_03).row.prog w) (ktrTop dp un gd cn cs L a ccd cl outer) (call (.ref 259) [.ref (g.xa k), .str g.text g.tt, .int q tp]) Q E s := by
  obtain ⟨cd94, Y94⟩ := cls94 w
  k_steps
  · with_reducible rename Fr _ _ _ _ => F9
    with_reducible rename News _ _ _ (_ :: _) => N9
    with_reducible rename Below _ _ _ _ => B9
    with_reducible rename BInv _ _ _ _ => I9
    with_reducible rename Sep _ _ => S9
    with_reducible rename (∀ p : Addr × Obj, p ∈ _ → p.1 ≠ _) => n9
    with_reducible rename (∀ x ∈ ι, x ∈ _) => io9
    refine ⟨_, _, _, rfl, (N9 _ (.head _)).1, rfl, rfl, rfl, Frag.In.keeps (by assumption) F9.keep, ?_⟩
    show wpAny _ _ (leaving _ _) _ _ _
    refine leave_inst B9 F9 N9 rfl rfl n9 (fun h' R9 U9 => ?_) (by exact rfl)
    exact retno (by assumption) _ _ _ _ _ _ _ R9 (by assumption) U9 S9 I9 io9
  · with_reducible rename News _ _ _ (_ :: _) => N9
    exact retok _ _ _ _ _ _ _ _ _ (by assumption) (by assumption) (by k_asm) (fun p hp => N9 p (.tail _ hp)) (by assumption) (by assumption) (by assumption) ⟨_, _, _, _, _, _, _, by assumption, by assumption, by assumption, by assumption⟩ (by assumption)
end

/-! f(x, **d) with a small dict of text keys -/
section
variable {M : Model} {A : Around} {E : Value → Shared → Prop} {s : Shared}
theorem ents {a : Addr} {es : List DictEntry} {n : Nat} {p : Option Value} {Q : Array DictEntry → Shared → Prop} (ha : s.heap.get? a = some (dictOf es n)) (h : Q es.toArray s) : wpAny M A (dictEntries a p) Q E s := by
  unfold dictEntries
  exact wpAny_bind (wpAny_loadPart ha (wpAny_pure h))
theorem epoch {a : Addr} {es : List DictEntry} {n : Nat} {p : Option Value} {Q : Nat → Shared → Prop} (ha : s.heap.get? a = some (dictOf es n)) (h : Q n s) : wpAny M A (dictEpoch a p) Q E s := by
  unfold dictEpoch
  exact wpAny_bind (wpAny_loadPart ha (wpAny_pure h))
theorem mm_empty {d a : Addr} {es : List DictEntry} {n n' : Nat} {Q : Unit → Shared → Prop}
    (hd : s.heap.get? d = some (dictOf es n)) (ha : s.heap.get? a = some (dictOf [] n')) (lo : (a == sysModules) = false) (h : Q () s) :
    wpAny M A (mergeMapping d (.ref a) true) Q E s := by
  have hT : s.TypeIs (.ref a) "dict" := ⟨_, ha, rfl⟩
  unfold mergeMapping
  refine wpAny_bind (wpAny_isInstance hT isSubtype_dict_dict ?_)
  simp only [if_true]
  refine wpAny_bind (wpAny_specialOf hT F.slot_dict_iter.lookup (wpAny_bind (wpAny_pure ?_)))
  simp only [beq_self_eq_true, lo, Bool.false_eq_true, if_false]
  refine wpAny_bind (ents hd ?_)
  split
  · refine wpAny_bind (ents ha ?_)
    show wpAny M A (forIn (#[] : Array DictEntry) PUnit.unit _ >>= _) _ _ _
    refine wpAny_bind (wpAny_pure ?_)
    refine wpAny_bind (ents ha ?_)
    refine wpAny_bind (epoch ha ?_)
    show wpAny M A (forIn (List.range 0) PUnit.unit _ >>= _) _ _ _
    rw [List.range_zero, List.forIn_nil]
    exact wpAny_bind (wpAny_pure (wpAny_pure h))
  · refine wpAny_bind (ents ha ?_)
    refine wpAny_bind (epoch ha ?_)
    show wpAny M A (forIn (List.range 0) PUnit.unit _ >>= _) _ _ _
    rw [List.range_zero, List.forIn_nil]
    exact wpAny_bind (wpAny_pure (wpAny_pure h))
theorem find_none {d : Addr} {hs : Int} {k : PySem.Str} {tk : Tok} {n : Nat} {Q : Option Nat → Shared → Prop} (hd : s.heap.get? d = some (dictOf [] n)) (h : Q none s) : wpAny M A (dictFind d (.str k tk) hs) Q E s := by
  unfold dictFind
  refine wpAny_holding (wpAny_bind (ents hd ?_))
  simp only [List.all_toArray, List.all_nil, if_true]
  unfold foundByValue
  simp only [List.findIdx?_toArray, List.findIdx?_nil]
  exact wpAny_pure h
/-- one entry into an empty dict -/
theorem mm_one {d a : Addr} {hs : Int} {k : PySem.Str} {tk : Tok} {v : Value} {n n' : Nat} {Q : Unit → Shared → Prop} (hne : a ≠ d)
    (hd : s.heap.get? d = some (dictOf [] n)) (ha : s.heap.get? a = some (dictOf [⟨hs, .str k tk, v⟩] n')) (lo : (a == sysModules) = false)
    (h : Q () { s with heap := s.heap.update d (Obj.mapDictKeys (·.push ⟨hs, .str k tk, v⟩)) }) :
    wpAny M A (mergeMapping d (.ref a) true) Q E s := by
  have hT : s.TypeIs (.ref a) "dict" := ⟨_, ha, rfl⟩
  unfold mergeMapping
  refine wpAny_bind (wpAny_isInstance hT isSubtype_dict_dict ?_)
  simp only [if_true]
  refine wpAny_bind (wpAny_specialOf hT F.slot_dict_iter.lookup (wpAny_bind (wpAny_pure ?_)))
  simp only [beq_self_eq_true, lo, Bool.false_eq_true, if_false]
  refine wpAny_bind (ents hd ?_)
  rw [if_pos (by rfl)]
  refine wpAny_bind (ents ha ?_)
  simp only [List.forIn_toArray, List.forIn_cons, List.forIn_nil]
  refine wpAny_bind (wpAny_bind (wpAny_pure (wpAny_pure ?_)))
  refine wpAny_bind (ents ha ?_)
  refine wpAny_bind (epoch ha ?_)
  show wpAny M A (forIn (List.range 1) PUnit.unit _ >>= _) _ _ _
  simp only [show List.range 1 = [0] from rfl, List.forIn_cons, List.forIn_nil]
  refine wpAny_bind (wpAny_bind (wpAny_bind (ents ha ?_)))
  refine wpAny_bind (wpAny_holding (wpAny_bind (find_none hd ?_)))
  simp only [Option.isSome_none, Bool.false_eq_true, if_false]
  unfold dictPut
  refine wpAny_bind (find_none hd ?_)
  dsimp only
  refine wpAny_updateDictKeys hd rfl ?_
  have ha' : (s.heap.update d (Obj.mapDictKeys (·.push ⟨hs, .str k tk, v⟩))).get? a = some (dictOf [⟨hs, .str k tk, v⟩] n') := by
    rw [Heap.get?_update_ne _ _ _ _ hne]; exact ha
  refine wpAny_bind (epoch ha' ?_)
  simp only [bne_self_eq_false, Bool.false_eq_true, if_false]
  exact wpAny_pure (wpAny_pure (wpAny_pure h))
theorem kwIn_nil {f : Value} {d : Addr} {n : Nat} {Q : List (PySem.Str × Value) → Shared → Prop} (hd : s.heap.get? d = some (dictOf [] n)) (h : Q [] s) : wpAny M A (keywordsIn f d) Q E s := by
  unfold keywordsIn
  refine wpAny_bind (ents hd ?_)
  simp only [List.forIn_toArray, List.forIn_nil]
  exact wpAny_bind (wpAny_pure (wpAny_pure h))
theorem kwIn_one {f : Value} {d : Addr} {hs : Int} {k : PySem.Str} {tk : Tok} {v : Value} {n : Nat} {Q : List (PySem.Str × Value) → Shared → Prop} (hd : s.heap.get? d = some (dictOf [⟨hs, .str k tk, v⟩] n)) (h : Q [(k, v)] s) : wpAny M A (keywordsIn f d) Q E s := by
  unfold keywordsIn
  refine wpAny_bind (ents hd ?_)
  simp only [List.forIn_toArray, List.forIn_cons, List.forIn_nil]
  exact wpAny_bind (wpAny_pure (wpAny_pure h))
end
section
variable {prog : Program} {w : World} {A : Around} {E : Value → Shared → Prop} {s : Shared} {h₀ : Heap} {L : Addr} {m : PySem.Str → Option Value} {ns : Led} {cn : PySem.Str} {cs : Scope} {a0 : Addr} {ccd : Value} {cl : List (PySem.Str × Addr)}
theorem name_at {x : PySem.Str} {v : Value} {p : Pos} {Q : Value → Shared → Prop} (F : Fr h₀ L s.heap m) (hv : m x = some v) (hk : cs.kind = .function) (hx : cs.names.lookup x = some .local) (hb : (x == (PySem.Str.ofString "__debug__")) = false) (h : Q v s) :
    wpAny (model prog w) A (eval (.Name x p) (envX cn cs L a0 ccd cl)) Q E s :=
  wpAny_Name (wpAny_loadName_local hk hx F.ns hv h) hb
theorem merged_kwargs {f : Value} {a : Addr} {n' : Nat} {pos p1 p2 : Pos} {Q : Addr → Shared → Prop} (F : Fr h₀ L s.heap m) (N : News h₀ L s.heap ns) (ha : (a, dictOf [] n') ∈ ns) (lo : (a == sysModules) = false) (hv : m (PySem.Str.ofString "kwargs") = some (.ref a))
    (hk : cs.kind = .function) (hx : cs.names.lookup (PySem.Str.ofString "kwargs") = some .local)
    (h : ∀ D h', Fr h₀ L h' m → News h₀ L h' ((D, dictOf [] 0) :: ns) → (∀ p ∈ ns, p.1 < D) → Q D { s with heap := h' }) :
    wpAny (model prog w) A (mergedKeywords f (backToKw pos (keywordEach [⟨none, .Name (PySem.Str.ofString "kwargs") p1, p2⟩] (envX cn cs L a0 ccd cl)))) Q E s := by
  unfold mergedKeywords
  refine wpAny_bind (wpAny_alloc ?_)
  have F' : Fr h₀ L (s.heap.push (dictOf [] 0)) m := F.push _
  have N' : News h₀ L (s.heap.push (dictOf [] 0)) ((s.heap.objs.size, dictOf [] 0) :: ns) := News.push F N _ rfl
  refine wpAny_bind (wpAny_holding ?_)
  show wpAny (model prog w) A (forIn [((none : Option PySem.Str), (do let v ← eval (.Name (PySem.Str.ofString "kwargs") p1) (envX cn cs L a0 ccd cl); standAt pos; pure v))] _ _ >>= _) _ _ _
  refine wpAny_bind ?_
  rw [List.forIn_cons]
  refine wpAny_bind (wpAny_bind (wpAny_pure ?_))
  refine wpAny_bind (wpAny_bind (name_at F' hv hk hx (by decide) (wpAny_bind (wpAny_standAt (wpAny_pure ?_)))))
  refine wpAny_bind (wpAny_onRaise (wpAny_holding (wpAny_tryCatch (wpAny_onRaise (mm_empty (N' _ (.head _)).1 (N' _ (.tail _ ha)).1 lo ?_)))))
  refine wpAny_pure ?_
  dsimp only
  rw [List.forIn_nil]
  refine wpAny_pure ?_
  refine wpAny_bind (wpAny_pure ?_)
  exact wpAny_pure (wpAny_pure (h _ _ F' N' fun p hp => Heap.lt_size (N p hp).1))
theorem nsSet_empty {d : Addr} {k : PySem.Str} {v : Value} {n : Nat} {Q : Unit → Shared → Prop} (F : Fr h₀ L s.heap m) (N : News h₀ L s.heap ((d, dictOf [] n) :: ns)) (h2 : ∀ p ∈ ns, p.1 ≠ d)
    (h : ∀ h' hs tk, Fr h₀ L h' m → News h₀ L h' ((d, dictOf [⟨hs, .str k tk, v⟩] (n + 1)) :: ns) → Q () { s with heap := h', toks := s.toks + 1 }) : wpAny (model prog w) A (nsSet d k v) Q E s :=
  kp_nsSet F N h2 (fun _ he => (nomatch he)) (fun _ he => (nomatch he)) fun h' F' N' => h h' _ _ F' N'
theorem merged_name_kwargs {p : Program} {loose : List PySem.Str} {mean : ExcName → Option Value} {mg mb : PySem.Str → Option Value} {f : Value} {a : Addr} {v : Value} {n' : Nat} {pos p0 p0' p1 p2 : Pos} {Q : Addr → Shared → Prop} (F : Fr h₀ L s.heap m) (T : Top p loose mean mg mb h₀) (N : News h₀ L s.heap ns) (ha : (a, dictOf [] n') ∈ ns) (lo : (a == sysModules) = false)
    (hv : m (PySem.Str.ofString "kwargs") = some (.ref a)) (hv' : m (PySem.Str.ofString "name") = some v)
    (hk : cs.kind = .function) (hx : cs.names.lookup (PySem.Str.ofString "kwargs") = some .local) (hx' : cs.names.lookup (PySem.Str.ofString "name") = some .local)
    (h : ∀ D D' hs tk n'' h' tk', Fr h₀ L h' m → News h₀ L h' ((D', dictOf [⟨hs, .str (PySem.Str.ofString "name") tk, v⟩] n'') :: (D, dictOf [⟨hs, .str (PySem.Str.ofString "name") tk, v⟩] n'') :: ns) → (∀ p ∈ ns, p.1 < D) → D < D' → Q D { s with heap := h', toks := tk' }) :
    wpAny (model prog w) A (mergedKeywords f (backToKw pos (keywordEach [⟨some (PySem.Str.ofString "name"), .Name (PySem.Str.ofString "name") p0, p0'⟩, ⟨none, .Name (PySem.Str.ofString "kwargs") p1, p2⟩] (envX cn cs L a0 ccd cl)))) Q E s := by
  unfold mergedKeywords
  refine wpAny_bind (wpAny_alloc ?_)
  have F' : Fr h₀ L (s.heap.push (dictOf [] 0)) m := F.push _
  have N' : News h₀ L (s.heap.push (dictOf [] 0)) ((s.heap.objs.size, dictOf [] 0) :: ns) := News.push F N _ rfl
  refine wpAny_bind (wpAny_holding ?_)
  show wpAny (model prog w) A (forIn [(some (PySem.Str.ofString "name"), (do let v ← eval (.Name (PySem.Str.ofString "name") p0) (envX cn cs L a0 ccd cl); standAt pos; pure v)), ((none : Option PySem.Str), (do let v ← eval (.Name (PySem.Str.ofString "kwargs") p1) (envX cn cs L a0 ccd cl); standAt pos; pure v))] _ _ >>= _) _ _ _
  refine wpAny_bind ?_
  rw [List.forIn_cons]
  refine wpAny_bind (wpAny_pure ?_)
  dsimp only
  rw [List.forIn_cons]
  refine wpAny_bind (wpAny_bind ?_)
  rw [if_neg (by exact Bool.false_ne_true)]
  refine wpAny_bind (wpAny_evalAll_cons (wpAny_bind (name_at F' hv' hk hx' (by decide) (wpAny_bind (wpAny_standAt (wpAny_pure (wpAny_evalAll_nil ?_)))))))
  refine wpAny_bind (wpAny_alloc ?_)
  have F2 : Fr h₀ L ((s.heap.push (dictOf [] 0)).push (dictOf [] 0)) m := F'.push _
  have N2 : News h₀ L ((s.heap.push (dictOf [] 0)).push (dictOf [] 0)) (((s.heap.push (dictOf [] 0)).objs.size, dictOf [] 0) :: (s.heap.objs.size, dictOf [] 0) :: ns) := News.push F' N' _ rfl
  have l1 : ∀ p ∈ ns, p.1 < s.heap.objs.size := fun p hp => Heap.lt_size (N p hp).1
  have l2 : ∀ p ∈ (s.heap.objs.size, dictOf [] 0) :: ns, p.1 < (s.heap.push (dictOf [] 0)).objs.size := fun p hp => Heap.lt_size (N' p hp).1
  refine wpAny_bind ?_
  show wpAny (model prog w) A (forIn [((PySem.Str.ofString "name", (do let v ← eval (.Name (PySem.Str.ofString "name") p0) (envX cn cs L a0 ccd cl); standAt pos; pure v)), v)] _ _) _ _ _
  rw [List.forIn_cons]
  refine wpAny_bind (wpAny_bind (nsSet_empty F2 N2 (fun p hp => Nat.ne_of_lt (l2 p hp)) fun h3 hs tk F3 N3 => wpAny_pure ?_))
  dsimp only
  rw [List.forIn_nil]
  refine wpAny_pure ?_
  have hne : (s.heap.push (dictOf [] 0)).objs.size ≠ s.heap.objs.size := fun e => Nat.lt_irrefl _ (Nat.lt_of_lt_of_eq (l2 _ (.head _)) e)
  have lo' : ((s.heap.push (dictOf [] 0)).objs.size == sysModules) = false := F'.notModules (modules_low T.nolimit)
  refine wpAny_onRaise (wpAny_holding (wpAny_tryCatch (wpAny_onRaise (mm_one hne (N3 _ (.tail _ (.head _))).1 (N3 _ (.head _)).1 lo' ?_))))
  obtain ⟨F4, N4⟩ := news_upd (pre := [_]) (f := Obj.mapDictKeys (·.push ⟨hs, .str (PySem.Str.ofString "name") tk, v⟩)) (o' := dictOf [⟨hs, .str (PySem.Str.ofString "name") tk, v⟩] (0 + 1)) F3 N3 (fun p hp => by rw [List.mem_singleton.mp hp]; exact hne) (fun p hp => Nat.ne_of_lt (l1 p hp)) rfl rfl
  refine wpAny_bind (wpAny_bind (name_at F4 hv hk hx (by decide) (wpAny_bind (wpAny_standAt (wpAny_pure ?_)))))
  refine wpAny_bind (wpAny_onRaise (wpAny_holding (wpAny_tryCatch (wpAny_onRaise (mm_empty (N4 _ (.tail _ (.head _))).1 (N4 _ (.tail _ (.tail _ ha))).1 lo ?_)))))
  refine wpAny_pure ?_
  dsimp only
  rw [List.forIn_nil]
  refine wpAny_pure ?_
  refine wpAny_bind (wpAny_pure ?_)
  exact wpAny_pure (wpAny_pure (h _ _ _ _ _ _ _ F4 N4 l1 (l2 _ (.head _))))
end

/-! super().m(x, **kwargs), and entering a def that closes over __class__ with *args / **kwargs -/
section
variable {M : Model} {A : Around} {E : Value → Shared → Prop} {s : Shared}
theorem evalArgs_star {f : Value} {x : Sem Value} {rest : List (Bool × Sem Value)} {keywords : List (Option PySem.Str × Sem Value)} {Q : Args → Shared → Prop} (hall : keywords.all (·.1.isSome) = false)
    (h : wpAny M A (spliced ((false, x) :: rest)) (fun vs s₁ => wpAny M A (mergedKeywords f keywords) (fun d s₂ => wpAny M A (keywordsIn f d) (fun kw s₃ => Q ⟨vs, kw⟩ s₃) E s₂) E s₁) E s) :
    wpAny M A (evalArgs f true ((false, x) :: rest) keywords) Q E s := by
  unfold evalArgs
  show wpAny M A (spliced ((false, x) :: rest) >>= _) Q E s
  refine wpAny_bind (wpAny_mono h (fun vs s₁ h₁ => ?_) fun _ _ x => x)
  refine wpAny_holding ?_
  simp only [hall, Bool.false_eq_true, if_false]
  refine wpAny_bind (wpAny_mono h₁ (fun d s₂ h₂ => ?_) fun _ _ x => x)
  refine wpAny_bind (wpAny_pure ?_)
  exact wpAny_bind (wpAny_holding (wpAny_mono h₂ (fun kw s₃ h₃ => wpAny_pure h₃) fun _ _ x => x))
theorem callWith_meth {q g : Addr} {self : Value} {pos : Pos} {first : List Value} {args : List (Bool × Sem Value)} {kws : List (Option PySem.Str × Sem Value)} {Q : Value → Shared → Prop} (hst : kws.any (·.1.isNone) = true)
    (h : wpAny M A (evalArgs (.ref q) true args kws) (fun a s₁ => (s₁.heap.get? q = some (methodObj (.ref g) self) ∧ ∃ o fd, s₁.heap.get? g = some o ∧ o.data = .func fd) ∧ wpAny M A (call (.ref q) (first ++ a.pos) a.kw) Q E s₁) E s) :
    wpAny M A (callWith pos (.ref q) first args kws) Q E s := by
  unfold callWith
  refine wpAny_bind (wpAny_holding (wpAny_mono h (fun a s₁ h₁ => wpAny_bind (wpAny_standAt ?_)) fun _ _ x => x))
  obtain ⟨⟨hq, o, fd, hg, hd⟩, hc⟩ := h₁
  simp only [hst, Bool.or_true]
  have hk : ∀ {Q : Keeper → Shared → Prop}, Q .boundFrame s₁ → wpAny M A (keeperOf (.ref q)) Q E s₁ := fun {Q} hQ => by
    unfold keeperOf
    refine wpAny_bind (wpAny_load hq ?_)
    show wpAny M A (do return match (← load g).data with | .func _ => Keeper.boundFrame | _ => .caller) _ _ _
    refine wpAny_bind (wpAny_load hg ?_)
    rw [hd]; exact wpAny_pure hQ
  refine wpAny_bind (hk ?_)
  have tail : ∀ {t : Sem Value}, wpAny M A t Q E s₁ → wpAny M A (t >>= fun r => holding [r] point >>= fun _ => pure r) Q E s₁ :=
    fun ht => wpAny_bind (wpAny_mono ht (fun r s₂ hr => wpAny_bind (wpAny_holding (wpAny_point (wpAny_pure hr)))) fun _ _ x => x)
  exact tail (wpAny_operating hc)
theorem spliced_one {x : Sem Value} {Q : List Value → Shared → Prop} (h : wpAny M A x (fun v s₁ => Q [v] s₁) E s) : wpAny M A (spliced [(false, x)]) Q E s :=
  Calls.spliced_cons (wpAny_mono h (fun _ _ h₁ => Calls.spliced_nil h₁) fun _ _ x => x)
end
section
variable {prog : Program} {w : World} {A : Around} {E : Value → Shared → Prop} {s : Shared} {h₀ : Heap} {L : Addr} {m : PySem.Str → Option Value} {ns : Led} {cn : PySem.Str} {cs : Scope} {a0 : Addr} {ccd : Value} {cl : List (PySem.Str × Addr)} {K : Frag}
theorem func_at {g : Addr} {c : Value} {d : Option Addr} {fd : FuncData} {sl : Array (Option Value)} (F : Fr h₀ L s.heap m) (X : K.In h₀) (hg : K.lookup g = some ⟨c, d, .func fd, sl⟩) : ∃ o fd, s.heap.get? g = some o ∧ o.data = .func fd := ⟨_, _, (X.keeps F.keep) _ _ hg, rfl⟩
theorem sc_kwargs {q g a : Addr} {self v : Value} {x : PySem.Str} {n' : Nat} {pos px p1 p2 : Pos} {c : Value} {d : Option Addr} {fd : FuncData} {sl : Array (Option Value)} {Q : Value → Shared → Prop} (F : Fr h₀ L s.heap m) (X : K.In h₀) (N : News h₀ L s.heap ns)
    (hq : (q, methodObj (.ref g) self) ∈ ns) (ha : (a, dictOf [] n') ∈ ns) (hg : K.lookup g = some ⟨c, d, .func fd, sl⟩) (lo : (a == sysModules) = false) (hv : m (PySem.Str.ofString "kwargs") = some (.ref a)) (hx : m x = some v)
    (hk : cs.kind = .function) (hl : cs.names.lookup (PySem.Str.ofString "kwargs") = some .local) (hlx : cs.names.lookup x = some .local) (hb : (x == (PySem.Str.ofString "__debug__")) = false)
    (h : ∀ D h', Fr h₀ L h' m → News h₀ L h' ((D, dictOf [] 0) :: ns) → (∀ p ∈ ns, p.1 < D) → wpAny (model prog w) A (call (.ref q) [v] []) Q E { s with heap := h' }) :
    wpAny (model prog w) A (callWith pos (.ref q) [] (backTo pos (starEach [.Name x px] (envX cn cs L a0 ccd cl))) (backToKw pos (keywordEach [⟨none, .Name (PySem.Str.ofString "kwargs") p1, p2⟩] (envX cn cs L a0 ccd cl)))) Q E s := by
  refine callWith_meth (g := g) (self := self) rfl (evalArgs_star (rest := []) rfl (spliced_one (name_at F hx hk hlx hb ?_)))
  refine merged_kwargs F N ha lo hv hk hl fun D h' F' N' l => ?_
  refine kwIn_nil (N' _ (.head _)).1 ?_
  exact ⟨⟨(N' _ (.tail _ hq)).1, func_at F' X hg⟩, h D h' F' N' l⟩
theorem sc_name_kwargs {p : Program} {loose : List PySem.Str} {mean : ExcName → Option Value} {mg mb : PySem.Str → Option Value} {q g a : Addr} {self v vn : Value} {x : PySem.Str} {n' : Nat} {pos px p0 p0' p1 p2 : Pos} {c : Value} {d : Option Addr} {fd : FuncData} {sl : Array (Option Value)} {Q : Value → Shared → Prop}
    (F : Fr h₀ L s.heap m) (X : K.In h₀) (T : Top p loose mean mg mb h₀) (N : News h₀ L s.heap ns)
    (hq : (q, methodObj (.ref g) self) ∈ ns) (ha : (a, dictOf [] n') ∈ ns) (hg : K.lookup g = some ⟨c, d, .func fd, sl⟩) (lo : (a == sysModules) = false) (hv : m (PySem.Str.ofString "kwargs") = some (.ref a)) (hvn : m (PySem.Str.ofString "name") = some vn) (hx : m x = some v)
    (hk : cs.kind = .function) (hl : cs.names.lookup (PySem.Str.ofString "kwargs") = some .local) (hln : cs.names.lookup (PySem.Str.ofString "name") = some .local) (hlx : cs.names.lookup x = some .local) (hb : (x == (PySem.Str.ofString "__debug__")) = false)
    (h : ∀ D D' hs tk n'' h' tk', Fr h₀ L h' m → News h₀ L h' ((D', dictOf [⟨hs, .str (PySem.Str.ofString "name") tk, vn⟩] n'') :: (D, dictOf [⟨hs, .str (PySem.Str.ofString "name") tk, vn⟩] n'') :: ns) → (∀ p ∈ ns, p.1 < D) → D < D' → wpAny (model prog w) A (call (.ref q) [v] [(PySem.Str.ofString "name", vn)]) Q E { s with heap := h', toks := tk' }) :
    wpAny (model prog w) A (callWith pos (.ref q) [] (backTo pos (starEach [.Name x px] (envX cn cs L a0 ccd cl))) (backToKw pos (keywordEach [⟨some (PySem.Str.ofString "name"), .Name (PySem.Str.ofString "name") p0, p0'⟩, ⟨none, .Name (PySem.Str.ofString "kwargs") p1, p2⟩] (envX cn cs L a0 ccd cl)))) Q E s := by
  refine callWith_meth (g := g) (self := self) rfl (evalArgs_star (rest := []) rfl (spliced_one (name_at F hx hk hlx hb ?_)))
  refine merged_name_kwargs F T N ha lo hv hvn hk hl hln fun D D' hs tk n'' h' tk' F' N' l l' => ?_
  refine kwIn_one (N' _ (.tail _ (.head _))).1 ?_
  exact ⟨⟨(N' _ (.tail _ (.tail _ hq))).1, func_at F' X hg⟩, h D D' hs tk n'' h' tk' F' N' l l'⟩
end
section
variable {prog : Program} {w : World} {A : Around} {E : Value → Shared → Prop} {h : Heap} {g : Array GenState} {d : Drawn} {t : Nat} {os : OsState}
theorem super_getAttr {so D x C f : Addr} {of : Obj} {l₀ l : List Value} {K : Frag} {name : PySem.Str} {Q : Value → Shared → Prop}
    (hso : h.get? so = some { cls := .type "super", dict := none, data := .fields #[.ref D, .ref x, .ref C], slots := #[] }) (hno : Looks (model prog w) h (opaqueClassAbove (.ref C)) none)
    (hC : Looks (model prog w) h (mroOf (.ref C)) l₀) (hl : (l₀.dropWhile (· != .ref D)).drop 1 = l) (X : K.In h)
    (hf : alongIn K name l = some (some (.ref f))) (hfo : h.get? f = some of) (hfc : of.cls = .type "function") (hxC : x ≠ C) (hn : (name == (PySem.Str.ofString "__class__")) = false)
    (hq : Q (.ref h.objs.size) ⟨h.push { cls := .type "method", data := .fields #[.ref f, .ref x] }, g, d, t + 1, os⟩) :
    wpAny (model prog w) A (getAttr (.ref so) name true) Q E ⟨h, g, d, t, os⟩ := by
  have hlk := F.ks_slot_super_ga.lookup
  have hT : ∀ t', (⟨h, g, d, t', os⟩ : Shared).TypeIs (.ref so) "super" := fun _ => ⟨_, hso, rfl⟩
  unfold getAttr getAttrBy
  refine wpAny_bind (wpAny_mkText (wpAny_holding (wpAny_bind (wpAny_typeOf (hT _) (wpAny_bind (wpAny_of_eq hlk ?_))))))
  show wpAny _ _ (getAttrByItsOwn (.ref so) (.str name t) (.type "super") (.builtin "super.__getattribute__") true true) _ _ _
  unfold getAttrByItsOwn hookBefore callGetattribute boundAndCalled
  refine wpAny_bind (wpAny_of_eq (show (if onTheHeap (.type "super") then typeLookup (.type "super") "__getattr__" else pure none) = pure none from rfl) ?_)
  refine wpAny_bind (wpAny_attempt (wpAny_holding ?_))
  show wpAny _ _ (bindSpecial (.builtin "super.__getattribute__") (.ref so) >>= _) _ _ _
  refine wpAny_bind (wpAny_of_eq (F.ks_slot_super_ga.bind _) ?_)
  refine wpAny_mono (Q := fun v s' => v = .ref h.objs.size ∧ s' = ⟨h.push { cls := .type "method", data := .fields #[.ref f, .ref x] }, g, d, t + 1, os⟩) (E := fun _ _ => False)
    (wpAny_call_entry F.ks_slot_super_ga (hT _) F.ks_entry_super_ga (ks_wpAny_super_ga hso hno hC hl X hf hfo hfc hxC hn ⟨_, rfl, rfl, rfl⟩) (F.ks_gaArgs_super _ _)) (fun v s' hv => ?_) fun _ _ z => z.elim
  obtain ⟨rfl, rfl⟩ := hv
  exact wpAny_pure hq
end
section
variable {prog : Program} {w : World} {A : Around} {E : Value → Shared → Prop} {s : Shared} {h₀ : Heap} {L : Addr} {m mg mb : PySem.Str → Option Value} {news : Led} {K : Frag} {x C D f2 so : Addr} {ox : Obj} {odx : Option Obj}
theorem super_attr {name : PySem.Str} {Q : Value → Shared → Prop} (F : Fr h₀ L s.heap m) (X₀ : K.In h₀) (N : News h₀ L s.heap news) (hso : (so, ks_superObj D x C) ∈ news) (I : InstAt s.heap x ox C odx) (ho : nsIn K cStatics "thirdparty.any" = some none)
    (hm : ks_superIn K C D name = some (some (.ref f2))) (ht : typeIn K (.ref f2) = some (.type "function")) (hn : (name == (PySem.Str.ofString "__class__")) = false)
    (h : ∀ q h', Fr h₀ L h' m → News h₀ L h' ((q, methodObj (.ref f2) (.ref x)) :: news) → (∀ p ∈ news, p.1 < q) → Q (.ref q) { s with heap := h', toks := s.toks + 1 }) : wpAny (model prog w) A (getAttr (.ref so) name true) Q E s := by
  have X : K.In s.heap := X₀.keeps F.keep
  obtain ⟨hh, g, d, t, os⟩ := s
  cases hc : clsIn K C with
  | none => unfold ks_superIn at hm; rw [hc] at hm; cases hm
  | some cd =>
    unfold ks_superIn at hm
    rw [hc] at hm
    obtain ⟨of, hof, hofc⟩ : ∃ of, hh.get? f2 = some of ∧ of.cls = .type "function" := by
      have ht' : (K.lookup f2).map (·.cls) = some (.type "function") := ht
      cases z : K.lookup f2 with
      | none => rw [z] at ht'; cases ht'
      | some of => rw [z] at ht'; exact ⟨of, X _ _ z, Option.some.inj ht'⟩
    refine super_getAttr (N _ hso).1 (looks_opaque X ho) (l₀ := cd.mro) ?_ rfl X hm hof hofc (ks_ne X I hc) hn ?_
    · exact fun A Q E s k q => wpAny_bind ((looks_clsIn X hc) A _ E s k (wpAny_pure q))
    · obtain ⟨F', N', l'⟩ := ks_newsPush (s := ⟨hh, g, d, t, os⟩) (o := methodObj (.ref f2) (.ref x)) F N rfl (Heap.get?_push_at rfl rfl) (fun b o e => Heap.get?_push_of_some _ e)
      exact h _ _ F' N' l'
end
section
variable {M : Model} {A : Around} {c : Code} {E : Value → Shared → Prop} {s : Shared} {env : Env}
theorem wpAt_callKw {o : PySem.Expr} {name : PySem.Str} {apos pos : Pos} {args : List PySem.Expr} {kws : List Keyword} {Q : Value → Shared → Prop}
    (h : _root_.PySem.wpAt M A c (attributeBase o name env (eval o env)) (fun ov s₁ => wpAny M A (getAttr ov name true) (fun fv s₂ => wpAny M A (callWith pos fv [] (backTo pos (starEach args env)) (backToKw pos (keywordEach kws env))) Q E s₂) E s₁) E s)
    (he : eval (.Call (.Attribute o name apos) args kws pos) env = (do
      let ov ← attributeBase o name env (eval o env)
      standAt apos.atName
      let (f, first) ← holding [ov] (do pure (← getAttr ov name true, []))
      callWith pos f first (backTo pos (starEach args env)) (backToKw pos (keywordEach kws env))) := by rfl) :
    _root_.PySem.wpAt M A c (eval (.Call (.Attribute o name apos) args kws pos) env) Q E s := by
  rw [he]
  refine PySem.wpAt_bind (ks_wpAt_mono h (fun ov s₁ h₁ => PySem.wpAt_of_wpAny (wpAny_bind (wpAny_standAt (wpAny_bind (wpAny_holding (wpAny_bind (wpAny_mono h₁ (fun fx s₂ h₂ => wpAny_pure ?_) fun _ _ x => x))))))) fun _ _ x => x)
  exact h₂
end
section
variable {prog : Program} {w : World} {A₀ A : Around} {s : Shared} {base h₀ : Heap} {outer : List Env} {L : Addr} {m : PySem.Str → Option Value} {env : Env} {news : Led}
  {R : Result → Shared → Prop} {name qual : PySem.Str} {params : Arguments} {body : List PySem.Stmt} {scope : Scope} {cl : List (PySem.Str × Addr)} {dV kV doc pm cdv ct : Value} {an : Option Addr} {f : Addr} {args : Args} {binds : List (PySem.Str × Value)}
theorem frameAt {E : Value → Shared → Prop} (B : Below A₀ base outer h₀) (F : Fr h₀ L s.heap m) (N : News h₀ L s.heap news) (hlim : h₀.NoLimit) (hA : A.frames = some (env :: outer)) (hf : env.frame = some L) (hke : env.scope.kind = .function)
    (hloc : ∀ y ∈ binds, scope.names.lookup y.1 = some .local)
    (h : ∀ g L' h₁, Fr h₀ L g m → Fr g L' h₁ (fun y => binds.reverse.lookup y) → News g L' h₁ news → Below A base (env :: outer) g → h₀.StaysIn g → (∀ p ∈ news, p.1 < L') →
      _root_.PySem.wpAt (model prog w) (A.deeper (envX qual scope L' f cdv cl)) (.func body (envX qual scope L' f cdv cl)) (execs body (envX qual scope L' f cdv cl))
        (fun fl s' => LeaveK h₀ L m g R (match fl with | .ret v => v | _ => .none) s')
        (fun e s' => wpAny (model prog w) (A.deeper (envX qual scope L' f cdv cl)) (leaving (envX qual scope L' f cdv cl) e) (fun _ s'' => R (.error e) s'') (fun e' s'' => R (.error e') s'') s')
        { s with heap := h₁, toks := s.toks + binds.length })
    (hcell : ∀ x ∈ scope.names, x.2 ≠ .cell) (hk : scope.kind = .function) :
    wpAny (model prog w) A.in1 (newFunctionEnv scope mainGlobals cl binds (qual ++ PySem.Str.ofString ".<locals>.") (some f) cdv none builtinsNs) (fun env' s₂ => s₂.heap.NoLimit ∧ codeAny (model prog w) A (.func body env') R s₂) E s := by
  obtain ⟨FG, BG, st, lv⟩ := groundX (R := R) B F N hA hf hke
  refine wpAny_newFunctionEnv hcell hloc (fun h₁ hns hsb => ⟨(hlim.keeps F.keep).fresh _ hsb, ks_codeAny_funcAt ?_⟩) hk
  have hk₁ : ∀ b o, s.heap.get? b = some o → h₁.get? b = some o := fun b o e => hsb.extBut b o (Nat.ne_of_lt (Heap.lt_size e)) (Heap.get?_push_of_some _ e)
  show _root_.PySem.wpAt (model prog w) (A.deeper (envX qual scope s.heap.objs.size f cdv cl)) (.func body (envX qual scope s.heap.objs.size f cdv cl)) (execs body (envX qual scope s.heap.objs.size f cdv cl)) _ _ _
  exact ks_wpAt_mono (h _ s.heap.objs.size h₁ FG ⟨hns, fun b o e => hk₁ b o (of_hideAll _ e), Nat.le_of_eq (hideAll_size _ _)⟩
    (fun p hp => ⟨hk₁ _ _ (N p hp).1, Nat.ne_of_lt (Heap.lt_size (N p hp).1), hideAll_none _ (List.mem_map_of_mem hp)⟩) BG st fun p hp => Heap.lt_size (N p hp).1) (fun fl s' hl => lv _ _ hl) fun _ _ y => y
end
section
variable {prog : Program} {w : World} {A A₀ : Around} {s : Shared} {K : Frag} {L : Addr} {h₀ base : Heap} {m mg mb : PySem.Str → Option Value} {news : Led} {p : Program} {loose : List PySem.Str} {mean : ExcName → Option Value}
theorem ks_more {env : Env} {outer : List Env} {R : Result → Shared → Prop} {name qual : PySem.Str} {params : Arguments} {body : List PySem.Stmt} {scope : Scope} {cl : List (PySem.Str × Addr)} {dV kV doc pm cdv ct oc : Value} {an od : Option Addr} {osl : Array (Option Value)} {f : Addr} {args : Args} {nm : PySem.Str} {ex front : List (PySem.Str × Value)} {g₁ : Addr → Sem (List (PySem.Str × Value))}
    (B : Below A₀ base outer h₀) (F : Fr h₀ L s.heap m) (X₀ : K.In h₀) (N : News h₀ L s.heap news) (T : Top p loose mean mg mb h₀) (hA : A.frames = some (env :: outer)) (hf : env.frame = some L) (hke : env.scope.kind = .function)
    (ho : K.lookup f = some ⟨oc, od, .func (fnX name qual params body scope cl dV kV doc pm an cdv ct), osl⟩) (hcd : codeIn K cdv qual = true) (hroom : A.depth < recursionLimit)
    (hx : args.kw.filter (fun x => !ownKw params x.1) = ex) (hnm : params.kwarg.map (·.arg) = some nm) (hn : kwDistinct ex = true)
    (_hfr : peek K ⟨prog, w.params⟩ (bindArgs (fnCut (fnX name qual params body scope cl dV kV doc pm an cdv ct)) (argsCut params args)) = some front)
    (hp : peekA K ⟨prog, w.params⟩ (bindArgs (fnX name qual params body scope cl dV kV doc pm an cdv ct) args) = some (dictOf [] 0, g₁))
    (hk₁ : ∀ D, g₁ D = (forIn ex PUnit.unit (fun x _ => (nsSet D x.1 x.2 >>= fun _ => pure (ForInStep.yield PUnit.unit))) >>= fun _ => pure (front ++ [(nm, Value.ref D)])))
    (hloc : ∀ D, ∀ y ∈ front ++ [(nm, Value.ref D)], scope.names.lookup y.1 = some .local)
    (h : ∀ D g L' h₁ tk, (∀ p ∈ news, p.1 < D) → (D == sysModules) = false → Fr h₀ L g m → Fr g L' h₁ (fun y => (front ++ [(nm, Value.ref D)]).reverse.lookup y) → News g L' h₁ ((D, dictOf ([] ++ kwEs w.params s.toks ex) (0 + ex.length)) :: news) → Below A base (env :: outer) g → K.In g → Top p loose mean mg mb g → D < L' →
      _root_.PySem.wpAt (model prog w) (A.deeper (envX qual scope L' f cdv cl)) (.func body (envX qual scope L' f cdv cl)) (execs body (envX qual scope L' f cdv cl))
        (fun fl s' => LeaveK h₀ L m g R (match fl with | .ret v => v | _ => .none) s')
        (fun e s' => wpAny (model prog w) (A.deeper (envX qual scope L' f cdv cl)) (leaving (envX qual scope L' f cdv cl) e) (fun _ s'' => R (.error e) s'') (fun e' s'' => R (.error e') s'') s')
        { s with heap := h₁, toks := tk })
    (hco : scope.isCoroutine = false) (hgen : scope.isGenerator = false) (hk : scope.kind = .function)
    (hcell : ∀ x ∈ scope.names, x.2 ≠ .cell) : codeAny (model prog w) A (.call (.ref f) args) R s := by
  have _ := hx
  have _ := hnm
  have hn' := kwDistinct_nodup hn
  refine codeAny_call_function (fd := fnX name qual params body scope cl dV kV doc pm an cdv ct) (body := body) hroom ((X₀.keeps F.keep) _ _ ho) rfl hco hgen rfl (codeRec_of (X₀.keeps F.keep) hcd) ?_
  refine wp_of_peekA (o := dictOf [] 0) F N (X₀.keeps F.keep) rfl _ g₁ hp fun h' F' N' l => ?_
  rw [hk₁]
  refine wpAny_bind (kp_fill ex { s with heap := h' } [] 0 F' N' (fun p hp => Nat.ne_of_lt (l p hp)) (fun _ he => nomatch he) (fun _ he => nomatch he) hn' fun h'' F'' N'' => wpAny_pure ?_)
  exact frameAt (cl := cl) (s := { s with heap := h'', toks := s.toks + ex.length }) B F'' N'' T.nolimit hA hf hke (hloc _)
    (fun g L' h₁ FG FL NG BG st l' => h _ g L' h₁ _ l (F.notModules (modules_low T.nolimit)) FG FL NG BG (X₀.keeps st) (T.keeps st) (l' _ (.head _))) hcell hk
theorem ks_both {env : Env} {outer : List Env} {R : Result → Shared → Prop} {name qual : PySem.Str} {params : Arguments} {body : List PySem.Stmt} {scope : Scope} {cl : List (PySem.Str × Addr)} {dV kV doc pm cdv ct oc : Value} {an od : Option Addr} {osl : Array (Option Value)} {f : Addr} {args : Args} {vs : List Value} {nm nr : PySem.Str} {ex front : List (PySem.Str × Value)} {DD : List (PyData × PyData)} {g₁ : Addr → Sem (List (PySem.Str × Value))} {g₂ : Addr → Addr → Sem (List (PySem.Str × Value))}
    (B : Below A₀ base outer h₀) (F : Fr h₀ L s.heap m) (X₀ : K.In h₀) (N : News h₀ L s.heap news) (T : Top p loose mean mg mb h₀) (hA : A.frames = some (env :: outer)) (hf : env.frame = some L) (hke : env.scope.kind = .function)
    (ho : K.lookup f = some ⟨oc, od, .func (fnX name qual params body scope cl dV kV doc pm an cdv ct), osl⟩) (hcd : codeIn K cdv qual = true) (hroom : A.depth < recursionLimit)
    (hv : args.pos.drop (params.posonlyargs.length + params.args.length) = vs) (hx : args.kw.filter (fun x => !ownKw params x.1) = ex) (hnr : params.vararg.map (·.arg) = some nr) (hnm : params.kwarg.map (·.arg) = some nm) (hn : kwDistinct ex = true) (hD : PyProof.V.FlatPairs PyData.str ex DD)
    (_hfr : peek K ⟨prog, w.params⟩ (bindArgs (fnCut (fnX name qual params body scope cl dV kV doc pm an cdv ct)) (argsCut params args)) = some front)
    (hp : peekA K ⟨prog, w.params⟩ (bindArgs (fnX name qual params body scope cl dV kV doc pm an cdv ct) args) = some (({ cls := .type "tuple", data := .seq vs.toArray } : Obj), g₁))
    (hp₂ : ∀ D, peekA K ⟨prog, w.params⟩ (g₁ D) = some (dictOf [] 0, g₂ D))
    (hk₂ : ∀ C D, g₂ C D = (forIn ex PUnit.unit (fun x _ => (nsSet D x.1 x.2 >>= fun _ => pure (ForInStep.yield PUnit.unit))) >>= fun _ => pure (front ++ [(nr, Value.ref C)] ++ [(nm, Value.ref D)])))
    (hloc : ∀ C D, ∀ y ∈ front ++ [(nr, Value.ref C)] ++ [(nm, Value.ref D)], scope.names.lookup y.1 = some .local)
    (h : ∀ C D o g L' h₁ tk, (∀ p ∈ news, p.1 < C) → C < D → (D == sysModules) = false → o.IsDictOf (PySem.strKind prog w) ex → PyProof.V.FlatPairs PyData.str ex DD → Fr h₀ L g m → Fr g L' h₁ (fun y => (front ++ [(nr, Value.ref C)] ++ [(nm, Value.ref D)]).reverse.lookup y) →
      News g L' h₁ ((D, o) :: (C, ({ cls := .type "tuple", data := .seq vs.toArray } : Obj)) :: news) → Below A base (env :: outer) g → K.In g → Top p loose mean mg mb g → D < L' →
      _root_.PySem.wpAt (model prog w) (A.deeper (envX qual scope L' f cdv cl)) (.func body (envX qual scope L' f cdv cl)) (execs body (envX qual scope L' f cdv cl))
        (fun fl s' => LeaveK h₀ L m g R (match fl with | .ret v => v | _ => .none) s')
        (fun e s' => wpAny (model prog w) (A.deeper (envX qual scope L' f cdv cl)) (leaving (envX qual scope L' f cdv cl) e) (fun _ s'' => R (.error e) s'') (fun e' s'' => R (.error e') s'') s')
        { s with heap := h₁, toks := tk })
    (hco : scope.isCoroutine = false) (hgen : scope.isGenerator = false) (hk : scope.kind = .function)
    (hcell : ∀ x ∈ scope.names, x.2 ≠ .cell) : codeAny (model prog w) A (.call (.ref f) args) R s := by
  have _ := hv
  have _ := hx
  have _ := hnr
  have _ := hnm
  have hn' := kwDistinct_nodup hn
  refine codeAny_call_function (fd := fnX name qual params body scope cl dV kV doc pm an cdv ct) (body := body) hroom ((X₀.keeps F.keep) _ _ ho) rfl hco hgen rfl (codeRec_of (X₀.keeps F.keep) hcd) ?_
  refine wp_of_peekA (o := ({ cls := .type "tuple", data := .seq vs.toArray } : Obj)) F N (X₀.keeps F.keep) rfl _ g₁ hp fun h' F' N' l => ?_
  refine wp_of_peekA (s := { s with heap := h' }) (o := dictOf [] 0) F' N' (X₀.keeps F'.keep) rfl _ (g₂ s.heap.objs.size) (hp₂ _) fun h'' F'' N'' l' => ?_
  rw [hk₂]
  refine wpAny_bind (kp_fill ex { s with heap := h'' } [] 0 F'' N'' (fun p hp => Nat.ne_of_lt (l' p hp)) (fun _ he => nomatch he) (fun _ he => nomatch he) hn' fun h₃ F₃ N₃ => wpAny_pure ?_)
  exact frameAt (cl := cl) (s := { s with heap := h₃, toks := s.toks + ex.length }) B F₃ N₃ T.nolimit hA hf hke (hloc _ _)
    (fun g L' h₁ FG FL NG BG st l₃ => h _ _ _ g L' h₁ _ l (l' _ (.head _)) (F'.notModules (modules_low T.nolimit)) (kp_isDict s.toks (0 + ex.length) hn') hD FG FL NG BG (X₀.keeps st) (T.keeps st) (l₃ _ (.head _))) hcell hk
end

local macro_rules | `(tactic| kpc_turns) => `(tactic| (refine' ks_code_super ?k1 ?k2 ?k3 ?k4 ?k5 ?kA ?kF ?kK ?k6 ?k7 ?k8 ?k9 ?kB ?_ ?c1 ?c2 ?c3 ?c4; (case kA => exact rfl); (case kF => exact rfl); (case kK => first | assumption | exact rfl); (case k1 => k_asm); (case k2 => k_asm); (case k3 => k_asm); (case k4 => k_asm); (case k5 => k_asm); (case k6 => k_is); (case k7 => k_is); (case k8 => k_room); (case k9 => first | exact BindsTo.of_eq rfl | exact binds_K (by k_in) rfl (by k_is) rfl rfl rfl | fail "k_enter: no rule for these arguments"); (case kB => exact locs rfl); (case c1 => decide); (case c2 => exact rfl); (case c3 => exact rfl); (case c4 => exact rfl); intro g' L' h' FG' F' N' B' X' T' l1; (try k_lt l1); (try dsimp only); (try k_fold)))
local macro_rules | `(tactic| kpt_turns) => `(tactic| (kp_kind "both"; (refine' ks_both ?k1 ?k2 ?k3 ?k4 ?k5 ?kA ?kF ?kK ?k6 ?k7 ?k8 ?kV ?kX ?kQ ?kM ?kN ?kD ?kR ?kP ?kS ?kT ?kB ?_ ?c2 ?c3 ?c4 ?c5; (case kA => exact rfl); (case kF => exact rfl); (case kK => first | assumption | exact rfl); (case k1 => k_asm); (case k2 => k_asm); (case k3 => k_asm); (case k4 => k_asm); (case k5 => k_asm); (case k6 => k_is); (case k7 => k_is); (case k8 => k_room); (case kV => kp_lit); (case kX => kp_lit); (case kQ => exact rfl); (case kM => exact rfl); (case kN => exact rfl); (case kD => kp_flats); (case kR => exact rfl); (case kP => exact rfl); (case kS => exact fun _ => rfl); (case kT => exact fun _ _ => rfl); (case kB => exact fun _ _ => locs rfl); (case c5 => decide); (case c2 => exact rfl); (case c3 => exact rfl); (case c4 => exact rfl); intro C' D' o' g' L' h' tk' l1 l2 lo' hs' fs' FG' F' N' B' X' T' l3; (try k_lt l1); (try k_lt2 l2); (try dsimp only); (try k_fold))))
local macro_rules | `(tactic| kfm_turns) => `(tactic| (kp_kind "more"; (refine' ks_more ?k1 ?k2 ?k3 ?k4 ?k5 ?kA ?kF ?kK ?k6 ?k7 ?k8 ?kX ?kM ?kN ?kR ?kP ?kT ?kB ?_ ?c2 ?c3 ?c4 ?c5; (case kA => exact rfl); (case kF => exact rfl); (case kK => first | assumption | exact rfl); (case k1 => k_asm); (case k2 => k_asm); (case k3 => k_asm); (case k4 => k_asm); (case k5 => k_asm); (case k6 => k_is); (case k7 => k_is); (case k8 => k_room); (case kX => kp_lit); (case kM => exact rfl); (case kN => exact rfl); (case kR => exact rfl); (case kP => exact rfl); (case kT => exact fun _ => rfl); (case kB => exact fun _ => locs rfl); (case c5 => decide); (case c2 => exact rfl); (case c3 => exact rfl); (case c4 => exact rfl); intro D' g' L' h' tk' l1 lo' FG' F' N' B' X' T' l3; (try k_lt l1); (try dsimp only); (try k_fold))))
local macro_rules | `(tactic| walk_at "call ref") => `(tactic| (k_here; k_dflt (first
  | (refine' call_cls ?k1 ?k2 ?k3 ?k4 ?k5 ?k6 ?_; (case k1 => k_asm); (case k2 => k_asm); (case k3 => k_asm); (case k4 => k_is); (case k5 => k_is); (case k6 => k_is); intro x' d' h' F' N' l1 l2; (try k_lt l1); (try k_lt2 l2); first | kpc_turns | kpt_turns | kfm_turns)
  | (refine' call_meth ?k1 ?k2 ?_; (case k1 => k_asm); (case k2 => k_mem); kpt_turns)
  | (refine wpAny_call ?_; kpc_turns))))
local macro_rules | `(tactic| walk_at "wpAt") => `(tactic| (ks_step "eval Call"; k_dflt (first | refine wpAt_callKw ?_ (by rfl) | refine ks_wpAt_MethodCall ?_)))
local macro_rules | `(tactic| walk_at "wpAt") => `(tactic| (ks_step "exec Expr"; k_dflt (refine ks_wpAt_Expr_any ?_)))
local macro_rules | `(tactic| walk_at "wpAt") => `(tactic| (ks_step "exec Return"; k_dflt (refine ks_wpAt_Return_some ?_)))
local macro_rules | `(tactic| walk_at "getAttr ref") => `(tactic| (k_here; (with_reducible show wpAny _ _ (getAttr (Value.ref _) (PySem.Str.ofString "__init__") true) _ _ _); k_dflt (refine' super_attr ?k1 ?k2 ?k3 ?k4 ?k5 ?k6 ?k7 ?k8 ?k9 ?_; (case k1 => k_asm); (case k2 => k_asm); (case k3 => k_asm); (case k4 => k_mem); (case k5 => k_inst); (case k6 => k_is); (case k7 => ks_is); (case k8 => k_is); (case k9 => decide); intro q' h' F' N' l1; (try k_lt l1))))
local macro_rules | `(tactic| walk_at "callWith ref") => `(tactic| (k_here; (with_reducible show wpAny _ _ (callWith _ _ _ _ (backToKw _ (keywordEach [PySem.Keyword.mk none _ _] _))) _ _ _); k_dflt (refine' sc_kwargs ?F ?X ?N ?q ?a ?g ?lo ?v ?x ?k ?l ?lx ?b ?_; (case F => k_asm); (case X => k_asm); (case N => k_asm); (case q => k_mem); (case k => exact rfl); (case l => exact rfl); (case lx => exact rfl); (case x => exact rfl); (case v => exact rfl); (case a => k_mem); (case g => k_is); (case lo => assumption); (case b => decide); intro D' h' F' N' l1; (try k_lt l1))))
local macro_rules | `(tactic| walk_at "callWith ref") => `(tactic| (k_here; (with_reducible show wpAny _ _ (callWith _ _ _ _ (backToKw _ (keywordEach [_, PySem.Keyword.mk none _ _] _))) _ _ _); k_dflt (refine' sc_name_kwargs ?F ?X ?T ?N ?q ?a ?g ?lo ?v ?vn ?x ?k ?l ?ln ?lx ?b ?_; (case F => k_asm); (case X => k_asm); (case T => k_asm); (case N => k_asm); (case q => k_mem); (case v => exact rfl); (case vn => exact rfl); (case a => k_mem); (case g => k_is); (case lo => assumption); (case x => exact rfl); (case k => exact rfl); (case l => exact rfl); (case ln => exact rfl); (case lx => exact rfl); (case b => decide); intro D' D2' hs' tkn' nn' h' tk' F' N' l1 l2; (try k_lt l1); (try k_lt2 l2))))
local macro_rules | `(tactic| walk_at "getMethod ref") => `(tactic| (k_here; (with_reducible show wpAny _ _ (getMethod (Value.ref _) (PySem.Str.ofString "get") _) _ _ _); k_dflt (refine' kdg_method (knd := PySem.strKind _ _) ?N ?m ?d ?_; (case N => k_asm); (case d => assumption); (case m => k_mem))))

section
local macro_rules | `(tactic| walk_at "zz0") => `(tactic| fail)
local macro_rules | `(tactic| walk_at "zz1") => `(tactic| fail)
local macro_rules | `(tactic| walk_at "zz2") => `(tactic| fail)
local macro_rules | `(tactic| walk_at "zz3") => `(tactic| fail)
local macro_rules | `(tactic| walk_at "zz4") => `(tactic| fail)
local macro_rules | `(tactic| walk_at "zz5") => `(tactic| fail)
local macro_rules | `(tactic| walk_at "zz6") => `(tactic| fail)
local macro_rules | `(tactic| walk_at "zz7") => `(tactic| fail)
local macro_rules | `(tactic| walk_at "zz8") => `(tactic| fail)
theorem begin_cons (M : Model) (A : Around) (Q E : Value → Shared → Prop) (s : Shared) : True := by
  w_top off
  first | (have h : ∀ t : Sem Value, wpAny M A t Q E s := by (intro t; walk1; fail); trivial) | trivial
end
section
theorem mk_lit {w : World} {p : Program} {loose : List PySem.Str} {mean : ExcName → Option Value} {mg mb : PySem.Str → Option Value}
    {dp un : Nat} {gd : Option (List Code)} {cn : PySem.Str} {cs : Scope} {a : Addr} {ccd : Value} {cl : List (PySem.Str × Addr)} {outer : List Env} {A₀ : Around} {base h₀ : Heap} {L : Addr} {m : PySem.Str → Option Value} {s : Shared}
    {Q E : Value → Shared → Prop} {ns : Led} {wd : PySem.Str} {tl : Tok}
    (B : Below A₀ base outer h₀) (F : Fr h₀ L s.heap m) (X : (hd3.heap_39 w.params).In h₀) (T : Top p loose mean mg mb h₀) (hk : cs.kind = .function) (N : News h₀ L s.heap ns) 
    (hd : dp + 20 < recursionLimit) (hu : un + 280 < cLine)
    (ret : ∀ (x dx : Addr) idt tn pre h' tk', Fr h₀ L h' m → News h₀ L h' (pre ++ (dx, dictOf [] 0) :: ns) → (x, (⟨.ref 336, some dx, .plain, #[some (.str wd tl), some idt, some (.str (PySem.Str.ofString "") tn)]⟩ : Obj)) ∈ pre → (∀ p ∈ ns, p.1 < dx) → (∀ y ∈ pre, @LT.lt Nat _ dx y.1) → Q (.ref x) { s with heap := h', toks := tk' }) :
    wpAny (model (PySem.Challenge.rw_vy0013_03).row.prog w) (ktrTop dp un gd cn cs L a ccd cl outer) (call (.ref 336) [.str wd tl]) Q E s := by
  k_steps
  with_reducible rename News h₀ L _ (_ :: _) => N9
  with_reducible rename Fr h₀ L _ _ => F9
  exact ret _ _ _ _ [_, _, _, _, _] _ _ F9 N9 (by k_mem) (by assumption) (by
    intro y hy
    simp only [List.mem_cons, List.not_mem_nil, or_false] at hy
    refine ltN ?_
    rcases hy with rfl | rfl | rfl | rfl | rfl <;> dsimp only <;> omega)
theorem mk_seq {w : World} {p : Program} {loose : List PySem.Str} {mean : ExcName → Option Value} {mg mb : PySem.Str → Option Value}
    {dp un : Nat} {gd : Option (List Code)} {cn : PySem.Str} {cs : Scope} {a : Addr} {ccd : Value} {cl : List (PySem.Str × Addr)} {outer : List Env} {A₀ : Around} {base h₀ : Heap} {L : Addr} {m : PySem.Str → Option Value} {s : Shared}
    {Q E : Value → Shared → Prop} {ns : Led} {m1 m2 : Addr}
    (B : Below A₀ base outer h₀) (F : Fr h₀ L s.heap m) (X : (hd3.heap_39 w.params).In h₀) (T : Top p loose mean mg mb h₀) (hk : cs.kind = .function) (N : News h₀ L s.heap ns) 
    (hd : dp + 20 < recursionLimit) (hu : un + 280 < cLine)
    (ret : ∀ (x dx : Addr) idt tn mt pre h' tk', Fr h₀ L h' m → News h₀ L h' (pre ++ (dx, dictOf [] 0) :: ns) → (x, (⟨.ref 394, some dx, .plain, #[some (.ref mt), some idt, some (.str (PySem.Str.ofString "") tn)]⟩ : Obj)) ∈ pre → (mt, tupO [.ref m1, .ref m2]) ∈ pre → (∀ p ∈ ns, p.1 < dx) → (∀ y ∈ pre, @LT.lt Nat _ dx y.1) → Q (.ref x) { s with heap := h', toks := tk' }) :
    wpAny (model (PySem.Challenge.rw_vy0013_03).row.prog w) (ktrTop dp un gd cn cs L a ccd cl outer) (call (.ref 394) [.ref m1, .ref m2]) Q E s := by
  k_steps
  with_reducible rename News h₀ L _ (_ :: _) => N9
  with_reducible rename Fr h₀ L _ _ => F9
  exact ret _ _ _ _ _ [_, _, _, _, _, _] _ _ F9 N9 (by k_mem) (by k_mem) (by assumption) (by
    intro y hy
    simp only [List.mem_cons, List.not_mem_nil, or_false] at hy
    refine ltN ?_
    rcases hy with rfl | rfl | rfl | rfl | rfl | rfl <;> dsimp only <;> omega)
theorem mk_alt {w : World} {p : Program} {loose : List PySem.Str} {mean : ExcName → Option Value} {mg mb : PySem.Str → Option Value}
    {dp un : Nat} {gd : Option (List Code)} {cn : PySem.Str} {cs : Scope} {a : Addr} {ccd : Value} {cl : List (PySem.Str × Addr)} {outer : List Env} {A₀ : Around} {base h₀ : Heap} {L : Addr} {m : PySem.Str → Option Value} {s : Shared}
    {Q E : Value → Shared → Prop} {ns : Led} {m1 m2 : Addr}
    (B : Below A₀ base outer h₀) (F : Fr h₀ L s.heap m) (X : (hd3.heap_39 w.params).In h₀) (T : Top p loose mean mg mb h₀) (hk : cs.kind = .function) (N : News h₀ L s.heap ns) 
    (hd : dp + 20 < recursionLimit) (hu : un + 280 < cLine)
    (ret : ∀ (x dx : Addr) idt tn mt pre h' tk', Fr h₀ L h' m → News h₀ L h' (pre ++ (dx, dictOf [] 0) :: ns) → (x, (⟨.ref 420, some dx, .plain, #[some (.ref mt), some idt, some (.str (PySem.Str.ofString "") tn)]⟩ : Obj)) ∈ pre → (mt, tupO [.ref m1, .ref m2]) ∈ pre → (∀ p ∈ ns, p.1 < dx) → (∀ y ∈ pre, @LT.lt Nat _ dx y.1) → Q (.ref x) { s with heap := h', toks := tk' }) :
    wpAny (model (PySem.Challenge.rw_vy0013_03).row.prog w) (ktrTop dp un gd cn cs L a ccd cl outer) (call (.ref 420) [.ref m1, .ref m2]) Q E s := by
  k_steps
  with_reducible rename News h₀ L _ (_ :: _) => N9
  with_reducible rename Fr h₀ L _ _ => F9
  exact ret _ _ _ _ _ [_, _, _, _, _, _] _ _ F9 N9 (by k_mem) (by k_mem) (by assumption) (by
    intro y hy
    simp only [List.mem_cons, List.not_mem_nil, or_false] at hy
    refine ltN ?_
    rcases hy with rfl | rfl | rfl | rfl | rfl | rfl <;> dsimp only <;> omega)
end

section
local macro_rules | `(tactic| walk_at "zz0") => `(tactic| fail)
local macro_rules | `(tactic| walk_at "zz1") => `(tactic| fail)
local macro_rules | `(tactic| walk_at "zz2") => `(tactic| fail)
local macro_rules | `(tactic| walk_at "zz3") => `(tactic| fail)
local macro_rules | `(tactic| walk_at "zz4") => `(tactic| fail)
local macro_rules | `(tactic| walk_at "zz5") => `(tactic| fail)
local macro_rules | `(tactic| walk_at "zz6") => `(tactic| fail)
local macro_rules | `(tactic| walk_at "zz7") => `(tactic| fail)
local macro_rules | `(tactic| walk_at "zz8") => `(tactic| fail)
theorem begin_conslook (M : Model) (A : Around) (Q E : Value → Shared → Prop) (s : Shared) : True := by
  w_top off
  first | (have h : ∀ t : Sem Value, wpAny M A t Q E s := by (intro t; walk1; fail); trivial) | trivial
end
section
theorem mk_look {w : World} {p : Program} {loose : List PySem.Str} {mean : ExcName → Option Value} {mg mb : PySem.Str → Option Value}
    {dp un : Nat} {gd : Option (List Code)} {cn : PySem.Str} {cs : Scope} {a : Addr} {ccd : Value} {cl : List (PySem.Str × Addr)} {outer : List Env} {A₀ : Around} {base h₀ : Heap} {L : Addr} {m : PySem.Str → Option Value} {s : Shared}
    {Q E : Value → Shared → Prop} {ns : Led} {m1 : Addr} {b : Bool}
    (B : Below A₀ base outer h₀) (F : Fr h₀ L s.heap m) (X : (hd3.heap_39 w.params).In h₀) (T : Top p loose mean mg mb h₀) (hk : cs.kind = .function) (N : News h₀ L s.heap ns) 
    (hd : dp + 20 < recursionLimit) (hu : un + 280 < cLine)
    (ret : ∀ (x dx : Addr) idt tn mt pre h' tk', Fr h₀ L h' m → News h₀ L h' (pre ++ (dx, dictOf [] 0) :: ns) → (x, (⟨.ref 458, some dx, .plain, #[some (.bool b), some (.ref mt), some idt, some (.str (PySem.Str.ofString "") tn)]⟩ : Obj)) ∈ pre → (mt, tupO [.ref m1]) ∈ pre → (∀ p ∈ ns, p.1 < dx) → (∀ y ∈ pre, @LT.lt Nat _ dx y.1) → Q (.ref x) { s with heap := h', toks := tk' }) :
    wpAny (model (PySem.Challenge.rw_vy0013_03).row.prog w) (ktrTop dp un gd cn cs L a ccd cl outer) (call (.ref 458) [.ref m1] [(PySem.Str.ofString "negative", .bool b)]) Q E s := by
  k_steps
  with_reducible rename News h₀ L _ (_ :: _) => N9
  with_reducible rename Fr h₀ L _ _ => F9
  exact ret _ _ _ _ _ [_, _, _, _, _, _, _, _, _, _] _ _ F9 N9 (by k_mem) (by k_mem) (by assumption) (by
    intro y hy
    simp only [List.mem_cons, List.not_mem_nil, or_false] at hy
    refine ltN ?_
    rcases hy with rfl | rfl | rfl | rfl | rfl | rfl | rfl | rfl | rfl | rfl <;> dsimp only <;> omega)
end

section
local macro_rules | `(tactic| walk_at "zz0") => `(tactic| fail)
local macro_rules | `(tactic| walk_at "zz1") => `(tactic| fail)
local macro_rules | `(tactic| walk_at "zz2") => `(tactic| fail)
local macro_rules | `(tactic| walk_at "zz3") => `(tactic| fail)
local macro_rules | `(tactic| walk_at "zz4") => `(tactic| fail)
local macro_rules | `(tactic| walk_at "zz5") => `(tactic| fail)
local macro_rules | `(tactic| walk_at "zz6") => `(tactic| fail)
local macro_rules | `(tactic| walk_at "zz7") => `(tactic| fail)
local macro_rules | `(tactic| walk_at "zz8") => `(tactic| fail)
theorem begin_consrep (M : Model) (A : Around) (Q E : Value → Shared → Prop) (s : Shared) : True := by
  w_top off
  first | (have h : ∀ t : Sem Value, wpAny M A t Q E s := by (intro t; walk1; fail); trivial) | trivial
end
section
theorem mk_rep {w : World} {p : Program} {loose : List PySem.Str} {mean : ExcName → Option Value} {mg mb : PySem.Str → Option Value}
    {dp un : Nat} {gd : Option (List Code)} {cn : PySem.Str} {cs : Scope} {a : Addr} {ccd : Value} {cl : List (PySem.Str × Addr)} {outer : List Env} {A₀ : Around} {base h₀ : Heap} {L : Addr} {m : PySem.Str → Option Value} {s : Shared}
    {Q E : Value → Shared → Prop} {ns : Led} {m1 : Addr} {mn mx : Int} {tm tx : Tok}
    (B : Below A₀ base outer h₀) (F : Fr h₀ L s.heap m) (X : (hd3.heap_39 w.params).In h₀) (T : Top p loose mean mg mb h₀) (hk : cs.kind = .function) (N : News h₀ L s.heap ns) 
    (hd : dp + 20 < recursionLimit) (hu : un + 280 < cLine)
    (ret : ∀ (x dx : Addr) idt tn mt pre h' tk', Fr h₀ L h' m → News h₀ L h' (pre ++ (dx, dictOf [] 0) :: ns) → (x, (⟨.ref 497, some dx, .plain, #[some (.int mx tx), some (.int mn tm), some (.ref mt), some idt, some (.str (PySem.Str.ofString "") tn)]⟩ : Obj)) ∈ pre → (mt, tupO [.ref m1]) ∈ pre → (∀ p ∈ ns, p.1 < dx) → (∀ y ∈ pre, @LT.lt Nat _ dx y.1) → Q (.ref x) { s with heap := h', toks := tk' }) :
    wpAny (model (PySem.Challenge.rw_vy0013_03).row.prog w) (ktrTop dp un gd cn cs L a ccd cl outer) (call (.ref 497) [.ref m1] [(PySem.Str.ofString "min", .int mn tm), (PySem.Str.ofString "max", .int mx tx)]) Q E s := by
  k_steps
  with_reducible rename News h₀ L _ (_ :: _) => N9
  with_reducible rename Fr h₀ L _ _ => F9
  exact ret _ _ _ _ _ [_, _, _, _, _, _, _, _, _, _, _] _ _ F9 N9 (by k_mem) (by k_mem) (by assumption) (by
    intro y hy
    simp only [List.mem_cons, List.not_mem_nil, or_false] at hy
    refine ltN ?_
    rcases hy with rfl | rfl | rfl | rfl | rfl | rfl | rfl | rfl | rfl | rfl | rfl <;> dsimp only <;> omega)
theorem mk_repU {w : World} {p : Program} {loose : List PySem.Str} {mean : ExcName → Option Value} {mg mb : PySem.Str → Option Value}
    {dp un : Nat} {gd : Option (List Code)} {cn : PySem.Str} {cs : Scope} {a : Addr} {ccd : Value} {cl : List (PySem.Str × Addr)} {outer : List Env} {A₀ : Around} {base h₀ : Heap} {L : Addr} {m : PySem.Str → Option Value} {s : Shared}
    {Q E : Value → Shared → Prop} {ns : Led} {m1 : Addr} {mn : Int} {tm : Tok}
    (B : Below A₀ base outer h₀) (F : Fr h₀ L s.heap m) (X : (hd3.heap_39 w.params).In h₀) (T : Top p loose mean mg mb h₀) (hk : cs.kind = .function) (N : News h₀ L s.heap ns) 
    (hd : dp + 20 < recursionLimit) (hu : un + 280 < cLine)
    (ret : ∀ (x dx : Addr) idt tn mt tf pre h' tk', Fr h₀ L h' m → News h₀ L h' (pre ++ (dx, dictOf [] 0) :: ns) → (x, (⟨.ref 497, some dx, .plain, #[some (.float 9218868437227405312 tf), some (.int mn tm), some (.ref mt), some idt, some (.str (PySem.Str.ofString "") tn)]⟩ : Obj)) ∈ pre → (mt, tupO [.ref m1]) ∈ pre → (∀ p ∈ ns, p.1 < dx) → (∀ y ∈ pre, @LT.lt Nat _ dx y.1) → Q (.ref x) { s with heap := h', toks := tk' }) :
    wpAny (model (PySem.Challenge.rw_vy0013_03).row.prog w) (ktrTop dp un gd cn cs L a ccd cl outer) (call (.ref 497) [.ref m1] [(PySem.Str.ofString "min", .int mn tm)]) Q E s := by
  k_steps
  with_reducible rename News h₀ L _ (_ :: _) => N9
  with_reducible rename Fr h₀ L _ _ => F9
  exact ret _ _ _ _ _ _ [_, _, _, _, _, _, _, _, _, _, _] _ _ F9 N9 (by k_mem) (by k_mem) (by assumption) (by
    intro y hy
    simp only [List.mem_cons, List.not_mem_nil, or_false] at hy
    refine ltN ?_
    rcases hy with rfl | rfl | rfl | rfl | rfl | rfl | rfl | rfl | rfl | rfl | rfl <;> dsimp only <;> omega)
end

/-! the table of a row of expressions -/
theorem seqEnd_congr {s1 s2 : Nat → Nat → Option Nat} : ∀ (ks : List Nat) (p : Nat), (∀ k ∈ ks, ∀ q, s1 k q = s2 k q) → seqEnd s1 ks p = seqEnd s2 ks p
  | [], _, _ => rfl
  | k :: r, p, h => by
    rw [seqEnd, seqEnd, h k (.head _)]
    cases s2 k p with
    | none => rfl
    | some e => exact seqEnd_congr r e fun k hk => h k (.tail _ hk)
theorem altEnd_congr {s1 s2 : Nat → Nat → Option Nat} : ∀ (ks : List Nat) (p : Nat), (∀ k ∈ ks, ∀ q, s1 k q = s2 k q) → altEnd s1 ks p = altEnd s2 ks p
  | [], _, _ => rfl
  | k :: r, p, h => by
    rw [altEnd, altEnd, h k (.head _)]
    cases s2 k p with
    | none => exact altEnd_congr r p fun k hk => h k (.tail _ hk)
    | some e => rfl
theorem repRun_congr {s1 s2 : Nat → Nat → Option Nat} {size k mn : Nat} {mx : Option Nat} (h : ∀ q, s1 k q = s2 k q) : ∀ (n c p : Nat), repRun s1 size k mn mx n c p = repRun s2 size k mn mx n c p
  | 0, _, _ => rfl
  | n + 1, c, p => by
    rw [repRun, repRun, h p]
    split
    · cases s2 k p with
      | none => rfl
      | some e =>
        dsimp only
        split
        · rfl
        · rw [repRun_congr h n]
    · rfl
theorem fin_congr {s1 s2 : Nat → Nat → Option Nat} {T : PySem.Str} {e : Ex} {k : Nat} (hb : e.below k) (h : ∀ j, j < k → ∀ q, s1 j q = s2 j q) (p : Nat) : e.fin s1 T p = e.fin s2 T p := by
  cases e with
  | lit w => rfl
  | seq ks => exact seqEnd_congr ks p fun j hj => h j (hb j hj)
  | alt ks => exact altEnd_congr ks p fun j hj => h j (hb j hj)
  | look neg j => show (if (s1 j p).isNone = neg then some p else none) = _; rw [h j hb]; rfl
  | rep j mn mx => show (let r := repRun s1 T.length j mn mx (repFuel T.length mn) 0 p; if mn ≤ r.cnt then some r.fin else none) = _; rw [repRun_congr (h j hb)]; rfl
def semF (T : PySem.Str) (exs : List Ex) : Nat → Nat → Nat → Option Nat
  | 0, _, _ => none
  | n + 1, k, p => match exs[k]? with
    | none => none
    | some e => e.fin (semF T exs n) T p
def semOf (T : PySem.Str) (exs : List Ex) (k p : Nat) : Option Nat := semF T exs (k + 1) k p
theorem semF_fuel {T : PySem.Str} {exs : List Ex} (G : ∀ (k : Nat) (e : Ex), exs[k]? = some e → e.below k) : ∀ (n m k p : Nat), k < n → k < m → semF T exs n k p = semF T exs m k p
  | 0, _, _, _, h, _ => absurd h (Nat.not_lt_zero _)
  | _ + 1, 0, _, _, _, h => absurd h (Nat.not_lt_zero _)
  | n + 1, m + 1, k, p, hn, hm => by
    rw [semF, semF]
    cases he : exs[k]? with
    | none => rfl
    | some e => exact fin_congr (G k e he) (fun j hj q => semF_fuel G n m j q (by omega) (by omega)) p
theorem semOf_eq {T : PySem.Str} {exs : List Ex} (G : ∀ (k : Nat) (e : Ex), exs[k]? = some e → e.below k) {k : Nat} {e : Ex} (he : exs[k]? = some e) (p : Nat) : semOf T exs k p = e.fin (semOf T exs) T p := by
  show semF T exs (k + 1) k p = _
  rw [semF, he]
  exact fin_congr (G k e he) (fun j hj q => semF_fuel G k (j + 1) j q hj (Nat.lt_succ_self j)) p
/-- where a reading may go: forward, within the text, not onto its end -/
def Reach (n p e : Nat) : Prop := p ≤ e ∧ e ≤ n ∧ (p < n → e < n)
theorem Reach.refl {n p : Nat} (h : p ≤ n) : Reach n p p := ⟨Nat.le_refl _, h, id⟩
theorem Reach.trans {n p q r : Nat} (a : Reach n p q) (b : Reach n q r) : Reach n p r := ⟨Nat.le_trans a.1 b.1, b.2.1, fun h => b.2.2 (a.2.2 h)⟩
theorem seqEnd_reach {s : Nat → Nat → Option Nat} {n : Nat} : ∀ (ks : List Nat) (p e : Nat), (∀ k ∈ ks, ∀ q e, q ≤ n → s k q = some e → Reach n q e) → p ≤ n → seqEnd s ks p = some e → Reach n p e
  | [], p, e, _, hp, h => by rw [seqEnd] at h; cases h; exact .refl hp
  | k :: r, p, e, hs, hp, h => by
    rw [seqEnd] at h
    cases hk : s k p with
    | none => rw [hk] at h; cases h
    | some f =>
      rw [hk] at h
      have a := hs k (.head _) p f hp hk
      exact a.trans (seqEnd_reach r f e (fun k hk => hs k (.tail _ hk)) a.2.1 h)
theorem altEnd_reach {s : Nat → Nat → Option Nat} {n : Nat} : ∀ (ks : List Nat) (p e : Nat), (∀ k ∈ ks, ∀ q e, q ≤ n → s k q = some e → Reach n q e) → p ≤ n → altEnd s ks p = some e → Reach n p e
  | [], p, e, _, hp, h => by rw [altEnd] at h; cases h
  | k :: r, p, e, hs, hp, h => by
    rw [altEnd] at h
    cases hk : s k p with
    | none => rw [hk] at h; exact altEnd_reach r p e (fun k hk => hs k (.tail _ hk)) hp h
    | some f => rw [hk] at h; cases h; exact hs k (.head _) p e hp hk
theorem repRun_reach {s : Nat → Nat → Option Nat} {n k mn : Nat} {mx : Option Nat} (hs : ∀ q e, q ≤ n → s k q = some e → Reach n q e) : ∀ (m c p : Nat), p ≤ n → Reach n p (repRun s n k mn mx m c p).fin
  | 0, _, _, hp => .refl hp
  | m + 1, c, p, hp => by
    rw [repRun]
    split
    · cases hk : s k p with
      | none => exact .refl hp
      | some e =>
        dsimp only
        split
        · exact .refl hp
        · have a := hs p e hp hk
          exact a.trans (repRun_reach hs m (c + 1) e a.2.1)
    · exact .refl hp
theorem fin_reach {s : Nat → Nat → Option Nat} {T : PySem.Str} {e : Ex} {k : Nat} (hb : e.below k) (hlit : ∀ w, e = .lit w → ∀ p f, p ≤ T.length → (if Txt.startswith3 T w (p : Int) then some (p + w.length) else none) = some f → Reach T.length p f)
    (hs : ∀ j, j < k → ∀ q e, q ≤ T.length → s j q = some e → Reach T.length q e) {p f : Nat} (hp : p ≤ T.length) (h : e.fin s T p = some f) : Reach T.length p f := by
  cases e with
  | lit w => exact hlit w rfl p f hp h
  | seq ks => exact seqEnd_reach ks p f (fun j hj => hs j (hb j hj)) hp h
  | alt ks => exact altEnd_reach ks p f (fun j hj => hs j (hb j hj)) hp h
  | look neg j =>
    have h : (if (s j p).isNone = neg then some p else none) = some f := h
    split at h
    · cases h; exact .refl hp
    · cases h
  | rep j mn mx =>
    have h : (if mn ≤ (repRun s T.length j mn mx (repFuel T.length mn) 0 p).cnt then some (repRun s T.length j mn mx (repFuel T.length mn) 0 p).fin else none) = some f := h
    split at h
    · cases h; exact repRun_reach (hs j hb) _ _ _ hp
    · cases h
theorem semOf_reach {T : PySem.Str} {exs : List Ex} (G : ∀ (k : Nat) (e : Ex), exs[k]? = some e → e.below k)
    (hlit : ∀ w, .lit w ∈ exs → ∀ p f, p ≤ T.length → (if Txt.startswith3 T w (p : Int) then some (p + w.length) else none) = some f → Reach T.length p f) :
    ∀ (k p f : Nat), p ≤ T.length → semOf T exs k p = some f → Reach T.length p f := by
  intro k
  induction k using Nat.strongRecOn with
  | ind k ih =>
    intro p f hp h
    cases he : exs[k]? with
    | none => rw [semOf, semF, he] at h; cases h
    | some e =>
      rw [semOf_eq G he] at h
      exact fin_reach (G k e he) (fun w hw => hlit w (hw ▸ List.mem_of_getElem? he)) (fun j hj q e hq hse => ih j hj q e hq hse) hp h
def endI : Option Nat → Int
  | none => -1
  | some e => e
/-- the law's own count loop -/
def cntRun (s : Nat → Option Nat) (mx : Option Nat) : Nat → Nat → Nat → Nat × Nat
  | 0, c, p => (c, p)
  | n + 1, c, p => if mx ≠ some c then (match s p with
    | none => (c, p)
    | some e => if p < e then cntRun s mx n (c + 1) e else (c, p)) else (c, p)
section
variable {s : Nat → Nat → Option Nat} {size k mn : Nat} {mx : Option Nat}
theorem zloop {p : Nat} (hz : s k p = some p) (hp : p < size) (hx : ∀ x, mx = some x → mn ≤ x) : ∀ (m c : Nat), c < mn → mn - c < m → (repRun s size k mn mx m c p).fin = p ∧ mn ≤ (repRun s size k mn mx m c p).cnt
  | 0, _, _, h => absurd h (Nat.not_lt_zero _)
  | m + 1, c, hc, h => by
    have cap : capOk mx c = true := by
      cases hm : mx with
      | none => rfl
      | some x => have := hx x hm; exact decide_eq_true (by omega)
    by_cases h1 : mn ≤ c + 1
    · rw [rep_zero hp cap hz h1 rfl]; exact ⟨rfl, h1⟩
    · rw [rep_more hp cap hz (fun e => h1 e.1)]
      exact zloop hz hp hx m (c + 1) (by omega) (by omega)
theorem cnt_rep (hR : ∀ q e, q < size → s k q = some e → q ≤ e ∧ e < size) (hx : ∀ x, mx = some x → mn ≤ x) : ∀ (m n c p : Nat), p < size → size - p + (mn - c) < m → size - p < n → (∀ x, mx = some x → c ≤ x) →
    (if mn ≤ (repRun s size k mn mx m c p).cnt then some (repRun s size k mn mx m c p).fin else none) =
      (if mn ≤ (cntRun (s k) mx n c p).1 ∨ s k (cntRun (s k) mx n c p).2 = some (cntRun (s k) mx n c p).2 then some (cntRun (s k) mx n c p).2 else none)
  | 0, _, _, _, _, h, _, _ => absurd h (Nat.not_lt_zero _)
  | _ + 1, 0, _, _, _, _, h, _ => absurd h (Nat.not_lt_zero _)
  | m + 1, n + 1, c, p, hp, hm, hn, hc => by
    by_cases cap : capOk mx c = true
    · have hne : mx ≠ some c := fun e => by rw [e] at cap; exact absurd (of_decide_eq_true cap) (Nat.lt_irrefl _)
      have hc' : ∀ x, mx = some x → c + 1 ≤ x := fun x e => by rw [e] at cap; exact of_decide_eq_true cap
      cases hk : s k p with
      | none =>
        have ht : cntRun (s k) mx (n + 1) c p = (c, p) := by rw [cntRun, if_pos hne, hk]
        rw [rep_none hp cap hk, ht]
        dsimp only
        simp [hk]
      | some e =>
        have hr := hR p e hp hk
        by_cases he : p < e
        · have ht : cntRun (s k) mx (n + 1) c p = cntRun (s k) mx n (c + 1) e := by rw [cntRun, if_pos hne, hk]; dsimp only; rw [if_pos he]
          rw [rep_more hp cap hk (fun z => by omega), ht]
          dsimp only
          exact cnt_rep hR hx m n (c + 1) e hr.2 (by omega) (by omega) hc'
        · have : e = p := by omega
          subst this
          have ht : cntRun (s k) mx (n + 1) c e = (c, e) := by rw [cntRun, if_pos hne, hk]; dsimp only; rw [if_neg he]
          rw [ht]
          dsimp only
          rw [if_pos (Or.inr hk : mn ≤ c ∨ _)]
          by_cases h1 : mn ≤ c + 1
          · rw [rep_zero hp cap hk h1 rfl]; dsimp only; rw [if_pos h1]
          · rw [rep_more hp cap hk (fun z => h1 z.1)]
            dsimp only
            obtain ⟨z1, z2⟩ := zloop hk hp hx m (c + 1) (by omega) (by omega)
            rw [if_pos z2, z1]
    · obtain ⟨x, rfl⟩ : ∃ x, mx = some x := by
        cases hm : mx with
        | none => rw [hm] at cap; exact absurd rfl cap
        | some x => exact ⟨x, rfl⟩
      have h1 := hc x rfl
      have h2 : ¬ c < x := fun h => cap (decide_eq_true h)
      have : c = x := by omega
      subst this
      have h3 := hx c rfl
      have ht : cntRun (s k) (some c) (n + 1) c p = (c, p) := by rw [cntRun, if_neg (fun z => z rfl)]
      rw [rep_stop (fun z => cap z.2), ht]
      dsimp only
      rw [if_pos h3, if_pos (.inl h3)]
end
/-- the row's plan, as the law keeps it -/
def PlanAt (σ : Led) (pt : Addr) : Ex → Prop
  | .lit w => ∃ t1 t2, (pt, tupO [.str (PySem.Str.ofString "word") t1, .str w t2]) ∈ σ
  | .seq [a, b] => ∃ t1 t2 t3, (pt, tupO [.str (PySem.Str.ofString "both") t1, .int a t2, .int b t3]) ∈ σ
  | .alt [a, b] => ∃ t1 t2 t3, (pt, tupO [.str (PySem.Str.ofString "either") t1, .int a t2, .int b t3]) ∈ σ
  | .look true a => ∃ t1 t2, (pt, tupO [.str (PySem.Str.ofString "not") t1, .int a t2]) ∈ σ
  | .look false a => ∃ t1 t2, (pt, tupO [.str (PySem.Str.ofString "look") t1, .int a t2]) ∈ σ
  | .rep a mn mx => ∃ t1 t2 t3 t4, (pt, tupO [.str (PySem.Str.ofString "times") t1, .int a t2, .int mn t3, .int (match mx with | none => -1 | some x => (x : Int)) t4]) ∈ σ
  | _ => False
/-- the first rows of the table, as the law keeps them -/
def EndsAt (g : Gram) (σ : Led) (le : Addr) (K : Nat) : Prop :=
  ∃ (rs : List Addr) (ep : Nat), (le, W.listOf (rs.map Value.ref).toArray ep) ∈ σ ∧ rs.length ≤ 100 ∧ ∀ k, k < K → ∃ (r : Addr) (vs : List Value) (er : Nat), rs[k]? = some r ∧ (r, W.listOf vs.toArray er) ∈ σ ∧
    ∀ p, p < g.text.length → ∃ t, vs[p]? = some (.int (endI (g.sem k p)) t)
theorem EndsAt.get {g : Gram} {σ : Led} {le : Addr} {K : Nat} (h : EndsAt g σ le K) : ∃ (rs : List Addr) (ep : Nat), (le, W.listOf (rs.map Value.ref).toArray ep) ∈ σ ∧ ∀ k, k < K → ∃ (r : Addr) (vs : List Value) (er : Nat), (r, W.listOf vs.toArray er) ∈ σ ∧
    (∀ p, p < g.text.length → ∃ t, vs[p]? = some (.int (endI (g.sem k p)) t)) ∧ (rs.map Value.ref)[k]? = some (.ref r) := by
  obtain ⟨rs, ep, h1, _, h2⟩ := h
  refine ⟨rs, ep, h1, fun k hk => ?_⟩
  obtain ⟨r, vs, er, a, b, c⟩ := h2 k hk
  exact ⟨r, vs, er, b, c, by rw [List.getElem?_map, a]; rfl⟩
theorem hi_clamp {l : Option Int} {j : Int} {n : Nat} (h : (n : Int) ≤ j) : Builtin.Str.strSliceIndices l (some j) 1 n = Builtin.Str.strSliceIndices l (some (n : Int)) 1 n := by
  have a : ¬ (j < 0) := by omega
  have b : ¬ ((n : Int) < 0) := by omega
  have c : max (0 : Int) (min j n) = n := by omega
  simp [Builtin.Str.strSliceIndices, a, b, c]
theorem sw_slice {T w : PySem.Str} {q : Nat} (h : q ≤ T.length) : Txt.startswith3 T w (q : Int) = (Txt.slice T (some (q : Int)) (some ((q : Int) + (w.length : Int))) == w) := by
  have hf : PySem.fromIndex T.length (q : Int) = q := by unfold PySem.fromIndex; rw [if_neg (by omega)]; omega
  unfold Txt.startswith3
  rw [hf]
  have e : ((q : Int) + (w.length : Int)) = ((q + w.length : Nat) : Int) := by omega
  rw [e]
  by_cases hb : q + w.length ≤ T.length
  · rw [show Txt.slice T (some (q : Int)) (some ((q + w.length : Nat) : Int)) = StrLaws.sliceText T (some (q : Int)) (some ((q + w.length : Nat) : Int)) from rfl, StrLaws.sliceText_nat T (by omega) hb]
    simp only [hb, decide_true, Bool.true_and]
    unfold Builtin.Str.subAt
    have e2 : T.cps.extract q (q + w.length) = ((T.cps.toList.drop q).take (q + w.length - q)).toArray := by
      apply Array.ext'
      simp
    rw [e2, Bool.eq_iff_iff, beq_iff_eq, beq_iff_eq]
    constructor
    · intro h; cases w; exact congrArg PySem.Str.mk h
    · intro h; exact congrArg PySem.Str.cps h
  · have hl : (Txt.slice T (some (q : Int)) (some ((q + w.length : Nat) : Int))).length = T.length - q := by
      have : Txt.slice T (some (q : Int)) (some ((q + w.length : Nat) : Int)) = StrLaws.sliceText T (some (q : Int)) (some (T.length : Int)) := by
        show StrLaws.sliceText T (some (q : Int)) (some ((q + w.length : Nat) : Int)) = _
        unfold StrLaws.sliceText
        rw [hi_clamp (by omega)]
      rw [this, StrLaws.sliceText_nat T h (Nat.le_refl _)]
      show (List.take _ _).toArray.size = _
      have : T.cps.toList.length = T.length := by simp [PySem.Str.length]
      simp
      have : T.cps.size = T.length := rfl
      omega
    have hne : Txt.slice T (some (q : Int)) (some ((q + w.length : Nat) : Int)) ≠ w := fun e => by rw [e] at hl; omega
    rw [show decide (q + w.length ≤ T.length) = false from decide_eq_false hb, Bool.false_and]
    exact (beq_eq_false_iff_ne.mpr hne).symm
theorem lit_reach {T w : PySem.Str} {p f : Nat} {T0 : List Nat} {z : Nat} (hT : T.cps.toList = T0 ++ [z]) (hw : z ∉ w.cps.toList) (hp : p ≤ T.length) (h : (if Txt.startswith3 T w (p : Int) then some (p + w.length) else none) = some f) : Reach T.length p f := by
  split at h
  · rename_i hs
    cases h
    have hf : PySem.fromIndex T.length (p : Int) = p := by unfold PySem.fromIndex; rw [if_neg (by omega)]; omega
    unfold Txt.startswith3 at hs
    rw [hf, Bool.and_eq_true] at hs
    have h1 : p + w.length ≤ T.length := of_decide_eq_true hs.1
    refine ⟨by omega, h1, fun hlt => ?_⟩
    by_cases he : p + w.length = T.length
    · exfalso
      have h2 : (T.cps.extract p (p + w.length) == w.cps) = true := hs.2
      rw [beq_iff_eq] at h2
      apply hw
      rw [← h2]
      have hn : T0.length + 1 = T.length := by
        have : T.cps.toList.length = T.length := by simp [PySem.Str.length]
        rw [← this, hT]; simp
      have : (T.cps.extract p (p + w.length)).toList = (T0 ++ [z]).drop p := by
        rw [← hT]
        have e : p + w.length - p = T.cps.toList.length - p := by
          have : T.cps.toList.length = T.length := by simp [PySem.Str.length]
          omega
        simp only [Array.toList_extract, List.extract_eq_take_drop]
        rw [e, ← List.length_drop, List.take_length]
      rw [this, List.drop_append_of_le_length (by omega)]
      simp
    · omega
  · cases h

local macro_rules | `(tactic| tb_rel) => `(tactic| first | with_reducible assumption | with_reducible exact List.mem_cons_self | (refine List.mem_cons_of_mem _ ?_; tb_rel) | (refine List.mem_append_left _ ?_; tb_rel) | (refine List.mem_append_right _ ?_; tb_rel))
local macro_rules | `(tactic| walk_at "subscriptTail Name Name ref int") => `(tactic| (k_here; (with_reducible show wpAny _ _ (subscriptTail _ _ (Value.ref _) (Value.int _ _)) _ _ _); k_dflt (refine' kim_list ?N ?m ?c ?d ?h0 ?f ?x ?_; (case N => k_asm); (case m => tb_rel); (case c => exact rfl); (case d => exact rfl); (case x => first | with_reducible assumption | (rw [Int.toNat_natCast]; with_reducible assumption) | assumption); (case h0 => omega); (case f => omega))))
local macro_rules | `(tactic| walk_at "subscriptTail Name BinOp ref int") => `(tactic| (k_here; (with_reducible show wpAny _ _ (subscriptTail _ _ (Value.ref _) (Value.int _ _)) _ _ _); k_dflt (refine' kim_list ?N ?m ?c ?d ?h0 ?f ?x ?_; (case N => k_asm); (case m => tb_rel); (case c => exact rfl); (case d => exact rfl); (case x => first | with_reducible assumption | (rw [Int.toNat_natCast]; with_reducible assumption) | assumption); (case h0 => omega); (case f => omega))))
local macro_rules | `(tactic| walk_at "subscriptTail Name Constant ref int") => `(tactic| (k_here; (with_reducible show wpAny _ _ (subscriptTail _ _ (Value.ref _) (Value.int _ _)) _ _ _); k_dflt (refine' kim_list ?N ?m ?c ?d ?h0 ?f ?x ?_; (case N => k_asm); (case m => tb_rel); (case c => exact rfl); (case d => exact rfl); (case x => first | with_reducible assumption | (rw [Int.toNat_natCast]; with_reducible assumption) | assumption); (case h0 => omega); (case f => omega))))
local macro_rules | `(tactic| walk_at "subscriptTail Name Subscript ref int") => `(tactic| (k_here; (with_reducible show wpAny _ _ (subscriptTail _ _ (Value.ref _) (Value.int _ _)) _ _ _); k_dflt (refine' kim_list ?N ?m ?c ?d ?h0 ?f ?x ?_; (case N => k_asm); (case m => tb_rel); (case c => exact rfl); (case d => exact rfl); (case x => first | with_reducible assumption | (rw [Int.toNat_natCast]; with_reducible assumption) | assumption); (case h0 => omega); (case f => omega))))
local macro_rules | `(tactic| walk_at "subscriptTail") => `(tactic| (k_here; (with_reducible show wpAny _ _ (subscriptTail _ _ (Value.ref _) (Value.int _ _)) _ _ _); k_dflt (refine' kim_list ?N ?m ?c ?d ?h0 ?f ?x ?_; (case N => k_asm); (case m => tb_rel); (case c => exact rfl); (case d => exact rfl); (case x => first | with_reducible assumption | (rw [Int.toNat_natCast]; with_reducible assumption) | assumption); (case h0 => omega); (case f => omega))))
local macro_rules | `(tactic| walk_at "subscriptTail Name Name ref int") => `(tactic| (k_here; (with_reducible show wpAny _ _ (subscriptTail _ _ (Value.ref _) (Value.int _ _)) _ _ _); k_dflt (refine' kim_tup ?N ?m ?c ?d ?lo ?hi ?j ?x ?_; (case N => k_asm); (case m => with_reducible assumption); (case c => exact rfl); (case d => exact rfl); (case lo => decide); (case hi => decide); (case j => exact rfl); (case x => exact rfl))))
local macro_rules | `(tactic| walk_at "subscriptTail Name BinOp ref int") => `(tactic| (k_here; (with_reducible show wpAny _ _ (subscriptTail _ _ (Value.ref _) (Value.int _ _)) _ _ _); k_dflt (refine' kim_tup ?N ?m ?c ?d ?lo ?hi ?j ?x ?_; (case N => k_asm); (case m => with_reducible assumption); (case c => exact rfl); (case d => exact rfl); (case lo => decide); (case hi => decide); (case j => exact rfl); (case x => exact rfl))))
local macro_rules | `(tactic| walk_at "subscriptTail Name Constant ref int") => `(tactic| (k_here; (with_reducible show wpAny _ _ (subscriptTail _ _ (Value.ref _) (Value.int _ _)) _ _ _); k_dflt (refine' kim_tup ?N ?m ?c ?d ?lo ?hi ?j ?x ?_; (case N => k_asm); (case m => with_reducible assumption); (case c => exact rfl); (case d => exact rfl); (case lo => decide); (case hi => decide); (case j => exact rfl); (case x => exact rfl))))
local macro_rules | `(tactic| walk_at "subscriptTail Name Subscript ref int") => `(tactic| (k_here; (with_reducible show wpAny _ _ (subscriptTail _ _ (Value.ref _) (Value.int _ _)) _ _ _); k_dflt (refine' kim_tup ?N ?m ?c ?d ?lo ?hi ?j ?x ?_; (case N => k_asm); (case m => with_reducible assumption); (case c => exact rfl); (case d => exact rfl); (case lo => decide); (case hi => decide); (case j => exact rfl); (case x => exact rfl))))
local macro_rules | `(tactic| walk_at "subscriptTail") => `(tactic| (k_here; (with_reducible show wpAny _ _ (subscriptTail _ _ (Value.ref _) (Value.int _ _)) _ _ _); k_dflt (refine' kim_tup ?N ?m ?c ?d ?lo ?hi ?j ?x ?_; (case N => k_asm); (case m => with_reducible assumption); (case c => exact rfl); (case d => exact rfl); (case lo => decide); (case hi => decide); (case j => exact rfl); (case x => exact rfl))))
local macro_rules | `(tactic| walk_at "subscriptTail Subscript") => `(tactic| (k_here; (with_reducible show wpAny _ _ (subscriptTail (PySem.Expr.Subscript _ _ _) _ _ _) _ _ _); k_dflt (refine kba_turn (value' := PySem.Expr.Name (PySem.Str.ofString "_") ⟨0, 0, 0, 0⟩) (fun _ => rfl) ?_)))

section
local macro_rules | `(tactic| walk_at "zz0") => `(tactic| fail)
local macro_rules | `(tactic| walk_at "zz1") => `(tactic| fail)
local macro_rules | `(tactic| walk_at "zz2") => `(tactic| fail)
local macro_rules | `(tactic| walk_at "zz3") => `(tactic| fail)
local macro_rules | `(tactic| walk_at "zz4") => `(tactic| fail)
local macro_rules | `(tactic| walk_at "zz5") => `(tactic| fail)
local macro_rules | `(tactic| walk_at "zz6") => `(tactic| fail)
local macro_rules | `(tactic| walk_at "zz7") => `(tactic| fail)
local macro_rules | `(tactic| walk_at "zz8") => `(tactic| fail)
theorem begin_lend (M : Model) (A : Around) (Q E : Value → Shared → Prop) (s : Shared) : True := by
  w_top off
  first | (have h : ∀ t : Sem Value, wpAny M A t Q E s := by (intro t; walk1; fail); trivial) | trivial
end
section
def EndRet (g : Gram) (e : Ex) (q : Nat) (ns : Led) (h₀ : Heap) (L : Addr) (m : PySem.Str → Option Value) (s : Shared) (Q : Value → Shared → Prop) : Prop :=
  ∀ v t' h' tk', v = endI (e.fin g.sem g.text q) → Fr h₀ L h' m → News h₀ L h' ns → Q (.int v t') { s with heap := h', toks := tk' }
theorem end_look {w : World} {p : Program} {loose : List PySem.Str} {mean : ExcName → Option Value} {mg mb : PySem.Str → Option Value}
    {dp un : Nat} {gd : Option (List Code)} {cn : PySem.Str} {cs : Scope} {a : Addr} {ccd : Value} {cl : List (PySem.Str × Addr)} {outer : List Env} {A₀ : Around} {base h₀ : Heap} {L : Addr} {m : PySem.Str → Option Value} {s : Shared}
    {Q E : Value → Shared → Prop} {ns : Led} {g : Gram} {k q a' : Nat} {pt le : Addr} {tp tx : Tok} {b : Bool}
    (B : Below A₀ base outer h₀) (F : Fr h₀ L s.heap m) (X : (hd3.heap_39 w.params).In h₀) (T : Top p loose mean mg mb h₀) (hk : cs.kind = .function) (N : News h₀ L s.heap ns) (hP : PlanAt ns pt (.look b a')) (hb : (Ex.look b a').below k) (hE : EndsAt g ns le k) (hq : q < g.text.length) (hk1 : k ≤ 100) (hn : g.text.length ≤ 1000)
    (hd : dp + 10 < recursionLimit) (hu : un + 80 < cLine) (ret : EndRet g (.look b a') q ns h₀ L m s Q) :
    wpAny (model (PySem.Challenge.rw_vy0013_03).row.prog w) (ktrTop dp un gd cn cs L a ccd cl outer) (call (.ref 516) [.ref pt, .ref le, .str g.text tx, .int q tp]) Q E s := by
  have hb : a' < k := hb
  obtain ⟨rs, ep, hle, hrow⟩ := hE.get
  obtain ⟨r, vs, er, hr, hv, hrk⟩ := hrow _ hb
  obtain ⟨t, hvp⟩ := hv q hq
  cases hs : g.sem a' q with
  | none =>
    rw [hs] at hvp
    dsimp only [endI] at hvp
    cases b with
    | true =>
      obtain ⟨t1, t2, hpt⟩ := hP
      k_steps
      (refine ret _ _ _ _ ?_ ?_ ?_; (simp [Ex.fin, hs, endI]); k_asm; k_asm)
    | false =>
      obtain ⟨t1, t2, hpt⟩ := hP
      k_steps
      (refine ret _ _ _ _ ?_ ?_ ?_; (simp [Ex.fin, hs, endI]); k_asm; k_asm)
  | some f =>
    rw [hs] at hvp
    dsimp only [endI] at hvp
    cases b with
    | true =>
      obtain ⟨t1, t2, hpt⟩ := hP
      k_steps
      (refine ret _ _ _ _ ?_ ?_ ?_; (simp [Ex.fin, hs, endI]); k_asm; k_asm)
    | false =>
      obtain ⟨t1, t2, hpt⟩ := hP
      k_steps
      (refine ret _ _ _ _ ?_ ?_ ?_; (simp [Ex.fin, hs, endI]); k_asm; k_asm)
theorem end_seq {w : World} {p : Program} {loose : List PySem.Str} {mean : ExcName → Option Value} {mg mb : PySem.Str → Option Value}
    {dp un : Nat} {gd : Option (List Code)} {cn : PySem.Str} {cs : Scope} {a : Addr} {ccd : Value} {cl : List (PySem.Str × Addr)} {outer : List Env} {A₀ : Around} {base h₀ : Heap} {L : Addr} {m : PySem.Str → Option Value} {s : Shared}
    {Q E : Value → Shared → Prop} {ns : Led} {g : Gram} {k q : Nat} {ks : List Nat} {pt le : Addr} {tp tx : Tok}
    (B : Below A₀ base outer h₀) (F : Fr h₀ L s.heap m) (X : (hd3.heap_39 w.params).In h₀) (T : Top p loose mean mg mb h₀) (hk : cs.kind = .function) (N : News h₀ L s.heap ns) (hP : PlanAt ns pt (.seq ks)) (hb : (Ex.seq ks).below k) (hE : EndsAt g ns le k) (hq : q < g.text.length) (hR : ∀ j, j < k → ∀ q e, q < g.text.length → g.sem j q = some e → q ≤ e ∧ e < g.text.length) (hk1 : k ≤ 100) (hn : g.text.length ≤ 1000)
    (hd : dp + 10 < recursionLimit) (hu : un + 80 < cLine) (ret : EndRet g (.seq ks) q ns h₀ L m s Q) :
    wpAny (model (PySem.Challenge.rw_vy0013_03).row.prog w) (ktrTop dp un gd cn cs L a ccd cl outer) (call (.ref 516) [.ref pt, .ref le, .str g.text tx, .int q tp]) Q E s := by
  obtain ⟨a', b', rfl⟩ : ∃ a' b', ks = [a', b'] := by
    match ks, hP with
    | [a', b'], _ => exact ⟨a', b', rfl⟩
  obtain ⟨t1, t2, t3, hpt⟩ := hP
  have ha : a' < k := hb a' (by simp)
  have hb : b' < k := hb b' (by simp)
  obtain ⟨rs, ep, hle, hrow⟩ := hE.get
  obtain ⟨r, vs, er, hr, hv, hrk⟩ := hrow _ ha
  obtain ⟨t, hvp⟩ := hv q hq
  cases hs : g.sem a' q with
  | none =>
    rw [hs] at hvp
    dsimp only [endI] at hvp
    k_steps
    (refine ret _ _ _ _ ?_ ?_ ?_; (simp [Ex.fin, seqEnd, hs, endI]); k_asm; k_asm)
  | some f =>
    rw [hs] at hvp
    dsimp only [endI] at hvp
    have hf := hR a' ha q f hq hs
    obtain ⟨r2, vs2, er2, hr2, hv2, hrk2⟩ := hrow _ hb
    obtain ⟨tt, hvp2⟩ := hv2 f hf.2
    k_steps
    (refine ret _ _ _ _ ?_ ?_ ?_; (cases hs2 : g.sem b' f <;> simp [Ex.fin, seqEnd, hs, hs2, endI]); k_asm; k_asm)
theorem end_alt {w : World} {p : Program} {loose : List PySem.Str} {mean : ExcName → Option Value} {mg mb : PySem.Str → Option Value}
    {dp un : Nat} {gd : Option (List Code)} {cn : PySem.Str} {cs : Scope} {a : Addr} {ccd : Value} {cl : List (PySem.Str × Addr)} {outer : List Env} {A₀ : Around} {base h₀ : Heap} {L : Addr} {m : PySem.Str → Option Value} {s : Shared}
    {Q E : Value → Shared → Prop} {ns : Led} {g : Gram} {k q : Nat} {ks : List Nat} {pt le : Addr} {tp tx : Tok}
    (B : Below A₀ base outer h₀) (F : Fr h₀ L s.heap m) (X : (hd3.heap_39 w.params).In h₀) (T : Top p loose mean mg mb h₀) (hk : cs.kind = .function) (N : News h₀ L s.heap ns) (hP : PlanAt ns pt (.alt ks)) (hb : (Ex.alt ks).below k) (hE : EndsAt g ns le k) (hq : q < g.text.length) (hk1 : k ≤ 100) (hn : g.text.length ≤ 1000)
    (hd : dp + 10 < recursionLimit) (hu : un + 80 < cLine) (ret : EndRet g (.alt ks) q ns h₀ L m s Q) :
    wpAny (model (PySem.Challenge.rw_vy0013_03).row.prog w) (ktrTop dp un gd cn cs L a ccd cl outer) (call (.ref 516) [.ref pt, .ref le, .str g.text tx, .int q tp]) Q E s := by
  obtain ⟨a', b', rfl⟩ : ∃ a' b', ks = [a', b'] := by
    match ks, hP with
    | [a', b'], _ => exact ⟨a', b', rfl⟩
  obtain ⟨t1, t2, t3, hpt⟩ := hP
  have ha : a' < k := hb a' (by simp)
  have hb : b' < k := hb b' (by simp)
  obtain ⟨rs, ep, hle, hrow⟩ := hE.get
  obtain ⟨r, vs, er, hr, hv, hrk⟩ := hrow _ ha
  obtain ⟨t, hvp⟩ := hv q hq
  obtain ⟨r2, vs2, er2, hr2, hv2, hrk2⟩ := hrow _ hb
  obtain ⟨tt, hvp2⟩ := hv2 q hq
  cases hs : g.sem a' q with
  | none =>
    rw [hs] at hvp
    dsimp only [endI] at hvp
    k_steps
    (refine ret _ _ _ _ ?_ ?_ ?_; (cases hs2 : g.sem b' q <;> simp [Ex.fin, altEnd, hs, hs2, endI]); k_asm; k_asm)
  | some f =>
    rw [hs] at hvp
    dsimp only [endI] at hvp
    k_steps
    (refine ret _ _ _ _ ?_ ?_ ?_; (simp [Ex.fin, altEnd, hs, endI]); k_asm; k_asm)
theorem end_lit {w : World} {p : Program} {loose : List PySem.Str} {mean : ExcName → Option Value} {mg mb : PySem.Str → Option Value}
    {dp un : Nat} {gd : Option (List Code)} {cn : PySem.Str} {cs : Scope} {a : Addr} {ccd : Value} {cl : List (PySem.Str × Addr)} {outer : List Env} {A₀ : Around} {base h₀ : Heap} {L : Addr} {m : PySem.Str → Option Value} {s : Shared}
    {Q E : Value → Shared → Prop} {ns : Led} {g : Gram} {q : Nat} {wd : PySem.Str} {pt le : Addr} {tp tx : Tok}
    (B : Below A₀ base outer h₀) (F : Fr h₀ L s.heap m) (X : (hd3.heap_39 w.params).In h₀) (T : Top p loose mean mg mb h₀) (hk : cs.kind = .function) (N : News h₀ L s.heap ns) (hP : PlanAt ns pt (.lit wd)) (hq : q < g.text.length) (hn : g.text.length ≤ 1000) (hw : wd.length ≤ 100)
    (hd : dp + 10 < recursionLimit) (hu : un + 80 < cLine) (ret : EndRet g (.lit wd) q ns h₀ L m s Q) :
    wpAny (model (PySem.Challenge.rw_vy0013_03).row.prog w) (ktrTop dp un gd cn cs L a ccd cl outer) (call (.ref 516) [.ref pt, .ref le, .str g.text tx, .int q tp]) Q E s := by
  obtain ⟨t1, t2, hpt⟩ := hP
  have hsl : Txt.startswith3 g.text wd (q : Int) = (Txt.slice g.text (some (q : Int)) (some ((q : Int) + (wd.length : Int))) == wd) := sw_slice (by omega)
  k_steps
  · with_reducible rename (Txt.slice _ _ _ == _) = true => h9
    (refine ret _ _ _ _ ?_ ?_ ?_; (rw [Ex.fin, hsl, h9]; simp [endI]); k_asm; k_asm)
  · with_reducible rename (Txt.slice _ _ _ == _) = false => h9
    (refine ret _ _ _ _ ?_ ?_ ?_; (rw [Ex.fin, hsl, h9]; simp [endI]); k_asm; k_asm)
end

section
local macro_rules | `(tactic| walk_at "zz0") => `(tactic| fail)
local macro_rules | `(tactic| walk_at "zz1") => `(tactic| fail)
local macro_rules | `(tactic| walk_at "zz2") => `(tactic| fail)
local macro_rules | `(tactic| walk_at "zz3") => `(tactic| fail)
local macro_rules | `(tactic| walk_at "zz4") => `(tactic| fail)
local macro_rules | `(tactic| walk_at "zz5") => `(tactic| fail)
local macro_rules | `(tactic| walk_at "zz6") => `(tactic| fail)
local macro_rules | `(tactic| walk_at "zz7") => `(tactic| fail)
local macro_rules | `(tactic| walk_at "zz8") => `(tactic| fail)
theorem begin_lendrep (M : Model) (A : Around) (Q E : Value → Shared → Prop) (s : Shared) : True := by
  w_top off
  first | (have h : ∀ t : Sem Value, wpAny M A t Q E s := by (intro t; walk1; fail); trivial) | trivial
end
theorem cnt_stop {s : Nat → Option Nat} {mx : Option Nat} {n c p : Nat} (h : mx ≠ some c → ∀ e, s p = some e → ¬ p < e) : cntRun s mx (n + 1) c p = (c, p) := by
  rw [cntRun]
  split
  · rename_i hn
    cases hs : s p with
    | none => rfl
    | some e => dsimp only; rw [if_neg (h hn e hs)]
  · rfl
theorem cnt_more {s : Nat → Option Nat} {mx : Option Nat} {n c p e : Nat} (h1 : mx ≠ some c) (h2 : s p = some e) (h3 : p < e) : cntRun s mx (n + 1) c p = cntRun s mx n (c + 1) e := by
  rw [cntRun, if_pos h1, h2]; dsimp only; rw [if_pos h3]
def mxI (mx : Option Nat) : Int := match mx with | none => -1 | some x => (x : Int)
def CntFS (R : Nat × Nat) (n : Nat) (ns : Led) (h₀ : Heap) (L : Addr) (m0 : PySem.Str → Option Value) (s : Shared) (f : Flow) (s' : Shared) : Prop :=
  f = .next ∧ ∃ tp₁ tc m₁ h' tk, s' = { s with heap := h', toks := tk } ∧ Fr h₀ L h' m₁ ∧ News h₀ L h' ns ∧ R.2 < n ∧ R.1 ≤ 2 * n ∧
    (∀ x ∈ [(PySem.Str.ofString "pos", Value.int R.2 tp₁), (PySem.Str.ofString "count", Value.int R.1 tc)], m₁ x.1 = some x.2) ∧
    ∀ y, ([PySem.Str.ofString "pos", PySem.Str.ofString "count"] ++ [PySem.Str.ofString "kind", PySem.Str.ofString "first"]).contains y = false → m₁ y = m0 y
section
theorem end_rep {w : World} {p : Program} {loose : List PySem.Str} {mean : ExcName → Option Value} {mg mb : PySem.Str → Option Value}
    {dp un : Nat} {gd : Option (List Code)} {cn : PySem.Str} {cs : Scope} {a : Addr} {ccd : Value} {cl : List (PySem.Str × Addr)} {outer : List Env} {A₀ : Around} {base h₀ : Heap} {L : Addr} {m : PySem.Str → Option Value} {s : Shared}
    {Q E : Value → Shared → Prop} {ns : Led} {g : Gram} {k q a' mn : Nat} {mx : Option Nat} {pt le : Addr} {tp tx : Tok}
    (B : Below A₀ base outer h₀) (F : Fr h₀ L s.heap m) (X : (hd3.heap_39 w.params).In h₀) (T : Top p loose mean mg mb h₀) (hk : cs.kind = .function) (N : News h₀ L s.heap ns) (hP : PlanAt ns pt (.rep a' mn mx)) (hb : (Ex.rep a' mn mx).below k) (hE : EndsAt g ns le k) (hq : q < g.text.length) (hR : ∀ j, j < k → ∀ q e, q < g.text.length → g.sem j q = some e → q ≤ e ∧ e < g.text.length) (hk1 : k ≤ 100) (hn : g.text.length ≤ 1000) (hmn : mn ≤ 100)
    (hx : ∀ x, mx = some x → mn ≤ x) (hx2 : ∀ x, mx = some x → x ≤ 100) (hd : dp + 10 < recursionLimit) (hu : un + 80 < cLine) (ret : EndRet g (.rep a' mn mx) q ns h₀ L m s Q) :
    wpAny (model (PySem.Challenge.rw_vy0013_03).row.prog w) (ktrTop dp un gd cn cs L a ccd cl outer) (call (.ref 516) [.ref pt, .ref le, .str g.text tx, .int q tp]) Q E s := by
  have hb : a' < k := hb
  obtain ⟨rs, ep, hle, hrow⟩ := hE.get
  obtain ⟨r, vs, er, hr, hv, hrk⟩ := hrow _ hb
  obtain ⟨t, hvp⟩ := hv q hq
  obtain ⟨t1, t2, t3, t4, hpt⟩ := hP
  obtain ⟨R, hRR⟩ : ∃ R, R = cntRun (g.sem a') mx (g.text.length + 1) 0 q := ⟨_, rfl⟩
  have hfin : (Ex.rep a' mn mx).fin g.sem g.text q = if mn ≤ R.1 ∨ g.sem a' R.2 = some R.2 then some R.2 else none := by
    rw [hRR]
    exact cnt_rep (hR a' hb) hx (repFuel g.text.length mn) (g.text.length + 1) 0 q hq (by unfold repFuel; omega) (by omega) (fun x _ => Nat.zero_le _)
  have hm4 : ∃ M : Int, M = mxI mx ∧ (pt, tupO [.str (PySem.Str.ofString "times") t1, .int a' t2, .int mn t3, .int M t4]) ∈ ns := ⟨_, rfl, hpt⟩
  obtain ⟨M, hM, hpt⟩ := hm4
  clear hrow
  k_steps
  unfold WhileAt
  rename Fr _ _ _ _ => F1
  rename News _ _ _ _ => N1
  let m0 : PySem.Str → Option Value := fun y => List.lookup y [(PySem.Str.ofString "pos", Value.int q tp), (PySem.Str.ofString "text", Value.str g.text tx), (PySem.Str.ofString "ends", Value.ref le), (PySem.Str.ofString "step", Value.ref pt)]
  refine wp_by F1 (fun B L' => CntFS R g.text.length ns B L' m0 s) (While_inv2 (n₀ := g.text.length + 1) (fun n m₁ nx => ∃ p₁ tp₁ c tc, nx = ns ∧ p₁ < g.text.length ∧ g.text.length - p₁ < n ∧ c + n ≤ g.text.length + 1 ∧ (∀ x, mx = some x → c ≤ x) ∧ R = cntRun (g.sem a') mx n c p₁ ∧
    (∀ x ∈ [(PySem.Str.ofString "pos", Value.int p₁ tp₁), (PySem.Str.ofString "count", Value.int c tc)], m₁ x.1 = some x.2) ∧
    ∀ y, ([PySem.Str.ofString "pos", PySem.Str.ofString "count"] ++ [PySem.Str.ofString "kind", PySem.Str.ofString "first"]).contains y = false → m₁ y = m0 y) F1 N1 ?_ ?_ (by passes_own)) ?_
  · refine ⟨q, tp, 0, ?zz1, rfl, hq, by omega, by omega, fun x _ => Nat.zero_le _, hRR, ?_, ?_⟩
    rotate_left
    · intro x hx
      simp only [List.mem_cons, List.not_mem_nil, or_false] at hx
      rcases hx with rfl | rfl <;> rfl
    · intro y hy
      simp only [List.cons_append, List.nil_append, List.contains_cons, List.contains_nil, Bool.or_false, Bool.or_eq_false_iff] at hy
      obtain ⟨h1, h2, h3, h4⟩ := hy
      simp only [beq_no h1, beq_no h2, beq_no h3, beq_no h4, if_false]
      rfl
  · rintro n m₁ ns₁ h tk F₁ N₂ ⟨p₁, tp₁, c, tc, rfl, hp₁, hpn, hcn, hcx, hRc, hkv, hm⟩
    replace F₁ := fr_vals _ _ F₁ hkv hm
    obtain ⟨n, rfl⟩ : ∃ n', n = n' + 1 := ⟨n - 1, by omega⟩
    clear hvp N1 F1 N
    obtain ⟨t', hvp⟩ := hv p₁ hp₁
    have hendI : ∀ z : Int, endI (g.sem a' p₁) = z → (p₁ : Int) < z → ∃ e : Nat, g.sem a' p₁ = some e ∧ z = e := fun z hz hl => by
      cases hs : g.sem a' p₁ with
      | none => rw [hs] at hz; simp only [endI] at hz; omega
      | some e => rw [hs] at hz; exact ⟨e, rfl, hz.symm⟩
    obtain ⟨Z, hZ⟩ : ∃ Z, endI (g.sem a' p₁) = Z := ⟨_, rfl⟩
    rw [hZ] at hvp
    k_steps
    · (rename News _ _ _ _ => N9); (rename Fr _ _ _ _ => F9)
      have h1 : (p₁ : Int) < Z := by assumption
      have h2 : (c : Int) ≠ M := by assumption
      obtain ⟨e, he, rfl⟩ := hendI Z hZ h1
      have hre := hR a' hb p₁ e hp₁ he
      have hne : mx ≠ some c := fun e => by rw [hM, e] at h2; exact h2 rfl
      have hpe : p₁ < e := by omega
      refine ⟨_, _, _, _, n, rfl, F9, N9, Nat.lt_succ_self _, e, ?zz2, c + 1, ?zz3, rfl, hre.2, by omega, by omega, fun x hx => ?_, ?_, ?_, ?_⟩
      rotate_left 2
      · have := hcx x hx
        have : x ≠ c := fun z => hne (by rw [hx, z])
        omega
      · rw [hRc, cnt_more hne he hpe]
      · intro x hx
        simp only [List.mem_cons, List.not_mem_nil, or_false] at hx
        rcases hx with rfl | rfl <;> rfl
      · intro y hy
        simp only [List.cons_append, List.nil_append, List.contains_cons, List.contains_nil, Bool.or_false, Bool.or_eq_false_iff] at hy
        obtain ⟨h1, h2, h3, h4⟩ := hy
        simp [beq_no h1, beq_no h2, beq_no h3, beq_no h4, List.lookup_cons, h1, h2, h3, h4, m0]
    all_goals (
      (rename News _ _ _ _ => N9); (rename Fr _ _ _ _ => F9)
      have hst : R = (c, p₁) := by
        rw [hRc]
        refine cnt_stop fun hne e he hlt => ?_
        rw [he] at hZ
        simp only [endI] at hZ
        first
          | (have h2 : ¬ (p₁ : Int) < Z := by assumption); omega
          | ((have h2 : (c : Int) = M := by assumption); cases mx with
             | none => simp only [mxI] at hM; omega
             | some x => simp only [mxI] at hM; exact hne (by congr 1; omega))
      refine ⟨rfl, tp₁, tc, _, _, _, rfl, F9, N9, by rw [hst]; exact hp₁, by rw [hst]; dsimp only; omega, ?_, ?_⟩
      · intro x hx
        simp only [List.mem_cons, List.not_mem_nil, or_false] at hx
        rw [hst] at hx
        rcases hx with rfl | rfl <;> rfl
      · intro y hy
        simp only [List.cons_append, List.nil_append, List.contains_cons, List.contains_nil, Bool.or_false, Bool.or_eq_false_iff] at hy
        obtain ⟨h1, h2, h3, h4⟩ := hy
        simp [beq_no h1, beq_no h2, beq_no h3, beq_no h4, List.lookup_cons, h1, h2, h3, h4, m0])
  · rintro f s' ⟨rfl, tp₁, tc, m₁, h', tk', rfl, F₁, N₂, hR2, hR1, hkv, hm⟩
    replace F₁ := fr_vals _ _ F₁ hkv hm
    clear N1 F1 hvp
    obtain ⟨t', hvp⟩ := hv R.2 hR2
    dsimp only
    obtain ⟨Z, hZ⟩ : ∃ Z, endI (g.sem a' R.2) = Z := ⟨_, rfl⟩
    rw [hZ] at hvp
    k_steps
    · refine ret _ _ _ _ ?_ ?_ ?_
      · rw [hfin, if_pos (.inl (by omega))]; first | done | rfl
      · k_asm
      · k_asm
    · refine ret _ _ _ _ ?_ ?_ ?_
      · have h1 : Z = (R.2 : Int) := by assumption
        have h2 : g.sem a' R.2 = some R.2 := by
          cases hs : g.sem a' R.2 with
          | none => rw [hs] at hZ; simp only [endI] at hZ; omega
          | some e => rw [hs] at hZ; simp only [endI] at hZ; (have : e = R.2 := by omega); rw [this]
        rw [hfin, if_pos (.inr h2)]
        first | done | rfl
      · k_asm
      · k_asm
    · refine ret _ _ _ _ ?_ ?_ ?_
      · have h1 : Z ≠ (R.2 : Int) := by assumption
        have h2 : ¬ (mn ≤ R.1 ∨ g.sem a' R.2 = some R.2) := by
          rintro (h | h)
          · omega
          · rw [h] at hZ; simp only [endI] at hZ; exact h1 hZ.symm
        rw [hfin, if_neg h2]
        first | done | rfl
      · k_asm
      · k_asm
end

/-! range loops and loops over lists, with an invariant -/
section
variable {prog : Program} {w : World} {A : Around} {E : Value → Shared → Prop} {s : Shared} {env : Env} {h₀ : Heap} {L : Addr} {m : PySem.Str → Option Value} {ns : Led}
abbrev rangeO (a b c : Int) (t u v : Tok) : Obj := { cls := .type "range", data := .fields #[.int a t, .int b u, .int c v] }
theorem rng3_led {a b c : Int} {t u v : Tok} {Q : Value → Shared → Prop} (F : Fr h₀ L s.heap m) (N : News h₀ L s.heap ns) (hc : c ≠ 0) (hp : Builtin.divisionGoesByPylong (b - a) c = false)
    (h : ∀ r h' tk, Fr h₀ L h' m → News h₀ L h' ((r, rangeO a b c t u v) :: ns) → (∀ p ∈ ns, p.1 < r) → Q (.ref r) { s with heap := h', toks := tk }) :
    wpAny (model prog w) A (call (.type "range") [.int a t, .int b u, .int c v]) Q E s :=
  call_range_3 hc (h _ _ _ (F.push _) (News.push F N _ rfl) fun p hp => Heap.lt_size (N p hp).1) (.inl hp)
theorem rng1_led {b : Int} {u : Tok} {Q : Value → Shared → Prop} (F : Fr h₀ L s.heap m) (N : News h₀ L s.heap ns)
    (h : ∀ r t v h' tk, Fr h₀ L h' m → News h₀ L h' ((r, rangeO 0 b 1 t u v) :: ns) → (∀ p ∈ ns, p.1 < r) → Q (.ref r) { s with heap := h', toks := tk }) :
    wpAny (model prog w) A (call (.type "range") [.int b u]) Q E s :=
  call_range_1 (h _ _ _ _ _ (F.push _) (News.push F N _ rfl) fun p hp => Heap.lt_size (N p hp).1)
theorem letGo_name {x : PySem.Str} {p : Pos} {I : Addr} {v : Value} {Q' : Unit → Shared → Prop} {s' : Shared} {E' : Value → Shared → Prop} (h : Q' () s') : wpAny (model prog w) A (letOwnedTupleGo (.Name x p) (.ref I) v) Q' E' s' := wpAny_pure h
theorem for_range {x : PySem.Str} {p : Pos} {body orelse : List PySem.Stmt} {r : Addr} {a b c : Int} {t u v : Tok} {n : Nat} {Q : Flow → Shared → Prop} (J : Nat → (PySem.Str → Option Value) → Led → Prop)
    (hh : A.handled = none) (F : Fr h₀ env.locals s.heap m) (N : News h₀ env.locals s.heap ns) (hr : s.heap.get? r = some (rangeO a b c t u v)) (hsm : Builtin.Range.small a b c = true) (hsz : Builtin.Range.rangeSize a b c = (n : Int)) (h0 : J 0 m ns) (hE : PassesOwn (model prog w) A env E)
    (turn : ∀ i tv m₁ ns₁ h tk I oJ, i < n → J i m₁ ns₁ → Fr h₀ env.locals h m₁ → News h₀ env.locals h ((I, oJ) :: ns₁) → (∀ p ∈ ns₁, p.1 ≠ I) →
      wpAny (model prog w) A (assign (.Name x p) env (.int (a + (i : Int) * c) tv)) (fun _ s₂ => wpAny (model prog w) A (execs body env) (TPost h₀ env.locals I oJ (J (i + 1)) { s with heap := h, toks := tk } Q) E s₂) E { s with heap := h, toks := tk })
    (done : ∀ m₁ ns₁ h tk, J n m₁ ns₁ → Fr h₀ env.locals h m₁ → News h₀ env.locals h ns₁ → wpAny (model prog w) A (execs orelse env) Q E { s with heap := h, toks := tk }) :
    ForAt prog w A env (.Name x p) body orelse Q E (.ref r) s := by
  refine wpAny_pyIter_range hr hsm ?_
  rw [hsz]
  have fresh : ∀ p ∈ ns, p.1 ≠ s.heap.objs.size := fun p hp => Nat.ne_of_lt (Heap.lt_size (N p hp).1)
  have hin : h₀.get? s.heap.objs.size = none := next_is_new F
  have W := Walks.range (prog := prog) (w := w) (A := A) hh s.heap.objs.size a c n
  refine loop_walks (oI := { cls := .type "range_iterator", data := .fields #[rawInt a, rawInt n, rawInt c] }) (n := n) (keep := []) (m := m) (ns := ns) W J ?_ (fun e => absurd F.ns.lt (e ▸ Nat.lt_irrefl _)) (F.push _)
    (fun p hp => ?_) fresh ?_ h0 (fun _ _ _ _ _ hx => nomatch hx) (fun i s' v Q' st hQ => letGo_name hQ) (fun i h st => ⟨_, st⟩) ?_ ?_
  · intro b hb
    rw [List.mem_singleton.mp hb]; exact .inl rfl
  · rcases List.mem_cons.mp hp with rfl | hp
    · exact ⟨Heap.get?_push_size _ rfl, fun e => absurd F.ns.lt (e ▸ Nat.lt_irrefl _), hin⟩
    · exact ⟨Heap.get?_push_of_some _ (N p hp).1, (N p hp).2⟩
  · show IsRangeIter _ _ (a + ((0 : Nat) : Int) * c) ((n : Int) - ((0 : Nat) : Int)) c
    have e1 : a + ((0 : Nat) : Int) * c = a := by simp
    have e2 : (n : Int) - ((0 : Nat) : Int) = n := by simp
    rw [e1, e2]
    exact Heap.get?_push_size _ rfl
  · rintro i v m₁ ns₁ h tk oJ hi ⟨tv, rfl⟩ hJ F₁ N₁ hI
    refine wpAny_passesOwn hE (wpAny_mono (turn i tv m₁ ns₁ h tk _ oJ hi hJ F₁ N₁ hI) (fun _ s₂ h₂ => wpAny_passesOwn hE (wpAny_mono h₂ (fun f s₃ h₃ => ?_) fun _ _ e => e)) fun _ _ e => e)
    cases f <;> exact h₃
  · intro m₁ ns₁ h tk hJ F₁ N₁
    exact wpAny_passesOwn hE (done m₁ ns₁ h tk hJ F₁ N₁)
theorem items_inv {target : PySem.Expr} {body : List PySem.Stmt} {Q : Flow → Shared → Prop} {ws : List (Addr × String)} {keep : Led} (J : Nat → (PySem.Str → Option Value) → Led → Prop) (l : List Itm) (hk : ∀ i m ns, J i m ns → SubL keep ns)
    (turn : ∀ i a v h tk m ns, l[i]? = some a → J i m ns → a.Is v h → Fr h₀ env.locals h m → AllObj ws (fun its => News h₀ env.locals h (its ++ ns) →
      wpAny (model prog w) A (assign target env v) (fun _ s₂ => wpAny (model prog w) A (execs body env) (UnrPostW h₀ env.locals { s with heap := h, toks := tk } its (J (i + 1)) Q) E s₂) E { s with heap := h, toks := tk }))
    (done : ∀ m ns h tk, J l.length m ns → Fr h₀ env.locals h m → News h₀ env.locals h ns → Q .next { s with heap := h, toks := tk }) :
    ∀ (r : List Itm) (i : Nat), l.drop i = r → i ≤ l.length → ∀ m ns, J i m ns → ItemsRest prog w A E h₀ env target body Q s ws keep r m ns := by
  intro r
  induction r with
  | nil =>
    intro i hd hi m ns hJ
    have : i = l.length := by have := List.drop_eq_nil_iff.mp hd; omega
    subst this
    exact fun h tk F N => done m ns h tk hJ F N
  | cons a r ih =>
    intro i hd hi m ns hJ v h tk hv F
    have hget : l[i]? = some a := by
      have : (l.drop i)[0]? = some a := by rw [hd]; rfl
      rw [List.getElem?_drop] at this; simpa using this
    have hlt : i < l.length := (List.getElem?_eq_some_iff.mp hget).1
    have hd' : l.drop (i + 1) = r := by rw [← List.drop_drop, hd]; rfl
    have mono : ∀ (ws : List (Addr × String)) {k k' : Led → Prop}, (∀ its, k its → k' its) → AllObj ws k → AllObj ws k' := by
      intro ws
      induction ws with
      | nil => intro k k' h x; exact h _ x
      | cons w r ih => intro k k' h x o ho; exact ih (fun its => h _) (x o ho)
    refine mono ws (fun its hw N => wpAny_mono (hw N) (fun _ s₂ h₂ => wpAny_mono h₂ (fun f s₃ h₃ => ?_) fun _ _ e => e) fun _ _ e => e) (turn i a v h tk m ns hget hJ hv F)
    have fin : UnrEndW h₀ env.locals { s with heap := h, toks := tk } its (J (i + 1)) s₃ → UnrEndW h₀ env.locals { s with heap := h, toks := tk } its (fun m' n' => SubL keep n' ∧ ItemsRest prog w A E h₀ env target body Q s ws keep r m' n') s₃ := by
      rintro ⟨h', tk', m', n', rfl, F', N', o', hJ'⟩
      exact ⟨h', tk', m', n', rfl, F', N', o', hk _ _ _ hJ', ih (i + 1) hd' hlt m' n' hJ'⟩
    cases f with
    | ret v => exact h₃
    | brk => exact h₃
    | cont => exact fin h₃
    | next => exact fin h₃
end

/-! a row of expressions under construction -/
theorem grow_split {h₀ h' : Heap} {L : Addr} {pre fr δ ι : Led} {dx : Addr} {D : Obj} (N : News h₀ L h' (pre ++ (dx, D) :: (fr ++ (δ ++ ι)))) (l1 : ∀ p ∈ fr ++ (δ ++ ι), p.1 < dx) (l2 : ∀ y ∈ pre, @LT.lt Nat _ dx y.1) (S : Sep fr (δ ++ ι)) (Si : Sep ι δ) :
    News h₀ L h' (fr ++ (((dx, D) :: δ) ++ (pre ++ ι))) ∧ Sep fr (((dx, D) :: δ) ++ (pre ++ ι)) ∧ Sep (pre ++ ι) ((dx, D) :: δ) := by
  have hlt : ∀ p ∈ fr ++ (δ ++ ι), @LT.lt Nat _ p.1 dx := l1
  refine ⟨news_sub N fun y hy => ?_, fun x hx y hy => ?_, fun x hx y hy => ?_⟩
  · simp only [List.mem_append, List.mem_cons] at hy ⊢
    rcases hy with h | (h | h) | h | h
    · exact .inr (.inr (.inl h))
    · exact .inr (.inl h)
    · exact .inr (.inr (.inr (.inl h)))
    · exact .inl h
    · exact .inr (.inr (.inr (.inr h)))
  · have hx' := hlt x (List.mem_append_left _ hx)
    simp only [List.mem_append, List.mem_cons] at hy
    rcases hy with (rfl | h) | h | h
    · exact Nat.ne_of_lt hx'
    · exact S x hx y (List.mem_append_left _ h)
    · have := l2 y h; exact Nat.ne_of_lt (by omega)
    · exact S x hx y (List.mem_append_right _ h)
  · rcases List.mem_append.mp hx with hx | hx
    · have hx' := l2 x hx
      rcases List.mem_cons.mp hy with rfl | hy
      · exact Nat.ne_of_gt hx'
      · have := hlt y (List.mem_append_right _ (List.mem_append_left _ hy)); exact Nat.ne_of_gt (by omega)
    · have hx' := hlt x (List.mem_append_right _ (List.mem_append_right _ hx))
      rcases List.mem_cons.mp hy with rfl | hy
      · exact Nat.ne_of_lt hx'
      · exact Si x hx y hy
/-- what a new expression's object is; its parts by their addresses -/
def NewEx (xs : List Addr) (σ : Led) (x dx : Addr) : Ex → Prop
  | .lit w => ∃ tl idt tn, (x, (⟨.ref 336, some dx, .plain, #[some (.str w tl), some idt, some (.str (PySem.Str.ofString "") tn)]⟩ : Obj)) ∈ σ
  | .seq ks => ∃ mt idt tn ms, (x, (⟨.ref 394, some dx, .plain, #[some (.ref mt), some idt, some (.str (PySem.Str.ofString "") tn)]⟩ : Obj)) ∈ σ ∧ (mt, tupO (ms.map Value.ref)) ∈ σ ∧ ks.map (fun j => xs[j]?) = (ms : List Addr).map some
  | .alt ks => ∃ mt idt tn ms, (x, (⟨.ref 420, some dx, .plain, #[some (.ref mt), some idt, some (.str (PySem.Str.ofString "") tn)]⟩ : Obj)) ∈ σ ∧ (mt, tupO (ms.map Value.ref)) ∈ σ ∧ ks.map (fun j => xs[j]?) = (ms : List Addr).map some
  | .look neg j => ∃ mt idt tn m, (x, (⟨.ref 458, some dx, .plain, #[some (.bool neg), some (.ref mt), some idt, some (.str (PySem.Str.ofString "") tn)]⟩ : Obj)) ∈ σ ∧ (mt, tupO [.ref m]) ∈ σ ∧ xs[j]? = some m
  | .rep j mn mx => ∃ mt idt tn tm mv m, (x, (⟨.ref 497, some dx, .plain, #[some mv, some (.int mn tm), some (.ref mt), some idt, some (.str (PySem.Str.ofString "") tn)]⟩ : Obj)) ∈ σ ∧ (mt, tupO [.ref m]) ∈ σ ∧ xs[j]? = some m ∧
      (match mx with | none => ∃ tf, mv = .float 9218868437227405312 tf | some x => ∃ tx, mv = .int x tx)
theorem NewEx.mono {xs ys : List Addr} {σ σ' : Led} {x dx : Addr} (hs : ∀ y ∈ σ, y ∈ σ') (hx : ∀ (j : Nat) m, xs[j]? = some m → ys[j]? = some m) : ∀ {e : Ex}, NewEx xs σ x dx e → NewEx ys σ' x dx e
  | .lit _, ⟨a, b, c, h⟩ => ⟨a, b, c, hs _ h⟩
  | .seq ks, ⟨a, b, c, ms, h1, h2, h3⟩ => ⟨a, b, c, ms, hs _ h1, hs _ h2, map_up hx ks ms h3⟩
  | .alt ks, ⟨a, b, c, ms, h1, h2, h3⟩ => ⟨a, b, c, ms, hs _ h1, hs _ h2, map_up hx ks ms h3⟩
  | .look _ _, ⟨a, b, c, m, h1, h2, h3⟩ => ⟨a, b, c, m, hs _ h1, hs _ h2, hx _ _ h3⟩
  | .rep _ _ _, ⟨a, b, c, d, e, m, h1, h2, h3, h4⟩ => ⟨a, b, c, d, e, m, hs _ h1, hs _ h2, hx _ _ h3, h4⟩
where map_up {xs ys : List Addr} (hx : ∀ (j : Nat) m, xs[j]? = some m → ys[j]? = some m) : ∀ (ks : List Nat) (ms : List Addr), ks.map (fun j => xs[j]?) = ms.map some → ks.map (fun j => ys[j]?) = ms.map some
  | [], [], _ => rfl
  | [], _ :: _, h => by simp at h
  | _ :: _, [], h => by simp at h
  | k :: ks, m :: ms, h => by
    simp only [List.map_cons, List.cons.injEq] at h ⊢
    exact ⟨hx _ _ h.1, map_up hx ks ms h.2⟩
/-- the row made so far: expressions, their objects, dicts and plan -/
structure MadeInv (exs : List Ex) (xs ds pts : List Addr) (δ ι : Led) : Prop where
  lx : xs.length = exs.length
  ld : ds.length = exs.length
  lp : pts.length = exs.length
  ex : ∀ (k : Nat) e, exs[k]? = some e → e.below k ∧ ∃ x dx pt, xs[k]? = some x ∧ ds[k]? = some dx ∧ pts[k]? = some pt ∧ NewEx xs ι x dx e ∧ PlanAt ι pt e ∧ (dx, dictOf [] 0) ∈ δ
  nd : ds.Nodup
  dom : ∀ d ∈ ds, ∃ o, (d, o) ∈ δ
theorem PlanAt.mono {σ σ' : Led} {pt : Addr} (hs : ∀ y ∈ σ, y ∈ σ') : ∀ {e : Ex}, PlanAt σ pt e → PlanAt σ' pt e
  | .lit _, ⟨a, b, h⟩ => ⟨a, b, hs _ h⟩
  | .seq [_, _], ⟨a, b, c, h⟩ => ⟨a, b, c, hs _ h⟩
  | .alt [_, _], ⟨a, b, c, h⟩ => ⟨a, b, c, hs _ h⟩
  | .look true _, ⟨a, b, h⟩ => ⟨a, b, hs _ h⟩
  | .look false _, ⟨a, b, h⟩ => ⟨a, b, hs _ h⟩
  | .rep _ _ _, ⟨a, b, c, d, h⟩ => ⟨a, b, c, d, hs _ h⟩
theorem MadeInv.nil : MadeInv [] [] [] [] [] [] := ⟨rfl, rfl, rfl, fun _ _ h => by simp at h, List.nodup_nil, fun _ h => nomatch h⟩
theorem snoc_get {α : Type} {l : List α} {a : α} {k : Nat} {x : α} (h : (l ++ [a])[k]? = some x) : l[k]? = some x ∨ (k = l.length ∧ x = a) := by
  rw [List.getElem?_append] at h
  split at h
  · exact .inl h
  · rename_i hn
    have : k - l.length = 0 := by
      cases hz : k - l.length with
      | zero => rfl
      | succ n => rw [hz] at h; simp at h
    rw [this] at h
    simp at h
    exact .inr ⟨by omega, h.symm⟩
theorem MadeInv.snoc {exs : List Ex} {xs ds pts : List Addr} {δ ι δ' ι' : Led} (M : MadeInv exs xs ds pts δ ι) {e : Ex} {x dx pt : Addr} (hb : e.below exs.length) (hx : NewEx xs ι' x dx e) (hp : PlanAt ι' pt e) (hd : (dx, dictOf [] 0) ∈ δ')
    (hδ : ∀ y ∈ δ, y ∈ δ') (hι : ∀ y ∈ ι, y ∈ ι') (hn : ∀ y ∈ δ, y.1 ≠ dx) : MadeInv (exs ++ [e]) (xs ++ [x]) (ds ++ [dx]) (pts ++ [pt]) δ' ι' := by
  have up : ∀ (l : List Addr) (a : Addr) (j : Nat) m, l[j]? = some m → (l ++ [a])[j]? = some m := fun l a j m h => by
    rw [List.getElem?_append_left (List.getElem?_eq_some_iff.mp h).1]; exact h
  have last : ∀ (l : List Addr) (a : Addr), l.length = exs.length → (l ++ [a])[exs.length]? = some a := fun l a h => by rw [← h]; simp
  refine ⟨by simp [M.lx], by simp [M.ld], by simp [M.lp], fun k e' h => ?_, ?_, fun d h => ?_⟩
  · rcases snoc_get h with h | ⟨rfl, rfl⟩
    · obtain ⟨b, x', dx', pt', h1, h2, h3, h4, h5, h6⟩ := M.ex k e' h
      exact ⟨b, x', dx', pt', up _ _ _ _ h1, up _ _ _ _ h2, up _ _ _ _ h3, h4.mono hι (fun j m => up _ _ j m), h5.mono hι, hδ _ h6⟩
    · exact ⟨hb, x, dx, pt, last _ _ M.lx, last _ _ M.ld, last _ _ M.lp, hx.mono (fun _ h => h) (fun j m => up _ _ j m), hp, hd⟩
  · refine List.nodup_append.mpr ⟨M.nd, by simp, fun a ha b hb => ?_⟩
    rw [List.mem_singleton.mp hb]
    obtain ⟨o, ho⟩ := M.dom a ha
    exact hn _ ho
  · rcases List.mem_append.mp h with h | h
    · obtain ⟨o, ho⟩ := M.dom d h; exact ⟨o, hδ _ ho⟩
    · rw [List.mem_singleton.mp h]; exact ⟨_, hd⟩
theorem len_ints {prog : Program} {w : World} {A : Around} {E : Value → Shared → Prop} {s : Shared} {h₀ : Heap} {L l : Addr} {ns : Led} {sc : List (Int × Tok)} {ep : Nat} {Q : Value → Shared → Prop} (N : News h₀ L s.heap ns) (hm : (l, W.listOf (sc.map fun x => Value.int x.1 x.2).toArray ep) ∈ ns) (hfit : sc.length < 2 ^ 30)
    (h : Q (.int (sc.length : Int) (s.toks + 1)) { s with toks := s.toks + 1 + 1 }) : wpAny (model prog w) A (call (.builtin "len") [.ref l]) Q E s := by
  have e : ((sc.map fun x => Value.int x.1 x.2).toArray.size : Int) = (sc.length : Int) := by simp
  exact call_len_list (News.isList N hm) (by rw [e]; omega) (by rw [e]; exact h)
def ExOk : Ex → Prop
  | .lit w => w.length ≤ 2 ∧ 99 ∉ w.cps.toList
  | .seq ks => ks.length = 2
  | .alt ks => ks.length = 2
  | .look _ _ => True
  | .rep _ mn mx => mn ≤ 2 ∧ ∀ x, mx = some x → mn ≤ x ∧ x ≤ 4
def MadeJ (ρ : Led) (lm lp sl : Addr) (m0 : PySem.Str → Option Value) (i : Nat) (m₁ : PySem.Str → Option Value) (nx : Led) : Prop :=
  ∃ exs xs ds pts δ ι em ep, nx = (lm, W.listOf ((xs : List Addr).map Value.ref).toArray em) :: (lp, W.listOf ((pts : List Addr).map Value.ref).toArray ep) :: (ρ ++ (δ ++ ι)) ∧
    Sep ((lm, W.listOf (xs.map Value.ref).toArray em) :: (lp, W.listOf (pts.map Value.ref).toArray ep) :: ρ) (δ ++ ι) ∧ Sep ι δ ∧ MadeInv exs xs ds pts δ ι ∧ (∀ e ∈ exs, ExOk e) ∧ exs.length = i + 2 ∧
    (∀ x ∈ [(PySem.Str.ofString "made", Value.ref lm), (PySem.Str.ofString "plan", Value.ref lp), (PySem.Str.ofString "script", Value.ref sl)], m₁ x.1 = some x.2) ∧
    ∀ y, ([PySem.Str.ofString "made", PySem.Str.ofString "plan", PySem.Str.ofString "script"] ++ [PySem.Str.ofString "k", PySem.Str.ofString "kind", PySem.Str.ofString "one", PySem.Str.ofString "two", PySem.Str.ofString "word", PySem.Str.ofString "negative", PySem.Str.ofString "least", PySem.Str.ofString "most"]).contains y = false → m₁ y = m0 y
theorem Sep.addr {a a' b : Led} (S : Sep a b) (h : ∀ x ∈ a', ∃ y ∈ a, y.1 = x.1) : Sep a' b := fun x hx z hz => by
  obtain ⟨y, hy, e⟩ := h x hx
  rw [← e]; exact S y hy z hz
theorem made_tend {h₀ h' : Heap} {L I lm lp sl pt x dx : Addr} {s : Shared} {m' m0 : PySem.Str → Option Value} {tk i : Nat} {oJ po olm olp : Obj} {ρ δ₁ ι₁ δ' ι' fr : Led} {exs : List Ex} {xs ds pts xs' pts' : List Addr} {em ep : Nat} {e : Ex}
    (F : Fr h₀ L h' m') (N : News h₀ L h' ((pt, po) :: (I, oJ) :: (lm, W.listOf (xs'.map Value.ref).toArray em) :: (lp, W.listOf (pts'.map Value.ref).toArray ep) :: (ρ ++ (δ' ++ ι')))) (hxs : xs' = xs ++ [x]) (hpts : pts' = pts ++ [pt])
    (k1 : @LT.lt Nat _ I pt) (k2 : @LT.lt Nat _ lm pt) (k3 : @LT.lt Nat _ lp pt) (k4 : ∀ p ∈ ρ ++ (δ' ++ ι'), @LT.lt Nat _ p.1 pt) (k5 : @Ne Nat I lm) (k6 : @Ne Nat I lp) (hI : ∀ p ∈ ρ, p.1 ≠ I) (S : Sep ((I, oJ) :: (lm, olm) :: (lp, olp) :: ρ) (δ' ++ ι')) (Si : Sep ι' δ')
    (M : MadeInv exs xs ds pts δ₁ ι₁) (ok : ∀ e ∈ exs, ExOk e) (len : exs.length = i + 2) (nx : NewEx xs ι' x dx e) (dd : (dx, dictOf [] 0) ∈ δ') (hd : ∀ y ∈ δ₁, y ∈ δ') (hi : ∀ y ∈ ι₁, y ∈ ι') (hl : ∀ p ∈ fr ++ (δ₁ ++ ι₁), p.1 < dx)
    (hp : PlanAt [(pt, po)] pt e) (hb : e.below exs.length) (oke : ExOk e) (kv : ∀ x ∈ [(PySem.Str.ofString "made", Value.ref lm), (PySem.Str.ofString "plan", Value.ref lp), (PySem.Str.ofString "script", Value.ref sl)], m' x.1 = some x.2)
    (hm : ∀ y, ([PySem.Str.ofString "made", PySem.Str.ofString "plan", PySem.Str.ofString "script"] ++ [PySem.Str.ofString "k", PySem.Str.ofString "kind", PySem.Str.ofString "one", PySem.Str.ofString "two", PySem.Str.ofString "word", PySem.Str.ofString "negative", PySem.Str.ofString "least", PySem.Str.ofString "most"]).contains y = false → m' y = m0 y) :
    TEnd h₀ L I oJ (MadeJ ρ lm lp sl m0 (i + 1)) s { s with heap := h', toks := tk } := by
  subst hxs hpts
  have Sx : ∀ y ∈ δ' ++ (pt, po) :: ι', y ∈ δ' ++ ι' ∨ y = (pt, po) := fun y hy => by
    simp only [List.mem_append, List.mem_cons] at hy ⊢
    rcases hy with h | h | h
    · exact .inl (.inl h)
    · exact .inr h
    · exact .inl (.inr h)
  refine TEnd.intro (ns' := (lm, W.listOf ((xs ++ [x]).map Value.ref).toArray em) :: (lp, W.listOf ((pts ++ [pt]).map Value.ref).toArray ep) :: (ρ ++ (δ' ++ (pt, po) :: ι'))) F (news_sub N fun y hy => ?_) ?_ ⟨exs ++ [e], xs ++ [x], ds ++ [dx], pts ++ [pt], δ', (pt, po) :: ι', em, ep, rfl, ?_, ?_, ?_, ?_, by rw [List.length_append, len]; rfl, kv, hm⟩
  · simp only [List.mem_cons, List.mem_append] at hy ⊢
    rcases hy with h | h | h | h | h | h | h
    · exact .inr (.inl h)
    · exact .inr (.inr (.inl h))
    · exact .inr (.inr (.inr (.inl h)))
    · exact .inr (.inr (.inr (.inr (.inl h))))
    · exact .inr (.inr (.inr (.inr (.inr (.inl h)))))
    · exact .inl h
    · exact .inr (.inr (.inr (.inr (.inr (.inr h)))))
  · intro p hp
    rcases List.mem_cons.mp hp with rfl | hp
    · exact fun e => k5 e.symm
    · rcases List.mem_cons.mp hp with rfl | hp
      · exact fun e => k6 e.symm
      · rcases List.mem_append.mp hp with hp | hp
        · exact hI p hp
        · rcases Sx p hp with hp | rfl
          · exact (S _ (.head _) p hp).symm
          · exact Nat.ne_of_gt k1
  · intro z hz y hy
    have hz' : (∃ q ∈ (I, oJ) :: (lm, olm) :: (lp, olp) :: ρ, q.1 = z.1) ∧ @LT.lt Nat _ z.1 pt := by
      rcases List.mem_cons.mp hz with rfl | hz
      · exact ⟨⟨_, .tail _ (.head _), rfl⟩, k2⟩
      · rcases List.mem_cons.mp hz with rfl | hz
        · exact ⟨⟨_, .tail _ (.tail _ (.head _)), rfl⟩, k3⟩
        · exact ⟨⟨z, .tail _ (.tail _ (.tail _ hz)), rfl⟩, k4 z (List.mem_append_left _ hz)⟩
    obtain ⟨⟨q, hq, e⟩, hlt⟩ := hz'
    rcases Sx y hy with hy | rfl
    · rw [← e]; exact S q hq y hy
    · exact Nat.ne_of_lt hlt
  · intro z hz y hy
    rcases List.mem_cons.mp hz with rfl | hz
    · exact Nat.ne_of_gt (k4 y (List.mem_append_right _ (List.mem_append_left _ hy)))
    · exact Si z hz y hy
  · refine M.snoc hb (nx.mono (fun _ h => .tail _ h) fun _ _ h => h) (hp.mono fun y hy => ?_) dd hd (fun y hy => .tail _ (hi y hy)) fun y hy => Nat.ne_of_lt (hl y (List.mem_append_right _ (List.mem_append_left _ hy)))
    rw [List.mem_singleton.mp hy]; exact .head _
  · intro e' he
    rcases List.mem_append.mp he with he | he
    · exact ok e' he
    · rw [List.mem_singleton.mp he]; exact oke

def MkRet (xs : List Addr) (fr δ ι : Led) (h₀ : Heap) (L : Addr) (m : PySem.Str → Option Value) (s : Shared) (Q : Value → Shared → Prop) (e : Ex) : Prop :=
  ∀ x dx δ' ι' h' tk', Fr h₀ L h' m → News h₀ L h' (fr ++ (δ' ++ ι')) → Sep fr (δ' ++ ι') → Sep ι' δ' → NewEx xs ι' x dx e → (dx, dictOf [] 0) ∈ δ' → (∀ y ∈ δ, y ∈ δ') → (∀ y ∈ ι, y ∈ ι') → (∀ p ∈ fr ++ (δ ++ ι), p.1 < dx) → Q (.ref x) { s with heap := h', toks := tk' }
theorem mkB_lit {w : World} {p : Program} {loose : List PySem.Str} {mean : ExcName → Option Value} {mg mb : PySem.Str → Option Value}
    {dp un : Nat} {gd : Option (List Code)} {cn : PySem.Str} {cs : Scope} {a : Addr} {ccd : Value} {cl : List (PySem.Str × Addr)} {outer : List Env} {A₀ : Around} {base h₀ : Heap} {L : Addr} {m : PySem.Str → Option Value} {s : Shared}
    {Q E : Value → Shared → Prop} {fr δ ι : Led} {xs : List Addr} {wd : PySem.Str} {tl : Tok} (B : Below A₀ base outer h₀) (F : Fr h₀ L s.heap m) (X : (hd3.heap_39 w.params).In h₀) (T : Top p loose mean mg mb h₀) (hk : cs.kind = .function) (N : News h₀ L s.heap (fr ++ (δ ++ ι))) (S : Sep fr (δ ++ ι)) (Si : Sep ι δ)
    (hd : dp + 20 < recursionLimit) (hu : un + 280 < cLine) (ret : MkRet xs fr δ ι h₀ L m s Q (.lit wd)) : wpAny (model (PySem.Challenge.rw_vy0013_03).row.prog w) (ktrTop dp un gd cn cs L a ccd cl outer) (call (.ref 336) [.str wd tl]) Q E s := by
  refine mk_lit B F X T hk N hd hu fun x dx idt tn pre h' tk' F' N' hx l1 l2 => ?_
  obtain ⟨a, b, c⟩ := grow_split N' l1 l2 S Si
  exact ret x dx _ _ h' tk' F' a b c ⟨_, _, _, List.mem_append_left _ hx⟩ (.head _) (fun _ h => .tail _ h) (fun _ h => List.mem_append_right _ h) l1
theorem mkB_seq {w : World} {p : Program} {loose : List PySem.Str} {mean : ExcName → Option Value} {mg mb : PySem.Str → Option Value}
    {dp un : Nat} {gd : Option (List Code)} {cn : PySem.Str} {cs : Scope} {a : Addr} {ccd : Value} {cl : List (PySem.Str × Addr)} {outer : List Env} {A₀ : Around} {base h₀ : Heap} {L : Addr} {m : PySem.Str → Option Value} {s : Shared}
    {Q E : Value → Shared → Prop} {fr δ ι : Led} {xs : List Addr} {i j : Nat} {m1 m2 : Addr} (B : Below A₀ base outer h₀) (F : Fr h₀ L s.heap m) (X : (hd3.heap_39 w.params).In h₀) (T : Top p loose mean mg mb h₀) (hk : cs.kind = .function) (N : News h₀ L s.heap (fr ++ (δ ++ ι))) (S : Sep fr (δ ++ ι)) (Si : Sep ι δ) (h1 : xs[i]? = some m1) (h2 : xs[j]? = some m2)
    (hd : dp + 20 < recursionLimit) (hu : un + 280 < cLine) (ret : MkRet xs fr δ ι h₀ L m s Q (.seq [i, j])) : wpAny (model (PySem.Challenge.rw_vy0013_03).row.prog w) (ktrTop dp un gd cn cs L a ccd cl outer) (call (.ref 394) [.ref m1, .ref m2]) Q E s := by
  refine mk_seq B F X T hk N hd hu fun x dx idt tn mt pre h' tk' F' N' hx hm l1 l2 => ?_
  obtain ⟨a, b, c⟩ := grow_split N' l1 l2 S Si
  exact ret x dx _ _ h' tk' F' a b c ⟨_, _, _, [m1, m2], List.mem_append_left _ hx, List.mem_append_left _ hm, by simp [h1, h2]⟩ (.head _) (fun _ h => .tail _ h) (fun _ h => List.mem_append_right _ h) l1
theorem mkB_alt {w : World} {p : Program} {loose : List PySem.Str} {mean : ExcName → Option Value} {mg mb : PySem.Str → Option Value}
    {dp un : Nat} {gd : Option (List Code)} {cn : PySem.Str} {cs : Scope} {a : Addr} {ccd : Value} {cl : List (PySem.Str × Addr)} {outer : List Env} {A₀ : Around} {base h₀ : Heap} {L : Addr} {m : PySem.Str → Option Value} {s : Shared}
    {Q E : Value → Shared → Prop} {fr δ ι : Led} {xs : List Addr} {i j : Nat} {m1 m2 : Addr} (B : Below A₀ base outer h₀) (F : Fr h₀ L s.heap m) (X : (hd3.heap_39 w.params).In h₀) (T : Top p loose mean mg mb h₀) (hk : cs.kind = .function) (N : News h₀ L s.heap (fr ++ (δ ++ ι))) (S : Sep fr (δ ++ ι)) (Si : Sep ι δ) (h1 : xs[i]? = some m1) (h2 : xs[j]? = some m2)
    (hd : dp + 20 < recursionLimit) (hu : un + 280 < cLine) (ret : MkRet xs fr δ ι h₀ L m s Q (.alt [i, j])) : wpAny (model (PySem.Challenge.rw_vy0013_03).row.prog w) (ktrTop dp un gd cn cs L a ccd cl outer) (call (.ref 420) [.ref m1, .ref m2]) Q E s := by
  refine mk_alt B F X T hk N hd hu fun x dx idt tn mt pre h' tk' F' N' hx hm l1 l2 => ?_
  obtain ⟨a, b, c⟩ := grow_split N' l1 l2 S Si
  exact ret x dx _ _ h' tk' F' a b c ⟨_, _, _, [m1, m2], List.mem_append_left _ hx, List.mem_append_left _ hm, by simp [h1, h2]⟩ (.head _) (fun _ h => .tail _ h) (fun _ h => List.mem_append_right _ h) l1
theorem mkB_look {w : World} {p : Program} {loose : List PySem.Str} {mean : ExcName → Option Value} {mg mb : PySem.Str → Option Value}
    {dp un : Nat} {gd : Option (List Code)} {cn : PySem.Str} {cs : Scope} {a : Addr} {ccd : Value} {cl : List (PySem.Str × Addr)} {outer : List Env} {A₀ : Around} {base h₀ : Heap} {L : Addr} {m : PySem.Str → Option Value} {s : Shared}
    {Q E : Value → Shared → Prop} {fr δ ι : Led} {xs : List Addr} {i : Nat} {m1 : Addr} {b : Bool} (B : Below A₀ base outer h₀) (F : Fr h₀ L s.heap m) (X : (hd3.heap_39 w.params).In h₀) (T : Top p loose mean mg mb h₀) (hk : cs.kind = .function) (N : News h₀ L s.heap (fr ++ (δ ++ ι))) (S : Sep fr (δ ++ ι)) (Si : Sep ι δ) (h1 : xs[i]? = some m1)
    (hd : dp + 20 < recursionLimit) (hu : un + 280 < cLine) (ret : MkRet xs fr δ ι h₀ L m s Q (.look b i)) : wpAny (model (PySem.Challenge.rw_vy0013_03).row.prog w) (ktrTop dp un gd cn cs L a ccd cl outer) (call (.ref 458) [.ref m1] [(PySem.Str.ofString "negative", .bool b)]) Q E s := by
  refine mk_look B F X T hk N hd hu fun x dx idt tn mt pre h' tk' F' N' hx hm l1 l2 => ?_
  obtain ⟨a, b, c⟩ := grow_split N' l1 l2 S Si
  exact ret x dx _ _ h' tk' F' a b c ⟨_, _, _, m1, List.mem_append_left _ hx, List.mem_append_left _ hm, h1⟩ (.head _) (fun _ h => .tail _ h) (fun _ h => List.mem_append_right _ h) l1
theorem mkB_rep {w : World} {p : Program} {loose : List PySem.Str} {mean : ExcName → Option Value} {mg mb : PySem.Str → Option Value}
    {dp un : Nat} {gd : Option (List Code)} {cn : PySem.Str} {cs : Scope} {a : Addr} {ccd : Value} {cl : List (PySem.Str × Addr)} {outer : List Env} {A₀ : Around} {base h₀ : Heap} {L : Addr} {m : PySem.Str → Option Value} {s : Shared}
    {Q E : Value → Shared → Prop} {fr δ ι : Led} {xs : List Addr} {i mn mx : Nat} {m1 : Addr} {a1 a2 : Int} {tm tx : Tok} (B : Below A₀ base outer h₀) (F : Fr h₀ L s.heap m) (X : (hd3.heap_39 w.params).In h₀) (T : Top p loose mean mg mb h₀) (hk : cs.kind = .function) (N : News h₀ L s.heap (fr ++ (δ ++ ι))) (S : Sep fr (δ ++ ι)) (Si : Sep ι δ) (h1 : xs[i]? = some m1) (e1 : a1 = (mn : Int)) (e2 : a2 = (mx : Int))
    (hd : dp + 20 < recursionLimit) (hu : un + 280 < cLine) (ret : MkRet xs fr δ ι h₀ L m s Q (.rep i mn (some mx))) : wpAny (model (PySem.Challenge.rw_vy0013_03).row.prog w) (ktrTop dp un gd cn cs L a ccd cl outer) (call (.ref 497) [.ref m1] [(PySem.Str.ofString "min", .int a1 tm), (PySem.Str.ofString "max", .int a2 tx)]) Q E s := by
  subst e1 e2
  refine mk_rep B F X T hk N hd hu fun x dx idt tn mt pre h' tk' F' N' hx hm l1 l2 => ?_
  obtain ⟨a, b, c⟩ := grow_split N' l1 l2 S Si
  exact ret x dx _ _ h' tk' F' a b c ⟨_, _, _, _, _, m1, List.mem_append_left _ hx, List.mem_append_left _ hm, h1, _, rfl⟩ (.head _) (fun _ h => .tail _ h) (fun _ h => List.mem_append_right _ h) l1
theorem mkB_repU {w : World} {p : Program} {loose : List PySem.Str} {mean : ExcName → Option Value} {mg mb : PySem.Str → Option Value}
    {dp un : Nat} {gd : Option (List Code)} {cn : PySem.Str} {cs : Scope} {a : Addr} {ccd : Value} {cl : List (PySem.Str × Addr)} {outer : List Env} {A₀ : Around} {base h₀ : Heap} {L : Addr} {m : PySem.Str → Option Value} {s : Shared}
    {Q E : Value → Shared → Prop} {fr δ ι : Led} {xs : List Addr} {i mn : Nat} {m1 : Addr} {a1 : Int} {tm : Tok} (B : Below A₀ base outer h₀) (F : Fr h₀ L s.heap m) (X : (hd3.heap_39 w.params).In h₀) (T : Top p loose mean mg mb h₀) (hk : cs.kind = .function) (N : News h₀ L s.heap (fr ++ (δ ++ ι))) (S : Sep fr (δ ++ ι)) (Si : Sep ι δ) (h1 : xs[i]? = some m1) (e1 : a1 = (mn : Int))
    (hd : dp + 20 < recursionLimit) (hu : un + 280 < cLine) (ret : MkRet xs fr δ ι h₀ L m s Q (.rep i mn none)) : wpAny (model (PySem.Challenge.rw_vy0013_03).row.prog w) (ktrTop dp un gd cn cs L a ccd cl outer) (call (.ref 497) [.ref m1] [(PySem.Str.ofString "min", .int a1 tm)]) Q E s := by
  subst e1
  refine mk_repU B F X T hk N hd hu fun x dx idt tn mt tf pre h' tk' F' N' hx hm l1 l2 => ?_
  obtain ⟨a, b, c⟩ := grow_split N' l1 l2 S Si
  exact ret x dx _ _ h' tk' F' a b c ⟨_, _, _, _, _, m1, List.mem_append_left _ hx, List.mem_append_left _ hm, h1, _, rfl⟩ (.head _) (fun _ h => .tail _ h) (fun _ h => List.mem_append_right _ h) l1

theorem max_made {prog : Program} {w : World} {A : Around} {E : Value → Shared → Prop} {s : Shared} {h₀ : Heap} {L : Addr} {m : PySem.Str → Option Value} {ns : Led} {xs : List Addr} {v : Int} {t0 t1 : Tok} {Q : Value → Shared → Prop} (hh : A.handled = none) (F : Fr h₀ L s.heap m) (N : News h₀ L s.heap ns)
    (hv : v < xs.length) (hx : 0 < xs.length) (h : ∀ (j : Nat) m1 t h' tk, xs[j]? = some m1 → (xs.map Value.ref)[j]? = some (.ref m1) → j < xs.length → Fr h₀ L h' m → News h₀ L h' ns → Q (.int j t) { s with heap := h', toks := tk }) :
    wpAny (model prog w) A (call (.builtin "max") [.int 0 t0, .int v t1]) Q E s := by
  refine max_two_ints hh fun h' tk hk => ?_
  have key : ∀ (j : Nat), j < xs.length → ∀ t, Q (.int j t) { s with heap := h', toks := tk } := fun j hj t => by
    have e : xs[j]? = some xs[j] := List.getElem?_eq_getElem hj
    exact h j xs[j] t h' tk e (by rw [List.getElem?_map, e]; rfl) hj (F.keeps hk) (N.grown hk)
  split
  · rename_i hc
    have : v = ((v.toNat : Nat) : Int) := by omega
    rw [this]
    exact key v.toNat (by omega) t1
  · exact key 0 hx t0
theorem words_item {w : World} {A : Around} {E : Value → Shared → Prop} {s : Shared} {h₀ : Heap} {L : Addr} {m : PySem.Str → Option Value} {value slice : PySem.Expr} {k : Int} {u : Tok} {Q : Value → Shared → Prop} (F : Fr h₀ L s.heap m) (X : (hd3.heap_39 w.params).In h₀) (h0 : 0 ≤ k) (h6 : k < 6)
    (h : ∀ wd t, wd.length ≤ 2 → 99 ∉ wd.cps.toList → Q (.str wd t) s)
    (hs : ∀ j : Int, subscripted slice false (.ref 502) (.int j u) = operate [.ref 502, .int j u] (getItem (.ref 502) (.int j u)) := by intro _; with_unfolding_all rfl) (hg : ∀ r, letTemporaryGo value (.ref 502) r = pure () := by intro _; with_unfolding_all rfl) :
    wpAny (model (PySem.Challenge.rw_vy0013_03).row.prog w) A (subscriptTail value slice (.ref 502) (.int k u)) Q E s := by
  obtain ⟨j, rfl⟩ := Int.eq_ofNat_of_zero_le h0
  have hj : j < 6 := by omega
  rcases (by omega : j = 0 ∨ j = 1 ∨ j = 2 ∨ j = 3 ∨ j = 4 ∨ j = 5) with rfl | rfl | rfl | rfl | rfl | rfl
  · exact item_tupleL ⟨_, (X.keeps F.keep) _ _ (by k_is), rfl, _, rfl⟩ (by decide) (by decide) rfl rfl (h _ _ (by decide) (by decide)) (hs _) hg
  · exact item_tupleL ⟨_, (X.keeps F.keep) _ _ (by k_is), rfl, _, rfl⟩ (by decide) (by decide) rfl rfl (h _ _ (by decide) (by decide)) (hs _) hg
  · exact item_tupleL ⟨_, (X.keeps F.keep) _ _ (by k_is), rfl, _, rfl⟩ (by decide) (by decide) rfl rfl (h _ _ (by decide) (by decide)) (hs _) hg
  · exact item_tupleL ⟨_, (X.keeps F.keep) _ _ (by k_is), rfl, _, rfl⟩ (by decide) (by decide) rfl rfl (h _ _ (by decide) (by decide)) (hs _) hg
  · exact item_tupleL ⟨_, (X.keeps F.keep) _ _ (by k_is), rfl, _, rfl⟩ (by decide) (by decide) rfl rfl (h _ _ (by decide) (by decide)) (hs _) hg
  · exact item_tupleL ⟨_, (X.keeps F.keep) _ _ (by k_is), rfl, _, rfl⟩ (by decide) (by decide) rfl rfl (h _ _ (by decide) (by decide)) (hs _) hg
theorem fm_bounds (a : Int) {n : Int} (hn : 0 < n) : 0 ≤ a.fmod n ∧ a.fmod n < n := ⟨Int.fmod_nonneg_of_pos a hn, Int.fmod_lt_of_pos a hn⟩
theorem ieq_pos {x y : Int} {P Q : Prop} (h : x = y) (p : P) : if (x == y) = true then P else Q := by rw [if_pos (by simp [h])]; exact p
theorem ieq_neg {x y : Int} {P Q : Prop} (h : x ≠ y) (q : Q) : if (x == y) = true then P else Q := by rw [if_neg (by simp [h])]; exact q
theorem dec_pos {c : Prop} [Decidable c] {P Q : Prop} (h : c) (p : P) : if decide c = true then P else Q := by rw [if_pos (decide_eq_true h)]; exact p
theorem dec_neg {c : Prop} [Decidable c] {P Q : Prop} (h : ¬ c) (q : Q) : if decide c = true then P else Q := by rw [if_neg (by simp [h])]; exact q

local macro_rules | `(tactic| walk_at "exec For Name Call cons nil") => `(tactic| (k_here; k_dflt (refine For_at ?_)))
local macro_rules | `(tactic| walk_at "call type:range") => `(tactic| (k_here; (with_reducible show wpAny _ _ (call _ [Value.int _ _, Value.int _ _, Value.int _ _]) _ _ _); k_dflt (refine' rng3_led ?F ?N ?c ?p ?_; (case F => k_asm); (case N => k_asm); (case c => decide); (case p => (refine PyProof.noPylong_small ?_; omega)); intro r' h' tk' F' N' l1; (try k_lt l1))))
local macro_rules | `(tactic| walk_at "call type:range") => `(tactic| (k_here; (with_reducible show wpAny _ _ (call _ [Value.int _ _]) _ _ _); k_dflt (refine' rng1_led ?F ?N ?_; (case F => k_asm); (case N => k_asm); intro r' t' v' h' tk' F' N' l1; (try k_lt l1))))
local macro_rules | `(tactic| tb_start) => `(tactic| (intro x9 dx9 de9 io9 h' tk' F' N' S9 Si9 nx9 dd9 hd9 hi9 l9; (try simp only [List.cons_append, List.nil_append] at N'); (try k_sweep); (try k_fold)))
local macro_rules | `(tactic| walk_at "call ref") => `(tactic| (k_here; (with_reducible show wpAny _ _ (call (Value.ref 336) [Value.str _ _]) _ _ _); k_dflt (refine' mkB_lit (xs := []) ?B ?F ?X ?T ?hk ?N ?S ?Si  ?hd ?hu ?_;  (case S => assumption); (case Si => assumption); (case B => k_asm); (case F => k_asm); (case X => k_asm); (case T => k_asm); (case hk => first | assumption | exact rfl); (case N => first | k_asm | (simp only [List.cons_append, List.nil_append]; k_asm)); (case hd => k_room); (case hu => k_units); tb_start)))
local macro_rules | `(tactic| walk_at "call ref") => `(tactic| (k_here; (with_reducible show wpAny _ _ (call (Value.ref 394) [Value.ref _, Value.ref _]) _ _ _); k_dflt (refine' mkB_seq ?B ?F ?X ?T ?hk ?N ?S ?Si ?h1 ?h2 ?hd ?hu ?_; (case h1 => assumption); (case h2 => assumption); (case S => assumption); (case Si => assumption); (case B => k_asm); (case F => k_asm); (case X => k_asm); (case T => k_asm); (case hk => first | assumption | exact rfl); (case N => first | k_asm | (simp only [List.cons_append, List.nil_append]; k_asm)); (case hd => k_room); (case hu => k_units); tb_start)))
local macro_rules | `(tactic| walk_at "call ref") => `(tactic| (k_here; (with_reducible show wpAny _ _ (call (Value.ref 420) [Value.ref _, Value.ref _]) _ _ _); k_dflt (refine' mkB_alt ?B ?F ?X ?T ?hk ?N ?S ?Si ?h1 ?h2 ?hd ?hu ?_; (case h1 => assumption); (case h2 => assumption); (case S => assumption); (case Si => assumption); (case B => k_asm); (case F => k_asm); (case X => k_asm); (case T => k_asm); (case hk => first | assumption | exact rfl); (case N => first | k_asm | (simp only [List.cons_append, List.nil_append]; k_asm)); (case hd => k_room); (case hu => k_units); tb_start)))
local macro_rules | `(tactic| walk_at "call ref") => `(tactic| (k_here; (with_reducible show wpAny _ _ (call (Value.ref 458) _ _) _ _ _); k_dflt ((show wpAny _ _ (call (Value.ref 458) [Value.ref _] [(PySem.Str.ofString "negative", Value.bool _)]) _ _ _); refine' mkB_look ?B ?F ?X ?T ?hk ?N ?S ?Si ?h1 ?hd ?hu ?_; (case h1 => assumption); (case S => assumption); (case Si => assumption); (case B => k_asm); (case F => k_asm); (case X => k_asm); (case T => k_asm); (case hk => first | assumption | exact rfl); (case N => first | k_asm | (simp only [List.cons_append, List.nil_append]; k_asm)); (case hd => k_room); (case hu => k_units); tb_start)))
local macro_rules | `(tactic| walk_at "call ref") => `(tactic| (k_here; (with_reducible show wpAny _ _ (call (Value.ref 497) _ _) _ _ _); k_dflt ((show wpAny _ _ (call (Value.ref 497) [Value.ref _] [(PySem.Str.ofString "min", Value.int _ _), (PySem.Str.ofString "max", Value.int _ _)]) _ _ _); refine' mkB_rep ?B ?F ?X ?T ?hk ?N ?S ?Si ?h1 ?e1 ?e2 ?hd ?hu ?_; (case h1 => assumption); (case e1 => exact (Int.toNat_of_nonneg (by omega)).symm); (case e2 => exact (Int.toNat_of_nonneg (by omega)).symm); (case S => assumption); (case Si => assumption); (case B => k_asm); (case F => k_asm); (case X => k_asm); (case T => k_asm); (case hk => first | assumption | exact rfl); (case N => first | k_asm | (simp only [List.cons_append, List.nil_append]; k_asm)); (case hd => k_room); (case hu => k_units); tb_start)))
local macro_rules | `(tactic| walk_at "call ref") => `(tactic| (k_here; (with_reducible show wpAny _ _ (call (Value.ref 497) _ _) _ _ _); k_dflt ((show wpAny _ _ (call (Value.ref 497) [Value.ref _] [(PySem.Str.ofString "min", Value.int _ _)]) _ _ _); refine' mkB_repU ?B ?F ?X ?T ?hk ?N ?S ?Si ?h1 ?e1 ?hd ?hu ?_; (case h1 => assumption); (case e1 => exact (Int.toNat_of_nonneg (by omega)).symm); (case S => assumption); (case Si => assumption); (case B => k_asm); (case F => k_asm); (case X => k_asm); (case T => k_asm); (case hk => first | assumption | exact rfl); (case N => first | k_asm | (simp only [List.cons_append, List.nil_append]; k_asm)); (case hd => k_room); (case hu => k_units); tb_start)))
local macro_rules | `(tactic| walk_at "call builtin:max") => `(tactic| (k_here; (with_reducible show wpAny _ _ (call (Value.builtin "max") [Value.int _ _, Value.int _ _]) _ _ _); k_dflt (refine' max_made ?hh ?F ?N ?hv ?hx ?_; (case hh => first | assumption | exact rfl); (case F => k_asm); (case N => k_asm); (case hx => assumption); (case hv => omega); intro j9 m9 t9 h' tk' hj9 hj9' hj9'' F' N'; (try k_sweep))))
local macro_rules | `(tactic| walk_at "subscriptTail Name BinOp ref int") => `(tactic| (k_here; (with_reducible show wpAny _ _ (subscriptTail _ _ (Value.ref 502) (Value.int _ _)) _ _ _); k_dflt (refine' words_item ?F ?X ?h0 ?h6 ?_; (case F => k_asm); (case X => k_asm); (case h0 => omega); (case h6 => omega); intro w9 t9 hw9 hw9')))
local macro_rules | `(tactic| walk_at "subscriptTail") => `(tactic| (k_here; (with_reducible show wpAny _ _ (subscriptTail _ _ (Value.ref 502) (Value.int _ _)) _ _ _); k_dflt (refine' words_item ?F ?X ?h0 ?h6 ?_; (case F => k_asm); (case X => k_asm); (case h0 => omega); (case h6 => omega); intro w9 t9 hw9 hw9')))
local macro_rules | `(tactic| walk_at "call builtin:len") => `(tactic| (k_here; (with_reducible show wpAny _ _ (call (Value.builtin "len") [Value.ref _]) _ _ _); k_dflt (refine' len_ints ?N ?m ?f ?_; (case N => k_asm); (case m => tb_rel); (case f => omega))))
local macro_rules | `(tactic| walk_at "ite") => `(tactic| (k_here; first | (with_reducible refine ieq_pos ?_ ?_; · omega) | (with_reducible refine ieq_neg ?_ ?_; · omega) | (with_reducible refine dec_pos ?_ ?_; · omega) | (with_reducible refine dec_neg ?_ ?_; · omega) | (with_reducible refine split_ieq ?_ ?_ <;> intro _)))

section
local macro_rules | `(tactic| walk_at "zz0") => `(tactic| fail)
local macro_rules | `(tactic| walk_at "zz1") => `(tactic| fail)
local macro_rules | `(tactic| walk_at "zz2") => `(tactic| fail)
local macro_rules | `(tactic| walk_at "zz3") => `(tactic| fail)
local macro_rules | `(tactic| walk_at "zz4") => `(tactic| fail)
local macro_rules | `(tactic| walk_at "zz5") => `(tactic| fail)
local macro_rules | `(tactic| walk_at "zz6") => `(tactic| fail)
local macro_rules | `(tactic| walk_at "zz7") => `(tactic| fail)
local macro_rules | `(tactic| walk_at "zz8") => `(tactic| fail)
theorem begin_lmade (M : Model) (A : Around) (Q E : Value → Shared → Prop) (s : Shared) : True := by
  w_top off
  first | (have h : ∀ t : Sem Value, wpAny M A t Q E s := by (intro t; walk1; fail); trivial) | trivial
end
section
theorem l_made {w : World} {p : Program} {loose : List PySem.Str} {mean : ExcName → Option Value} {mg mb : PySem.Str → Option Value}
    {dp un : Nat} {gd : Option (List Code)} {cn : PySem.Str} {cs : Scope} {a : Addr} {ccd : Value} {cl : List (PySem.Str × Addr)} {outer : List Env} {A₀ : Around} {base h₀ : Heap} {L : Addr} {m : PySem.Str → Option Value} {s : Shared}
    {Q E : Value → Shared → Prop} {ρ : Led} {sl : Addr} {sc : List (Int × Tok)} {es : Nat}
    (B : Below A₀ base outer h₀) (F : Fr h₀ L s.heap m) (X : (hd3.heap_39 w.params).In h₀) (T : Top p loose mean mg mb h₀) (hk : cs.kind = .function) (N : News h₀ L s.heap ρ) (hsl : (sl, W.listOf (sc.map fun x => Value.int x.1 x.2).toArray es) ∈ ρ) (hlen : sc.length ≤ 15)
    (hd : dp + 40 < recursionLimit) (hu : un + 480 < cLine) (ret : ∀ exs xs ds pts δ ι em ep (lm lp ta : Addr) h' tk', Fr h₀ L h' m → News h₀ L h' ((ta, tupO [.ref lm, .ref lp]) :: (lm, W.listOf ((xs : List Addr).map Value.ref).toArray em) :: (lp, W.listOf ((pts : List Addr).map Value.ref).toArray ep) :: (ρ ++ (δ ++ ι))) →
      Sep ((lm, W.listOf (xs.map Value.ref).toArray em) :: (lp, W.listOf (pts.map Value.ref).toArray ep) :: ρ) (δ ++ ι) → Sep ι δ → MadeInv exs xs ds pts δ ι → (∀ e ∈ exs, ExOk e) → 2 ≤ exs.length → exs.length ≤ 7 → (∀ p ∈ ρ ++ (δ ++ ι), p.1 < ta) → @LT.lt Nat _ lm ta → @LT.lt Nat _ lp ta → Q (.ref ta) { s with heap := h', toks := tk' }) :
    wpAny (model (PySem.Challenge.rw_vy0013_03).row.prog w) (ktrTop dp un gd cn cs L a ccd cl outer) (call (.ref 509) [.ref sl]) Q E s := by
  obtain ⟨δ, hδ⟩ : ∃ d : Led, d = [] := ⟨_, rfl⟩
  obtain ⟨ι, hι⟩ : ∃ d : Led, d = [] := ⟨_, rfl⟩
  have N0 : News h₀ L s.heap (ρ ++ (δ ++ ι)) := by rw [hδ, hι]; simpa using N
  have S0 : Sep ρ (δ ++ ι) := by rw [hδ, hι]; exact fun _ _ _ h => nomatch h
  have Si0 : Sep ι δ := by rw [hδ, hι]; exact fun _ h => nomatch h
  clear N
  k_steps
  rename_i xa dxa dea ioa _ _ Sa Sia nxa dda hda hia la _ _ xb dxb deb iob _ _ Sb Sib nxb ddb hdb hib lb lm _ e1 _ _ D1 _ e2 e3 D2 _ e4 e5 e6 lp _ e7 e8 e9 e10 _ F1 N1 r _ _ F2 N2 e11 e12 e13 e14 e15
  let m0 : PySem.Str → Option Value := fun y => List.lookup y []
  obtain ⟨n, hn⟩ : ∃ n : Nat, Builtin.Range.rangeSize 0 ((sc.length : Int) - 2) 3 = (n : Int) ∧ 3 * n ≤ sc.length := by
    unfold Builtin.Range.rangeSize
    rw [if_pos (by decide)]
    split
    · refine ⟨(((sc.length : Int) - 2 - 0 - 1) / 3 + 1).toNat, ?_, ?_⟩ <;> omega
    · exact ⟨0, rfl, by omega⟩
  have hrr := (N2 _ (.head _)).1
  have hlt : ∀ p ∈ ρ ++ (deb ++ iob), @LT.lt Nat _ p.1 D1 := e3
  have hlt2 : ∀ p ∈ ρ ++ (deb ++ iob), @LT.lt Nat _ p.1 D2 := e6
  have hltm : ∀ p ∈ ρ ++ (deb ++ iob), @LT.lt Nat _ p.1 lm := e1
  have hltp : ∀ p ∈ ρ ++ (deb ++ iob), @LT.lt Nat _ p.1 lp := e10
  obtain ⟨o1, o2, o3, o4, t1, t2, t3, t4, N3, ho1, ho2, ho3, ho4⟩ : ∃ o1 o2 o3 o4, ∃ t1 t2 t3 t4 : Tok, News _ _ _ ((lm, o3) :: (lp, o4) :: (ρ ++ (deb ++ ((D1, o1) :: (D2, o2) :: iob)))) ∧ o1 = tupO [.str (PySem.Str.ofString "word") t1, .str (PySem.Str.ofString "a") t2] ∧ o2 = tupO [.str (PySem.Str.ofString "word") t3, .str (PySem.Str.ofString "b") t4] ∧
      o3 = W.listOf (([xa, xb] : List Addr).map Value.ref).toArray 0 ∧ o4 = W.listOf (([D1, D2] : List Addr).map Value.ref).toArray 0 := ⟨_, _, _, _, _, _, _, _, news_sub N2 (fun y hy => by
    simp only [List.mem_cons, List.mem_append] at hy ⊢
    rcases hy with h | h | h | h | h | h | h
    · exact .inr (.inr (.inr (.inr (.inl h))))
    · exact .inr (.inl h)
    · exact .inr (.inr (.inr (.inr (.inr (.inl h)))))
    · exact .inr (.inr (.inr (.inr (.inr (.inr (.inl h))))))
    · exact .inr (.inr (.inr (.inl h)))
    · exact .inr (.inr (.inl h))
    · exact .inr (.inr (.inr (.inr (.inr (.inr (.inr h))))))), rfl, rfl, rfl, rfl⟩
  subst ho1 ho2 ho3 ho4
  have hρm : ∀ p ∈ ρ, p.1 ≠ lm := fun p hp => Nat.ne_of_lt (hltm p (List.mem_append_left _ hp))
  have hρp : ∀ p ∈ ρ, p.1 ≠ lp := fun p hp => Nat.ne_of_lt (hltp p (List.mem_append_left _ hp))
  have hmp : @LT.lt Nat _ lm lp := by omega
  clear N2 N1 F1 N0
  refine for_range (MadeJ ρ lm lp sl m0) (by exact rfl) F2 N3 hrr ?_ hn.1 ?_ (by passes_own) ?_ ?_
  · unfold Builtin.Range.small Builtin.Range.rangeFitsLong
    rw [hn.1]
    simp only [Bool.and_eq_true, Bool.or_eq_true, decide_eq_true_eq]
    refine ⟨⟨⟨⟨?_, ?_⟩, ?_⟩, ?_⟩, .inr ?_⟩
    · decide
    · omega
    · decide
    · omega
    · rw [if_pos (by decide)]; simp only [Bool.and_eq_true, decide_eq_true_eq]; omega
  · have nxa' : NewEx [] ((D1, tupO [.str (PySem.Str.ofString "word") t1, .str (PySem.Str.ofString "a") t2]) :: (D2, tupO [.str (PySem.Str.ofString "word") t3, .str (PySem.Str.ofString "b") t4]) :: iob) xa dxa (.lit (PySem.Str.ofString "a")) := nxa.mono (fun y h => .tail _ (.tail _ (hib y h))) (fun j m h => by simp at h)
    have nxb' : NewEx [xa] ((D1, tupO [.str (PySem.Str.ofString "word") t1, .str (PySem.Str.ofString "a") t2]) :: (D2, tupO [.str (PySem.Str.ofString "word") t3, .str (PySem.Str.ofString "b") t4]) :: iob) xb dxb (.lit (PySem.Str.ofString "b")) := nxb.mono (fun y h => .tail _ (.tail _ h)) (fun j m h => by simp at h)
    have M1 := MadeInv.nil.snoc (pt := D1) (e := .lit (PySem.Str.ofString "a")) trivial nxa' ⟨_, _, .head _⟩ dda (fun _ h => nomatch h) (fun _ h => nomatch h) (fun _ h => nomatch h)
    have M2 := M1.snoc (pt := D2) (e := .lit (PySem.Str.ofString "b")) trivial nxb' ⟨_, _, .tail _ (.head _)⟩ ddb hdb (fun _ h => h) (fun y hy => Nat.ne_of_lt (lb y (List.mem_append_right _ (List.mem_append_left _ hy))))
    refine ⟨_, _, _, _, _, _, 0, 0, rfl, ?_, ?_, M2, ?_, rfl, ?_, ?_⟩
    · intro x hx y hy
      simp only [List.mem_cons, List.mem_append] at hx hy
      rcases hy with hy | rfl | rfl | hy
      · rcases hx with rfl | rfl | hx
        · exact Nat.ne_of_gt (hltm y (List.mem_append_right _ (List.mem_append_left _ hy)))
        · exact Nat.ne_of_gt (hltp y (List.mem_append_right _ (List.mem_append_left _ hy)))
        · exact Sb x hx y (List.mem_append_left _ hy)
      · rcases hx with rfl | rfl | hx
        · exact neN (by omega)
        · exact neN (by omega)
        · exact Nat.ne_of_lt (hlt x (List.mem_append_left _ hx))
      · rcases hx with rfl | rfl | hx
        · exact neN (by omega)
        · exact neN (by omega)
        · exact Nat.ne_of_lt (hlt2 x (List.mem_append_left _ hx))
      · rcases hx with rfl | rfl | hx
        · exact Nat.ne_of_gt (hltm y (List.mem_append_right _ (List.mem_append_right _ hy)))
        · exact Nat.ne_of_gt (hltp y (List.mem_append_right _ (List.mem_append_right _ hy)))
        · exact Sb x hx y (List.mem_append_right _ hy)
    · intro x hx y hy
      simp only [List.mem_cons] at hx
      rcases hx with rfl | rfl | hx
      · exact Nat.ne_of_gt (hlt y (List.mem_append_right _ (List.mem_append_left _ hy)))
      · exact Nat.ne_of_gt (hlt2 y (List.mem_append_right _ (List.mem_append_left _ hy)))
      · exact Sib x hx y hy
    · intro e he
      simp only [List.nil_append, List.cons_append, List.mem_cons, List.not_mem_nil, or_false] at he
      rcases he with rfl | rfl <;> exact ⟨by decide, by decide⟩
    · intro x hx
      simp only [List.mem_cons, List.not_mem_nil, or_false] at hx
      rcases hx with rfl | rfl | rfl <;> rfl
    · intro y hy
      simp only [List.cons_append, List.nil_append, List.contains_cons, List.contains_nil, Bool.or_false, Bool.or_eq_false_iff] at hy
      obtain ⟨h1, h2, h3, h4, h5, h6, h7, h8, h9, h10, h11⟩ := hy
      simp only [beq_no h1, beq_no h2, if_false]
      simp [List.lookup_cons, h3, m0]
  · rintro i tv m₁ ns₁ h tk I oJ hi ⟨exs, xs, ds, pts, δ₁, ι₁, em, ep, rfl, S₁, Si₁, M₁, ok₁, len₁, hkv, hm⟩ F₁ N₁ hI
    replace F₁ := fr_vals _ _ F₁ hkv hm
    clear S0 Si0 Sa Sia nxa dda hda hia la Sb Sib nxb ddb hdb hib lb e1 e2 e3 e4 e5 e6 e7 e8 e9 e10 e11 e12 e13 e14 e15 F2 N3 hlt hlt2 hltm hltp
    obtain ⟨K, hK⟩ : ∃ K : Int, (0 : Int) + (i : Int) * 3 = K := ⟨_, rfl⟩
    rw [hK]
    have hK0 : 0 ≤ K := by omega
    have hK2 : K + 2 < sc.length := by omega
    have hget : ∀ j : Nat, j < sc.length → ∃ x t, (sc.map fun x => Value.int x.1 x.2)[j]? = some (.int x t) := fun j hj => ⟨sc[j].1, sc[j].2, by simp [hj]⟩
    obtain ⟨x, tx, hx0⟩ := hget K.toNat (by omega)
    obtain ⟨y, ty, hx1⟩ := hget (K + 1).toNat (by omega)
    obtain ⟨z, tz, hx2⟩ := hget (K + 2).toNat (by omega)
    clear hget
    have hlx := M₁.lx
    have hlpp := M₁.lp
    have hx0' : 0 < xs.length := by omega
    have hy4 := fm_bounds y (n := 4) (by decide)
    have hz4 := fm_bounds z (n := 4) (by decide)
    have hy6 := fm_bounds y (n := 6) (by decide)
    have hz3 := fm_bounds z (n := 3) (by decide)
    have hq3 := fm_bounds (z.fdiv 3) (n := 3) (by decide)
    have hIm : @Ne Nat I lm := fun e => hI _ (.head _) e.symm
    have hIp : @Ne Nat I lp := fun e => hI _ (.tail _ (.head _)) e.symm
    have S₂ : Sep ((I, oJ) :: (lm, W.listOf (xs.map Value.ref).toArray em) :: (lp, W.listOf (pts.map Value.ref).toArray ep) :: ρ) (δ₁ ++ ι₁) := fun x hx y hy => by
      rcases List.mem_cons.mp hx with rfl | hx
      · exact (hI y (.tail _ (.tail _ (List.mem_append_right _ hy)))).symm
      · exact S₁ x hx y hy
    clear S₁
    have hx8 := fm_bounds x (n := 8) (by decide)
    iterate 82 (first | (k_unfold; (try dsimp only)) | walk1 | (dsimp only; walk1))
    rcases (by omega : x.fmod 8 = 0 ∨ x.fmod 8 = 1 ∨ x.fmod 8 = 2 ∨ x.fmod 8 = 3 ∨ (4 ≤ x.fmod 8 ∧ x.fmod 8 < 6) ∨ 6 ≤ x.fmod 8) with hkind | hkind | hkind | hkind | hkind | hkind
    · k_steps
      all_goals dsimp only [TPost]
      all_goals ((rename News _ _ _ (_ :: _) => N9); (rename Fr _ _ _ _ => F9); (rename Sep _ _ => Si9); (rename Sep ((I, oJ) :: _) _ => S9); (rename NewEx _ _ _ _ _ => nx9); (rename (_, dictOf [] 0) ∈ _ => dd9); (rename ∀ y ∈ δ₁, y ∈ _ => hd9); (rename ∀ y ∈ ι₁, y ∈ _ => hi9); (rename (∀ p : Addr × Obj, p ∈ _ ++ (δ₁ ++ ι₁) → p.1 < _) => l9); (rename (∀ p : Addr × Obj, p ∈ ρ ++ (_ ++ _) → p.1 < _) => l8))
      refine made_tend F9 N9 rfl rfl (by omega) (by omega) (by omega) l8 hIm hIp (fun p hp => hI p (.tail _ (.tail _ (List.mem_append_left _ hp)))) S9 Si9 M₁ ok₁ len₁ (nx9.mono (fun _ h => h) (fun j m h => by simp at h)) dd9 hd9 hi9 l9 ⟨_, _, .head _⟩ trivial ⟨by assumption, by assumption⟩ ?_ ?_
      · intro x hx
        simp only [List.mem_cons, List.not_mem_nil, or_false] at hx
        rcases hx with rfl | rfl | rfl <;> rfl
      · intro y hy
        simp only [List.cons_append, List.nil_append, List.contains_cons, List.contains_nil, Bool.or_false, Bool.or_eq_false_iff] at hy
        obtain ⟨h1, h2, h3, h4, h5, h6, h7, h8, h9, h10, h11⟩ := hy
        simp [beq_no h4, beq_no h5, beq_no h6, beq_no h7, beq_no h8, beq_no h9, beq_no h10, beq_no h11, List.lookup_cons, h1, h2, h3, h4, h5, h6, h7, h8, h9, h10, h11]
    · k_steps
      all_goals dsimp only [TPost]
      all_goals ((rename News _ _ _ (_ :: _) => N9); (rename Fr _ _ _ _ => F9); (rename Sep _ _ => Si9); (rename Sep ((I, oJ) :: _) _ => S9); (rename NewEx _ _ _ _ _ => nx9); (rename (_, dictOf [] 0) ∈ _ => dd9); (rename ∀ y ∈ δ₁, y ∈ _ => hd9); (rename ∀ y ∈ ι₁, y ∈ _ => hi9); (rename (∀ p : Addr × Obj, p ∈ _ ++ (δ₁ ++ ι₁) → p.1 < _) => l9); (rename (∀ p : Addr × Obj, p ∈ ρ ++ (_ ++ _) → p.1 < _) => l8))
      refine made_tend F9 N9 rfl rfl (by omega) (by omega) (by omega) l8 hIm hIp (fun p hp => hI p (.tail _ (.tail _ (List.mem_append_left _ hp)))) S9 Si9 M₁ ok₁ len₁ nx9 dd9 hd9 hi9 l9 ⟨_, _, _, .head _⟩ (fun k hk => by simp only [List.mem_cons, List.not_mem_nil, or_false] at hk; rcases hk with rfl | rfl <;> omega) rfl ?_ ?_
      · intro x hx
        simp only [List.mem_cons, List.not_mem_nil, or_false] at hx
        rcases hx with rfl | rfl | rfl <;> rfl
      · intro y hy
        simp only [List.cons_append, List.nil_append, List.contains_cons, List.contains_nil, Bool.or_false, Bool.or_eq_false_iff] at hy
        obtain ⟨h1, h2, h3, h4, h5, h6, h7, h8, h9, h10, h11⟩ := hy
        simp [beq_no h4, beq_no h5, beq_no h6, beq_no h7, beq_no h8, beq_no h9, beq_no h10, beq_no h11, List.lookup_cons, h1, h2, h3, h4, h5, h6, h7, h8, h9, h10, h11]
    · k_steps
      all_goals dsimp only [TPost]
      all_goals ((rename News _ _ _ (_ :: _) => N9); (rename Fr _ _ _ _ => F9); (rename Sep _ _ => Si9); (rename Sep ((I, oJ) :: _) _ => S9); (rename NewEx _ _ _ _ _ => nx9); (rename (_, dictOf [] 0) ∈ _ => dd9); (rename ∀ y ∈ δ₁, y ∈ _ => hd9); (rename ∀ y ∈ ι₁, y ∈ _ => hi9); (rename (∀ p : Addr × Obj, p ∈ _ ++ (δ₁ ++ ι₁) → p.1 < _) => l9); (rename (∀ p : Addr × Obj, p ∈ ρ ++ (_ ++ _) → p.1 < _) => l8))
      refine made_tend F9 N9 rfl rfl (by omega) (by omega) (by omega) l8 hIm hIp (fun p hp => hI p (.tail _ (.tail _ (List.mem_append_left _ hp)))) S9 Si9 M₁ ok₁ len₁ nx9 dd9 hd9 hi9 l9 ⟨_, _, _, .head _⟩ (fun k hk => by simp only [List.mem_cons, List.not_mem_nil, or_false] at hk; rcases hk with rfl | rfl <;> omega) rfl ?_ ?_
      · intro x hx
        simp only [List.mem_cons, List.not_mem_nil, or_false] at hx
        rcases hx with rfl | rfl | rfl <;> rfl
      · intro y hy
        simp only [List.cons_append, List.nil_append, List.contains_cons, List.contains_nil, Bool.or_false, Bool.or_eq_false_iff] at hy
        obtain ⟨h1, h2, h3, h4, h5, h6, h7, h8, h9, h10, h11⟩ := hy
        simp [beq_no h4, beq_no h5, beq_no h6, beq_no h7, beq_no h8, beq_no h9, beq_no h10, beq_no h11, List.lookup_cons, h1, h2, h3, h4, h5, h6, h7, h8, h9, h10, h11]
    · k_steps
      all_goals dsimp only [TPost]
      all_goals ((rename News _ _ _ (_ :: _) => N9); (rename Fr _ _ _ _ => F9); (rename Sep _ _ => Si9); (rename Sep ((I, oJ) :: _) _ => S9); (rename NewEx _ _ _ _ _ => nx9); (rename (_, dictOf [] 0) ∈ _ => dd9); (rename ∀ y ∈ δ₁, y ∈ _ => hd9); (rename ∀ y ∈ ι₁, y ∈ _ => hi9); (rename (∀ p : Addr × Obj, p ∈ _ ++ (δ₁ ++ ι₁) → p.1 < _) => l9); (rename (∀ p : Addr × Obj, p ∈ ρ ++ (_ ++ _) → p.1 < _) => l8))
      · have hb9 : (z.fmod 2 == 0) = true := by (have h9 : z.fmod 2 = 0 := by assumption); simp [h9]
        rw [hb9] at nx9
        refine made_tend F9 N9 rfl rfl (by omega) (by omega) (by omega) l8 hIm hIp (fun p hp => hI p (.tail _ (.tail _ (List.mem_append_left _ hp)))) S9 Si9 M₁ ok₁ len₁ nx9 dd9 hd9 hi9 l9 ⟨_, _, .head _⟩ (show _ < _ from by omega) trivial ?_ ?_
        · intro x hx
          simp only [List.mem_cons, List.not_mem_nil, or_false] at hx
          rcases hx with rfl | rfl | rfl <;> rfl
        · intro y hy
          simp only [List.cons_append, List.nil_append, List.contains_cons, List.contains_nil, Bool.or_false, Bool.or_eq_false_iff] at hy
          obtain ⟨h1, h2, h3, h4, h5, h6, h7, h8, h9, h10, h11⟩ := hy
          simp [beq_no h4, beq_no h5, beq_no h6, beq_no h7, beq_no h8, beq_no h9, beq_no h10, beq_no h11, List.lookup_cons, h1, h2, h3, h4, h5, h6, h7, h8, h9, h10, h11]
      · have hb9 : (z.fmod 2 == 0) = false := by (have h9 : z.fmod 2 ≠ 0 := by assumption); simp [h9]
        rw [hb9] at nx9
        refine made_tend F9 N9 rfl rfl (by omega) (by omega) (by omega) l8 hIm hIp (fun p hp => hI p (.tail _ (.tail _ (List.mem_append_left _ hp)))) S9 Si9 M₁ ok₁ len₁ nx9 dd9 hd9 hi9 l9 ⟨_, _, .head _⟩ (show _ < _ from by omega) trivial ?_ ?_
        · intro x hx
          simp only [List.mem_cons, List.not_mem_nil, or_false] at hx
          rcases hx with rfl | rfl | rfl <;> rfl
        · intro y hy
          simp only [List.cons_append, List.nil_append, List.contains_cons, List.contains_nil, Bool.or_false, Bool.or_eq_false_iff] at hy
          obtain ⟨h1, h2, h3, h4, h5, h6, h7, h8, h9, h10, h11⟩ := hy
          simp [beq_no h4, beq_no h5, beq_no h6, beq_no h7, beq_no h8, beq_no h9, beq_no h10, beq_no h11, List.lookup_cons, h1, h2, h3, h4, h5, h6, h7, h8, h9, h10, h11]
    · k_steps
      all_goals dsimp only [TPost]
      all_goals ((rename News _ _ _ (_ :: _) => N9); (rename Fr _ _ _ _ => F9); (rename Sep _ _ => Si9); (rename Sep ((I, oJ) :: _) _ => S9); (rename NewEx _ _ _ _ _ => nx9); (rename (_, dictOf [] 0) ∈ _ => dd9); (rename ∀ y ∈ δ₁, y ∈ _ => hd9); (rename ∀ y ∈ ι₁, y ∈ _ => hi9); (rename (∀ p : Addr × Obj, p ∈ _ ++ (δ₁ ++ ι₁) → p.1 < _) => l9); (rename (∀ p : Addr × Obj, p ∈ ρ ++ (_ ++ _) → p.1 < _) => l8))
      have hn1 : ((z.fmod 3).toNat : Int) = z.fmod 3 := Int.toNat_of_nonneg hz3.1
      have hn2 : ((z.fmod 3 + (z.fdiv 3).fmod 3).toNat : Int) = z.fmod 3 + (z.fdiv 3).fmod 3 := Int.toNat_of_nonneg (by omega)
      refine made_tend F9 N9 rfl rfl (by omega) (by omega) (by omega) l8 hIm hIp (fun p hp => hI p (.tail _ (.tail _ (List.mem_append_left _ hp)))) S9 Si9 M₁ ok₁ len₁ nx9 dd9 hd9 hi9 l9 ⟨_, _, _, _, by dsimp only; rw [hn1, hn2]; exact .head _⟩ (show _ < _ from by omega) ⟨by omega, fun x h => by cases h; omega⟩ ?_ ?_
      · intro x hx
        simp only [List.mem_cons, List.not_mem_nil, or_false] at hx
        rcases hx with rfl | rfl | rfl <;> rfl
      · intro y hy
        simp only [List.cons_append, List.nil_append, List.contains_cons, List.contains_nil, Bool.or_false, Bool.or_eq_false_iff] at hy
        obtain ⟨h1, h2, h3, h4, h5, h6, h7, h8, h9, h10, h11⟩ := hy
        simp [beq_no h4, beq_no h5, beq_no h6, beq_no h7, beq_no h8, beq_no h9, beq_no h10, beq_no h11, List.lookup_cons, h1, h2, h3, h4, h5, h6, h7, h8, h9, h10, h11]
    · k_steps
      all_goals dsimp only [TPost]
      all_goals ((rename News _ _ _ (_ :: _) => N9); (rename Fr _ _ _ _ => F9); (rename Sep _ _ => Si9); (rename Sep ((I, oJ) :: _) _ => S9); (rename NewEx _ _ _ _ _ => nx9); (rename (_, dictOf [] 0) ∈ _ => dd9); (rename ∀ y ∈ δ₁, y ∈ _ => hd9); (rename ∀ y ∈ ι₁, y ∈ _ => hi9); (rename (∀ p : Addr × Obj, p ∈ _ ++ (δ₁ ++ ι₁) → p.1 < _) => l9); (rename (∀ p : Addr × Obj, p ∈ ρ ++ (_ ++ _) → p.1 < _) => l8))
      have hn1 : ((z.fmod 3).toNat : Int) = z.fmod 3 := Int.toNat_of_nonneg hz3.1
      refine made_tend F9 N9 rfl rfl (by omega) (by omega) (by omega) l8 hIm hIp (fun p hp => hI p (.tail _ (.tail _ (List.mem_append_left _ hp)))) S9 Si9 M₁ ok₁ len₁ nx9 dd9 hd9 hi9 l9 ⟨_, _, _, _, by dsimp only; rw [hn1]; exact .head _⟩ (show _ < _ from by omega) ⟨by omega, fun x h => nomatch h⟩ ?_ ?_
      · intro x hx
        simp only [List.mem_cons, List.not_mem_nil, or_false] at hx
        rcases hx with rfl | rfl | rfl <;> rfl
      · intro y hy
        simp only [List.cons_append, List.nil_append, List.contains_cons, List.contains_nil, Bool.or_false, Bool.or_eq_false_iff] at hy
        obtain ⟨h1, h2, h3, h4, h5, h6, h7, h8, h9, h10, h11⟩ := hy
        simp [beq_no h4, beq_no h5, beq_no h6, beq_no h7, beq_no h8, beq_no h9, beq_no h10, beq_no h11, List.lookup_cons, h1, h2, h3, h4, h5, h6, h7, h8, h9, h10, h11]
  · rintro m₁ ns₁ h tk ⟨exs, xs, ds, pts, δ₁, ι₁, em, ep, rfl, S₁, Si₁, M₁, ok₁, len₁, hkv, hm⟩ F₁ N₁
    replace F₁ := fr_vals _ _ F₁ hkv hm
    clear S0 Si0 Sa Sia nxa dda hda hia la Sb Sib nxb ddb hdb hib lb e1 e2 e3 e4 e5 e6 e7 e8 e9 e10 e11 e12 e13 e14 e15 F2 N3 hlt hlt2 hltm hltp
    k_steps
    (rename News _ _ _ (_ :: _) => N9); (rename Fr _ _ _ _ => F9); (rename (∀ p : Addr × Obj, p ∈ ρ ++ (_ ++ _) → p.1 < _) => l8)
    exact ret _ _ _ _ _ _ _ _ _ _ _ _ _ F9 N9 S₁ Si₁ M₁ ok₁ (by omega) (by omega) l8 (by omega) (by omega)
end

def gOf (exs : List Ex) (xs ds : List Addr) (T : PySem.Str) (tt : Tok) (n : Nat) : Gram :=
  { ex := exs, xa := fun k => xs.getD k (0 : Nat), da := fun k => ds.getD k (0 : Nat), nm := fun _ => PySem.Str.ofString "", text := T, tt := tt, c := (0 : Nat), ea := (0 : Nat), ed := (0 : Nat), nth := n, sem := semOf T exs }
theorem getD_of {l : List Addr} {k : Nat} {x : Addr} (h : l[k]? = some x) : l.getD k (0 : Nat) = x := by rw [List.getD_eq_getElem?_getD, h]; rfl
theorem kids_ref {xs : List Addr} : ∀ (ks : List Nat) (ms : List Addr), ks.map (fun j => xs[j]?) = ms.map some → ms.map Value.ref = ks.map fun j => Value.ref (xs.getD j (0 : Nat))
  | [], [], _ => rfl
  | [], _ :: _, h => by simp at h
  | _ :: _, [], h => by simp at h
  | k :: ks, m :: ms, h => by
    simp only [List.map_cons, List.cons.injEq] at h ⊢
    exact ⟨by rw [getD_of h.1], kids_ref ks ms h.2⟩
theorem NewEx.exIn {exs : List Ex} {xs ds : List Addr} {T : PySem.Str} {tt : Tok} {n k : Nat} {ι : Led} {x dx : Addr} (hx : xs[k]? = some x) (hd : ds[k]? = some dx) : ∀ {e : Ex}, NewEx xs ι x dx e → ExIn (gOf exs xs ds T tt n) ι k e := by
  have ex : (gOf exs xs ds T tt n).xa k = x := getD_of hx
  have ed : (gOf exs xs ds T tt n).da k = dx := getD_of hd
  intro e h
  cases e with
  | lit w => obtain ⟨a, b, c, h⟩ := h; exact ⟨a, b, c, by rw [ex, ed]; exact h⟩
  | seq ks => obtain ⟨a, b, c, ms, h1, h2, h3⟩ := h; exact ⟨a, b, c, by rw [ex, ed]; exact h1, by rw [kids_ref ks ms h3] at h2; exact h2⟩
  | alt ks => obtain ⟨a, b, c, ms, h1, h2, h3⟩ := h; exact ⟨a, b, c, by rw [ex, ed]; exact h1, by rw [kids_ref ks ms h3] at h2; exact h2⟩
  | look b j => obtain ⟨a, b, c, m, h1, h2, h3⟩ := h; exact ⟨a, b, c, by rw [ex, ed]; exact h1, by rw [show (gOf exs xs ds T tt n).xa j = m from getD_of h3]; exact h2⟩
  | rep j mn mx => obtain ⟨a, b, c, d, e, m, h1, h2, h3, h4⟩ := h; exact ⟨a, b, c, d, e, by rw [ex, ed]; exact h1, by rw [show (gOf exs xs ds T tt n).xa j = m from getD_of h3]; exact h2, h4⟩
theorem range_getD {l : List Addr} {n : Nat} (h : l.length = n) : (List.range n).map (fun k => l.getD k (0 : Nat)) = l := by
  apply List.ext_getElem?
  intro i
  rw [List.getElem?_map]
  by_cases hi : i < n
  · rw [List.getElem?_range hi]
    have : l[i]? = some l[i] := List.getElem?_eq_getElem (by omega)
    simp [List.getD_eq_getElem?_getD, this]
  · rw [List.getElem?_eq_none (by simpa using hi), List.getElem?_eq_none (by omega)]; rfl
theorem MadeInv.binv {exs : List Ex} {xs ds pts : List Addr} {δ ι : Led} {T : PySem.Str} {tt : Tok} {n : Nat} (M : MadeInv exs xs ds pts δ ι) (Si : Sep ι δ) : BInv (gOf exs xs ds T tt n) (fun _ => []) δ ι := by
  refine ⟨fun k e he => ?_, fun k hk => ?_, fun _ _ _ _ h => (nomatch h), fun _ _ => Nat.zero_le _, ?_, Si⟩
  · obtain ⟨_, x, dx, pt, h1, h2, _, h4, _⟩ := M.ex k e he
    exact h4.exIn h1 h2
  · obtain ⟨_, x, dx, pt, h1, h2, _, _, _, h6⟩ := M.ex k _ (List.getElem?_eq_getElem hk)
    refine ⟨_, ?_, .inl ⟨rfl, rfl⟩⟩
    rw [show (gOf exs xs ds T tt n).da k = dx from getD_of h2]; exact h6
  · show ((List.range exs.length).map fun k => ds.getD k (0 : Nat)).Nodup
    rw [range_getD M.ld]; exact M.nd
theorem MadeInv.gok {exs : List Ex} {xs ds pts : List Addr} {δ ι : Led} {T : PySem.Str} {tt : Tok} {n : Nat} {T0 : List Nat} (M : MadeInv exs xs ds pts δ ι) (ok : ∀ e ∈ exs, ExOk e) (hT : T.cps.toList = T0 ++ [99]) (hl : T.length ≤ 1000) (hx : exs.length ≤ 100) (hn : n ≤ 100) : GOk (gOf exs xs ds T tt n) := by
  have hb : ∀ (k : Nat) (e : Ex), exs[k]? = some e → e.below k := fun k e h => (M.ex k e h).1
  have hre := semOf_reach (T := T) hb fun w hw p f hp h => lit_reach hT (ok _ hw).2 hp h
  refine ⟨hb, fun k e p he hp => semOf_eq hb he p, fun k p e h hk hp => ?_, hl, hx, hn, fun k hk => (show (PySem.Str.ofString "").length ≤ 100 from by decide), fun k e he => ?_⟩
  · have := hre k p e hp h; exact ⟨this.1, this.2.1⟩
  · have := ok e (List.mem_of_getElem? he)
    cases e with
    | lit w => exact Nat.le_trans this.1 (by decide)
    | seq ks => have h : ks.length = 2 := this; show ks.length ≤ 100; omega
    | alt ks => have h : ks.length = 2 := this; show ks.length ≤ 100; omega
    | look _ _ => trivial
    | rep _ mn _ => have h := this.1; show mn ≤ 100; omega
theorem MadeInv.reach {exs : List Ex} {xs ds pts : List Addr} {δ ι : Led} {T : PySem.Str} {T0 : List Nat} (M : MadeInv exs xs ds pts δ ι) (ok : ∀ e ∈ exs, ExOk e) (hT : T.cps.toList = T0 ++ [99]) : ∀ j q e, q < T.length → semOf T exs j q = some e → q ≤ e ∧ e < T.length := fun j q e hq h => by
  have hb : ∀ (k : Nat) (e : Ex), exs[k]? = some e → e.below k := fun k e h => (M.ex k e h).1
  have := semOf_reach (T := T) hb (fun w hw p f hp h => lit_reach hT (ok _ hw).2 hp h) j q e (Nat.le_of_lt hq) h
  exact ⟨this.1, this.2.2 hq⟩

section
variable {prog : Program} {w : World} {A₀ A : Around} {s : Shared} {base h₀ g₀ : Heap} {outer : List Env} {L a : Addr} {m : PySem.Str → Option Value} {env : Env} {news : Led} {K : Frag} {p : Program} {loose : List PySem.Str} {mean : ExcName → Option Value} {mg mb : PySem.Str → Option Value}
    {R : Result → Shared → Prop} {name qual : PySem.Str} {params : Arguments} {body : List PySem.Stmt} {scope : Scope} {dV kV doc pm cdv ct oc : Value} {an od : Option Addr} {osl : Array (Option Value)} {f : Addr} {args : Args} {binds : List (PySem.Str × Value)}
/-- entering a def that catches, from a frame that may have cells and that nothing lies under -/
theorem code_defS0X (B : Below A₀ base [] h₀) (F : Fr h₀ L s.heap m) (X₀ : K.In h₀) (N : News h₀ L s.heap news) (T : Top p loose mean mg mb h₀) (hA : A.frames = some [env]) (hf : env.frame = some L) (hke : env.scope.kind = .function)
    (ho : K.lookup f = some ⟨oc, od, .func (fnOf name qual params body scope dV kV doc pm an cdv ct), osl⟩) (hcd : codeIn K cdv qual = true) (hroom : A.depth < recursionLimit)
    (hbind : BindsTo s (fnOf name qual params body scope dV kV doc pm an cdv ct) args binds) (hloc : ∀ y ∈ binds, scope.names.lookup y.1 = some .local)
    (h : ∀ g L' h₁, Fr h₀ L g m → Fr g L' h₁ (fun y => binds.reverse.lookup y) → News g L' h₁ news → Below A base [env] g → K.In g → Top p loose mean mg mb g → KtsDicts ([env].filterMap (·.frame)) g →
      wpAny (model prog w) (A.deeper (envOf qual scope L' f cdv)) (execs body (envOf qual scope L' f cdv))
        (fun fl s' => LeaveS0 ([env].filterMap (·.frame)) h₀ L m g R (match fl with | .ret v => v | _ => .none) s')
        (fun e s' => wpAny (model prog w) (A.deeper (envOf qual scope L' f cdv)) (leaving (envOf qual scope L' f cdv) e) (fun _ s'' => R (.error e) s'') (fun e' s'' => R (.error e') s'') s')
        { s with heap := h₁, toks := s.toks + binds.length })
    (hco : scope.isCoroutine = false) (hgen : scope.isGenerator = false) (hk : scope.kind = .function)
    (hcell : ∀ x ∈ scope.names, x.2 ≠ .cell) : codeAny (model prog w) A (.call (.ref f) args) R s := by
  have X := X₀.keeps F.keep
  have memL : ∀ b, b ∈ [env].filterMap (·.frame) → b = L := fun b hb => by
    simp only [List.filterMap_cons, hf, List.filterMap_nil, List.mem_cons, List.not_mem_nil, or_false] at hb
    exact hb
  refine codeAny_call_def (fd := fnOf name qual params body scope dV kV doc pm an cdv ct) (body := body) (binds := binds) hroom (X _ _ ho) rfl (T.nolimit.keeps F.keep) (codeRec_of X hcd) rfl hbind hcell hloc (fun h₁ hns hk₁ => ?_) hco hgen hk
  obtain ⟨FG, B₂, st, _⟩ := groundX (R := R) B F N hA hf hke
  obtain ⟨oL, es, ep, hLg, hLd, hLk, hLf⟩ := FG.ns
  refine wpAny_mono (h _ s.heap.objs.size h₁ FG ⟨hns, fun b o e => hk₁ b o (of_hideAll _ e), Nat.le_of_eq (hideAll_size _ _)⟩
    (fun p hp => ⟨hk₁ _ _ (N p hp).1, Nat.ne_of_lt (Heap.lt_size (N p hp).1), hideAll_none _ (List.mem_map_of_mem hp)⟩) B₂ (X₀.keeps st) (T.keeps st) (fun b hb => by
      rw [memL b hb]
      exact ⟨oL, es, ep, hLg, hLd⟩)) (fun fl s' hl => ?_) fun _ _ y => y
  obtain ⟨g', L', m', news', T', F', N', k⟩ := hl
  have nL₀ : h₀.get? L = none := kts_self F
  obtain ⟨sl, hs⟩ := T'.up hLg
  refine k ⟨⟨_, es, ep, F'.keep _ _ hs, hLd, hLk, hLf⟩, fun b o e => F'.keep b o (T'.other b o (st b o e) (fun q => by
    rw [memL b q, nL₀] at e
    cases e)), F.above⟩ fun p hp => ⟨(N' p hp).1, fun q => ?_, ?_⟩
  · have := (N' p hp).2.2; rw [q, hs] at this; cases this
  · cases q : h₀.get? p.1 with
    | none => rfl
    | some o =>
      obtain ⟨sl', hs'⟩ := T'.up (st _ _ q)
      have := (N' p hp).2.2
      rw [hs'] at this
      cases this
end

structure LawAt (g : Gram) (σ : Led) (la lp le : Addr) : Prop where
  made : ∃ (xs : List Addr) (em : Nat), (la, W.listOf (xs.map Value.ref).toArray em) ∈ σ ∧ xs.length = g.ex.length ∧ ∀ k, k < g.ex.length → (xs.map Value.ref)[k]? = some (.ref (g.xa k))
  plan : ∃ (pts : List Addr) (ep : Nat), (lp, W.listOf (pts.map Value.ref).toArray ep) ∈ σ ∧ ∀ (k : Nat) e, g.ex[k]? = some e → ∃ pt, (pts.map Value.ref)[k]? = some (.ref pt) ∧ PlanAt σ pt e
  ends : EndsAt g σ le g.ex.length
theorem EndsAt.mono {g : Gram} {σ σ' : Led} {le : Addr} {K : Nat} (hs : ∀ y ∈ σ, y ∈ σ') (h : EndsAt g σ le K) : EndsAt g σ' le K := by
  obtain ⟨rs, ep, h1, h2, h3⟩ := h
  refine ⟨rs, ep, hs _ h1, h2, fun k hk => ?_⟩
  obtain ⟨r, vs, er, a, b, c⟩ := h3 k hk
  exact ⟨r, vs, er, a, hs _ b, c⟩
theorem LawAt.mono {g : Gram} {σ σ' : Led} {la lp le : Addr} (hs : ∀ y ∈ σ, y ∈ σ') (h : LawAt g σ la lp le) : LawAt g σ' la lp le := by
  obtain ⟨⟨xs, em, a, b⟩, ⟨pts, ep, c, d⟩, e⟩ := h
  refine ⟨⟨xs, em, hs _ a, b⟩, ⟨pts, ep, hs _ c, fun k e he => ?_⟩, e.mono hs⟩
  obtain ⟨pt, x, y⟩ := d k e he
  exact ⟨pt, x, y.mono hs⟩
/-- what _law_laid answers of a node of the k-th expression -/
def LaidC (w : World) (g : Gram) (la lp le : Addr) (k : Nat) : Prop :=
  ∀ {w : World} {p : Program} {loose : List PySem.Str} {mean : ExcName → Option Value} {mg mb : PySem.Str → Option Value}
    {dp un : Nat} {gd : Option (List Code)} {cn : PySem.Str} {cs : Scope} {a : Addr} {ccd : Value} {cl : List (PySem.Str × Addr)} {outer : List Env} {A₀ : Around} {base h₀ : Heap} {L : Addr} {m : PySem.Str → Option Value} {s : Shared}
    {Q E : Value → Shared → Prop} {ns : Led} {memo : Nat → Nat → Option Value} {e : Ex} {q f a' : Nat} {kk : Int} {tk0 tx : Tok},
    Below A₀ base outer h₀ → Fr h₀ L s.heap m → (hd3.heap_39 w.params).In h₀ → Top p loose mean mg mb h₀ → cs.kind = .function → News h₀ L s.heap ns → LawAt g ns la lp le → GOk g → (∀ j q v e', memo j q = some v → g.ex[j]? = some e' → ValOk g memo ns e' j q v) →
    g.ex[k]? = some e → kk = (k : Int) → g.sem k q = some f → q < g.text.length → f < g.text.length → NodeAt g memo ns e k q f a' → dp + 5 * (k + 1) < recursionLimit → un + 60 * (k + 1) < cLine →
    (∀ h' tk', Fr h₀ L h' m → News h₀ L h' ns → Q (.bool true) { s with heap := h', toks := tk' }) →
    wpAny (model (PySem.Challenge.rw_vy0013_03).row.prog w) (ktrTop dp un gd cn cs L a ccd cl outer) (call (.ref 523) [.ref a', .int kk tk0, .ref la, .ref lp, .ref le, .str g.text tx]) Q E s
theorem meth_matchB {w : World} {A : Around} {E : Value → Shared → Prop} {s : Shared} {h₀ : Heap} {L : Addr} {m : PySem.Str → Option Value} {ns δ ι : Led} {g : Gram} {os : Nat → List (Int × Addr)} {j : Nat} {pl : Sem Bool} {Q : Value × List Value → Shared → Prop}
    (F : Fr h₀ L s.heap m) (X : (hd3.heap_39 w.params).In h₀) (N : News h₀ L s.heap ns) (BI : BInv g os δ ι) (hs : ∀ x ∈ δ ++ ι, x ∈ ns) (hj : j < g.ex.length) (h : Q (.ref 259, [.ref (g.xa j)]) s) :
    wpAny (model (PySem.Challenge.rw_vy0013_03).row.prog w) A (getMethod (.ref (g.xa j)) (PySem.Str.ofString "match") pl) Q E s := by
  obtain ⟨od, hod, ho⟩ := BI.dicts j hj
  have N' : News h₀ L s.heap (δ ++ ι) := news_sub N hs
  obtain ⟨e, he⟩ : ∃ e, g.ex[j]? = some e := ⟨_, List.getElem?_eq_getElem hj⟩
  obtain ⟨Cc, sl, hxi, hC⟩ := ex_inst (BI.exprs j e he)
  obtain ⟨es, n, rfl, hg⟩ : ∃ es n, od = dictOf es n ∧ getL (PySem.Str.ofString "match") es = some none := by
    rcases ho with ⟨_, rfl⟩ | ⟨_, _, _, _, _, rfl, _⟩
    · exact ⟨_, _, rfl, rfl⟩
    · exact ⟨_, _, rfl, rfl⟩
  have I := InstAt.of_news N' (List.mem_append_right _ hxi) (List.mem_append_left _ hod)
  rcases hC with rfl | rfl | rfl | rfl | rfl
  · exact method_inst F X I (by k_is) (by k_is) (by k_is) hg h
  · exact method_inst F X I (by k_is) (by k_is) (by k_is) hg h
  · exact method_inst F X I (by k_is) (by k_is) (by k_is) hg h
  · exact method_inst F X I (by k_is) (by k_is) (by k_is) hg h
  · exact method_inst F X I (by k_is) (by k_is) (by k_is) hg h
theorem law_sub {ρ ι δ' ι' : Led} (h : ∀ x ∈ ι, x ∈ ι') : ∀ y ∈ ρ ++ ι, y ∈ ρ ++ (δ' ++ ι') := fun y hy => by
  simp only [List.mem_append] at hy ⊢
  exact hy.elim .inl fun z => .inr (.inr (h y z))
theorem LawAt.last {g : Gram} {σ : Led} {la lp le : Addr} {k q : Nat} (LA : LawAt g σ la lp le) (hk : k < g.ex.length) (hq : q < g.text.length) (j : Nat) (hj : j = k) :
    ∃ (rs : List Addr) (ep : Nat) (r : Addr) (vs : List Value) (er : Nat) (t : Tok), (le, W.listOf (rs.map Value.ref).toArray ep) ∈ σ ∧ (rs.map Value.ref)[j]? = some (.ref r) ∧ (r, W.listOf vs.toArray er) ∈ σ ∧ vs[q]? = some (.int (endI (g.sem k q)) t) := by
  subst hj
  obtain ⟨rs, ep, h1, h2⟩ := LA.ends.get
  obtain ⟨r, vs, er, a, b, c⟩ := h2 j hk
  obtain ⟨t, d⟩ := b q hq
  exact ⟨rs, ep, r, vs, er, t, h1, c, a, d⟩
theorem laid_use {k : Nat} {w : World} {p : Program} {loose : List PySem.Str} {mean : ExcName → Option Value} {mg mb : PySem.Str → Option Value}
    {dp un : Nat} {gd : Option (List Code)} {cn : PySem.Str} {cs : Scope} {a : Addr} {ccd : Value} {cl : List (PySem.Str × Addr)} {outer : List Env} {A₀ : Around} {base h₀ : Heap} {L : Addr} {m : PySem.Str → Option Value} {s : Shared}
    {Q E : Value → Shared → Prop} {g : Gram} {la lp le : Addr} {ns : Led} {memo : Nat → Nat → Option Value} {e : Ex} {q f a' : Nat} {kk : Int} {tk0 tx : Tok} (LC : LaidC w g la lp le k)
    (B : Below A₀ base outer h₀) (F : Fr h₀ L s.heap m) (X : (hd3.heap_39 w.params).In h₀) (T : Top p loose mean mg mb h₀) (hk : cs.kind = .function) (na : NodeAt g memo ns e k q f a') (N : News h₀ L s.heap ns) (LA : LawAt g ns la lp le) (G : GOk g) (vo : ∀ j q v e', memo j q = some v → g.ex[j]? = some e' → ValOk g memo ns e' j q v)
    (he : g.ex[k]? = some e) (ek : kk = (k : Int)) (hs : g.sem k q = some f) (hq : q < g.text.length) (hf : f < g.text.length) (hd : dp + 5 * (k + 1) < recursionLimit) (hu : un + 60 * (k + 1) < cLine)
    (ret : ∀ h' tk', Fr h₀ L h' m → News h₀ L h' ns → Q (.bool true) { s with heap := h', toks := tk' }) :
    wpAny (model (PySem.Challenge.rw_vy0013_03).row.prog w) (ktrTop dp un gd cn cs L a ccd cl outer) (call (.ref 523) [.ref a', .int kk tk0, .ref la, .ref lp, .ref le, .str g.text tx]) Q E s :=
  LC B F X T hk N LA G vo he ek hs hq hf na hd hu ret
theorem NodeAt.up {g : Gram} {memo : Nat → Nat → Option Value} {σ σ' : Led} {e : Ex} {k p f a : Nat} (h : NodeAt g memo σ e k p f a) (hs : ∀ y ∈ σ, y ∈ σ') : NodeAt g memo σ' e k p f a := by
  obtain ⟨dx, od, cl, ep, bs, tp, te, h1, h2, h3, h4⟩ := h
  exact ⟨dx, od, cl, ep, bs, tp, te, hs _ h1, hs _ h2, hs _ h3, h4⟩
theorem node_up {g : Gram} {memo : Nat → Nat → Option Value} {ρ δ ι : Led} {e : Ex} {k p f a : Nat} (_S : Sep ρ (δ ++ ι)) (h : NodeAt g memo ι e k p f a) : NodeAt g memo (ρ ++ (δ ++ ι)) e k p f a := h.up fun _ hy => List.mem_append_right _ (List.mem_append_right _ hy)
theorem val_up {g : Gram} {memo : Nat → Nat → Option Value} {ρ δ ι : Led} (_S : Sep ρ (δ ++ ι)) (h : ∀ (j q : Nat) v e', memo j q = some v → g.ex[j]? = some e' → ValOk g memo ι e' j q v) : ∀ (j q : Nat) v e', memo j q = some v → g.ex[j]? = some e' → ValOk g memo (ρ ++ (δ ++ ι)) e' j q v :=
  fun j q v e' h1 h2 => (h j q v e' h1 h2).mono .refl fun _ hy => List.mem_append_right _ (List.mem_append_right _ hy)
def ZipStop (P : Prop) : Prop := P
theorem ZipStop.of {P : Prop} (h : ZipStop P) : P := h
def chainAt (sem : Nat → Nat → Option Nat) : List (Nat × Nat) → Nat → Nat → Prop
  | [], p, f => p = f
  | c :: l, p, f => c.2 = p ∧ ∃ e, sem c.1 p = some e ∧ chainAt sem l e f
theorem chain_seq {sem : Nat → Nat → Option Nat} : ∀ (ks : List Nat) (p f : Nat), seqEnd sem ks p = some f → chainAt sem (seqAsks sem ks p) p f
  | [], p, f, h => by rw [seqEnd] at h; exact Option.some.inj h
  | k :: r, p, f, h => by
    rw [seqEnd] at h
    cases hk : sem k p with
    | none => rw [hk] at h; cases h
    | some e => rw [hk] at h; rw [seqAsks, hk]; exact ⟨rfl, e, hk, chain_seq r e f h⟩
theorem chain_alt {sem : Nat → Nat → Option Nat} : ∀ (ks : List Nat) (p f : Nat), altEnd sem ks p = some f → chainAt sem (altKids sem ks p) p f
  | [], p, f, h => by rw [altEnd] at h; cases h
  | k :: r, p, f, h => by
    rw [altEnd] at h
    cases hk : sem k p with
    | none => rw [hk] at h; rw [altKids, hk]; exact chain_alt r p f h
    | some e => rw [hk] at h; cases h; rw [altKids, hk]; exact ⟨rfl, _, hk, rfl⟩
theorem chain_rep {sem : Nat → Nat → Option Nat} {size k mn : Nat} {mx : Option Nat} : ∀ (n c p : Nat), chainAt sem (repRun sem size k mn mx n c p).kids p (repRun sem size k mn mx n c p).fin
  | 0, _, _ => rfl
  | n + 1, c, p => by
    rw [repRun]
    split
    · cases hk : sem k p with
      | none => exact rfl
      | some e =>
        dsimp only
        split
        · rename_i h; exact ⟨rfl, e, hk, h.2⟩
        · exact ⟨rfl, e, hk, chain_rep n (c + 1) e⟩
    · exact rfl
/-- the i-th child of a node -/
theorem kid_at {g : Gram} {memo : Nat → Nat → Option Value} {σ : Led} {kd : List (Nat × Nat)} {bs : List Addr} {i f : Nat} {c : Nat × Nat} {p : Nat} (hm : kd.map (fun q => memo q.1 q.2) = bs.map fun b => some (.ref b)) (vo : ∀ (j q : Nat) v e', memo j q = some v → g.ex[j]? = some e' → ValOk g memo σ e' j q v)
    (hc : kd[i]? = some c) (hk : c.1 < g.ex.length) (hch : chainAt g.sem (kd.drop i) p f) : ∃ b ec e, bs[i]? = some b ∧ (bs.map Value.ref)[i]? = some (.ref b) ∧ g.ex[c.1]? = some ec ∧ g.sem c.1 p = some e ∧ NodeAt g memo σ ec c.1 p e b ∧ chainAt g.sem (kd.drop (i + 1)) e f := by
  rw [drop_getElem hc] at hch
  obtain ⟨rfl, e, he, hrest⟩ := hch
  have h1 : (kd.map fun q => memo q.1 q.2)[i]? = some (memo c.1 c.2) := by rw [List.getElem?_map, hc]; rfl
  rw [hm, List.getElem?_map] at h1
  obtain ⟨b, hb, hb'⟩ := Option.map_eq_some_iff.mp h1
  have hec : g.ex[c.1]? = some g.ex[c.1] := List.getElem?_eq_getElem hk
  have hv := vo c.1 c.2 (.ref b) _ hb'.symm hec
  unfold ValOk at hv
  rw [he] at hv
  obtain ⟨a, ha, hn⟩ := hv
  cases ha
  exact ⟨b, _, e, hb, by rw [List.getElem?_map, hb]; rfl, hec, he, hn, hrest⟩
theorem repRun_cnt {sem : Nat → Nat → Option Nat} {size k mn : Nat} {mx : Option Nat} : ∀ (n c p : Nat), (repRun sem size k mn mx n c p).cnt = c + (repRun sem size k mn mx n c p).kids.length ∧ (∀ q ∈ (repRun sem size k mn mx n c p).kids, q.1 = k) ∧ (repRun sem size k mn mx n c p).kids.length ≤ n ∧ ∀ x, mx = some x → c ≤ x → c + (repRun sem size k mn mx n c p).kids.length ≤ x
  | 0, c, p => ⟨rfl, (fun _ h => (nomatch h)), Nat.zero_le _, fun x _ h => h⟩
  | n + 1, c, p => by
    rw [repRun]
    split
    · rename_i hcap
      have hcx : ∀ x, mx = some x → c + 1 ≤ x := fun x e => by
        have := hcap.2
        rw [e] at this
        exact of_decide_eq_true this
      cases hk : sem k p with
      | none => exact ⟨rfl, (fun _ h => (nomatch h)), Nat.zero_le _, fun x _ h => h⟩
      | some e =>
        dsimp only
        split
        · exact ⟨rfl, fun q hq => by rw [List.mem_singleton.mp hq], Nat.succ_le_succ (Nat.zero_le _), fun x e _ => hcx x e⟩
        · obtain ⟨h1, h2, h3, h4⟩ := repRun_cnt (sem := sem) (size := size) (k := k) (mn := mn) (mx := mx) n (c + 1) e
          refine ⟨?_, fun q hq => ?_, ?_, fun x e' _ => ?_⟩
          · simp only [List.length_cons]; rw [h1]; omega
          · rcases List.mem_cons.mp hq with rfl | hq
            · rfl
            · exact h2 q hq
          · simp only [List.length_cons]; omega
          · have := h4 x e' (hcx x e'); simp only [List.length_cons]; omega
    · exact ⟨rfl, (fun _ h => (nomatch h)), Nat.zero_le _, fun x _ h => h⟩
theorem rep_kids {sem : Nat → Nat → Option Nat} {T : PySem.Str} {j mn : Nat} {mx : Option Nat} {q f : Nat} (h : (Ex.rep j mn mx).fin sem T q = some f) (hmx : ∀ x, mx = some x → mn ≤ x ∧ x ≤ 4) (h1 : T.length ≤ 1000) (h2 : mn ≤ 2) :
    mn ≤ ((Ex.rep j mn mx).kids sem T.length q).length ∧ (∀ x, mx = some x → ((Ex.rep j mn mx).kids sem T.length q).length ≤ x) ∧ chainAt sem ((Ex.rep j mn mx).kids sem T.length q) q f ∧ (∀ c ∈ (Ex.rep j mn mx).kids sem T.length q, c.1 = j) ∧ ((Ex.rep j mn mx).kids sem T.length q).length ≤ 2000 := by
  obtain ⟨a, b, c, d⟩ := repRun_cnt (sem := sem) (size := T.length) (k := j) (mn := mn) (mx := mx) (repFuel T.length mn) 0 q
  have h : (if mn ≤ (repRun sem T.length j mn mx (repFuel T.length mn) 0 q).cnt then some (repRun sem T.length j mn mx (repFuel T.length mn) 0 q).fin else none) = some f := h
  have hch := chain_rep (sem := sem) (size := T.length) (k := j) (mn := mn) (mx := mx) (repFuel T.length mn) 0 q
  split at h
  · rename_i hc
    cases h
    refine ⟨by rw [a] at hc; simpa [Ex.kids] using hc, fun x e => by have := d x e (Nat.zero_le _); simpa [Ex.kids] using this, hch, b, ?_⟩
    have : repFuel T.length mn ≤ 2000 := by unfold repFuel; omega
    exact Nat.le_trans c this
  · cases h
theorem flat_rep {α : Type} (v : α) : ∀ n : Nat, (List.replicate n [v]).flatten = List.replicate n v
  | 0 => rfl
  | n + 1 => by rw [List.replicate_succ, List.flatten_cons, flat_rep v n]; rfl

section
local macro_rules | `(tactic| walk_at "zz0") => `(tactic| fail)
local macro_rules | `(tactic| walk_at "zz1") => `(tactic| fail)
local macro_rules | `(tactic| walk_at "zz2") => `(tactic| fail)
local macro_rules | `(tactic| walk_at "zz3") => `(tactic| fail)
local macro_rules | `(tactic| walk_at "zz4") => `(tactic| fail)
local macro_rules | `(tactic| walk_at "zz5") => `(tactic| fail)
local macro_rules | `(tactic| walk_at "zz6") => `(tactic| fail)
local macro_rules | `(tactic| walk_at "zz7") => `(tactic| fail)
local macro_rules | `(tactic| walk_at "zz8") => `(tactic| fail)
theorem begin_lmatched (M : Model) (A : Around) (Q E : Value → Shared → Prop) (s : Shared) : True := by
  w_top off
  first | (have h : ∀ t : Sem Value, wpAny M A t Q E s := by (intro t; walk1; fail); trivial) | trivial
end
section
local macro_rules | `(tactic| kwd_inv) => `(tactic| (refine' code_defS0X ?k1 ?k2 ?k3 ?k4 ?k5 ?kA ?kF ?kK ?k6 ?k7 ?k8 ?k9 ?kB ?_ ?c2 ?c3 ?c4 ?c5; (case kA => exact rfl); (case kF => exact rfl); (case kK => first | assumption | exact rfl); (case k2 => k_asm); (case k1 => k_asm); (case k3 => k_asm); (case k4 => k_asm); (case k5 => k_asm); (case k6 => k_is); (case k7 => k_is); (case k8 => k_room); (case k9 => first | exact BindsTo.of_eq rfl | exact binds_K (by k_in) rfl (by k_is) rfl rfl rfl); (case kB => exact locs rfl); (case c2 => exact rfl); (case c3 => exact rfl); (case c4 => exact rfl); (case c5 => decide); k_whole; intro g' L' h' FG' F' N' B' X' T' D'; (try dsimp only); (try k_fold)))
local macro_rules | `(tactic| walk_at "getMethod ref") => `(tactic| (k_here; (with_reducible show wpAny _ _ (getMethod (Value.ref (Gram.xa _ _)) (PySem.Str.ofString "match") _) _ _ _); k_dflt (refine' meth_matchB ?F ?X ?N ?C ?hs ?hj ?_; (case F => k_asm); (case X => k_asm); (case C => assumption); (case N => k_asm); (case hs => (intro x hx; simp only [List.mem_append] at hx ⊢; rcases hx with h | h <;> simp [h])); (case hj => omega))))
local macro_rules | `(tactic| walk_at "call builtin:len") => `(tactic| (k_here; (with_reducible show wpAny _ _ (call (Value.builtin "len") [Value.ref _]) _ _ _); k_dflt (refine' len_led ?N ?m ?f ?_; (case N => k_asm); (case m => tb_rel); (case f => omega))))
local macro_rules | `(tactic| walk_at "call ref") => `(tactic| (k_here; (with_reducible show wpAny _ _ (call (Value.ref 259) _) _ _ _); k_dflt (refine' pmatch ?B ?F ?X ?T ?hk ?N ?S ?BI ?G ?h1 ?h2 ?hd ?hu ?ok ?no; (case S => assumption); (case BI => assumption); (case B => k_asm); (case F => k_asm); (case X => k_asm); (case T => k_asm); (case hk => first | assumption | exact rfl); (case N => k_asm); (case G => assumption); (case h1 => omega); (case h2 => omega); (case hd => k_room); (case hu => k_units); (case' ok => (intro f9 a9 memo9 e9 os9 de9 io9 h' tk' he9 hs9 F' N' S9 BI9 hi9 na9 vo9; (have LA9 := LawAt.mono (law_sub (ρ := _) (δ' := de9) hi9) (by assumption)); (have na8 := na9); (obtain ⟨dx9, od9, cl9, ep9, bs9, tp9, te9, hn1, hn2, hn3, hn4⟩ := na9))); (case' no => (intro hs9 x9 G9 os9 de9 io9 h' tk' R9 FG9 U9 S9 BI9 hi9; (have LA9 := LawAt.mono (law_sub (ρ := _) (δ' := de9) hi9) (by assumption)))))))
local macro_rules | `(tactic| walk_at "call ref") => `(tactic| (k_here; (with_reducible show wpAny _ _ (call (Value.ref 523) _) _ _ _); k_dflt (refine' laid_use ?LC ?B ?F ?X ?T ?hk ?na ?N ?LA ?G ?vo ?he ?ek ?hs ?hq ?hf ?hd ?hu ?_; (case LC => assumption); (case na => assumption); (case B => k_asm); (case F => k_asm); (case X => k_asm); (case T => k_asm); (case hk => first | assumption | exact rfl); (case N => k_asm); (case LA => assumption); (case G => assumption); (case vo => assumption); (case he => assumption); (case ek => omega); (case hs => assumption); (case hq => assumption); (case hf => assumption); (case hd => k_room); (case hu => k_units); intro h' tk' F' N'; (try k_sweep); (try k_fold))))
theorem l_matched {w : World} {p : Program} {loose : List PySem.Str} {mean : ExcName → Option Value} {mg mb : PySem.Str → Option Value}
    {dp un : Nat} {gd : Option (List Code)} {cn : PySem.Str} {cs : Scope} {a : Addr} {ccd : Value} {cl : List (PySem.Str × Addr)} {A₀ : Around} {base h₀ : Heap} {L : Addr} {m : PySem.Str → Option Value} {s : Shared} {Q E : Value → Shared → Prop}
    {g : Gram} {os : Nat → List (Int × Addr)} {ρ δ ι : Led} {la lp le : Addr} {k q : Nat} {tp : Tok}
    (B : Below A₀ base [] h₀) (F : Fr h₀ L s.heap m) (X : (hd3.heap_39 w.params).In h₀) (T : Top p loose mean mg mb h₀) (hk : cs.kind = .function) (XB : (hd3.heap_39 w.params).In base) (TB : Top p loose mean mg mb base)
    (N : News h₀ L s.heap (ρ ++ (δ ++ ι))) (hS : Sep ρ (δ ++ ι)) (BI : BInv g os δ ι) (G : GOk g) (hkl : g.ex.length = k + 1) (hq : q < g.text.length) (LA : LawAt g (ρ ++ ι) la lp le) (LC : LaidC w g la lp le k)
    (hR : ∀ f, g.sem k q = some f → f < g.text.length) (hd : dp + 20 * (k + 1) + 30 < recursionLimit) (hu : un + 200 * (k + 1) + 300 < cLine)
    (ret : ∀ os' δ' ι' h' tk', Fr h₀ L h' m → News h₀ L h' (ρ ++ (δ' ++ ι')) → Sep ρ (δ' ++ ι') → BInv g.next os' δ' ι' → (∀ x ∈ ι, x ∈ ι') → Q (.bool true) { s with heap := h', toks := tk' }) :
    wpAny (model (PySem.Challenge.rw_vy0013_03).row.prog w) (ktrTop dp un gd cn cs L a ccd cl []) (call (.ref 530) [.ref la, .ref lp, .ref le, .str g.text g.tt, .int q tp]) Q E s := by
  have LA1 : LawAt g (ρ ++ (δ ++ ι)) la lp le := LA.mono fun y hy => by
    simp only [List.mem_append] at hy ⊢
    exact hy.elim .inl fun h => .inr (.inr h)
  obtain ⟨⟨xs, em, hla, hxl, hxs⟩, -, hends⟩ := LA1
  have hKk : ((xs.length : Int) - 1).toNat = k := by omega
  have hxk : (xs.map Value.ref)[((xs.length : Int) - 1).toNat]? = some (.ref (g.xa k)) := by rw [hKk]; exact hxs k (by omega)
  have hlt : g.ex.length ≤ 100 := G.few
  have hn := G.small
  refine wpAny_call ?_
  kwd_inv
  k_steps
  · rename LawAt _ _ _ _ _ => LA9
    rename g.sem k q = none => hs9
    obtain ⟨rs9, ep9, r9, vs9, er9, t9, hr1, hr2, hr3, hr4⟩ := LA9.last (k := k) (q := q) (by omega) hq _ hKk
    rw [hs9] at hr4
    dsimp only [endI] at hr4
    rename BInv _ _ _ _ => BI9
    rename Sep _ _ => S9
    rename (∀ x ∈ ι, x ∈ _) => hi9
    k_steps
    (rename News h₀ _ _ _ => N9)
    exact ret _ _ _ _ _ (by k_asm) N9 S9 BI9 hi9
  · rename LawAt _ _ _ _ _ => LA9
    rename g.sem k q = some _ => hs9
    obtain ⟨rs9, ep9, r9, vs9, er9, t9, hr1, hr2, hr3, hr4⟩ := LA9.last (k := k) (q := q) (by omega) hq _ hKk
    rw [hs9] at hr4
    dsimp only [endI] at hr4
    have hf9 := hR _ hs9
    rename NodeAt _ _ _ _ _ _ _ _ => na8
    rename (∀ j q v e', _ = some v → _ → ValOk _ _ _ _ _ _ _) => vo9
    rename BInv _ _ _ _ => BI9
    rename Sep _ _ => S9
    replace na8 := node_up S9 na8
    replace vo9 := val_up S9 vo9
    rename (∀ x ∈ ι, x ∈ _) => hi9
    k_steps
    (rename News h₀ _ _ _ => N9)
    exact ret _ _ _ _ _ (by k_asm) N9 S9 BI9 hi9
end

local macro_rules | `(tactic| walk_at "exec For Tuple Call cons nil") => `(tactic| (k_here; (rename Fr _ _ _ _ => lF'); k_dflt (refine For_turns lF' ?_)))
local macro_rules | `(tactic| walk_at "call type:zip") => `(tactic| (k_here; (with_reducible show wpAny _ _ (call _ [Value.ref _, Value.ref _]) _ _ _); k_dflt (refine' ktu_zip ?hh ?F ?N ?m1 ?c1 ?d1 ?m2 ?c2 ?d2 ?rest; (case hh => first | assumption | exact rfl); (case F => k_asm); (case N => k_asm); (case m1 => tb_rel); (case c1 => exact rfl); (case d1 => exact rfl); (case m2 => tb_rel); (case c2 => exact rfl); (case d2 => exact rfl); (case' rest => refine ZipStop.of ?_))))
local macro_rules | `(tactic| walk_at "call builtin:len") => `(tactic| (k_here; (with_reducible show wpAny _ _ (call (Value.builtin "len") [Value.ref _]) _ _ _); k_dflt (refine' len_led ?N ?m ?f ?_; (case N => k_asm); (case m => tb_rel); (case f => omega))))
local macro_rules | `(tactic| kwd_less) => `(tactic| first | unfold ZipStop | (refine' ktu_zip ?hh ?F ?N ?m1 ?c1 ?d1 ?m2 ?c2 ?d2 ?rest; (case hh => first | assumption | exact rfl); (case F => k_asm); (case N => k_asm); (case m1 => tb_rel); (case c1 => exact rfl); (case d1 => exact rfl); (case m2 => tb_rel); (case c2 => exact rfl); (case d2 => exact rfl)))
local macro_rules | `(tactic| walk_at "call ref") => `(tactic| (k_here; (with_reducible show wpAny _ _ (call (Value.ref 523) _) _ _ _); k_dflt (refine' laid_use ?LC ?B ?F ?X ?T ?hk ?na ?N ?LA ?G ?vo ?he ?ek ?hs ?hq ?hf ?hd ?hu ?_; (case LC => assumption); (case na => assumption); (case B => k_asm); (case F => k_asm); (case X => k_asm); (case T => k_asm); (case hk => first | assumption | exact rfl); (case N => k_asm); (case LA => assumption); (case G => assumption); (case vo => assumption); (case he => assumption); (case ek => omega); (case hs => assumption); (case hq => assumption); (case hf => assumption); (case hd => k_room); (case hu => k_units); intro h' tk' F' N'; (try k_sweep); (try k_fold))))

section
local macro_rules | `(tactic| walk_at "zz0") => `(tactic| fail)
local macro_rules | `(tactic| walk_at "zz1") => `(tactic| fail)
local macro_rules | `(tactic| walk_at "zz2") => `(tactic| fail)
local macro_rules | `(tactic| walk_at "zz3") => `(tactic| fail)
local macro_rules | `(tactic| walk_at "zz4") => `(tactic| fail)
local macro_rules | `(tactic| walk_at "zz5") => `(tactic| fail)
local macro_rules | `(tactic| walk_at "zz6") => `(tactic| fail)
local macro_rules | `(tactic| walk_at "zz7") => `(tactic| fail)
local macro_rules | `(tactic| walk_at "zz8") => `(tactic| fail)
theorem begin_llaid (M : Model) (A : Around) (Q E : Value → Shared → Prop) (s : Shared) : True := by
  w_top off
  first | (have h : ∀ t : Sem Value, wpAny M A t Q E s := by (intro t; walk1; fail); trivial) | trivial
end
section
theorem laid_lit {w : World} {p : Program} {loose : List PySem.Str} {mean : ExcName → Option Value} {mg mb : PySem.Str → Option Value}
    {dp un : Nat} {gd : Option (List Code)} {cn : PySem.Str} {cs : Scope} {a : Addr} {ccd : Value} {cl : List (PySem.Str × Addr)} {outer : List Env} {A₀ : Around} {base h₀ : Heap} {L : Addr} {m : PySem.Str → Option Value} {s : Shared}
    {Q E : Value → Shared → Prop} {g : Gram} {la lp le : Addr} {ns : Led} {memo : Nat → Nat → Option Value} {wd : PySem.Str} {k q f a' : Nat} {kk : Int} {tk0 tx : Tok}
    (B : Below A₀ base outer h₀) (F : Fr h₀ L s.heap m) (X : (hd3.heap_39 w.params).In h₀) (T : Top p loose mean mg mb h₀) (hk : cs.kind = .function) (N : News h₀ L s.heap ns) (LA : LawAt g ns la lp le) (G : GOk g) (vo : ∀ j q v e', memo j q = some v → g.ex[j]? = some e' → ValOk g memo ns e' j q v)
    (he : g.ex[k]? = some (.lit wd)) (ek : kk = (k : Int)) (hs : g.sem k q = some f) (hq : q < g.text.length) (hf : f < g.text.length) (na : NodeAt g memo ns (.lit wd) k q f a') (hd : dp + 5 * (k + 1) < recursionLimit) (hu : un + 60 * (k + 1) < cLine)
    (hLC : ∀ j, j < k → LaidC w g la lp le j) (hR : ∀ j, j < k → ∀ q e, q < g.text.length → g.sem j q = some e → q ≤ e ∧ e < g.text.length) (okx : ExOk (.lit wd))
    (ret : ∀ h' tk', Fr h₀ L h' m → News h₀ L h' ns → Q (.bool true) { s with heap := h', toks := tk' }) :
    wpAny (model (PySem.Challenge.rw_vy0013_03).row.prog w) (ktrTop dp un gd cn cs L a ccd cl outer) (call (.ref 523) [.ref a', .int kk tk0, .ref la, .ref lp, .ref le, .str g.text tx]) Q E s := by
  have hkl : k < g.ex.length := (List.getElem?_eq_some_iff.mp he).1
  have hfew := G.few
  have hsm := G.small
  have hkk : kk.toNat = k := by omega
  have hbel := G.below k _ he
  have hfn := G.sem k _ q he (Nat.le_of_lt hq)
  rw [hs] at hfn
  have LA0 := LA
  obtain ⟨rs9, ep9, hr1, hrow⟩ := LA.ends.get
  obtain ⟨r9, vs9, er9, hr3, hv9, hr2⟩ := hrow k hkl
  obtain ⟨t9, hr4⟩ := hv9 q hq
  replace hr2 : (rs9.map Value.ref)[kk.toNat]? = some (.ref r9) := by rw [hkk]; exact hr2
  obtain ⟨⟨xs, em, hla, hxl, hxs⟩, ⟨pts, ep, hlp, hpts⟩, -⟩ := LA
  have hxk : (xs.map Value.ref)[kk.toNat]? = some (.ref (g.xa k)) := by rw [hkk]; exact hxs k hkl
  obtain ⟨pt, hptk, hpt⟩ := hpts k _ he
  replace hptk : (pts.map Value.ref)[kk.toNat]? = some (.ref pt) := by rw [hkk]; exact hptk
  rw [hs] at hr4
  dsimp only [endI] at hr4
  obtain ⟨dx9, od9, cl9, ep9, bs9, tp9, te9, hn1, hn2, hn3, hn4⟩ := na
  obtain ⟨t1, t2, hpt⟩ := hpt
  have hb0 : bs9 = [] := by cases bs9 with
    | nil => rfl
    | cons _ _ => simp [Ex.kids] at hn4
  subst hb0
  k_steps
  all_goals try (exfalso; first | (have h9 : (g.text != g.text) = true := by assumption); simp at h9; done | (have h9 : (f : Int) ≠ (f : Int) := by assumption); exact h9 rfl)
  kwd_less
  intro I hI
  refine ItemsRest.zero fun h tk F₁ N₁ => ?_
  dsimp only
  k_steps
  simp only [beq_self_eq_true]
  rename News h₀ _ _ _ => N9
  exact ret _ _ (by k_asm) (fun p hp => N9 p (.tail _ hp))
theorem laid_look {w : World} {p : Program} {loose : List PySem.Str} {mean : ExcName → Option Value} {mg mb : PySem.Str → Option Value}
    {dp un : Nat} {gd : Option (List Code)} {cn : PySem.Str} {cs : Scope} {a : Addr} {ccd : Value} {cl : List (PySem.Str × Addr)} {outer : List Env} {A₀ : Around} {base h₀ : Heap} {L : Addr} {m : PySem.Str → Option Value} {s : Shared}
    {Q E : Value → Shared → Prop} {g : Gram} {la lp le : Addr} {ns : Led} {memo : Nat → Nat → Option Value} {j9 : Nat} {b9 : Bool} {k q f a' : Nat} {kk : Int} {tk0 tx : Tok}
    (B : Below A₀ base outer h₀) (F : Fr h₀ L s.heap m) (X : (hd3.heap_39 w.params).In h₀) (T : Top p loose mean mg mb h₀) (hk : cs.kind = .function) (N : News h₀ L s.heap ns) (LA : LawAt g ns la lp le) (G : GOk g) (vo : ∀ j q v e', memo j q = some v → g.ex[j]? = some e' → ValOk g memo ns e' j q v)
    (he : g.ex[k]? = some (.look b9 j9)) (ek : kk = (k : Int)) (hs : g.sem k q = some f) (hq : q < g.text.length) (hf : f < g.text.length) (na : NodeAt g memo ns (.look b9 j9) k q f a') (hd : dp + 5 * (k + 1) < recursionLimit) (hu : un + 60 * (k + 1) < cLine)
    (hLC : ∀ j, j < k → LaidC w g la lp le j) (hR : ∀ j, j < k → ∀ q e, q < g.text.length → g.sem j q = some e → q ≤ e ∧ e < g.text.length) (okx : ExOk (.look b9 j9))
    (ret : ∀ h' tk', Fr h₀ L h' m → News h₀ L h' ns → Q (.bool true) { s with heap := h', toks := tk' }) :
    wpAny (model (PySem.Challenge.rw_vy0013_03).row.prog w) (ktrTop dp un gd cn cs L a ccd cl outer) (call (.ref 523) [.ref a', .int kk tk0, .ref la, .ref lp, .ref le, .str g.text tx]) Q E s := by
  have hkl : k < g.ex.length := (List.getElem?_eq_some_iff.mp he).1
  have hfew := G.few
  have hsm := G.small
  have hkk : kk.toNat = k := by omega
  have hbel := G.below k _ he
  have hfn := G.sem k _ q he (Nat.le_of_lt hq)
  rw [hs] at hfn
  have LA0 := LA
  obtain ⟨rs9, ep9, hr1, hrow⟩ := LA.ends.get
  obtain ⟨r9, vs9, er9, hr3, hv9, hr2⟩ := hrow k hkl
  obtain ⟨t9, hr4⟩ := hv9 q hq
  replace hr2 : (rs9.map Value.ref)[kk.toNat]? = some (.ref r9) := by rw [hkk]; exact hr2
  obtain ⟨⟨xs, em, hla, hxl, hxs⟩, ⟨pts, ep, hlp, hpts⟩, -⟩ := LA
  have hxk : (xs.map Value.ref)[kk.toNat]? = some (.ref (g.xa k)) := by rw [hkk]; exact hxs k hkl
  obtain ⟨pt, hptk, hpt⟩ := hpts k _ he
  replace hptk : (pts.map Value.ref)[kk.toNat]? = some (.ref pt) := by rw [hkk]; exact hptk
  rw [hs] at hr4
  dsimp only [endI] at hr4
  obtain ⟨dx9, od9, cl9, ep9, bs9, tp9, te9, hn1, hn2, hn3, hn4⟩ := na
  have hb0 : bs9 = [] := by cases bs9 with
    | nil => rfl
    | cons _ _ => simp [Ex.kids] at hn4
  subst hb0
  have hfq : f = q := by
    have h9 : some f = (if (g.sem j9 q).isNone = b9 then some q else none) := hfn
    split at h9
    · exact Option.some.inj h9
    · cases h9
  subst hfq
  cases b9 with
  | true =>
    obtain ⟨t1, t2, hpt⟩ := hpt
    k_steps
    all_goals try (exfalso; first | (have h9 : (g.text != g.text) = true := by assumption); simp at h9; done | (have h9 : (f : Int) ≠ (f : Int) := by assumption); exact h9 rfl)
    kwd_less
    intro I hI
    refine ItemsRest.zero fun h tk F₁ N₁ => ?_
    dsimp only
    k_steps
    all_goals try (exfalso; (have h9 : (q : Int) ≠ (q : Int) := by assumption); exact h9 rfl)
    all_goals try simp only [beq_self_eq_true]
    rename News h₀ _ _ _ => N9
    exact ret _ _ (by k_asm) (fun p hp => N9 p (.tail _ hp))
  | false =>
    obtain ⟨t1, t2, hpt⟩ := hpt
    k_steps
    all_goals try (exfalso; first | (have h9 : (g.text != g.text) = true := by assumption); simp at h9; done | (have h9 : (f : Int) ≠ (f : Int) := by assumption); exact h9 rfl)
    kwd_less
    intro I hI
    refine ItemsRest.zero fun h tk F₁ N₁ => ?_
    dsimp only
    k_steps
    all_goals try (exfalso; (have h9 : (q : Int) ≠ (q : Int) := by assumption); exact h9 rfl)
    all_goals try simp only [beq_self_eq_true]
    rename News h₀ _ _ _ => N9
    exact ret _ _ (by k_asm) (fun p hp => N9 p (.tail _ hp))
end

section
local macro_rules | `(tactic| walk_at "zz0") => `(tactic| fail)
local macro_rules | `(tactic| walk_at "zz1") => `(tactic| fail)
local macro_rules | `(tactic| walk_at "zz2") => `(tactic| fail)
local macro_rules | `(tactic| walk_at "zz3") => `(tactic| fail)
local macro_rules | `(tactic| walk_at "zz4") => `(tactic| fail)
local macro_rules | `(tactic| walk_at "zz5") => `(tactic| fail)
local macro_rules | `(tactic| walk_at "zz6") => `(tactic| fail)
local macro_rules | `(tactic| walk_at "zz7") => `(tactic| fail)
local macro_rules | `(tactic| walk_at "zz8") => `(tactic| fail)
theorem begin_llaidseq (M : Model) (A : Around) (Q E : Value → Shared → Prop) (s : Shared) : True := by
  w_top off
  first | (have h : ∀ t : Sem Value, wpAny M A t Q E s := by (intro t; walk1; fail); trivial) | trivial
end
section
theorem laid_seq {w : World} {p : Program} {loose : List PySem.Str} {mean : ExcName → Option Value} {mg mb : PySem.Str → Option Value}
    {dp un : Nat} {gd : Option (List Code)} {cn : PySem.Str} {cs : Scope} {a : Addr} {ccd : Value} {cl : List (PySem.Str × Addr)} {outer : List Env} {A₀ : Around} {base h₀ : Heap} {L : Addr} {m : PySem.Str → Option Value} {s : Shared}
    {Q E : Value → Shared → Prop} {g : Gram} {la lp le : Addr} {ns : Led} {memo : Nat → Nat → Option Value} {ks : List Nat} {k q f a' : Nat} {kk : Int} {tk0 tx : Tok}
    (B : Below A₀ base outer h₀) (F : Fr h₀ L s.heap m) (X : (hd3.heap_39 w.params).In h₀) (T : Top p loose mean mg mb h₀) (hk : cs.kind = .function) (N : News h₀ L s.heap ns) (LA : LawAt g ns la lp le) (G : GOk g) (vo : ∀ j q v e', memo j q = some v → g.ex[j]? = some e' → ValOk g memo ns e' j q v)
    (he : g.ex[k]? = some (.seq ks)) (ek : kk = (k : Int)) (hs : g.sem k q = some f) (hq : q < g.text.length) (hf : f < g.text.length) (na : NodeAt g memo ns (.seq ks) k q f a') (hd : dp + 5 * (k + 1) < recursionLimit) (hu : un + 60 * (k + 1) < cLine)
    (hLC : ∀ j, j < k → LaidC w g la lp le j) (hR : ∀ j, j < k → ∀ q e, q < g.text.length → g.sem j q = some e → q ≤ e ∧ e < g.text.length) (okx : ExOk (.seq ks))
    (ret : ∀ h' tk', Fr h₀ L h' m → News h₀ L h' ns → Q (.bool true) { s with heap := h', toks := tk' }) :
    wpAny (model (PySem.Challenge.rw_vy0013_03).row.prog w) (ktrTop dp un gd cn cs L a ccd cl outer) (call (.ref 523) [.ref a', .int kk tk0, .ref la, .ref lp, .ref le, .str g.text tx]) Q E s := by
  have hkl : k < g.ex.length := (List.getElem?_eq_some_iff.mp he).1
  have hfew := G.few
  have hsm := G.small
  have hkk : kk.toNat = k := by omega
  have hbel := G.below k _ he
  have hfn := G.sem k _ q he (Nat.le_of_lt hq)
  rw [hs] at hfn
  have LA0 := LA
  obtain ⟨rs9, ep9, hr1, hrow⟩ := LA.ends.get
  obtain ⟨r9, vs9, er9, hr3, hv9, hr2⟩ := hrow k hkl
  obtain ⟨t9, hr4⟩ := hv9 q hq
  replace hr2 : (rs9.map Value.ref)[kk.toNat]? = some (.ref r9) := by rw [hkk]; exact hr2
  obtain ⟨⟨xs, em, hla, hxl, hxs⟩, ⟨pts, ep, hlp, hpts⟩, -⟩ := LA
  have hxk : (xs.map Value.ref)[kk.toNat]? = some (.ref (g.xa k)) := by rw [hkk]; exact hxs k hkl
  obtain ⟨pt, hptk, hpt⟩ := hpts k _ he
  replace hptk : (pts.map Value.ref)[kk.toNat]? = some (.ref pt) := by rw [hkk]; exact hptk
  rw [hs] at hr4
  dsimp only [endI] at hr4
  obtain ⟨dx9, od9, cl9, ep9, bs9, tp9, te9, hn1, hn2, hn3, hn4⟩ := na
  obtain ⟨j1, j2, rfl⟩ : ∃ j1 j2, ks = [j1, j2] := by
    match ks, hpt with
    | [j1, j2], _ => exact ⟨j1, j2, rfl⟩
  obtain ⟨t1, t2, t3, hpt⟩ := hpt
  have hchain : chainAt g.sem (seqAsks g.sem [j1, j2] q) q f := chain_seq _ _ _ hfn.symm
  have hkd : (seqAsks g.sem [j1, j2] q).map (·.1) = [j1, j2] := by
    obtain ⟨_, e1, he1, hc1⟩ : (j1, q).2 = q ∧ ∃ e, g.sem j1 q = some e ∧ seqEnd g.sem [j2] e = some f := by
      cases h1 : g.sem j1 q with
      | none => rw [Ex.fin, seqEnd, h1] at hfn; cases hfn
      | some e => rw [Ex.fin, seqEnd, h1] at hfn; exact ⟨rfl, e, rfl, hfn.symm⟩
    rw [seqAsks, he1]
    dsimp only
    cases h2 : g.sem j2 e1 with
    | none => rw [seqEnd, h2] at hc1; cases hc1
    | some e2 => rw [seqAsks, h2]; rfl
  have hl2 : bs9.length = 2 := by
    have := congrArg List.length hn4
    have h2 := congrArg List.length hkd
    simp only [List.length_map] at this h2
    rw [← this]; exact h2
  k_steps
  all_goals try (exfalso; first | (have h9 : (g.text != g.text) = true := by assumption); simp at h9; done | (have h9 : (f : Int) ≠ (f : Int) := by assumption); exact h9 rfl)
  all_goals try (exfalso; omega)
  have hpv : ∀ (i : Nat) c, (seqAsks g.sem [j1, j2] q)[i]? = some c → ∃ t, ([Value.int j1 t2, Value.int j2 t3] : List Value)[i]? = some (.int (c.1 : Nat) t) := fun i c hc => by
    have h : ((seqAsks g.sem [j1, j2] q).map (·.1))[i]? = [j1, j2][i]? := by rw [hkd]
    rw [List.getElem?_map, hc] at h
    match i, h with
    | 0, h => simp at h; exact ⟨t2, by rw [h]; rfl⟩
    | 1, h => simp at h; exact ⟨t3, by rw [h]; rfl⟩
  have hpl : ([Value.int j1 t2, Value.int j2 t3] : List Value).length = (seqAsks g.sem [j1, j2] q).length := by
    have h := congrArg List.length hkd
    rw [List.length_map] at h
    rw [h]; rfl
  kwd_less
  intro I hI
  have hlen : bs9.length = (seqAsks g.sem [j1, j2] q).length := by
    have h := congrArg List.length hn4
    rw [List.length_map, List.length_map] at h
    exact h.symm
  refine items_inv (fun i m₁ nx => SubL _ nx ∧ (∀ y ∈ ns, y ∈ nx) ∧ (∀ y ∈ nx, y.1 < I) ∧ ∃ p₁ tp₁, chainAt g.sem ((seqAsks g.sem [j1, j2] q).drop i) p₁ f ∧ p₁ < g.text.length ∧ i ≤ (seqAsks g.sem [j1, j2] q).length ∧
    (∀ x ∈ [(PySem.Str.ofString "place", Value.int p₁ tp₁), (PySem.Str.ofString "node", Value.ref a'), (PySem.Str.ofString "made", Value.ref la), (PySem.Str.ofString "plan", Value.ref lp), (PySem.Str.ofString "ends", Value.ref le), (PySem.Str.ofString "text", Value.str g.text tx), (PySem.Str.ofString "step", Value.ref pt)], m₁ x.1 = some x.2) ∧
    ∀ y, ([PySem.Str.ofString "place", PySem.Str.ofString "node", PySem.Str.ofString "made", PySem.Str.ofString "plan", PySem.Str.ofString "ends", PySem.Str.ofString "text", PySem.Str.ofString "step"] ++ [PySem.Str.ofString "child", PySem.Str.ofString "part", PySem.Str.ofString "parts", PySem.Str.ofString "k"]).contains y = false → m₁ y = none) _ (fun _ _ _ h => h.1) ?turn ?done _ 0 rfl (Nat.zero_le _) _ _ ?init
  case init =>
    refine ⟨And.intro (by tb_rel) (And.intro (by tb_rel) trivial), fun y hy => by ((repeat refine List.mem_cons_of_mem _ ?_); exact hy), hI, q, ?tz1, hchain, hq, Nat.zero_le _, ?_, ?_⟩
    rotate_left
    · intro x hx
      simp only [List.mem_cons, List.not_mem_nil, or_false] at hx
      rcases hx with rfl | rfl | rfl | rfl | rfl | rfl | rfl <;> rfl
    · intro y hy
      simp only [List.cons_append, List.nil_append, List.contains_cons, List.contains_nil, Bool.or_false, Bool.or_eq_false_iff] at hy
      obtain ⟨h1, h2, h3, h4, h5, h6, h7, h8, h9, h10, h11⟩ := hy
      simp only [beq_no h1, beq_no h7, beq_no h10, if_false]
      show List.lookup y [(PySem.Str.ofString "text", _), (PySem.Str.ofString "ends", _), (PySem.Str.ofString "plan", _), (PySem.Str.ofString "made", _), (PySem.Str.ofString "k", _), (PySem.Str.ofString "node", _)] = none
      simp only [List.lookup_cons, h2, h3, h4, h5, h6, h11, List.lookup_nil]
  case turn =>
    rintro i it v h tk m₁ nx hit ⟨hsub, hnx, hlt, p₁, tp₁, hch, hp₁, hi, hkv, hm⟩ hv F₁
    replace F₁ := fr_vals _ _ F₁ hkv hm
    have hzl := (List.getElem?_eq_some_iff.mp hit).1
    rw [zipItems_length, List.length_map, hlen] at hzl
    have hi' : i < (seqAsks g.sem [j1, j2] q).length := by omega
    obtain ⟨c, hc⟩ : ∃ c, (seqAsks g.sem [j1, j2] q)[i]? = some c := ⟨_, List.getElem?_eq_getElem hi'⟩
    have hck : c.1 < k := kids_below (sem := g.sem) (size := g.text.length) (e := .seq [j1, j2]) hbel q c (List.mem_of_getElem? hc)
    obtain ⟨b, ec, e, hb, hb', hec, hes, hna, hrest⟩ := kid_at hn4 vo hc (by omega) hch
    obtain ⟨t, ht⟩ := hpv i c hc
    rw [zipItems_get _ _ i hb' ht] at hit
    cases hit
    obtain ⟨T, t', rfl, hT⟩ := hv
    refine AllObj.cons fun o1 _ => AllObj.cons fun o2 _ => AllObj.cons fun o3 _ => AllObj.cons fun o4 _ => AllObj.cons fun o5 _ => AllObj.nil fun N₁ => ?_
    simp only [List.cons_append, List.nil_append] at N₁
    have up : ∀ y ∈ ns, y ∈ (I + 4, o1) :: (I + 2, o2) :: (I + 3, o3) :: (I, o4) :: (I + 1, o5) :: nx := fun y hy => .tail _ (.tail _ (.tail _ (.tail _ (.tail _ (hnx y hy)))))
    have LA9 := LA0.mono up
    have vo9 := fun j q v e' h1 h2 => (vo j q v e' h1 h2).mono .refl up
    have na9 := hna.up up
    have LC9 : LaidC w g la lp le c.1 := hLC c.1 hck
    have hRe := hR c.1 hck p₁ e hp₁ hes
    have hfe := hRe.2
    obtain ⟨dxc, odc, clc, epc, bsc, tpc, tec, hd1, hd2, hd3, hd4⟩ := hna.up up
    clear N vo hna LA0 hn1 hn2 hn3 hn4 hr1 hr2 hr3 hr4 hla hlp hptk hxk hpt
    k_steps
    all_goals try (exfalso; (have h9 : (p₁ : Int) ≠ (p₁ : Int) := by assumption); exact h9 rfl)
    (rename News _ _ _ (_ :: _) => N9)
    (rename Fr _ _ _ _ => F9)
    refine ⟨_, _, _, nx, rfl, F9, N9, fun y hy z hz => ?_, hsub, hnx, hlt, e, ?tz2, hrest, hfe, by omega, ?_, ?_⟩
    · have h9 := ltN (hlt y hy)
      simp only [List.mem_cons, List.not_mem_nil, or_false] at hz
      refine neN ?_
      rcases hz with rfl | rfl | rfl | rfl | rfl <;> (dsimp only; omega)
    rotate_left
    · intro x hx
      simp only [List.mem_cons, List.not_mem_nil, or_false] at hx
      rcases hx with rfl | rfl | rfl | rfl | rfl | rfl | rfl <;> rfl
    · intro y hy
      simp only [List.cons_append, List.nil_append, List.contains_cons, List.contains_nil, Bool.or_false, Bool.or_eq_false_iff] at hy
      obtain ⟨h1, h2, h3, h4, h5, h6, h7, h8, h9, h10, h11⟩ := hy
      simp [beq_no h1, beq_no h8, beq_no h9, beq_no h10, beq_no h11, List.lookup_cons, h1, h2, h3, h4, h5, h6, h7, h8, h9, h10, h11]
  case done =>
    rintro m₁ nx h tk ⟨hsub, hnx, hlt, p₁, tp₁, hch, hp₁, hi, hkv, hm⟩ F₁ N₁
    replace F₁ := fr_vals _ _ F₁ hkv hm
    rw [zipItems_length, List.length_map, hpl, hlen, Nat.min_self, List.drop_length] at hch
    have hpf : p₁ = f := hch
    subst hpf
    have hpt' := hnx _ hpt
    have hn1' := hnx _ hn1
    have hn2' := hnx _ hn2
    clear N
    k_steps
    all_goals try (exfalso; (have h9 : (p₁ : Int) ≠ (p₁ : Int) := by assumption); exact h9 rfl)
    simp only [beq_self_eq_true]
    rename News h₀ _ _ _ => N9
    exact ret _ _ (by k_asm) (fun p hp => N9 p (hnx p hp))
end

section
local macro_rules | `(tactic| walk_at "zz0") => `(tactic| fail)
local macro_rules | `(tactic| walk_at "zz1") => `(tactic| fail)
local macro_rules | `(tactic| walk_at "zz2") => `(tactic| fail)
local macro_rules | `(tactic| walk_at "zz3") => `(tactic| fail)
local macro_rules | `(tactic| walk_at "zz4") => `(tactic| fail)
local macro_rules | `(tactic| walk_at "zz5") => `(tactic| fail)
local macro_rules | `(tactic| walk_at "zz6") => `(tactic| fail)
local macro_rules | `(tactic| walk_at "zz7") => `(tactic| fail)
local macro_rules | `(tactic| walk_at "zz8") => `(tactic| fail)
theorem begin_llaidalt (M : Model) (A : Around) (Q E : Value → Shared → Prop) (s : Shared) : True := by
  w_top off
  first | (have h : ∀ t : Sem Value, wpAny M A t Q E s := by (intro t; walk1; fail); trivial) | trivial
end
section
theorem laid_alt {w : World} {p : Program} {loose : List PySem.Str} {mean : ExcName → Option Value} {mg mb : PySem.Str → Option Value}
    {dp un : Nat} {gd : Option (List Code)} {cn : PySem.Str} {cs : Scope} {a : Addr} {ccd : Value} {cl : List (PySem.Str × Addr)} {outer : List Env} {A₀ : Around} {base h₀ : Heap} {L : Addr} {m : PySem.Str → Option Value} {s : Shared}
    {Q E : Value → Shared → Prop} {g : Gram} {la lp le : Addr} {ns : Led} {memo : Nat → Nat → Option Value} {ks : List Nat} {k q f a' : Nat} {kk : Int} {tk0 tx : Tok}
    (B : Below A₀ base outer h₀) (F : Fr h₀ L s.heap m) (X : (hd3.heap_39 w.params).In h₀) (T : Top p loose mean mg mb h₀) (hk : cs.kind = .function) (N : News h₀ L s.heap ns) (LA : LawAt g ns la lp le) (G : GOk g) (vo : ∀ j q v e', memo j q = some v → g.ex[j]? = some e' → ValOk g memo ns e' j q v)
    (he : g.ex[k]? = some (.alt ks)) (ek : kk = (k : Int)) (hs : g.sem k q = some f) (hq : q < g.text.length) (hf : f < g.text.length) (na : NodeAt g memo ns (.alt ks) k q f a') (hd : dp + 5 * (k + 1) < recursionLimit) (hu : un + 60 * (k + 1) < cLine)
    (hLC : ∀ j, j < k → LaidC w g la lp le j) (hR : ∀ j, j < k → ∀ q e, q < g.text.length → g.sem j q = some e → q ≤ e ∧ e < g.text.length) (okx : ExOk (.alt ks))
    (ret : ∀ h' tk', Fr h₀ L h' m → News h₀ L h' ns → Q (.bool true) { s with heap := h', toks := tk' }) :
    wpAny (model (PySem.Challenge.rw_vy0013_03).row.prog w) (ktrTop dp un gd cn cs L a ccd cl outer) (call (.ref 523) [.ref a', .int kk tk0, .ref la, .ref lp, .ref le, .str g.text tx]) Q E s := by
  have hkl : k < g.ex.length := (List.getElem?_eq_some_iff.mp he).1
  have hfew := G.few
  have hsm := G.small
  have hkk : kk.toNat = k := by omega
  have hbel := G.below k _ he
  have hfn := G.sem k _ q he (Nat.le_of_lt hq)
  rw [hs] at hfn
  have LA0 := LA
  obtain ⟨rs9, ep9, hr1, hrow⟩ := LA.ends.get
  obtain ⟨r9, vs9, er9, hr3, hv9, hr2⟩ := hrow k hkl
  obtain ⟨t9, hr4⟩ := hv9 q hq
  replace hr2 : (rs9.map Value.ref)[kk.toNat]? = some (.ref r9) := by rw [hkk]; exact hr2
  obtain ⟨⟨xs, em, hla, hxl, hxs⟩, ⟨pts, ep, hlp, hpts⟩, -⟩ := LA
  have hxk : (xs.map Value.ref)[kk.toNat]? = some (.ref (g.xa k)) := by rw [hkk]; exact hxs k hkl
  obtain ⟨pt, hptk, hpt⟩ := hpts k _ he
  replace hptk : (pts.map Value.ref)[kk.toNat]? = some (.ref pt) := by rw [hkk]; exact hptk
  rw [hs] at hr4
  dsimp only [endI] at hr4
  obtain ⟨dx9, od9, cl9, ep9, bs9, tp9, te9, hn1, hn2, hn3, hn4⟩ := na
  obtain ⟨j1, j2, rfl⟩ : ∃ j1 j2, ks = [j1, j2] := by
    match ks, hpt with
    | [j1, j2], _ => exact ⟨j1, j2, rfl⟩
  obtain ⟨t1, t2, t3, hpt⟩ := hpt
  have hj1 : j1 < k := hbel j1 (by simp)
  obtain ⟨rA, vA, eA, hA1, hA2, hA3⟩ := hrow j1 (by omega)
  obtain ⟨tA, hA4⟩ := hA2 q hq
  clear hrow
  cases h1 : g.sem j1 q with
  | some e1 =>
    rw [h1] at hA4
    dsimp only [endI] at hA4
    have hkd : altKids g.sem [j1, j2] q = [(j1, q)] := by
      simp [altKids, h1]
    have hchain : chainAt g.sem [(j1, q)] q f := by rw [← hkd]; exact chain_alt _ _ _ hfn.symm
    replace hn4 : ([(j1, q)] : List (Nat × Nat)).map (fun q => memo q.1 q.2) = (bs9 : List Addr).map fun b => some (.ref b) := by rw [← hkd]; exact hn4
    have hjk : j1 < k := hbel j1 (by simp)
    have hl1 : bs9.length = 1 := by
      have := congrArg List.length hn4
      simpa using this.symm
    k_steps
    all_goals try (exfalso; first | (have h9 : (g.text != g.text) = true := by assumption); simp at h9; done | (have h9 : (f : Int) ≠ (f : Int) := by assumption); exact h9 rfl)
    all_goals try (exfalso; omega)
    have hpv : ∀ (i : Nat) c, ([(j1, q)] : List (Nat × Nat))[i]? = some c → ∃ t, ([Value.int j1 t2] : List Value)[i]? = some (.int (c.1 : Nat) t) := fun i c hc => by
      match i, hc with
      | 0, hc => simp at hc; exact ⟨t2, by rw [← hc]; rfl⟩
    kwd_less
    intro I hI
    have hlen : bs9.length = ([(j1, q)]).length := by
      have h := congrArg List.length hn4
      rw [List.length_map, List.length_map] at h
      exact h.symm
    refine items_inv (fun i m₁ nx => SubL _ nx ∧ (∀ y ∈ ns, y ∈ nx) ∧ (∀ y ∈ nx, y.1 < I) ∧ ∃ p₁ tp₁, chainAt g.sem (([(j1, q)]).drop i) p₁ f ∧ p₁ < g.text.length ∧ i ≤ ([(j1, q)]).length ∧
      (∀ x ∈ [(PySem.Str.ofString "place", Value.int p₁ tp₁), (PySem.Str.ofString "node", Value.ref a'), (PySem.Str.ofString "made", Value.ref la), (PySem.Str.ofString "plan", Value.ref lp), (PySem.Str.ofString "ends", Value.ref le), (PySem.Str.ofString "text", Value.str g.text tx), (PySem.Str.ofString "step", Value.ref pt)], m₁ x.1 = some x.2) ∧
      ∀ y, ([PySem.Str.ofString "place", PySem.Str.ofString "node", PySem.Str.ofString "made", PySem.Str.ofString "plan", PySem.Str.ofString "ends", PySem.Str.ofString "text", PySem.Str.ofString "step"] ++ [PySem.Str.ofString "child", PySem.Str.ofString "part", PySem.Str.ofString "parts", PySem.Str.ofString "k"]).contains y = false → m₁ y = none) _ (fun _ _ _ h => h.1) ?turn ?done _ 0 rfl (Nat.zero_le _) _ _ ?init
    case init =>
      refine ⟨And.intro (by tb_rel) (And.intro (by tb_rel) trivial), fun y hy => by ((repeat refine List.mem_cons_of_mem _ ?_); exact hy), hI, q, ?tz1, hchain, hq, Nat.zero_le _, ?_, ?_⟩
      rotate_left
      · intro x hx
        simp only [List.mem_cons, List.not_mem_nil, or_false] at hx
        rcases hx with rfl | rfl | rfl | rfl | rfl | rfl | rfl <;> rfl
      · intro y hy
        simp only [List.cons_append, List.nil_append, List.contains_cons, List.contains_nil, Bool.or_false, Bool.or_eq_false_iff] at hy
        obtain ⟨h1, h2, h3, h4, h5, h6, h7, h8, h9, h10, h11⟩ := hy
        simp only [beq_no h1, beq_no h7, beq_no h10, if_false]
        show List.lookup y [(PySem.Str.ofString "text", _), (PySem.Str.ofString "ends", _), (PySem.Str.ofString "plan", _), (PySem.Str.ofString "made", _), (PySem.Str.ofString "k", _), (PySem.Str.ofString "node", _)] = none
        simp only [List.lookup_cons, h2, h3, h4, h5, h6, h11, List.lookup_nil]
    case turn =>
      rintro i it v h tk m₁ nx hit ⟨hsub, hnx, hlt, p₁, tp₁, hch, hp₁, hi, hkv, hm⟩ hv F₁
      replace F₁ := fr_vals _ _ F₁ hkv hm
      have hzl := (List.getElem?_eq_some_iff.mp hit).1
      rw [zipItems_length, List.length_map, hlen] at hzl
      have hi' : i < ([(j1, q)]).length := by omega
      obtain ⟨c, hc⟩ : ∃ c, ([(j1, q)])[i]? = some c := ⟨_, List.getElem?_eq_getElem hi'⟩
      have hck : c.1 < k := (by have := List.mem_of_getElem? hc; rw [List.mem_singleton.mp this]; exact hjk)
      obtain ⟨b, ec, e, hb, hb', hec, hes, hna, hrest⟩ := kid_at hn4 vo hc (by omega) hch
      obtain ⟨t, ht⟩ := hpv i c hc
      rw [zipItems_get _ _ i hb' ht] at hit
      cases hit
      obtain ⟨T, t', rfl, hT⟩ := hv
      refine AllObj.cons fun o1 _ => AllObj.cons fun o2 _ => AllObj.cons fun o3 _ => AllObj.cons fun o4 _ => AllObj.cons fun o5 _ => AllObj.nil fun N₁ => ?_
      simp only [List.cons_append, List.nil_append] at N₁
      have up : ∀ y ∈ ns, y ∈ (I + 4, o1) :: (I + 2, o2) :: (I + 3, o3) :: (I, o4) :: (I + 1, o5) :: nx := fun y hy => .tail _ (.tail _ (.tail _ (.tail _ (.tail _ (hnx y hy)))))
      have LA9 := LA0.mono up
      have vo9 := fun j q v e' h1 h2 => (vo j q v e' h1 h2).mono .refl up
      have na9 := hna.up up
      have LC9 : LaidC w g la lp le c.1 := hLC c.1 hck
      have hRe := hR c.1 hck p₁ e hp₁ hes
      have hfe := hRe.2
      obtain ⟨dxc, odc, clc, epc, bsc, tpc, tec, hd1, hd2, hd3, hd4⟩ := hna.up up
      clear N vo hna LA0 hn1 hn2 hn3 hn4 hr1 hr2 hr3 hr4 hla hlp hptk hxk hpt
      k_steps
      all_goals try (exfalso; (have h9 : (p₁ : Int) ≠ (p₁ : Int) := by assumption); exact h9 rfl)
      (rename News _ _ _ (_ :: _) => N9)
      (rename Fr _ _ _ _ => F9)
      refine ⟨_, _, _, nx, rfl, F9, N9, fun y hy z hz => ?_, hsub, hnx, hlt, e, ?tz2, hrest, hfe, by omega, ?_, ?_⟩
      · have h9 := ltN (hlt y hy)
        simp only [List.mem_cons, List.not_mem_nil, or_false] at hz
        refine neN ?_
        rcases hz with rfl | rfl | rfl | rfl | rfl <;> (dsimp only; omega)
      rotate_left
      · intro x hx
        simp only [List.mem_cons, List.not_mem_nil, or_false] at hx
        rcases hx with rfl | rfl | rfl | rfl | rfl | rfl | rfl <;> rfl
      · intro y hy
        simp only [List.cons_append, List.nil_append, List.contains_cons, List.contains_nil, Bool.or_false, Bool.or_eq_false_iff] at hy
        obtain ⟨h1, h2, h3, h4, h5, h6, h7, h8, h9, h10, h11⟩ := hy
        simp [beq_no h1, beq_no h8, beq_no h9, beq_no h10, beq_no h11, List.lookup_cons, h1, h2, h3, h4, h5, h6, h7, h8, h9, h10, h11]
    case done =>
      rintro m₁ nx h tk ⟨hsub, hnx, hlt, p₁, tp₁, hch, hp₁, hi, hkv, hm⟩ F₁ N₁
      replace F₁ := fr_vals _ _ F₁ hkv hm
      rw [zipItems_length, List.length_map, (show ([Value.int j1 t2] : List Value).length = ([(j1, q)] : List (Nat × Nat)).length from rfl), hlen, Nat.min_self, List.drop_length] at hch
      have hpf : p₁ = f := hch
      subst hpf
      have hpt' := hnx _ hpt
      have hn1' := hnx _ hn1
      have hn2' := hnx _ hn2
      clear N
      k_steps
      all_goals try (exfalso; (have h9 : (p₁ : Int) ≠ (p₁ : Int) := by assumption); exact h9 rfl)
      simp only [beq_self_eq_true]
      rename News h₀ _ _ _ => N9
      exact ret _ _ (by k_asm) (fun p hp => N9 p (hnx p hp))
  | none =>
    rw [h1] at hA4
    dsimp only [endI] at hA4
    have hj2 : j2 < k := hbel j2 (by simp)
    have h2 : ∃ e2, g.sem j2 q = some e2 := by
      have h9 : some f = altEnd g.sem [j1, j2] q := hfn
      rw [altEnd_cons_none h1, altEnd] at h9
      cases h2 : g.sem j2 q with
      | none => rw [h2] at h9; cases h9
      | some e2 => exact ⟨e2, rfl⟩
    obtain ⟨e2, h2⟩ := h2
    have hkd : altKids g.sem [j1, j2] q = [(j2, q)] := by
      simp [altKids, h1, h2]
    have hchain : chainAt g.sem [(j2, q)] q f := by rw [← hkd]; exact chain_alt _ _ _ hfn.symm
    replace hn4 : ([(j2, q)] : List (Nat × Nat)).map (fun q => memo q.1 q.2) = (bs9 : List Addr).map fun b => some (.ref b) := by rw [← hkd]; exact hn4
    have hjk : j2 < k := hbel j2 (by simp)
    have hl1 : bs9.length = 1 := by
      have := congrArg List.length hn4
      simpa using this.symm
    k_steps
    all_goals try (exfalso; first | (have h9 : (g.text != g.text) = true := by assumption); simp at h9; done | (have h9 : (f : Int) ≠ (f : Int) := by assumption); exact h9 rfl)
    all_goals try (exfalso; omega)
    have hpv : ∀ (i : Nat) c, ([(j2, q)] : List (Nat × Nat))[i]? = some c → ∃ t, ([Value.int j2 t3] : List Value)[i]? = some (.int (c.1 : Nat) t) := fun i c hc => by
      match i, hc with
      | 0, hc => simp at hc; exact ⟨t3, by rw [← hc]; rfl⟩
    kwd_less
    intro I hI
    have hlen : bs9.length = ([(j2, q)]).length := by
      have h := congrArg List.length hn4
      rw [List.length_map, List.length_map] at h
      exact h.symm
    refine items_inv (fun i m₁ nx => SubL _ nx ∧ (∀ y ∈ ns, y ∈ nx) ∧ (∀ y ∈ nx, y.1 < I) ∧ ∃ p₁ tp₁, chainAt g.sem (([(j2, q)]).drop i) p₁ f ∧ p₁ < g.text.length ∧ i ≤ ([(j2, q)]).length ∧
      (∀ x ∈ [(PySem.Str.ofString "place", Value.int p₁ tp₁), (PySem.Str.ofString "node", Value.ref a'), (PySem.Str.ofString "made", Value.ref la), (PySem.Str.ofString "plan", Value.ref lp), (PySem.Str.ofString "ends", Value.ref le), (PySem.Str.ofString "text", Value.str g.text tx), (PySem.Str.ofString "step", Value.ref pt)], m₁ x.1 = some x.2) ∧
      ∀ y, ([PySem.Str.ofString "place", PySem.Str.ofString "node", PySem.Str.ofString "made", PySem.Str.ofString "plan", PySem.Str.ofString "ends", PySem.Str.ofString "text", PySem.Str.ofString "step"] ++ [PySem.Str.ofString "child", PySem.Str.ofString "part", PySem.Str.ofString "parts", PySem.Str.ofString "k"]).contains y = false → m₁ y = none) _ (fun _ _ _ h => h.1) ?turnB ?doneB _ 0 rfl (Nat.zero_le _) _ _ ?initB
    case initB =>
      refine ⟨And.intro (by tb_rel) (And.intro (by tb_rel) trivial), fun y hy => by ((repeat refine List.mem_cons_of_mem _ ?_); exact hy), hI, q, ?tz3, hchain, hq, Nat.zero_le _, ?_, ?_⟩
      rotate_left
      · intro x hx
        simp only [List.mem_cons, List.not_mem_nil, or_false] at hx
        rcases hx with rfl | rfl | rfl | rfl | rfl | rfl | rfl <;> rfl
      · intro y hy
        simp only [List.cons_append, List.nil_append, List.contains_cons, List.contains_nil, Bool.or_false, Bool.or_eq_false_iff] at hy
        obtain ⟨h1, h2, h3, h4, h5, h6, h7, h8, h9, h10, h11⟩ := hy
        simp only [beq_no h1, beq_no h7, beq_no h10, if_false]
        show List.lookup y [(PySem.Str.ofString "text", _), (PySem.Str.ofString "ends", _), (PySem.Str.ofString "plan", _), (PySem.Str.ofString "made", _), (PySem.Str.ofString "k", _), (PySem.Str.ofString "node", _)] = none
        simp only [List.lookup_cons, h2, h3, h4, h5, h6, h11, List.lookup_nil]
    case turnB =>
      rintro i it v h tk m₁ nx hit ⟨hsub, hnx, hlt, p₁, tp₁, hch, hp₁, hi, hkv, hm⟩ hv F₁
      replace F₁ := fr_vals _ _ F₁ hkv hm
      have hzl := (List.getElem?_eq_some_iff.mp hit).1
      rw [zipItems_length, List.length_map, hlen] at hzl
      have hi' : i < ([(j2, q)]).length := by omega
      obtain ⟨c, hc⟩ : ∃ c, ([(j2, q)])[i]? = some c := ⟨_, List.getElem?_eq_getElem hi'⟩
      have hck : c.1 < k := (by have := List.mem_of_getElem? hc; rw [List.mem_singleton.mp this]; exact hjk)
      obtain ⟨b, ec, e, hb, hb', hec, hes, hna, hrest⟩ := kid_at hn4 vo hc (by omega) hch
      obtain ⟨t, ht⟩ := hpv i c hc
      rw [zipItems_get _ _ i hb' ht] at hit
      cases hit
      obtain ⟨T, t', rfl, hT⟩ := hv
      refine AllObj.cons fun o1 _ => AllObj.cons fun o2 _ => AllObj.cons fun o3 _ => AllObj.cons fun o4 _ => AllObj.cons fun o5 _ => AllObj.nil fun N₁ => ?_
      simp only [List.cons_append, List.nil_append] at N₁
      have up : ∀ y ∈ ns, y ∈ (I + 4, o1) :: (I + 2, o2) :: (I + 3, o3) :: (I, o4) :: (I + 1, o5) :: nx := fun y hy => .tail _ (.tail _ (.tail _ (.tail _ (.tail _ (hnx y hy)))))
      have LA9 := LA0.mono up
      have vo9 := fun j q v e' h1 h2 => (vo j q v e' h1 h2).mono .refl up
      have na9 := hna.up up
      have LC9 : LaidC w g la lp le c.1 := hLC c.1 hck
      have hRe := hR c.1 hck p₁ e hp₁ hes
      have hfe := hRe.2
      obtain ⟨dxc, odc, clc, epc, bsc, tpc, tec, hd1, hd2, hd3, hd4⟩ := hna.up up
      clear N vo hna LA0 hn1 hn2 hn3 hn4 hr1 hr2 hr3 hr4 hla hlp hptk hxk hpt
      k_steps
      all_goals try (exfalso; (have h9 : (p₁ : Int) ≠ (p₁ : Int) := by assumption); exact h9 rfl)
      (rename News _ _ _ (_ :: _) => N9)
      (rename Fr _ _ _ _ => F9)
      refine ⟨_, _, _, nx, rfl, F9, N9, fun y hy z hz => ?_, hsub, hnx, hlt, e, ?tz4, hrest, hfe, by omega, ?_, ?_⟩
      · have h9 := ltN (hlt y hy)
        simp only [List.mem_cons, List.not_mem_nil, or_false] at hz
        refine neN ?_
        rcases hz with rfl | rfl | rfl | rfl | rfl <;> (dsimp only; omega)
      rotate_left
      · intro x hx
        simp only [List.mem_cons, List.not_mem_nil, or_false] at hx
        rcases hx with rfl | rfl | rfl | rfl | rfl | rfl | rfl <;> rfl
      · intro y hy
        simp only [List.cons_append, List.nil_append, List.contains_cons, List.contains_nil, Bool.or_false, Bool.or_eq_false_iff] at hy
        obtain ⟨h1, h2, h3, h4, h5, h6, h7, h8, h9, h10, h11⟩ := hy
        simp [beq_no h1, beq_no h8, beq_no h9, beq_no h10, beq_no h11, List.lookup_cons, h1, h2, h3, h4, h5, h6, h7, h8, h9, h10, h11]
    case doneB =>
      rintro m₁ nx h tk ⟨hsub, hnx, hlt, p₁, tp₁, hch, hp₁, hi, hkv, hm⟩ F₁ N₁
      replace F₁ := fr_vals _ _ F₁ hkv hm
      rw [zipItems_length, List.length_map, (show ([Value.int j2 t3] : List Value).length = ([(j2, q)] : List (Nat × Nat)).length from rfl), hlen, Nat.min_self, List.drop_length] at hch
      have hpf : p₁ = f := hch
      subst hpf
      have hpt' := hnx _ hpt
      have hn1' := hnx _ hn1
      have hn2' := hnx _ hn2
      clear N
      k_steps
      all_goals try (exfalso; (have h9 : (p₁ : Int) ≠ (p₁ : Int) := by assumption); exact h9 rfl)
      simp only [beq_self_eq_true]
      rename News h₀ _ _ _ => N9
      exact ret _ _ (by k_asm) (fun p hp => N9 p (hnx p hp))
end

section
local macro_rules | `(tactic| walk_at "zz0") => `(tactic| fail)
local macro_rules | `(tactic| walk_at "zz1") => `(tactic| fail)
local macro_rules | `(tactic| walk_at "zz2") => `(tactic| fail)
local macro_rules | `(tactic| walk_at "zz3") => `(tactic| fail)
local macro_rules | `(tactic| walk_at "zz4") => `(tactic| fail)
local macro_rules | `(tactic| walk_at "zz5") => `(tactic| fail)
local macro_rules | `(tactic| walk_at "zz6") => `(tactic| fail)
local macro_rules | `(tactic| walk_at "zz7") => `(tactic| fail)
local macro_rules | `(tactic| walk_at "zz8") => `(tactic| fail)
theorem begin_llaidrep (M : Model) (A : Around) (Q E : Value → Shared → Prop) (s : Shared) : True := by
  w_top off
  first | (have h : ∀ t : Sem Value, wpAny M A t Q E s := by (intro t; walk1; fail); trivial) | trivial
end
section
theorem laid_rep {w : World} {p : Program} {loose : List PySem.Str} {mean : ExcName → Option Value} {mg mb : PySem.Str → Option Value}
    {dp un : Nat} {gd : Option (List Code)} {cn : PySem.Str} {cs : Scope} {a : Addr} {ccd : Value} {cl : List (PySem.Str × Addr)} {outer : List Env} {A₀ : Around} {base h₀ : Heap} {L : Addr} {m : PySem.Str → Option Value} {s : Shared}
    {Q E : Value → Shared → Prop} {g : Gram} {la lp le : Addr} {ns : Led} {memo : Nat → Nat → Option Value} {j9 mn : Nat} {mx : Option Nat} {k q f a' : Nat} {kk : Int} {tk0 tx : Tok}
    (B : Below A₀ base outer h₀) (F : Fr h₀ L s.heap m) (X : (hd3.heap_39 w.params).In h₀) (T : Top p loose mean mg mb h₀) (hk : cs.kind = .function) (N : News h₀ L s.heap ns) (LA : LawAt g ns la lp le) (G : GOk g) (vo : ∀ j q v e', memo j q = some v → g.ex[j]? = some e' → ValOk g memo ns e' j q v)
    (he : g.ex[k]? = some (.rep j9 mn mx)) (ek : kk = (k : Int)) (hs : g.sem k q = some f) (hq : q < g.text.length) (hf : f < g.text.length) (na : NodeAt g memo ns (.rep j9 mn mx) k q f a') (hd : dp + 5 * (k + 1) < recursionLimit) (hu : un + 60 * (k + 1) < cLine)
    (hLC : ∀ j, j < k → LaidC w g la lp le j) (hR : ∀ j, j < k → ∀ q e, q < g.text.length → g.sem j q = some e → q ≤ e ∧ e < g.text.length) (okx : ExOk (.rep j9 mn mx))
    (ret : ∀ h' tk', Fr h₀ L h' m → News h₀ L h' ns → Q (.bool true) { s with heap := h', toks := tk' }) :
    wpAny (model (PySem.Challenge.rw_vy0013_03).row.prog w) (ktrTop dp un gd cn cs L a ccd cl outer) (call (.ref 523) [.ref a', .int kk tk0, .ref la, .ref lp, .ref le, .str g.text tx]) Q E s := by
  have hkl : k < g.ex.length := (List.getElem?_eq_some_iff.mp he).1
  have hfew := G.few
  have hsm := G.small
  have hkk : kk.toNat = k := by omega
  have hbel := G.below k _ he
  have hfn := G.sem k _ q he (Nat.le_of_lt hq)
  rw [hs] at hfn
  have LA0 := LA
  obtain ⟨rs9, ep9, hr1, hrow⟩ := LA.ends.get
  obtain ⟨r9, vs9, er9, hr3, hv9, hr2⟩ := hrow k hkl
  obtain ⟨t9, hr4⟩ := hv9 q hq
  replace hr2 : (rs9.map Value.ref)[kk.toNat]? = some (.ref r9) := by rw [hkk]; exact hr2
  obtain ⟨⟨xs, em, hla, hxl, hxs⟩, ⟨pts, ep, hlp, hpts⟩, -⟩ := LA
  have hxk : (xs.map Value.ref)[kk.toNat]? = some (.ref (g.xa k)) := by rw [hkk]; exact hxs k hkl
  obtain ⟨pt, hptk, hpt⟩ := hpts k _ he
  replace hptk : (pts.map Value.ref)[kk.toNat]? = some (.ref pt) := by rw [hkk]; exact hptk
  rw [hs] at hr4
  dsimp only [endI] at hr4
  obtain ⟨dx9, od9, cl9, ep9, bs9, tp9, te9, hn1, hn2, hn3, hn4⟩ := na
  have hjk : j9 < k := hbel
  obtain ⟨hmn2, hmx⟩ := okx
  obtain ⟨KD, hKD⟩ : ∃ KD, KD = (Ex.rep j9 mn mx).kids g.sem g.text.length q := ⟨_, rfl⟩
  have hcnt : mn ≤ KD.length ∧ (∀ x, mx = some x → KD.length ≤ x) ∧ chainAt g.sem KD q f ∧ (∀ c ∈ KD, c.1 = j9) ∧ KD.length ≤ 2000 := by
    rw [hKD]
    exact rep_kids hfn.symm hmx (by omega) (by omega)
  obtain ⟨hc1, hc2, hchain, hc4, hc5⟩ := hcnt
  rw [← hKD] at hn4
  have hlb : bs9.length = KD.length := by
    have h := congrArg List.length hn4
    rw [List.length_map, List.length_map] at h
    exact h.symm
  obtain ⟨t1, t2, t3, t4, hpt⟩ := hpt
  have hm4 : ∃ M : Int, ((M < 0 ∧ mx = none) ∨ ∃ x : Nat, mx = some x ∧ M = x) ∧ (pt, tupO [.str (PySem.Str.ofString "times") t1, .int j9 t2, .int mn t3, .int M t4]) ∈ ns := by
    cases mx with
    | none => exact ⟨-1, .inl ⟨by decide, rfl⟩, hpt⟩
    | some x => exact ⟨x, .inr ⟨x, rfl, rfl⟩, hpt⟩
  replace hpt := hm4
  obtain ⟨M, hM, hpt⟩ := hpt
  clear hm4
  have hM2 : M < 0 ∨ (KD.length : Int) ≤ M := by
    rcases hM with ⟨h, _⟩ | ⟨x, h, rfl⟩
    · exact .inl h
    · have := hc2 x h; exact .inr (by omega)
  have hpvl : (List.replicate ((bs9.length : Int)).toNat [Value.int (j9 : Int) t2]).flatten.length = KD.length := by rw [flat_rep]; simp [hlb]
  have hpv : ∀ (i : Nat) c, KD[i]? = some c → ∃ t, (List.replicate ((bs9.length : Int)).toNat [Value.int (j9 : Int) t2]).flatten[i]? = some (.int (c.1 : Nat) t) := fun i c hc => by
    have h1 := hc4 c (List.mem_of_getElem? hc)
    have h2 := (List.getElem?_eq_some_iff.mp hc).1
    refine ⟨t2, ?_⟩
    rw [flat_rep, List.getElem?_replicate, if_pos (by omega), h1]
  k_steps
  all_goals try (exfalso; first | (have h9 : (g.text != g.text) = true := by assumption); simp at h9; done | (have h9 : (f : Int) ≠ (f : Int) := by assumption); exact h9 rfl)
  all_goals try (exfalso; omega)
  · kwd_less
    intro I hI
    have hlen : bs9.length = (KD).length := by
      have h := congrArg List.length hn4
      rw [List.length_map, List.length_map] at h
      exact h.symm
    refine items_inv (fun i m₁ nx => SubL _ nx ∧ (∀ y ∈ ns, y ∈ nx) ∧ (∀ y ∈ nx, y.1 < I) ∧ ∃ p₁ tp₁, chainAt g.sem ((KD).drop i) p₁ f ∧ p₁ < g.text.length ∧ i ≤ (KD).length ∧
      (∀ x ∈ [(PySem.Str.ofString "place", Value.int p₁ tp₁), (PySem.Str.ofString "node", Value.ref a'), (PySem.Str.ofString "made", Value.ref la), (PySem.Str.ofString "plan", Value.ref lp), (PySem.Str.ofString "ends", Value.ref le), (PySem.Str.ofString "text", Value.str g.text tx), (PySem.Str.ofString "step", Value.ref pt)], m₁ x.1 = some x.2) ∧
      ∀ y, ([PySem.Str.ofString "place", PySem.Str.ofString "node", PySem.Str.ofString "made", PySem.Str.ofString "plan", PySem.Str.ofString "ends", PySem.Str.ofString "text", PySem.Str.ofString "step"] ++ [PySem.Str.ofString "child", PySem.Str.ofString "part", PySem.Str.ofString "parts", PySem.Str.ofString "k"]).contains y = false → m₁ y = none) _ (fun _ _ _ h => h.1) ?turnA ?doneA _ 0 rfl (Nat.zero_le _) _ _ ?initA
    case initA =>
      refine ⟨And.intro (by tb_rel) (And.intro (by tb_rel) trivial), fun y hy => by ((repeat refine List.mem_cons_of_mem _ ?_); exact hy), hI, q, ?tz1A, hchain, hq, Nat.zero_le _, ?_, ?_⟩
      rotate_left
      · intro x hx
        simp only [List.mem_cons, List.not_mem_nil, or_false] at hx
        rcases hx with rfl | rfl | rfl | rfl | rfl | rfl | rfl <;> rfl
      · intro y hy
        simp only [List.cons_append, List.nil_append, List.contains_cons, List.contains_nil, Bool.or_false, Bool.or_eq_false_iff] at hy
        obtain ⟨h1, h2, h3, h4, h5, h6, h7, h8, h9, h10, h11⟩ := hy
        simp only [beq_no h1, beq_no h7, beq_no h10, if_false]
        show List.lookup y [(PySem.Str.ofString "text", _), (PySem.Str.ofString "ends", _), (PySem.Str.ofString "plan", _), (PySem.Str.ofString "made", _), (PySem.Str.ofString "k", _), (PySem.Str.ofString "node", _)] = none
        simp only [List.lookup_cons, h2, h3, h4, h5, h6, h11, List.lookup_nil]
    case turnA =>
      rintro i it v h tk m₁ nx hit ⟨hsub, hnx, hlt, p₁, tp₁, hch, hp₁, hi, hkv, hm⟩ hv F₁
      replace F₁ := fr_vals _ _ F₁ hkv hm
      have hzl := (List.getElem?_eq_some_iff.mp hit).1
      rw [zipItems_length, List.length_map, hlen] at hzl
      have hi' : i < (KD).length := by omega
      obtain ⟨c, hc⟩ : ∃ c, (KD)[i]? = some c := ⟨_, List.getElem?_eq_getElem hi'⟩
      have hck : c.1 < k := (by have := hc4 c (List.mem_of_getElem? hc); omega)
      obtain ⟨b, ec, e, hb, hb', hec, hes, hna, hrest⟩ := kid_at hn4 vo hc (by omega) hch
      obtain ⟨t, ht⟩ := hpv i c hc
      rw [zipItems_get _ _ i hb' ht] at hit
      cases hit
      obtain ⟨T, t', rfl, hT⟩ := hv
      refine AllObj.cons fun o1 _ => AllObj.cons fun o2 _ => AllObj.cons fun o3 _ => AllObj.cons fun o4 _ => AllObj.cons fun o5 _ => AllObj.nil fun N₁ => ?_
      simp only [List.cons_append, List.nil_append] at N₁
      have up : ∀ y ∈ ns, y ∈ (I + 4, o1) :: (I + 2, o2) :: (I + 3, o3) :: (I, o4) :: (I + 1, o5) :: nx := fun y hy => .tail _ (.tail _ (.tail _ (.tail _ (.tail _ (hnx y hy)))))
      have LA9 := LA0.mono up
      have vo9 := fun j q v e' h1 h2 => (vo j q v e' h1 h2).mono .refl up
      have na9 := hna.up up
      have LC9 : LaidC w g la lp le c.1 := hLC c.1 hck
      have hRe := hR c.1 hck p₁ e hp₁ hes
      have hfe := hRe.2
      obtain ⟨dxc, odc, clc, epc, bsc, tpc, tec, hd1, hd2, hd3, hd4⟩ := hna.up up
      clear N vo hna LA0 hn1 hn2 hn3 hn4 hr1 hr2 hr3 hr4 hla hlp hptk hxk hpt
      k_steps
      all_goals try (exfalso; (have h9 : (p₁ : Int) ≠ (p₁ : Int) := by assumption); exact h9 rfl)
      (rename News _ _ _ (_ :: _) => N9)
      (rename Fr _ _ _ _ => F9)
      refine ⟨_, _, _, nx, rfl, F9, N9, fun y hy z hz => ?_, hsub, hnx, hlt, e, ?tz2A, hrest, hfe, by omega, ?_, ?_⟩
      · have h9 := ltN (hlt y hy)
        simp only [List.mem_cons, List.not_mem_nil, or_false] at hz
        refine neN ?_
        rcases hz with rfl | rfl | rfl | rfl | rfl <;> (dsimp only; omega)
      rotate_left
      · intro x hx
        simp only [List.mem_cons, List.not_mem_nil, or_false] at hx
        rcases hx with rfl | rfl | rfl | rfl | rfl | rfl | rfl <;> rfl
      · intro y hy
        simp only [List.cons_append, List.nil_append, List.contains_cons, List.contains_nil, Bool.or_false, Bool.or_eq_false_iff] at hy
        obtain ⟨h1, h2, h3, h4, h5, h6, h7, h8, h9, h10, h11⟩ := hy
        simp [beq_no h1, beq_no h8, beq_no h9, beq_no h10, beq_no h11, List.lookup_cons, h1, h2, h3, h4, h5, h6, h7, h8, h9, h10, h11]
    case doneA =>
      rintro m₁ nx h tk ⟨hsub, hnx, hlt, p₁, tp₁, hch, hp₁, hi, hkv, hm⟩ F₁ N₁
      replace F₁ := fr_vals _ _ F₁ hkv hm
      rw [zipItems_length, List.length_map, hpvl, hlen, Nat.min_self, List.drop_length] at hch
      have hpf : p₁ = f := hch
      subst hpf
      have hpt' := hnx _ hpt
      have hn1' := hnx _ hn1
      have hn2' := hnx _ hn2
      clear N
      k_steps
      all_goals try (exfalso; (have h9 : (p₁ : Int) ≠ (p₁ : Int) := by assumption); exact h9 rfl)
      simp only [beq_self_eq_true]
      rename News h₀ _ _ _ => N9
      exact ret _ _ (by k_asm) (fun p hp => N9 p (hnx p hp))
  · kwd_less
    intro I hI
    have hlen : bs9.length = (KD).length := by
      have h := congrArg List.length hn4
      rw [List.length_map, List.length_map] at h
      exact h.symm
    refine items_inv (fun i m₁ nx => SubL _ nx ∧ (∀ y ∈ ns, y ∈ nx) ∧ (∀ y ∈ nx, y.1 < I) ∧ ∃ p₁ tp₁, chainAt g.sem ((KD).drop i) p₁ f ∧ p₁ < g.text.length ∧ i ≤ (KD).length ∧
      (∀ x ∈ [(PySem.Str.ofString "place", Value.int p₁ tp₁), (PySem.Str.ofString "node", Value.ref a'), (PySem.Str.ofString "made", Value.ref la), (PySem.Str.ofString "plan", Value.ref lp), (PySem.Str.ofString "ends", Value.ref le), (PySem.Str.ofString "text", Value.str g.text tx), (PySem.Str.ofString "step", Value.ref pt)], m₁ x.1 = some x.2) ∧
      ∀ y, ([PySem.Str.ofString "place", PySem.Str.ofString "node", PySem.Str.ofString "made", PySem.Str.ofString "plan", PySem.Str.ofString "ends", PySem.Str.ofString "text", PySem.Str.ofString "step"] ++ [PySem.Str.ofString "child", PySem.Str.ofString "part", PySem.Str.ofString "parts", PySem.Str.ofString "k"]).contains y = false → m₁ y = none) _ (fun _ _ _ h => h.1) ?turnB ?doneB _ 0 rfl (Nat.zero_le _) _ _ ?initB
    case initB =>
      refine ⟨And.intro (by tb_rel) (And.intro (by tb_rel) trivial), fun y hy => by ((repeat refine List.mem_cons_of_mem _ ?_); exact hy), hI, q, ?tz1B, hchain, hq, Nat.zero_le _, ?_, ?_⟩
      rotate_left
      · intro x hx
        simp only [List.mem_cons, List.not_mem_nil, or_false] at hx
        rcases hx with rfl | rfl | rfl | rfl | rfl | rfl | rfl <;> rfl
      · intro y hy
        simp only [List.cons_append, List.nil_append, List.contains_cons, List.contains_nil, Bool.or_false, Bool.or_eq_false_iff] at hy
        obtain ⟨h1, h2, h3, h4, h5, h6, h7, h8, h9, h10, h11⟩ := hy
        simp only [beq_no h1, beq_no h7, beq_no h10, if_false]
        show List.lookup y [(PySem.Str.ofString "text", _), (PySem.Str.ofString "ends", _), (PySem.Str.ofString "plan", _), (PySem.Str.ofString "made", _), (PySem.Str.ofString "k", _), (PySem.Str.ofString "node", _)] = none
        simp only [List.lookup_cons, h2, h3, h4, h5, h6, h11, List.lookup_nil]
    case turnB =>
      rintro i it v h tk m₁ nx hit ⟨hsub, hnx, hlt, p₁, tp₁, hch, hp₁, hi, hkv, hm⟩ hv F₁
      replace F₁ := fr_vals _ _ F₁ hkv hm
      have hzl := (List.getElem?_eq_some_iff.mp hit).1
      rw [zipItems_length, List.length_map, hlen] at hzl
      have hi' : i < (KD).length := by omega
      obtain ⟨c, hc⟩ : ∃ c, (KD)[i]? = some c := ⟨_, List.getElem?_eq_getElem hi'⟩
      have hck : c.1 < k := (by have := hc4 c (List.mem_of_getElem? hc); omega)
      obtain ⟨b, ec, e, hb, hb', hec, hes, hna, hrest⟩ := kid_at hn4 vo hc (by omega) hch
      obtain ⟨t, ht⟩ := hpv i c hc
      rw [zipItems_get _ _ i hb' ht] at hit
      cases hit
      obtain ⟨T, t', rfl, hT⟩ := hv
      refine AllObj.cons fun o1 _ => AllObj.cons fun o2 _ => AllObj.cons fun o3 _ => AllObj.cons fun o4 _ => AllObj.cons fun o5 _ => AllObj.nil fun N₁ => ?_
      simp only [List.cons_append, List.nil_append] at N₁
      have up : ∀ y ∈ ns, y ∈ (I + 4, o1) :: (I + 2, o2) :: (I + 3, o3) :: (I, o4) :: (I + 1, o5) :: nx := fun y hy => .tail _ (.tail _ (.tail _ (.tail _ (.tail _ (hnx y hy)))))
      have LA9 := LA0.mono up
      have vo9 := fun j q v e' h1 h2 => (vo j q v e' h1 h2).mono .refl up
      have na9 := hna.up up
      have LC9 : LaidC w g la lp le c.1 := hLC c.1 hck
      have hRe := hR c.1 hck p₁ e hp₁ hes
      have hfe := hRe.2
      obtain ⟨dxc, odc, clc, epc, bsc, tpc, tec, hd1, hd2, hd3, hd4⟩ := hna.up up
      clear N vo hna LA0 hn1 hn2 hn3 hn4 hr1 hr2 hr3 hr4 hla hlp hptk hxk hpt
      k_steps
      all_goals try (exfalso; (have h9 : (p₁ : Int) ≠ (p₁ : Int) := by assumption); exact h9 rfl)
      (rename News _ _ _ (_ :: _) => N9)
      (rename Fr _ _ _ _ => F9)
      refine ⟨_, _, _, nx, rfl, F9, N9, fun y hy z hz => ?_, hsub, hnx, hlt, e, ?tz2B, hrest, hfe, by omega, ?_, ?_⟩
      · have h9 := ltN (hlt y hy)
        simp only [List.mem_cons, List.not_mem_nil, or_false] at hz
        refine neN ?_
        rcases hz with rfl | rfl | rfl | rfl | rfl <;> (dsimp only; omega)
      rotate_left
      · intro x hx
        simp only [List.mem_cons, List.not_mem_nil, or_false] at hx
        rcases hx with rfl | rfl | rfl | rfl | rfl | rfl | rfl <;> rfl
      · intro y hy
        simp only [List.cons_append, List.nil_append, List.contains_cons, List.contains_nil, Bool.or_false, Bool.or_eq_false_iff] at hy
        obtain ⟨h1, h2, h3, h4, h5, h6, h7, h8, h9, h10, h11⟩ := hy
        simp [beq_no h1, beq_no h8, beq_no h9, beq_no h10, beq_no h11, List.lookup_cons, h1, h2, h3, h4, h5, h6, h7, h8, h9, h10, h11]
    case doneB =>
      rintro m₁ nx h tk ⟨hsub, hnx, hlt, p₁, tp₁, hch, hp₁, hi, hkv, hm⟩ F₁ N₁
      replace F₁ := fr_vals _ _ F₁ hkv hm
      rw [zipItems_length, List.length_map, hpvl, hlen, Nat.min_self, List.drop_length] at hch
      have hpf : p₁ = f := hch
      subst hpf
      have hpt' := hnx _ hpt
      have hn1' := hnx _ hn1
      have hn2' := hnx _ hn2
      clear N
      k_steps
      all_goals try (exfalso; (have h9 : (p₁ : Int) ≠ (p₁ : Int) := by assumption); exact h9 rfl)
      simp only [beq_self_eq_true]
      rename News h₀ _ _ _ => N9
      exact ret _ _ (by k_asm) (fun p hp => N9 p (hnx p hp))
end

theorem l_laid {w : World} {g : Gram} {la lp le : Addr} (ok : ∀ e ∈ g.ex, ExOk e) (hR : ∀ j, j < g.ex.length → ∀ q e, q < g.text.length → g.sem j q = some e → q ≤ e ∧ e < g.text.length) : ∀ k, k < g.ex.length → LaidC w g la lp le k := by
  intro k
  induction k using Nat.strongRecOn with
  | ind k ih =>
    intro hkl w' p loose mean mg mb dp un gd cn cs a ccd cl outer A₀ base h₀ L m s Q E ns memo e q f a' kk tk0 tx B F X T hk N LA G vo he ek hs hq hf na hd hu ret
    have hLC : ∀ j, j < k → LaidC w g la lp le j := fun j hj => ih j hj (Nat.lt_trans hj hkl)
    have hRk : ∀ j, j < k → ∀ q e, q < g.text.length → g.sem j q = some e → q ≤ e ∧ e < g.text.length := fun j hj => hR j (Nat.lt_trans hj hkl)
    have hok := ok e (List.mem_of_getElem? he)
    cases e with
    | lit wd => exact laid_lit B F X T hk N LA G vo he ek hs hq hf na hd hu hLC hRk hok ret
    | seq ks => exact laid_seq B F X T hk N LA G vo he ek hs hq hf na hd hu hLC hRk hok ret
    | alt ks => exact laid_alt B F X T hk N LA G vo he ek hs hq hf na hd hu hLC hRk hok ret
    | look b j => exact laid_look B F X T hk N LA G vo he ek hs hq hf na hd hu hLC hRk hok ret
    | rep j mn mx => exact laid_rep B F X T hk N LA G vo he ek hs hq hf na hd hu hLC hRk hok ret

theorem classed (P : Params) : kb_classed (hd3.heap_39 P) = true := by kernel_rfl
/-- a program without a name of its own -/
def p0 : Program := { main := { body := [], scope := (default : Program).main.scope, futureAnnotations := false, file := (default : Program).main.file }, modules := [], parses := [], absent := [] }
theorem ns_re {h₁ h₀ : Heap} {c P a : Addr} {ps ps' : Array Value} {m : PySem.Str → Option Value} (B : Based h₁ h₀ c P ps) (N : h₀.Ns a m) : (regrown h₀ P ps').Ns a m := LGe.ns_regrown B N
theorem seer_re {h₁ h₀ : Heap} {c P : Addr} {ps ps' : Array Value} (B : Based h₁ h₀ c P ps) (x : h₀.NoSeer) : (regrown h₀ P ps').NoSeer where
  statics := let ⟨mc, a, b⟩ := x.statics; ⟨mc, ns_re B a, b⟩
  mods := let ⟨mc, a, b⟩ := x.mods; ⟨mc, ns_re B a, b⟩
  imp := let ⟨mc, a, b⟩ := x.imp; ⟨mc, ns_re B a, b⟩
  main := let ⟨mg, bm, ob, a, b, c, d, e⟩ := x.main; ⟨mg, bm, ob, ns_re B a, b, (Heap.get?_update_other _ _ (Ne.symm (B.ne_of_cls c (by rw [d]; intro e; cases e)))).trans c, d, e⟩
theorem top_re {p : Program} {loose : List PySem.Str} {mean : ExcName → Option Value} {mg mb : PySem.Str → Option Value} {h₁ h₀ : Heap} {c P : Addr} {ps ps' : Array Value} (B : Based h₁ h₀ c P ps) (hi : importsNone p = true) (T : Top p loose mean mg mb h₀) :
    Top p0 (loose ++ (recsOf p).map (·.name) ++ (litsOf p).map (·.1) ++ (clssOf p loose).map (·.name)) mean mg mb (regrown h₀ P ps') where
  g := ns_re B T.g
  b := ns_re B T.b
  nolimit := let ⟨mc, h1, h2⟩ := T.nolimit; ⟨mc, ns_re B h1, h2⟩
  nodigits := let ⟨mc, h1, h2⟩ := T.nodigits; ⟨mc, ns_re B h1, h2⟩
  fn := fun d hd => nomatch hd
  own := fun o ho => nomatch ho
  const := fun x d h => nomatch h
  free := fun x h1 h2 h3 h4 h5 => by
    simp only [List.mem_append, not_or] at h2
    exact T.free x h1 h2.1.1.1 h2.1.1.2 h2.1.2 h2.2
  builtins := T.builtins
  tab := fun d hd => nomatch hd
  bmain := let ⟨bm, ob, h1, h2, h3, h4, h5⟩ := T.bmain; ⟨bm, ob, h1, h2, (Heap.get?_update_other _ _ (Ne.symm (B.ne_of_cls h3 (by rw [h4]; intro e; cases e)))).trans h3, h4, h5⟩
  seer := fun _ => seer_re B (T.seer hi)
theorem ab_len (ns : List Int) (f : Int → PySem.Str) (hf : ∀ a, (f a).length = 1) (h : ns.length ≤ 5) : JoinOk (PySem.Str.ofString "") ((ns.filter fun _ => true).map f) = true ∧ (Txt.join (PySem.Str.ofString "") ((ns.filter fun _ => true).map f)).length ≤ 5 := by
  have e : ns.filter (fun _ => true) = ns := List.filter_eq_self.mpr fun _ _ => rfl
  have h1 : ((ns.map f).map (·.length)).sum = ns.length := by
    clear e h
    induction ns with
    | nil => rfl
    | cons a r ih => simp only [List.map_cons, List.sum_cons, List.length_cons, ih, hf]; omega
  have h2 : (PySem.Str.ofString "").length = 0 := by decide
  rw [e]
  refine ⟨joinOk_of (by rw [h1, h2]; omega), ?_⟩
  show (PySem.Builtin.Str.glued _ _).length ≤ 5
  rw [StrLaws.glued_eq_join]
  have := StrLaws.join_length_le (PySem.Str.ofString "") (ns.map f)
  rw [h1, h2] at this
  omega
theorem view_imp : importsNone hd3.view_39 = true := by kernel_rfl
theorem str_ends (J : PySem.Str) : (J ++ PySem.Str.ofString "c").cps.toList = J.cps.toList ++ [99] := by
  rw [PySem.Str.cps_append]; simp; rfl
theorem join_ab {prog : Program} {w : World} {A : Around} {E : Value → Shared → Prop} {s : Shared} {h₀ : Heap} {L K : Addr} {m : PySem.Str → Option Value} {t : Tok} {a : Addr} {ns : List Int} {f : Int → PySem.Str} {Q : Value → Shared → Prop} (F : Fr h₀ L s.heap m) (G : AllBare s.gens)
    (X : GenOnD prog w A K a (List.take 5 ns) (fun _ => true) (fun k => .str (f k)) s) (hK : L ≤ K) (hf : ∀ a, (f a).length = 1)
    (h : ∀ J t' s', J.length ≤ 5 → Fr h₀ L s'.heap m → AllBare s'.gens → s'.os = s.os → (∀ b o, b ≤ K → s.heap.get? b = some o → s'.heap.get? b = some o) → Q (.str J t') s') :
    wpAny (model prog w) A (call (.builtin "str.join") [.str (PySem.Str.ofString "") t, .ref a]) Q E s := by
  have hj := ab_len (List.take 5 ns) f hf (List.length_take_le 5 _)
  exact join_genD F G X hK hj.1 (fun s' t' a b c d => h _ t' s' hj.2 a b c d) (Nat.le_trans (List.length_take_le 5 _) (by decide))
theorem re_pack {p : Program} {loose : List PySem.Str} {mean : ExcName → Option Value} {mg mb m : PySem.Str → Option Value} {h₁ h₀ h : Heap} {c P L : Addr} {ps ps' : Array Value} {K : Frag} (B : Based h₁ h₀ c P ps) (hi : importsNone p = true) (T : Top p loose mean mg mb h₀) (X : K.In h₀) (hK : kb_classed K = true) (_F : Fr (regrown h₀ P ps') L h m) :
    Top p0 (loose ++ (recsOf p).map (·.name) ++ (litsOf p).map (·.1) ++ (clssOf p loose).map (·.name)) mean mg mb (regrown h₀ P ps') ∧ K.In (regrown h₀ P ps') ∧ Below callerA (regrown h₀ P ps') [] (regrown h₀ P ps') :=
  ⟨top_re B hi T, kb_in_regrown B X T.g hK, below_caller _⟩
theorem ints_sc : ∀ {vs : List Value} {ns : List Int}, IntsAre vs ns → ∃ sc : List (Int × Tok), vs = sc.map (fun x => Value.int x.1 x.2) ∧ sc.length = ns.length
  | _, _, .nil => ⟨[], rfl, rfl⟩
  | _, _, .cons n t r => by
    obtain ⟨sc, h1, h2⟩ := ints_sc r
    exact ⟨(n, t) :: sc, by rw [h1]; rfl, by simp [h2]⟩

noncomputable def lawBS (P : Params) : List PySem.Stmt × Scope := match (hd3.heap_39 P).lookup 535 with | some ⟨_, _, .func f, _⟩ => ((match f.body with | .stmts b => b | _ => []), f.scope) | _ => ([], (default : Program).main.scope)
noncomputable abbrev lawEnv (P : Params) (L fa : Addr) (cdv : Value) : Env := envOfC (PySem.Str.ofString "law") (lawBS P).2 L fa cdv

/-! comprehensions by an invariant; storing a cell; the law's own text -/
section
variable {prog : Program} {w : World} {A : Around} {E : Value → Shared → Prop} {h₀ : Heap} {L : Addr} {m : PySem.Str → Option Value} {env : Env} {elt : PySem.Expr} {x : PySem.Str} {scope : Scope} {cl : List (PySem.Str × Addr)} {s : Shared} {S : Led → Prop} {P : Nat → Value → Prop} {Fin : List Value → Led → Prop}
theorem comp_inv {n : Nat} (J : Nat → List Value → Led → Prop)
    (turn : ∀ i v I oI C oC D m₂ ys news h tk (E' : Value → Shared → Prop), i < n → P i v → J i ys news → LCg.NsObj oC m₂ → m₂ x = some v → Fr h₀ L h m → News h₀ L h ((I, oI) :: (C, oC) :: (D, LCg.lst ys) :: news) → LCg.Off3 I C D news → ((@Ne Nat I C) ∧ (@Ne Nat I D) ∧ (@Ne Nat C D)) →
      wpAny (model prog w) A (eval elt (compEnvC scope cl C env)) (LCg.CompEnd h₀ L m { s with heap := h, toks := tk } I oI C oC D (LCg.lst ys) S (fun y news' => J (i + 1) (ys ++ [y]) news')) E' { s with heap := h, toks := tk })
    (fin : ∀ ys news, J n ys news → Fin ys news) : ∀ (j i : Nat) (ys : List Value) (news : Led), i + j = n → J i ys news → LCg.CompRest prog w A h₀ L m env elt x scope cl s S P Fin j i ys news := by
  intro j
  induction j with
  | zero =>
    intro i ys news hi hJ
    have : i = n := by omega
    subst this
    exact LCg.CompRest.zero (fin ys news hJ)
  | succ j ih =>
    intro i ys news hi hJ
    refine LCg.CompRest.succ ?_
    intro v I oI C oC D m₂ h tk E' hv hC hx F N off ne
    refine wpAny_mono (turn i v I oI C oC D m₂ ys news h tk E' (by omega) hv hJ hC hx F N off ne) (fun y s₂ hq => ?_) fun _ _ e => e
    obtain ⟨h', tk', nw, e, F', N', off', hS, hJ'⟩ := hq
    exact ⟨h', tk', nw, e, F', N', off', hS, ih (i + 1) _ nw (by omega) hJ'⟩
def CompStop (P : Prop) : Prop := P
theorem ListComp_S {iter : PySem.Expr} {px : Pos} {pos : Pos} {Q : Value → Shared → Prop} (F₀ : Fr h₀ L s.heap m)
    (hclos : closureFor scope env = pure cl) (hcell : ∀ y ∈ scope.names, y.2 ≠ .cell) (hkind : scope.kind = .function)
    (hnames : ∀ y ∈ scope.names, y.2 = .local → scope.names.lookup y.1 = some .local) (hx : scope.names.lookup x = some .local)
    (h : wpAny (model prog w) A (eval iter env) (fun xv s₁ => CompStop (LCg.CompSrc prog w A h₀ L m env elt x scope cl (fun s₂ => LCg.FinE h₀ L m s₂ Q) xv s₁)) E s)
    (hs : ∀ x, foldedSetIterable iter env x = pure x := by intro _; rfl) :
    wpAny (model prog w) A (eval (.ListComp elt [⟨.Name x px, iter, [], 0⟩] scope pos) env) Q E s :=
  LCg.ListComp_U F₀ hclos hcell hkind hnames hx h hs
theorem st_cell {name : PySem.Str} {a : Addr} {cd : Value} {y : PySem.Str} {c : Addr} {o : Obj} {v₀ : Option Value} {v : Value} {ns rest : Led} {Q : Unit → Shared → Prop} (F : Fr h₀ L s.heap m) (N : News h₀ L s.heap ns) (hm : (c, o) ∈ ns)
    (hc : (cellsFrom (L + 1) scope.names []).lookup y = some c) (hd : o.data = .cell v₀) (hr : ∀ p ∈ rest, p ∈ ns ∧ (p.1 ≠ c ∨ ∀ v, p.2.data ≠ .cell v))
    (h : ∀ h' o', Fr h₀ L h' m → News h₀ L h' ((c, o') :: rest) → o'.data = .cell (some v) → Q () { s with heap := h' })
    (hk : scope.kind = .function := by rfl) (hl : (envOfC name scope L a cd).kindOf y = some .cell := by rfl) :
    wpAny (model prog w) A (storeName (envOfC name scope L a cd) y v) Q E s := by
  refine stCN (own := []) (rest := rest) F (fun p hp => ?_) hc hd (fun _ h => nomatch h) (fun p hp => ?_) h hk hl
  · rcases List.mem_cons.mp hp with rfl | hp
    · exact N _ hm
    · exact N _ (hr p hp).1
  · rcases (hr p hp).2 with h | h
    · exact h
    · intro e
      have h1 := (N _ (hr p hp).1).1
      rw [e, (N _ hm).1] at h1
      exact h v₀ (by rw [← Option.some.inj h1]; exact hd)
end

section
local macro_rules | `(tactic| walk_at "zz0") => `(tactic| fail)
local macro_rules | `(tactic| walk_at "zz1") => `(tactic| fail)
local macro_rules | `(tactic| walk_at "zz2") => `(tactic| fail)
local macro_rules | `(tactic| walk_at "zz3") => `(tactic| fail)
local macro_rules | `(tactic| walk_at "zz4") => `(tactic| fail)
local macro_rules | `(tactic| walk_at "zz5") => `(tactic| fail)
local macro_rules | `(tactic| walk_at "zz6") => `(tactic| fail)
local macro_rules | `(tactic| walk_at "zz7") => `(tactic| fail)
local macro_rules | `(tactic| walk_at "zz8") => `(tactic| fail)
theorem begin_lawfin (M : Model) (A : Around) (Q E : Value → Shared → Prop) (s : Shared) : True := by
  w_top off
  first | (have h : ∀ t : Sem Value, wpAny M A t Q E s := by (intro t; walk1; fail); trivial) | trivial
end
section
theorem bools_rep : ∀ n : Nat, LSm.BoolsAre (List.replicate n (.bool true)) (List.replicate n true)
  | 0 => .nil
  | n + 1 => .cons true (bools_rep n)
local macro_rules | `(tactic| ktr_unf) => `(tactic| (repeat (first | (k_unfold; (try dsimp only)) | (k_end; wrow_close) | ((fail_if_success (with_reducible show wpAny _ _ (call (Value.ref 530) _) _ _ _)); walk1) | (dsimp only; (fail_if_success (with_reducible show wpAny _ _ (call (Value.ref 530) _) _ _ _)); walk1) | fail "no step")))
local macro_rules | `(tactic| walk_at "eval ListComp") => `(tactic| (k_here; k_dflt (refine ListComp_S (F₀ := by k_asm) (by with_unfolding_all rfl) (by decide) (by rfl) (by decide) (by rfl) ?_)))
theorem law_fin {w : World} {p : Program} {loose : List PySem.Str} {mean : ExcName → Option Value} {mg mb : PySem.Str → Option Value} {fa L : Addr} {cdv : Value} {hb : Heap} {m : PySem.Str → Option Value} {s : Shared} {Q : Flow → Shared → Prop} {E : Value → Shared → Prop} {o1 o2 o3 o4 : Obj} {T : PySem.Str} {T0 : List Nat} {tt : Tok}
   {ρ δ ι : Led} {exs : List Ex} {xs ds pts : List Addr} {lm lp le : Addr}
   (B : Below callerA hb [] hb) (F : Fr hb L s.heap m) (X : (hd3.heap_39 w.params).In hb) (Tp : Top p loose mean mg mb hb)
   (N : News hb L s.heap (ρ ++ (δ ++ ι))) (S : Sep ρ (δ ++ ι)) (Si : Sep ι δ) (m1 : (L + 1, o1) ∈ ρ) (m2 : (L + 1 + 1, o2) ∈ ρ) (m3 : (L + 1 + 1 + 1, o3) ∈ ρ) (m4 : (L + 1 + 1 + 1 + 1, o4) ∈ ρ)
   (d1 : o1.data = .cell (some (.str T tt))) (d2 : o2.data = .cell (some (.ref lm))) (d3 : o3.data = .cell (some (.ref lp))) (d4 : o4.data = .cell (some (.ref le)))
   (M : MadeInv exs xs ds pts δ ι) (ok : ∀ e ∈ exs, ExOk e) (h2 : 2 ≤ exs.length) (h7 : exs.length ≤ 7) (hT : T.cps.toList = T0 ++ [99]) (hTl : T.length ≤ 6) (LA : LawAt (gOf exs xs ds T tt 0) (ρ ++ ι) lm lp le)
   (hE : PassesOwn (model (PySem.Challenge.rw_vy0013_03).row.prog w) (callerA.deeper (lawEnv w.params L fa cdv)) (lawEnv w.params L fa cdv) E)
   (ret : ∀ h' tk' m', Fr hb L h' m' → Q (.ret (.bool true)) { s with heap := h', toks := tk' }) :
   wpAny (model (PySem.Challenge.rw_vy0013_03).row.prog w) (callerA.deeper (lawEnv w.params L fa cdv)) (execs ((lawBS w.params).1.drop 4) (lawEnv w.params L fa cdv)) Q E s := by
  have hre := M.reach ok hT
  have hG := fun n (hn : n ≤ 100) => M.gok (tt := tt) (n := n) ok hT (by omega) (by omega) hn
  have LC : ∀ n k, k < exs.length → LaidC w (gOf exs xs ds T tt n) lm lp le k := fun n => l_laid (w := w) (g := gOf exs xs ds T tt n) (la := lm) (lp := lp) (le := le) ok (fun j _ q e hq h => hre j q e hq h)
  have BI0 := M.binv (T := T) (tt := tt) (n := 0) Si
  with_unfolding_all show wpAny _ (callerA.deeper (envOfC _ ⟨_, _, _, _, _⟩ _ _ _)) (execs (_ :: []) (envOfC _ ⟨_, _, _, _, _⟩ _ _ _)) Q E s
  k_steps
  rename_i r t1 v1 h1 tk1 F1 N1 l1
  unfold CompStop
  have hl1 : 1 ≤ T.length := by
    have : T.cps.toList.length = T.length := by simp [PySem.Str.length]
    rw [← this, hT]; simp
  refine LCg.CompSrc.range (n := T.length) rfl F1 N1 (N1 _ (.head _)).1 (small_one (by decide) (by decide) (by omega) (by omega)) (by unfold Builtin.Range.rangeSize; rw [if_pos (by decide), if_pos (by omega)]; omega) (by rw [PySem.sizeLine_eq]; omega) fun g' => ?_
  refine comp_inv (n := T.length) (fun i ys nx => ∃ os δ' ι', nx = (r, rangeO 0 T.length 1 t1 (s.toks + 1) v1) :: (ρ ++ (δ' ++ ι')) ∧ Sep ((r, rangeO 0 T.length 1 t1 (s.toks + 1) v1) :: ρ) (δ' ++ ι') ∧ BInv (gOf exs xs ds T tt i) os δ' ι' ∧ (∀ x ∈ ι, x ∈ ι') ∧ ys = List.replicate i (.bool true)) ?_ ?_ T.length 0 [] _ (by omega) ⟨_, δ, ι, rfl, ?_, BI0, fun _ h => h, rfl⟩
  · rintro i v I oI C oC D m₂ ys news h tk E' hi ⟨tv, rfl⟩ ⟨os, δ', ι', rfl, hS, hB, hsub, rfl⟩ hC hx F2 N2 off ne
    rw [Int.zero_add] at hx
    ktr_unf
    have S3 : Sep ((I, oI) :: (C, oC) :: (D, LCg.lst (List.replicate i (.bool true))) :: (r, rangeO 0 T.length 1 t1 (s.toks + 1) v1) :: ρ) (δ' ++ ι') := by
      have o3 := off.mem
      intro x hx y hy
      have hy3 := o3 y (.tail _ (List.mem_append_right _ hy))
      simp only [List.mem_cons] at hx
      rcases hx with rfl | rfl | rfl | hx
      · exact fun e => hy3.1 e.symm
      · exact fun e => hy3.2.1 e.symm
      · exact fun e => hy3.2.2 e.symm
      · exact hS x (List.mem_cons.mpr hx) y hy
    obtain ⟨k, hk⟩ : ∃ k, exs.length = k + 1 := ⟨exs.length - 1, by omega⟩
    have LAi : LawAt (gOf exs xs ds T tt i) (ρ ++ ι) lm lp le := ⟨LA.made, LA.plan, LA.ends⟩
    have LA3 : LawAt (gOf exs xs ds T tt i) (((I, oI) :: (C, oC) :: (D, LCg.lst (List.replicate i (.bool true))) :: (r, rangeO 0 T.length 1 t1 (s.toks + 1) v1) :: ρ) ++ ι') lm lp le := LAi.mono fun y hy => by
      rcases List.mem_append.mp hy with hy | hy
      · exact List.mem_append_left _ (.tail _ (.tail _ (.tail _ (.tail _ hy))))
      · exact List.mem_append_right _ (hsub y hy)
    refine l_matched (g := gOf exs xs ds T tt i) (k := k) (ρ := (I, oI) :: (C, oC) :: (D, LCg.lst (List.replicate i (.bool true))) :: (r, rangeO 0 T.length 1 t1 (s.toks + 1) v1) :: ρ) (os := os) (δ := δ') (ι := ι') (q := i) B F2 X Tp rfl X Tp N2 S3 hB (hG i (by omega)) hk hi LA3 (LC i k (by omega)) (fun f hf => (hre _ _ _ hi hf).2) ?hd ?hu ?_
    case hd => k_room
    case hu => k_units
    intro os' δ'' ι'' h' tk' F3 N3 S4 B4 hs4
    refine ⟨h', tk', (r, rangeO 0 T.length 1 t1 (s.toks + 1) v1) :: (ρ ++ (δ'' ++ ι'')), rfl, F3, N3, LCg.Off3.of fun p hp => ?_, trivial, os', δ'', ι'', rfl, fun x hx y hy => S4 x (.tail _ (.tail _ (.tail _ hx))) y hy, B4, fun x hx => hs4 x (hsub x hx), List.replicate_succ'.symm⟩
    rcases List.mem_cons.mp hp with rfl | hp
    · exact off.mem _ (.head _)
    · rcases List.mem_append.mp hp with hp | hp
      · exact off.mem _ (.tail _ (List.mem_append_left _ hp))
      · exact ⟨fun e => S4 _ (.head _) p hp e.symm, fun e => S4 _ (.tail _ (.head _)) p hp e.symm, fun e => S4 _ (.tail _ (.tail _ (.head _))) p hp e.symm⟩
  · rintro ys news ⟨os, δ', ι', rfl, hS, hB, hsub, rfl⟩
    intro D h tk F2 N2 off
    have hL : h.IsList D (List.replicate T.length (Value.bool true)).toArray := ⟨_, (N2 _ (.head _)).1, rfl, _, rfl⟩
    k_steps
    refine' LSm.all_bools (bs := List.replicate T.length true) ?F ?N ?hh ?L (bools_rep _) ?_
    case hh => exact rfl
    case F => exact F2
    case N => exact N2
    case L => exact hL
    intro h' tk' F' N'
    rw [show (List.replicate T.length true).all id = true from by simp]
    exact ret _ _ _ F'
  · intro x hx y hy
    rcases List.mem_cons.mp hx with rfl | hx
    · exact Nat.ne_of_gt (l1 y (List.mem_append_right _ hy))
    · exact S x hx y hy
end

section
local macro_rules | `(tactic| walk_at "zz0") => `(tactic| fail)
local macro_rules | `(tactic| walk_at "zz1") => `(tactic| fail)
local macro_rules | `(tactic| walk_at "zz2") => `(tactic| fail)
local macro_rules | `(tactic| walk_at "zz3") => `(tactic| fail)
local macro_rules | `(tactic| walk_at "zz4") => `(tactic| fail)
local macro_rules | `(tactic| walk_at "zz5") => `(tactic| fail)
local macro_rules | `(tactic| walk_at "zz6") => `(tactic| fail)
local macro_rules | `(tactic| walk_at "zz7") => `(tactic| fail)
local macro_rules | `(tactic| walk_at "zz8") => `(tactic| fail)
theorem begin_lawloop (M : Model) (A : Around) (Q E : Value → Shared → Prop) (s : Shared) : True := by
  w_top off
  first | (have h : ∀ t : Sem Value, wpAny M A t Q E s := by (intro t; walk1; fail); trivial) | trivial
end
section
theorem l_endall {w : World} {p : Program} {loose : List PySem.Str} {mean : ExcName → Option Value} {mg mb : PySem.Str → Option Value}
    {dp un : Nat} {gd : Option (List Code)} {cn : PySem.Str} {cs : Scope} {a : Addr} {ccd : Value} {cl : List (PySem.Str × Addr)} {outer : List Env} {A₀ : Around} {base h₀ : Heap} {L : Addr} {m : PySem.Str → Option Value} {s : Shared}
    {Q E : Value → Shared → Prop} {ns : Led} {g : Gram} {k q : Nat} {e : Ex} {pt le : Addr} {tp tx : Tok} (B : Below A₀ base outer h₀) (F : Fr h₀ L s.heap m) (X : (hd3.heap_39 w.params).In h₀) (T : Top p loose mean mg mb h₀) (hk : cs.kind = .function) (N : News h₀ L s.heap ns) (hP : PlanAt ns pt e) (hb : e.below k) (ok : ExOk e) (hE : EndsAt g ns le k) (hq : q < g.text.length)
    (hR : ∀ j, j < k → ∀ q e, q < g.text.length → g.sem j q = some e → q ≤ e ∧ e < g.text.length) (hk1 : k ≤ 100) (hn : g.text.length ≤ 1000) (hd : dp + 10 < recursionLimit) (hu : un + 80 < cLine) (ret : EndRet g e q ns h₀ L m s Q) :
    wpAny (model (PySem.Challenge.rw_vy0013_03).row.prog w) (ktrTop dp un gd cn cs L a ccd cl outer) (call (.ref 516) [.ref pt, .ref le, .str g.text tx, .int q tp]) Q E s := by
  cases e with
  | lit wd => exact end_lit B F X T hk N hP hq hn (Nat.le_trans ok.1 (by decide)) hd hu ret
  | seq ks => exact end_seq B F X T hk N hP hb hE hq hR hk1 hn hd hu ret
  | alt ks => exact end_alt B F X T hk N hP hb hE hq hk1 hn hd hu ret
  | look b j => exact end_look B F X T hk N hP hb hE hq hk1 hn hd hu ret
  | rep j mn mx => exact end_rep B F X T hk N hP hb hE hq hR hk1 hn (Nat.le_trans ok.1 (by decide)) (fun x h => (ok.2 x h).1) (fun x h => Nat.le_trans (ok.2 x h).2 (by decide)) hd hu ret
theorem For_turnsS {prog : Program} {w : World} {A : Around} {E : Value → Shared → Prop} {s : Shared} {env : Env} {h₀ : Heap} {target : PySem.Expr} {body : List PySem.Stmt} {Q : Flow → Shared → Prop} {iter : PySem.Expr} {pos : Pos} {m : PySem.Str → Option Value} (F : Fr h₀ env.locals s.heap m)
    (h : wpAny (model prog w) A (eval iter env) (fun xv s₁ => CompStop (wpAny (model prog w) A (pyIter xv) (fun it s₂ => TurnsAt prog w A h₀ env target body Q E it s₂) E s₁)) E s)
    (hE : PassesOwn (model prog w) A env E) (hs : ∀ x, foldedSetIterable iter env x = pure x := by intro _; rfl) :
    wpAny (model prog w) A (exec (.For target iter body [] pos) env) Q E s := For_turns F h hs hE
theorem last_row {rs : List Addr} {rr : Addr} : ((rs ++ [rr]).map Value.ref)[((-1 : Int) + (((rs ++ [rr]).map Value.ref).length : Int)).toNat]? = some (.ref rr) := by
  have e : ((-1 : Int) + (((rs ++ [rr]).map Value.ref).length : Int)).toNat = rs.length := by simp; omega
  rw [e]; simp
local macro_rules | `(tactic| ktr_unf) => `(tactic| (repeat (first | (k_unfold; (try dsimp only)) | (k_end; wrow_close) | ((fail_if_success (with_reducible show wpAny _ _ (call (Value.ref 516) _) _ _ _)); walk1) | (dsimp only; (fail_if_success (with_reducible show wpAny _ _ (call (Value.ref 516) _) _ _ _)); walk1) | fail "no step")))
local macro_rules | `(tactic| walk_at "exec For Name Name cons nil") => `(tactic| (k_here; (rename Fr _ _ _ _ => lF'); k_dflt (refine' For_turnsS lF' ?_ ?hE; (case hE => assumption))))
local macro_rules | `(tactic| walk_at "subscriptTail Name UnaryOp ref int") => `(tactic| (k_here; (with_reducible show wpAny _ _ (subscriptTail _ _ (Value.ref _) (Value.int _ _)) _ _ _); k_dflt (refine' kim_back ?N ?m ?c ?d ?h0 ?h1 ?f ?x ?_; (case N => k_asm); (case m => tb_rel); (case c => exact rfl); (case d => exact rfl); (case x => exact last_row); (case h0 => decide); (case h1 => (simp only [List.length_map, List.length_append, List.length_singleton]; omega)); (case f => decide))))
def RowsOk (g : Gram) (rs : List Addr) (rows : Led) : Prop :=
  ∀ k, k < rs.length → ∃ (r : Addr) (vs : List Value) (er : Nat), rs[k]? = some r ∧ (r, W.listOf vs.toArray er) ∈ rows ∧ ∀ p, p < g.text.length → ∃ t, vs[p]? = some (.int (endI (g.sem k p)) t)
theorem law_loop {w : World} {p : Program} {loose : List PySem.Str} {mean : ExcName → Option Value} {mg mb : PySem.Str → Option Value} {fa L : Addr} {cdv : Value} {hb : Heap} {m : PySem.Str → Option Value} {s : Shared} {Q : Flow → Shared → Prop} {E : Value → Shared → Prop} {o1 o2 o3 o4 : Obj} {T : PySem.Str} {T0 : List Nat} {tt : Tok}
   {ρ δ ι : Led} {exs : List Ex} {xs ds pts : List Addr} {lm lp le : Addr} {em ep : Nat}
   (B : Below callerA hb [] hb) (F : Fr hb L s.heap m) (X : (hd3.heap_39 w.params).In hb) (Tp : Top p loose mean mg mb hb)
   (N : News hb L s.heap ((le, W.listOf #[] 0) :: (ρ ++ (δ ++ ι)))) (S : Sep ((le, W.listOf #[] 0) :: ρ) (δ ++ ι)) (hle : ∀ y ∈ ρ, y.1 ≠ le) (Si : Sep ι δ) (m1 : (L + 1, o1) ∈ ρ) (m2 : (L + 1 + 1, o2) ∈ ρ) (m3 : (L + 1 + 1 + 1, o3) ∈ ρ) (m4 : (L + 1 + 1 + 1 + 1, o4) ∈ ρ)
   (d1 : o1.data = .cell (some (.str T tt))) (d2 : o2.data = .cell (some (.ref lm))) (d3 : o3.data = .cell (some (.ref lp))) (d4 : o4.data = .cell (some (.ref le)))
   (hlm : (lm, W.listOf (xs.map Value.ref).toArray em) ∈ ρ) (hlp : (lp, W.listOf (pts.map Value.ref).toArray ep) ∈ ρ)
   (M : MadeInv exs xs ds pts δ ι) (ok : ∀ e ∈ exs, ExOk e) (h2 : 2 ≤ exs.length) (h7 : exs.length ≤ 7) (hT : T.cps.toList = T0 ++ [99]) (hTl : T.length ≤ 6)
   (hE : PassesOwn (model (PySem.Challenge.rw_vy0013_03).row.prog w) (callerA.deeper (lawEnv w.params L fa cdv)) (lawEnv w.params L fa cdv) E)
   (ret : ∀ h' tk' m', Fr hb L h' m' → Q (.ret (.bool true)) { s with heap := h', toks := tk' }) :
   wpAny (model (PySem.Challenge.rw_vy0013_03).row.prog w) (callerA.deeper (lawEnv w.params L fa cdv)) (execs ((lawBS w.params).1.drop 3) (lawEnv w.params L fa cdv)) Q E s := by
  have hre := M.reach ok hT
  with_unfolding_all show wpAny _ (callerA.deeper (envOfC _ ⟨_, _, _, _, _⟩ _ _ _)) (execs (_ :: _ :: []) (envOfC _ ⟨_, _, _, _, _⟩ _ _ _)) Q E s
  k_steps
  unfold CompStop
  rename Fr _ _ _ _ => F
  refine iter_listTurns (vs := pts.map Value.ref) (n := ep) rfl F N (.tail _ (List.mem_append_left _ hlp)) rfl rfl fun I hI => ?_
  refine items_inv (fun i m₁ nx => ∃ rs rows e0, nx = (le, W.listOf ((rs : List Addr).map Value.ref).toArray e0) :: ((rows : Led) ++ (ρ ++ (δ ++ ι))) ∧ rs.length = i ∧ RowsOk (gOf exs xs ds T tt 0) rs rows ∧ (∀ y ∈ rows, y.1 ≠ le) ∧ Sep rows (δ ++ ι) ∧ (∀ y ∈ nx, y.1 ≠ I)) ((pts.map Value.ref).map .val) (fun i m nx hJ => ?_) ?_ ?_ _ 0 rfl (Nat.zero_le _) _ _ ⟨[], [], 0, rfl, rfl, (fun _ h => absurd h (Nat.not_lt_zero _)), (fun _ h => by cases h), (fun _ h => by cases h), fun y hy => Nat.ne_of_lt (hI y hy)⟩
  · obtain ⟨rs, rows, e0, rfl, _⟩ := hJ
    exact ⟨.tail _ (List.mem_append_right _ (List.mem_append_left _ hlp)), trivial⟩
  · rintro i a v h tk m₁ nx hget ⟨rs, rows, e0, rfl, hrl, hrows, hr1, hr2, hr3⟩ hv F1 oI hoI N1
    obtain ⟨pt, hpt, rfl⟩ : ∃ pt, pts[i]? = some pt ∧ a = .val (.ref pt) := by
      rw [List.getElem?_map, List.getElem?_map] at hget
      cases hp : pts[i]? with
      | none => rw [hp] at hget; cases hget
      | some pt => rw [hp] at hget; exact ⟨pt, rfl, (Option.some.inj hget).symm⟩
    have hv' : v = .ref pt := hv
    subst hv'
    simp only [List.cons_append, List.nil_append] at N1
    have hall : ∀ y ∈ rows ++ (ρ ++ (δ ++ ι)), y.1 ≠ le := fun y hy => by
      rcases List.mem_append.mp hy with hy | hy
      · exact hr1 y hy
      · rcases List.mem_append.mp hy with hy | hy
        · exact hle y hy
        · exact fun e => S _ (.head _) y hy e.symm
    have hIle : @Ne Nat le I := hr3 _ (.head _)
    have hil : i < exs.length := by rw [← M.lp]; exact (List.getElem?_eq_some_iff.mp hpt).1
    k_steps
    rename_i l h3 a1 a2 a3 h4 F4 N4 r t5 v5 h5 tk5 F5 N5 b1 b2 b3 b4
    have hl1 : 1 ≤ T.length := by
      have : T.cps.toList.length = T.length := by simp [PySem.Str.length]
      rw [← this, hT]; simp
    obtain ⟨e, he⟩ : ∃ e, exs[i]? = some e := ⟨_, List.getElem?_eq_getElem hil⟩
    obtain ⟨hbel, x9, dx9, pt9, g1, g2, g3, g4, g5, g6⟩ := M.ex i e he
    obtain rfl : pt9 = pt := Option.some.inj (g3.symm.trans hpt)
    have hoke := ok e (List.mem_of_getElem? he)
    have hsem : ∀ q, semOf T exs i q = e.fin (semOf T exs) T q := fun q => semOf_eq (fun k e h => (M.ex k e h).1) he q
    refine for_range (n := T.length) (fun j m₂ n2 => ∃ vs er, n2 = (r, rangeO 0 T.length 1 t5 (tk + 1) v5) :: (l, W.listOf (vs : List Value).toArray er) :: (I, oI) :: (le, W.listOf (List.map Value.ref (rs ++ [l])).toArray (e0 + 1)) :: (rows ++ (ρ ++ (δ ++ ι))) ∧ vs.length = j ∧
      (∀ q, q < j → ∃ t, vs[q]? = some (.int (endI (semOf T exs i q)) t)) ∧ m₂ (PySem.Str.ofString "step") = some (.ref pt9)) rfl F5 N5 (N5 _ (.head _)).1 (small_one (by decide) (by decide) (by omega) (by omega)) (by unfold Builtin.Range.rangeSize; rw [if_pos (by decide), if_pos (by omega)]; omega) ⟨[], 0, rfl, rfl, (fun _ h => absurd h (Nat.not_lt_zero _)), rfl⟩ hE ?_ ?_
    · rintro j tv m₂ ns₂ h6 tk6 I2 oJ2 hj ⟨vs, er, rfl, hvl, hvs, hst⟩ F6 N6 hI2
      replace F6 := fr_vals (m₀ := m₂) [(PySem.Str.ofString "step", Value.ref pt9)] [] F6 (fun p hp => by rw [List.mem_singleton.mp hp]; exact hst) (fun _ _ => rfl)
      have E2 : EndsAt (gOf exs xs ds T tt 0) ((I2, oJ2) :: (r, rangeO 0 T.length 1 t5 (tk + 1) v5) :: (l, W.listOf (vs : List Value).toArray er) :: (I, oI) :: (le, W.listOf (List.map Value.ref (rs ++ [l])).toArray (e0 + 1)) :: (rows ++ (ρ ++ (δ ++ ι)))) le i := by
        refine ⟨rs ++ [l], e0 + 1, .tail _ (.tail _ (.tail _ (.tail _ (.head _)))), by simp; omega, fun k hk => ?_⟩
        obtain ⟨r', vs', er', z1, z2, z3⟩ := hrows k (by omega)
        exact ⟨r', vs', er', by rw [List.getElem?_append_left (by omega)]; exact z1, .tail _ (.tail _ (.tail _ (.tail _ (.tail _ (List.mem_append_left _ z2))))), z3⟩
      have hP := g5.mono (σ' := (I2, oJ2) :: (r, rangeO 0 T.length 1 t5 (tk + 1) v5) :: (l, W.listOf (vs : List Value).toArray er) :: (I, oI) :: (le, W.listOf (List.map Value.ref (rs ++ [l])).toArray (e0 + 1)) :: (rows ++ (ρ ++ (δ ++ ι)))) fun y hy => .tail _ (.tail _ (.tail _ (.tail _ (.tail _ (List.mem_append_right _ (List.mem_append_right _ (List.mem_append_right _ hy)))))))
      have hlast := last_row (rs := rs) (rr := l)
      have hlI2 : @Ne Nat l I2 := hI2 _ (.tail _ (.head _))
      rw [show ((0 : Int) + (j : Int) * 1) = (j : Int) from by omega]
      ktr_unf
      rename Fr _ _ _ _ => F7
      rename News _ _ _ _ => N7
      refine l_endall (g := gOf exs xs ds T tt 0) (k := i) (e := e) B F7 X Tp rfl N7 hP hbel hoke E2 hj (fun j' _ q e' hq h => hre j' q e' hq h) (by omega) (show T.length ≤ 1000 by omega) ?hd ?hu ?_
      case hd => k_room
      case hu => k_units
      intro v9 t9 h9 tk9 hv9 F8 N8
      k_steps
      dsimp only [TPost]
      rename Fr _ _ _ _ => F10
      rename News _ _ _ _ => N10
      simp only [List.push_toArray] at N10
      refine TEnd.intro F10 N10 (fun p hp => ?_) ⟨vs ++ [.int v9 t9], er + 1, rfl, by simp [hvl], fun q hq => ?_, rfl⟩
      · rcases List.mem_cons.mp hp with rfl | hp
        · exact hI2 _ (.head _)
        · rcases List.mem_cons.mp hp with rfl | hp
          · exact hlI2
          · exact hI2 _ (.tail _ (.tail _ hp))
      · by_cases hqj : q < j
        · obtain ⟨t, ht⟩ := hvs q hqj
          exact ⟨t, by rw [List.getElem?_append_left (by omega)]; exact ht⟩
        · have : q = j := by omega
          subst this
          refine ⟨t9, ?_⟩
          rw [List.getElem?_append_right (by omega), hvl, Nat.sub_self, hsem, hv9]
          rfl
    · rintro m₂ ns₂ h6 tk6 ⟨vs, er, rfl, hvl, hvs, hst⟩ F6 N6
      k_steps
      have hIl : @Ne Nat l I := Nat.ne_of_gt a1
      refine ⟨h6, tk6, m₂, (le, W.listOf (List.map Value.ref (rs ++ [l])).toArray (e0 + 1)) :: (((l, W.listOf (vs : List Value).toArray er) :: rows) ++ (ρ ++ (δ ++ ι))), rfl, F6, fun y hy => N6 y ?_, fun p hp q hq => ?_, rs ++ [l], (l, W.listOf vs.toArray er) :: rows, e0 + 1, rfl, by simp [hrl], fun k hk => ?_, fun y hy => ?_, fun x hx y hy => ?_, fun y hy => ?_⟩
      · simp only [List.mem_cons, List.mem_append, List.not_mem_nil, or_false] at hy ⊢
        rcases hy with h | h | (h | h) | h
        · exact .inr (.inr (.inl h))
        · exact .inr (.inr (.inr (.inl h)))
        · exact .inr (.inl h)
        · exact .inr (.inr (.inr (.inr (.inl h))))
        · exact .inr (.inr (.inr (.inr (.inr h))))
      · rw [List.mem_singleton.mp hq]
        rcases List.mem_cons.mp hp with rfl | hp
        · exact hIle
        · rcases List.mem_cons.mp hp with rfl | hp
          · exact hIl
          · exact hr3 _ (.tail _ hp)
      · by_cases hk' : k < rs.length
        · obtain ⟨r', vs', er', z1, z2, z3⟩ := hrows k hk'
          exact ⟨r', vs', er', by rw [List.getElem?_append_left hk']; exact z1, .tail _ z2, z3⟩
        · have : k = i := by simp at hk; omega
          subst this
          exact ⟨l, vs, er, by rw [List.getElem?_append_right (by omega), hrl, Nat.sub_self]; rfl, .head _, fun q hq => hvs q hq⟩
      · rcases List.mem_cons.mp hy with rfl | hy
        · exact Nat.ne_of_gt a2
        · exact hr1 y hy
      · rcases List.mem_cons.mp hx with rfl | hx
        · exact Nat.ne_of_gt (a3 y (List.mem_append_right _ (List.mem_append_right _ hy)))
        · exact hr2 x hx y hy
      · rcases List.mem_cons.mp hy with rfl | hy
        · exact hIle
        · rcases List.mem_cons.mp hy with rfl | hy
          · exact hIl
          · exact hr3 _ (.tail _ hy)
  · rintro m₁ nx h tk ⟨rs, rows, e0, rfl, hrl, hrows, hr1, hr2, hr3⟩ F1 N1
    have hrl' : rs.length = exs.length := by rw [hrl]; simp [M.lp]
    dsimp only
    refine law_fin (ρ := (le, W.listOf (rs.map Value.ref).toArray e0) :: (rows ++ ρ)) (δ := δ) (ι := ι) B F1 X Tp (by rw [List.cons_append, List.append_assoc]; exact N1) (fun x hx y hy => ?_) Si (.tail _ (List.mem_append_right _ m1)) (.tail _ (List.mem_append_right _ m2)) (.tail _ (List.mem_append_right _ m3)) (.tail _ (List.mem_append_right _ m4)) d1 d2 d3 d4 M ok h2 h7 hT hTl ⟨⟨xs, em, .tail _ (List.mem_append_left _ (List.mem_append_right _ hlm)), M.lx, fun k hk => ?_⟩, ⟨pts, ep, .tail _ (List.mem_append_left _ (List.mem_append_right _ hlp)), fun k e he => ?_⟩, ⟨rs, e0, .head _, by omega, fun k hk => ?_⟩⟩ hE fun h' tk' m' F' => ret h' tk' m' F'
    · rcases List.mem_cons.mp hx with rfl | hx
      · exact S _ (.head _) y hy
      · rcases List.mem_append.mp hx with hx | hx
        · exact hr2 x hx y hy
        · exact S x (.tail _ hx) y hy
    · have hk' : k < xs.length := by rw [M.lx]; exact hk
      have e : xs[k]? = some xs[k] := List.getElem?_eq_getElem hk'
      rw [List.getElem?_map, e]
      show some (Value.ref xs[k]) = some (Value.ref (xs.getD k (0 : Nat)))
      rw [getD_of e]
    · obtain ⟨_, x9, dx9, pt9, g1, g2, g3, g4, g5, g6⟩ := M.ex k e he
      exact ⟨pt9, by rw [List.getElem?_map, g3]; rfl, g5.mono fun y hy => .tail _ (List.mem_append_right _ hy)⟩
    · obtain ⟨r', vs', er', z1, z2, z3⟩ := hrows k (by rw [hrl']; exact hk)
      exact ⟨r', vs', er', z1, .tail _ (List.mem_append_left _ (List.mem_append_left _ z2)), z3⟩
end

section
local macro_rules | `(tactic| ktr_unf) => `(tactic| (repeat (first | (k_unfold; (try dsimp only)) | (k_end; wrow_close) | ((fail_if_success (with_reducible show wpAny _ _ (call (Value.ref 509) _) _ _ _)); walk1) | (dsimp only; (fail_if_success (with_reducible show wpAny _ _ (call (Value.ref 509) _) _ _ _)); walk1) | fail "no step")))
local macro_rules | `(tactic| kxt_pos) => `(tactic| (repeat (first | (k_unfold; (try dsimp only)) | ((fail_if_success (with_reducible show wpAny _ _ (storeName _ _ (Value.ref _)) _ _ _)); walk1) | (dsimp only; (fail_if_success (with_reducible show wpAny _ _ (storeName _ _ (Value.ref _)) _ _ _)); walk1) | fail "no step")))
theorem law_rest {w : World} {p : Program} {loose : List PySem.Str} {mean : ExcName → Option Value} {mg mb : PySem.Str → Option Value} {fa sl L : Addr} {cdv : Value} {hb : Heap} {s : Shared} {Q : Flow → Shared → Prop} {E : Value → Shared → Prop} {vs : List Value} {ns : List Int} {o1 o2 o3 o4 : Obj} {T : PySem.Str} {T0 : List Nat} {tt : Tok}
   (B : Below callerA hb [] hb) (F : Fr hb L s.heap (fun y => if y = PySem.Str.ofString "script" then some (.ref sl) else none)) (X : (hd3.heap_39 w.params).In hb) (Tp : Top p loose mean mg mb hb)
   (N : News hb L s.heap [(L + 1 + 1 + 1 + 1, o4), (L + 1 + 1 + 1, o3), (L + 1 + 1, o2), (L + 1, o1)]) (d1 : o1.data = .cell (some (.str T tt))) (d2 : o2.data = .cell none) (d3 : o3.data = .cell none) (d4 : o4.data = .cell none)
   (hT : T.cps.toList = T0 ++ [99]) (hTl : T.length ≤ 6) (hsl : hb.IsList sl vs.toArray) (hI : IntsAre vs ns) (hn : ns.length ≤ 63)
   (hE : PassesOwn (model (PySem.Challenge.rw_vy0013_03).row.prog w) (callerA.deeper (lawEnv w.params L fa cdv)) (lawEnv w.params L fa cdv) E)
   (ret : ∀ h' tk' m', Fr hb L h' m' → Q (.ret (.bool true)) { s with heap := h', toks := tk' }) :
   wpAny (model (PySem.Challenge.rw_vy0013_03).row.prog w) (callerA.deeper (lawEnv w.params L fa cdv)) (execs ((lawBS w.params).1.drop 1) (lawEnv w.params L fa cdv)) Q E s := by
  with_unfolding_all show wpAny _ (callerA.deeper (envOfC _ ⟨_, _, _, _, _⟩ _ _ _)) (execs (_ :: _ :: _ :: _ :: []) (envOfC _ ⟨_, _, _, _, _⟩ _ _ _)) Q E s
  ktr_unf
  (with_reducible rename IntsAre _ (List.take _ (List.drop _ _)) => I9)
  (obtain ⟨sc9, e9, hsc9⟩ := ints_sc I9)
  simp only [e9] at *
  refine' l_made ?B ?F ?X ?T ?hk ?N ?sl ?len ?hd ?hu ?_
  case N => k_asm
  case F => k_asm
  case B => k_asm
  case X => k_asm
  case T => k_asm
  case sl => tb_rel
  case len => (simp only [List.length_take, List.length_drop] at hsc9; omega)
  case hk => exact rfl
  case hd => k_room
  case hu => k_units
  intro exs9 xs9 ds9 pts9 de9 io9 em9 ep9 lm9 lp9 ta9 h' tk' F' N' S9 Si9 M9 ok9 len9 len9' l1 l2 l3
  simp only [List.cons_append, List.nil_append] at N'
  k_sweep
  rename_i D9 ws9 h8 c1 c2 c3 c4 c5 c6
  kxt_pos
  rename News _ _ _ _ => N1
  rename Fr _ _ _ _ => F1
  have hS2 : ∀ y ∈ de9 ++ io9, y.1 ≠ L + 1 + 1 := fun y hy e => S9 (L + 1 + 1, o2) (by tb_rel) y hy e.symm
  have hS3 : ∀ y ∈ de9 ++ io9, y.1 ≠ L + 1 + 1 + 1 := fun y hy e => S9 (L + 1 + 1 + 1, o3) (by tb_rel) y hy e.symm
  have hS4 : ∀ y ∈ de9 ++ io9, y.1 ≠ L + 1 + 1 + 1 + 1 := fun y hy e => S9 (L + 1 + 1 + 1 + 1, o4) (by tb_rel) y hy e.symm
  refine st_cell (c := L + 1 + 1) (o := o2) (v₀ := none) (rest := (L + 1 + 1 + 1 + 1, o4) :: (L + 1 + 1 + 1, o3) :: (L + 1, o1) :: (lm9, W.listOf (xs9.map Value.ref).toArray em9) :: (lp9, W.listOf (pts9.map Value.ref).toArray ep9) :: (de9 ++ io9)) F1 N1 (by tb_rel) rfl d2 ?_ ?_
  · refine List.forall_mem_cons.mpr ⟨⟨by tb_rel, .inl (lt_ne (show @LT.lt Nat _ _ _ by omega)).symm⟩, List.forall_mem_cons.mpr ⟨⟨by tb_rel, .inl (lt_ne (show @LT.lt Nat _ _ _ by omega)).symm⟩, List.forall_mem_cons.mpr ⟨⟨by tb_rel, .inl (lt_ne (show @LT.lt Nat _ _ _ by omega))⟩, List.forall_mem_cons.mpr ⟨⟨by tb_rel, .inr fun v h => nomatch h⟩, List.forall_mem_cons.mpr ⟨⟨by tb_rel, .inr fun v h => nomatch h⟩, fun p hp => ⟨by tb_rel, .inl (hS2 p hp)⟩⟩⟩⟩⟩⟩
  clear F1 N1
  intro h2 o2' F2 N2 e2
  kxt_pos
  refine st_cell (c := L + 1 + 1 + 1) (o := o3) (v₀ := none) (rest := (L + 1 + 1 + 1 + 1, o4) :: (L + 1, o1) :: (L + 1 + 1, o2') :: (lm9, W.listOf (xs9.map Value.ref).toArray em9) :: (lp9, W.listOf (pts9.map Value.ref).toArray ep9) :: (de9 ++ io9)) F2 N2 (by tb_rel) rfl d3 ?_ ?_
  · refine List.forall_mem_cons.mpr ⟨⟨by tb_rel, .inl (lt_ne (show @LT.lt Nat _ _ _ by omega)).symm⟩, List.forall_mem_cons.mpr ⟨⟨by tb_rel, .inl (lt_ne (show @LT.lt Nat _ _ _ by omega))⟩, List.forall_mem_cons.mpr ⟨⟨by tb_rel, .inl (lt_ne (show @LT.lt Nat _ _ _ by omega))⟩, List.forall_mem_cons.mpr ⟨⟨by tb_rel, .inr fun v h => nomatch h⟩, List.forall_mem_cons.mpr ⟨⟨by tb_rel, .inr fun v h => nomatch h⟩, fun p hp => ⟨by tb_rel, .inl (hS3 p hp)⟩⟩⟩⟩⟩⟩
  clear F2 N2
  intro h3 o3' F3 N3 e3
  kxt_pos
  rename News _ _ _ _ => N4
  rename Fr _ _ _ _ => F4
  rename_i le h5 b1 b2 b3 b4 b5 b6 b7
  have hle : ∀ y ∈ (L + 1, o1) :: (L + 1 + 1, o2') :: (L + 1 + 1 + 1, o3') :: (lm9, W.listOf (xs9.map Value.ref).toArray em9) :: (lp9, W.listOf (pts9.map Value.ref).toArray ep9) :: (de9 ++ io9), @LT.lt Nat _ y.1 le :=
    List.forall_mem_cons.mpr ⟨b3, List.forall_mem_cons.mpr ⟨b4, List.forall_mem_cons.mpr ⟨b1, List.forall_mem_cons.mpr ⟨b5, List.forall_mem_cons.mpr ⟨b6, b7⟩⟩⟩⟩⟩
  refine st_cell (c := L + 1 + 1 + 1 + 1) (o := o4) (v₀ := none) (rest := (le, W.listOf #[] 0) :: (L + 1, o1) :: (L + 1 + 1, o2') :: (L + 1 + 1 + 1, o3') :: (lm9, W.listOf (xs9.map Value.ref).toArray em9) :: (lp9, W.listOf (pts9.map Value.ref).toArray ep9) :: (de9 ++ io9)) F4 N4 (by tb_rel) rfl d4 ?_ ?_
  · refine List.forall_mem_cons.mpr ⟨⟨by tb_rel, .inl (lt_ne (show @LT.lt Nat _ _ _ from b2)).symm⟩, List.forall_mem_cons.mpr ⟨⟨by tb_rel, .inl (lt_ne (show @LT.lt Nat _ _ _ by omega))⟩, List.forall_mem_cons.mpr ⟨⟨by tb_rel, .inl (lt_ne (show @LT.lt Nat _ _ _ by omega))⟩, List.forall_mem_cons.mpr ⟨⟨by tb_rel, .inl (lt_ne (show @LT.lt Nat _ _ _ by omega))⟩, List.forall_mem_cons.mpr ⟨⟨by tb_rel, .inr fun v h => nomatch h⟩, List.forall_mem_cons.mpr ⟨⟨by tb_rel, .inr fun v h => nomatch h⟩, fun p hp => ⟨by tb_rel, .inl (hS4 p hp)⟩⟩⟩⟩⟩⟩⟩
  clear F4 N4
  intro h6 o4' F6 N6 e6
  refine law_loop (ρ := (L + 1 + 1 + 1 + 1, o4') :: (L + 1, o1) :: (L + 1 + 1, o2') :: (L + 1 + 1 + 1, o3') :: (lm9, W.listOf (xs9.map Value.ref).toArray em9) :: (lp9, W.listOf (pts9.map Value.ref).toArray ep9) :: []) (δ := de9) (ι := io9) B F6 X Tp ?_ ?_ ?_ Si9 (by tb_rel) (by tb_rel) (by tb_rel) (by tb_rel) d1 e2 e3 e6 (by tb_rel) (by tb_rel) M9 ok9 len9 len9' hT hTl hE fun h' tk' m' F' => ret h' tk' m' F'
  · exact fun y hy => N6 y (by
      simp only [List.mem_cons, List.mem_append, List.not_mem_nil, or_false] at hy ⊢
      rcases hy with h | (h | h | h | h | h | h) | h
      · exact .inr (.inl h)
      · exact .inl h
      · exact .inr (.inr (.inl h))
      · exact .inr (.inr (.inr (.inl h)))
      · exact .inr (.inr (.inr (.inr (.inl h))))
      · exact .inr (.inr (.inr (.inr (.inr (.inl h)))))
      · exact .inr (.inr (.inr (.inr (.inr (.inr (.inl h))))))
      · exact .inr (.inr (.inr (.inr (.inr (.inr (.inr h)))))))
  · intro x hx y hy
    rcases List.mem_cons.mp hx with rfl | hx
    · exact Nat.ne_of_gt (b7 y hy)
    · obtain ⟨z, hz, e⟩ : ∃ z ∈ [(lm9, W.listOf (xs9.map Value.ref).toArray em9), (lp9, W.listOf (pts9.map Value.ref).toArray ep9), (D9, W.listOf (sc9.map fun x => Value.int x.1 x.2).toArray 0), (L + 1 + 1 + 1 + 1, o4), (L + 1 + 1 + 1, o3), (L + 1 + 1, o2), (L + 1, o1)], z.1 = x.1 := by
        simp only [List.mem_cons, List.not_mem_nil, or_false] at hx
        rcases hx with rfl | rfl | rfl | rfl | rfl | rfl
        · exact ⟨(L + 1 + 1 + 1 + 1, o4), by tb_rel, rfl⟩
        · exact ⟨(L + 1, o1), by tb_rel, rfl⟩
        · exact ⟨(L + 1 + 1, o2), by tb_rel, rfl⟩
        · exact ⟨(L + 1 + 1 + 1, o3), by tb_rel, rfl⟩
        · exact ⟨_, by tb_rel, rfl⟩
        · exact ⟨_, .tail _ (.head _), rfl⟩
      rw [← e]; exact S9 z hz y hy
  · refine List.forall_mem_cons.mpr ⟨Nat.ne_of_lt b2, fun y hy => Nat.ne_of_lt (hle y ?_)⟩
    simp only [List.mem_cons, List.mem_append, List.not_mem_nil, or_false] at hy ⊢
    rcases hy with h | h | h | h | h
    · exact .inl h
    · exact .inr (.inl h)
    · exact .inr (.inr (.inl h))
    · exact .inr (.inr (.inr (.inl h)))
    · exact .inr (.inr (.inr (.inr (.inl h))))
end

section
local macro_rules | `(tactic| krn_off) => `(tactic| (repeat (first | (k_unfold; (try dsimp only)) | ((fail_if_success (with_reducible show wpAny _ _ (execs (_ :: _ :: _ :: _ :: []) _) _ _ _)); walk1) | (dsimp only; (fail_if_success (with_reducible show wpAny _ _ (execs (_ :: _ :: _ :: _ :: []) _) _ _ _)); walk1) | fail "no step")))
theorem law3 : PySem.Challenge.rw_vy0013_03.Holds := by
  refine hd3 (by 
   k_fill
   intro w s₀ s₁ mg mb G Y fa o pm cd doc dV kV ho hd hcd hD hmg hg args vals as hpre hlay hrd hwl hlo
   have KX := km_in_of Y
   lge_behind G ho hd hcd hD hmg hpre hlay hrd hwl hlo cd
   (with_reducible rename Based _ _ _ _ _ => B0); (with_reducible rename Top _ _ _ _ _ _ => T0); (have B7 := B0); (have T7 := T0)
   (all_goals try k_fold); lge_steps; ((with_reducible rename GenOnD _ _ _ _ _ _ _ _ _ => X9); (with_reducible rename Fr _ _ _ _ => F9); (with_reducible rename Based _ _ _ _ _ => B9); (with_reducible rename News _ _ _ _ => N9); (with_reducible rename IntsAre _ (List.take _ _) => I9))
   refine' join_ab F9 ?gG X9 ?gK ?gJ ?_
   case gG => assumption
   case gK => first | assumption | exact Nat.le_refl _
   case gJ => exact fun _ => len_item _ _
   intro J9 t9 s9 hJ9 F8 G8 ho8 k8
   have N8 := News.kept N9 (by assumption) k8
   obtain ⟨T8, X8, K8⟩ := re_pack B0 view_imp T0 KX (classed _) F8
   (with_reducible rename LGe.Mark => M9); clear M9
   krn_off
   rename Fr _ _ _ _ => F10
   rename News _ _ _ _ => N10
   refine' law_rest (p := p0) (T0 := J9.cps.toList) (T := J9 ++ PySem.Str.ofString "c") K8 F10 X8 T8 ?N ?d1 ?d2 ?d3 ?d4 (str_ends J9) ?hl ?sl ?hI ?hn ?hE ?ret
   case N => exact fun y hy => N10 y (.tail _ hy)
   case d1 => assumption
   case d2 => assumption
   case d3 => assumption
   case d4 => assumption
   case hl => (rw [PySem.Str.length_append]; have : (PySem.Str.ofString "c").length = 1 := by decide); omega
   case sl => assumption
   case hI => assumption
   case hn => omega
   case hE => passes_own
   case ret =>
     intro h' tk' m' F'
     wrow_closeG)
end

end Mine
theorem PySem.Challenge.cw_vy0013_03_holds : PySem.Challenge.rw_vy0013_03.Holds := by
  exact Mine.law3
